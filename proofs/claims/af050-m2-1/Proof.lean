import JvmDerived
import JvmDerived.Pilot.@@N@@Statement
import JvmDerived.Pilot.@@N@@Code
set_option linter.unusedVariables false
set_option linter.unusedSimpArgs false
namespace Jvm.RoadKit
open Sem ClassFile Op Lib Jvm.Stand Jvm.Free Jvm.LawKit
section New
variable {p : Program} {l : Launch} {e : Env} {R : Room} {s : State} {m : MethodId} {args : Array Value} {below : List Frame} {meth : Method} {c : Code} {T : State} {locs : List Loc} {cells slots : Nat}
theorem retI (X : Stand p l e R s m args below meth c T locs cells slots) (hx : p.tables.exec = Jvm.exec) {pc : Nat} {Ls : Array Slot} {z : Int32} {rest : List Value} (hret : meth.sig.returnType = some .int) (hd : decode c.code pc = .ok (.ireturn, 1)) {fs : List Frame}
    (hl : ∀ (f : JFrame) (acts : List Action), f.method = m → f.locked = none → f.entered = [] → (doReturn e (T.setTop f) acts (some (.int z))).1 = T.setFrames fs) : Steps p.tables e below (T.setTop (mkF m pc Ls (.int z :: rest))) (T.setFrames fs) := by
  have hm' : T.vm.method? m = some meth := X.method'
  have hn : narrow .int (.int z) = .int z := rfl
  show Steps p.tables e below (T.setTop { method := m, pc := pc, locals := Ls, stack := _ :: rest, locked := none }) _
  jvm_step X.here [X.here.top, hx, hd, hm', hret, hn]
  first | (intro acts; rw [hl _ acts rfl rfl rfl]) | rw [hl _ _ rfl rfl rfl]
  exact Steps.refl _
end New
end Jvm.RoadKit
namespace Jvm.Pilot.@@N@@
open Jvm Jvm.ClassFile Sem Op Lib Jvm.Free Jvm.Stand Jvm.LawKit Jvm.RoadKit Bundle Jvm.Pilot.@@N@@.Jvm.D
/-! ## The walk in continuation-passing form: what is left to run returns, and Q says of what it returns, of the heap and of the places written -/
def Ogo (p : Program) (e : Env) (below : List Frame) (P : Outcome → State → Prop) (A : State) : Prop :=
  ∃ s₂ o, Steps p.tables e below A s₂ ∧ s₂.status = .running ∧ Ended s₂ below o ∧ P o s₂
/-- it returned v, Q says of v, of the heap and of the places written; nothing else was done since s -/
def Onar (s : State) (R : Room) (Q : Option Value → Heap → List Loc → Prop) (o : Outcome) (t : State) : Prop := ∃ v L, o = .returned v ∧ Q v t.heap L ∧ FrameEnd s o t L R.cells R.slots
abbrev Opays (l : Launch) (y : MethodName) (bytes : ByteArray) (maxL : Nat) (rt : Option FieldType) (rm : Room) (ws : List Jvm.Cond) (Z : State) (h0 : Heap) (as : Array Value) (Q : Option Value → Heap → List Loc → Prop) : Prop :=
  MetFree l y (head1 (Jvm.Cond.code y bytes maxL rt :: ws) rm) (fun a U => a = as ∧ Z.Warmed39 U.vm ∧ U.heap = h0) (fun _ _ _ _ _ => True) (fun _ U o U' => ∃ v L, o = .returned v ∧ Q v U'.heap L ∧ FrameEnd U o U' L rm.cells rm.slots)
section Own
variable {p : Program} {l : Launch} {e : Env} {R : Room} {s : State} {m : MethodId} {args : Array Value} {below : List Frame} {meth : Method} {c : Code} {T : State} {locs : List Loc} {cells slots : Nat} {Z : State} {a0 : Array Value} {h : Heap} {Q : Option Value → Heap → List Loc → Prop} {A B : State} {P : Outcome → State → Prop}
theorem own_via (st : ∀ t, Steps p.tables e below B t → Steps p.tables e below A t) (k : Ogo p e below P B) : Ogo p e below P A := by
  obtain ⟨s₂, o, h1, h2⟩ := k
  exact ⟨s₂, o, st _ h1, h2⟩
theorem own_enter {y : MethodName} {bytes : ByteArray} {maxL : Nat} {rt : Option FieldType} {rm : Room} {ws : List Jvm.Cond} {h0 : Heap} {as : Array Value} (hp : plainFor y = true)
    (body : ∀ p e s m below meth c s₁, p.tables.exec = Jvm.exec → c.code = bytes → c.maxLocals = maxL → s.vm.findClass y.cls = some m.cls → meth.name = y.name → meth.sig.returnType = rt → meth.locks = false → Z.Warmed39 s.vm → s₁.heap = h0 →
      Stand p l e rm s m as below meth c s₁ [] 0 0 → Ogo p e below (Onar s rm Q) (s₁.setTop (entryFrame m as maxL))) : Opays l y bytes maxL rt rm ws Z h0 as Q := by
  refine MetFree.of_bodySF hp hisR ?_
  intro p e s m args below meth c s₁ Bd hml0 hP hK
  obtain ⟨rfl, hZ, hh⟩ := hP
  have X0 : Stand p l e rm s m args below meth c s₁ [] 0 0 := Stand.of_body Bd
  have e0 : s₁.heap = h0 := by rw [← hh, Bd.state]; rfl
  exact body p e s m below meth c s₁ Bd.exec Bd.bytes hml0 (findClass_of_methodNamed Bd.named) (name_of_methodNamed Bd.named Bd.method).1 Bd.returns Bd.notSynchronized hZ e0 X0
theorem own_out (X : Stand p l e R s m args below meth c T locs cells slots) (hlk : meth.locks = false) {v : Option Value} (hv : meth.sig.returnType = none → v = none) (hc : cells ≤ R.cells) (hs : slots ≤ R.slots) (hQ : Q v T.heap locs)
    (k : ∀ fs, (∀ (f : JFrame) (acts : List Action), f.method = m → f.locked = none → f.entered = [] → (doReturn e (T.setTop f) acts v).1 = T.setFrames fs) → Steps p.tables e below A (T.setFrames fs)) : Ogo p e below (Onar s R Q) A := by
  obtain ⟨fs, hr, hrun, hended, hW, hsame⟩ := X.leave (v := v) hv hlk
  exact ⟨_, _, k fs hr, hrun, hended, _, _, rfl, hQ, ⟨_, rfl⟩, hW, hsame.mono hc hs⟩
theorem own_retL (X : Stand p l e R s m args below meth c T locs cells slots) (hx : p.tables.exec = Jvm.exec) {pc : Nat} {Ls : Array Slot} {z : Int64} {rest : List Value} (hret : meth.sig.returnType = some .long) (hd : decode c.code pc = .ok (.lreturn, 1)) {fs : List Frame}
    (hl : ∀ (f : JFrame) (acts : List Action), f.method = m → f.locked = none → f.entered = [] → (doReturn e (T.setTop f) acts (some (.long z))).1 = T.setFrames fs) : Steps p.tables e below (T.setTop (mkF m pc Ls (.long z :: rest))) (T.setFrames fs) :=
  retOut X hx hret rfl (Or.inr (Or.inl ⟨rfl, rfl, _, rfl⟩)) hd hl
theorem own_retD (X : Stand p l e R s m args below meth c T locs cells slots) (hx : p.tables.exec = Jvm.exec) {pc : Nat} {Ls : Array Slot} {z : UInt64} {rest : List Value} (hret : meth.sig.returnType = some .double) (hd : decode c.code pc = .ok (.dreturn, 1)) {fs : List Frame}
    (hl : ∀ (f : JFrame) (acts : List Action), f.method = m → f.locked = none → f.entered = [] → (doReturn e (T.setTop f) acts (some (.double z))).1 = T.setFrames fs) : Steps p.tables e below (T.setTop (mkF m pc Ls (.double z :: rest))) (T.setFrames fs) :=
  retOut X hx hret rfl (Or.inr (Or.inr (Or.inl ⟨rfl, rfl, _, rfl⟩))) hd hl
theorem own_retA (X : Stand p l e R s m args below meth c T locs cells slots) (hx : p.tables.exec = Jvm.exec) {pc : Nat} {Ls : Array Slot} {w : Value} {t : FieldType} {rest : List Value} (hret : meth.sig.returnType = some t) (ht : t.isReference = true) (hv : w.isRef = true) (hd : decode c.code pc = .ok (.areturn, 1)) {fs : List Frame}
    (hl : ∀ (f : JFrame) (acts : List Action), f.method = m → f.locked = none → f.entered = [] → (doReturn e (T.setTop f) acts (some w)).1 = T.setFrames fs) : Steps p.tables e below (T.setTop (mkF m pc Ls (w :: rest))) (T.setFrames fs) :=
  retOut X hx hret (by cases t <;> first | rfl | cases ht) (Or.inr (Or.inr (Or.inr (Or.inr ⟨rfl, ht, hv⟩)))) hd hl
theorem own_lrem {g : JFrame} {target : State} (X : Stand p l e R s m args below meth c T locs cells slots) (hx : p.tables.exec = Jvm.exec) (hg : g.method = m) {x y : Int64} {rest : List Value} (hd : decode c.code g.pc = .ok (.lrem, 1)) (hs : g.stack = .long y :: .long x :: rest) (hy : y ≠ 0)
    (hr : Steps p.tables e below (T.setTop { g with pc := g.pc + 1, stack := .long (x % y) :: rest }) target) : Steps p.tables e below (T.setTop g) target :=
  XS.lrem X.here hx hg hd hs hy (by rw [lrem_mod]; exact hr)
/-! calls: the callee's contract pays -/
theorem own_callS (X : Stand p l e R s m args below meth c T locs cells slots) (hx : p.tables.exec = Jvm.exec) (hZ : Z.Warmed39 s.vm) {own : String} {index : Nat} {y : MethodName} {bytes : ByteArray} {maxL : Nat} {rt : Option FieldType}
    (hown : s.vm.findClass own = some m.cls) (wl : (Jvm.Cond.methodLink own index y).before a0 Z = true) (wst : (Jvm.Cond.static y).before a0 Z = true) (wi : (Jvm.Cond.initialized y.cls).before a0 Z = true) (wc : (Jvm.Cond.code y bytes maxL rt).before a0 Z = true)
    (hy : y.cls ≠ "java/lang/invoke/MethodHandle" ∧ y.cls ≠ "java/lang/invoke/VarHandle") {rm : Room} {as : Array Value} {Qc : Option Value → Heap → List Loc → Prop} (hM : Opays l y bytes maxL rt rm [] Z h as Qc) {argsL rest : List Value} (ha : argsL.toArray = as) (eT : T.heap = h) {W : Nat} (hf : rm.frames + 1 ≤ R.frames) (hl : W + (maxL + 11) + rm.locals ≤ R.locals) (hc : cells + rm.cells ≤ R.cells) (hs : slots + rm.slots ≤ R.slots)
    {pc : Nat} {Ls : Array Slot} {st : List Value} (hsize : Ls.size = c.maxLocals) (hlen : ∀ sig, parseMethodDescriptor y.desc = some sig → argsL.length = sig.parameters.length) (hst : st = argsL.reverse ++ rest) (hW : (rest.map fun v => v.category).sum ≤ W) (hd : decode c.code pc = .ok (.invokestatic index, 3))
    (k : ∀ v T' L, Stand p l e R s m args below meth c T' (locs ++ L) (cells + rm.cells) (slots + rm.slots) → Qc v T'.heap L → Ogo p e below P (T'.setTop (mkF m (pc + 3) Ls (v.toList ++ rest)))) : Ogo p e below P (T.setTop (mkF m pc Ls st)) := by
  obtain ⟨v, _, ⟨T', L', k', n'⟩, -, X', ⟨Lc, hQ, l1, y1, z1⟩, step⟩ := Jvm.LawKit.callS X hx (y := y) hown (mvT hZ wl) (mvT hZ wst) (mvT hZ wi) (mvT hZ wc) hy (backOf (W := W) hM hZ wc wi hf hl) (g := mkF m pc Ls st) rfl hsize (argsL := argsL) (rest := rest) hlen hst (by show 2 * 0 + _ ≤ _; omega) hd (fun _ _ => ⟨ha, eT, hc, hs⟩)
  dsimp only [Pt.U, Pt.locs, Pt.cells, Pt.slots] at X' l1 y1 z1 step hQ
  subst l1 y1 z1
  exact own_via step (k v T' Lc X' hQ)
theorem own_callI (X : Stand p l e R s m args below meth c T locs cells slots) (hx : p.tables.exec = Jvm.exec) (hZ : Z.Warmed39 s.vm) {own : String} {index : Nat} {y : MethodName} {bytes : ByteArray} {maxL : Nat} (hy1 : y.name = "<init>")
    (hown : s.vm.findClass own = some m.cls) (wl : (Jvm.Cond.methodLink own index y).before a0 Z = true) (wst : (Jvm.Cond.instanceMethod y).before a0 Z = true) (wi : (Jvm.Cond.initialized y.cls).before a0 Z = true) (wc : (Jvm.Cond.code y bytes maxL none).before a0 Z = true)
    (hy : y.cls ≠ "java/lang/invoke/MethodHandle" ∧ y.cls ≠ "java/lang/invoke/VarHandle") {rm : Room} {as : Array Value} {Qc : Option Value → Heap → List Loc → Prop} (hM : Opays l y bytes maxL none rm [] Z h as Qc) {a : Addr} {argsL rest : List Value} (ha : (.ref a :: argsL).toArray = as) (eT : T.heap = h) {W : Nat} (hf : rm.frames + 1 ≤ R.frames) (hl : W + (maxL + 11) + rm.locals ≤ R.locals) (hc : cells + rm.cells ≤ R.cells) (hs : slots + rm.slots ≤ R.slots)
    {pc : Nat} {Ls : Array Slot} {st : List Value} (hsize : Ls.size = c.maxLocals) (hlen : ∀ sig, parseMethodDescriptor y.desc = some sig → argsL.length = sig.parameters.length) (hst : st = argsL.reverse ++ .ref a :: rest) (hW : (rest.map fun v => v.category).sum ≤ W) (hd : decode c.code pc = .ok (.invokespecial index, 3))
    (k : ∀ v T' L, Stand p l e R s m args below meth c T' (locs ++ L) (cells + rm.cells) (slots + rm.slots) → Qc v T'.heap L → Ogo p e below P (T'.setTop (mkF m (pc + 3) Ls (v.toList ++ rest)))) : Ogo p e below P (T.setTop (mkF m pc Ls st)) := by
  obtain ⟨v, _, ⟨T', L', k', n'⟩, -, X', ⟨Lc, hQ, l1, y1, z1⟩, step⟩ := X.specialBack hx (y := y) hy1 hown (mvT hZ wl) (mvT hZ wst) (mvT hZ wc) hy (backOf (W := W) hM hZ wc wi hf hl) (g := mkF m pc Ls st) rfl hsize (Steps.refl _) (a := a) (argsL := argsL) (rest := rest) hlen hst (by show 2 * 0 + _ ≤ _; omega) hd (fun _ _ => ⟨ha, eT, hc, hs⟩)
  dsimp only [Pt.U, Pt.locs, Pt.cells, Pt.slots] at X' l1 y1 z1 step hQ
  subst l1 y1 z1
  exact own_via (fun _ q => step.trans q) (k v T' Lc X' hQ)
theorem own_callV (X : Stand p l e R s m args below meth c T locs cells slots) (hx : p.tables.exec = Jvm.exec) (hZ : Z.Warmed39 s.vm) {own C : String} {index : Nat} {y z : MethodName} {bytes : ByteArray} {maxL : Nat} {rt : Option FieldType}
    (hown : s.vm.findClass own = some m.cls) (wl : (Jvm.Cond.methodLink own index y).before a0 Z = true) (wd : (Jvm.Cond.declares y).before a0 Z = true) (ws : (Jvm.Cond.selects C y z).before a0 Z = true) (wst : (Jvm.Cond.instanceMethod z).before a0 Z = true) (wi : (Jvm.Cond.initialized z.cls).before a0 Z = true) (wc : (Jvm.Cond.code z bytes maxL rt).before a0 Z = true) (hyz : NotFace s y)
    (hy : y.cls ≠ "java/lang/invoke/MethodHandle" ∧ y.cls ≠ "java/lang/invoke/VarHandle") {rm : Room} {as : Array Value} {Qc : Option Value → Heap → List Loc → Prop} (hM : Opays l z bytes maxL rt rm [] Z h as Qc) {b : Addr} {argsL rest : List Value} (ha : (.ref b :: argsL).toArray = as) (eT : T.heap = h) (F : Exa Z h b C) {W : Nat} (hf : rm.frames + 1 ≤ R.frames) (hl : W + (maxL + 11) + rm.locals ≤ R.locals) (hc : cells + rm.cells ≤ R.cells) (hs : slots + rm.slots ≤ R.slots)
    {pc : Nat} {Ls : Array Slot} {st : List Value} (hsize : Ls.size = c.maxLocals) (hlen : ∀ sig, parseMethodDescriptor y.desc = some sig → argsL.length = sig.parameters.length) (hst : st = argsL.reverse ++ .ref b :: rest) (hW : (rest.map fun v => v.category).sum ≤ W) (hd : decode c.code pc = .ok (.invokevirtual index, 3))
    (k : ∀ v T' L, Stand p l e R s m args below meth c T' (locs ++ L) (cells + rm.cells) (slots + rm.slots) → Qc v T'.heap L → Ogo p e below P (T'.setTop (mkF m (pc + 3) Ls (v.toList ++ rest)))) : Ogo p e below P (T.setTop (mkF m pc Ls st)) := by
  obtain ⟨cq, kq, qa, qb, qc⟩ := isOf hZ eT F
  obtain ⟨v, _, ⟨T', L', k', n'⟩, -, X', ⟨Lc, hQ, l1, y1, z1⟩, step⟩ := X.virtualBack hx (y := y) (z := z) hown (mvT hZ wl) (mvT hZ wd) hyz (mvT hZ ws) (mvT hZ wst) hy (backOf (W := W) hM hZ wc wi hf hl) qa qc (g := mkF m pc Ls st) rfl hsize (Steps.refl _) (argsL := argsL) (rest := rest) hlen hst (by show 2 * 0 + _ ≤ _; omega) hd (fun _ _ => ⟨ha, eT, hc, hs⟩)
  dsimp only [Pt.U, Pt.locs, Pt.cells, Pt.slots] at X' l1 y1 z1 step hQ
  subst l1 y1 z1
  exact own_via (fun _ q => step.trans q) (k v T' Lc X' hQ)
/-- a private method of a class that is no interface -/
theorem own_callP (X : Stand p l e R s m args below meth c T locs cells slots) (hx : p.tables.exec = Jvm.exec) (hZ : Z.Warmed39 s.vm) {own C : String} {index kk : Nat} {y : MethodName} {bytes : ByteArray} {maxL : Nat} {rt : Option FieldType}
    (hown : s.vm.findClass own = some m.cls) (wl : (Jvm.Cond.methodLink own index y).before a0 Z = true) (wst : (Jvm.Cond.instanceMethod y).before a0 Z = true) (wp : (Jvm.Cond.privateMethod y).before a0 Z = true) (wi : (Jvm.Cond.initialized y.cls).before a0 Z = true) (wn : (Jvm.Cond.instantiable y.cls kk).before a0 Z = true) (wc : (Jvm.Cond.code y bytes maxL rt).before a0 Z = true)
    (hy : y.cls ≠ "java/lang/invoke/MethodHandle" ∧ y.cls ≠ "java/lang/invoke/VarHandle") {rm : Room} {as : Array Value} {Qc : Option Value → Heap → List Loc → Prop} (hM : Opays l y bytes maxL rt rm [] Z h as Qc) {b : Addr} {argsL rest : List Value} (ha : (.ref b :: argsL).toArray = as) (eT : T.heap = h) (F : Exa Z h b C) {W : Nat} (hf : rm.frames + 1 ≤ R.frames) (hl : W + (maxL + 11) + rm.locals ≤ R.locals) (hc : cells + rm.cells ≤ R.cells) (hs : slots + rm.slots ≤ R.slots)
    {pc : Nat} {Ls : Array Slot} {st : List Value} (hsize : Ls.size = c.maxLocals) (hlen : ∀ sig, parseMethodDescriptor y.desc = some sig → argsL.length = sig.parameters.length) (hst : st = argsL.reverse ++ .ref b :: rest) (hW : (rest.map fun v => v.category).sum ≤ W) (hd : decode c.code pc = .ok (.invokevirtual index, 3))
    (k : ∀ v T' L, Stand p l e R s m args below meth c T' (locs ++ L) (cells + rm.cells) (slots + rm.slots) → Qc v T'.heap L → Ogo p e below P (T'.setTop (mkF m (pc + 3) Ls (v.toList ++ rest)))) : Ogo p e below P (T.setTop (mkF m pc Ls st)) := by
  obtain ⟨cq, q1, q2⟩ := F.cell
  have hpriv : s.PrivateAt y := Cond.privateMethod_at (mvP hZ wp (args := #[]))
  obtain ⟨c2, k2, i1, i2, i3, i4, -⟩ := Cond.instantiable_spec (mv (s := s) (args := args) hZ wn)
  have hni : k2.isInterface = false := (Bool.or_eq_false_iff.mp i4).1
  obtain ⟨v, _, ⟨T', L', k', n'⟩, -, X', ⟨Lc, hQ, l1, y1, z1⟩, step⟩ := X.privateBack hx (y := y) hown (mvT hZ wl) (mvT hZ wst) (selects_self_of_private i1 i2 hni hpriv (mvT hZ wst) hy) hpriv (mvT hZ wc) hy (backOf (W := W) hM hZ wc wi hf hl) (g := mkF m pc Ls st) rfl hsize (Steps.refl _) (a := b) (by rw [eT]; exact q1) q2 (argsL := argsL) (rest := rest) hlen hst (by show 2 * 0 + _ ≤ _; omega) hd (fun _ _ => ⟨ha, eT, hc, hs⟩)
  dsimp only [Pt.U, Pt.locs, Pt.cells, Pt.slots] at X' l1 y1 z1 step hQ
  subst l1 y1 z1
  exact own_via (fun _ q => step.trans q) (k v T' Lc X' hQ)
/-- a method of an interface -/
theorem own_callF (X : Stand p l e R s m args below meth c T locs cells slots) (hx : p.tables.exec = Jvm.exec) (hZ : Z.Warmed39 s.vm) {own C : String} {index count : Nat} {y z : MethodName} {bytes : ByteArray} {maxL : Nat} {rt : Option FieldType}
    (hown : s.vm.findClass own = some m.cls) (wl : (Jvm.Cond.methodLink own index y).before a0 Z = true) (wd : (Jvm.Cond.declares y).before a0 Z = true) (wf : (Jvm.Cond.interfaceMethod y.cls y.cls y.name y.desc).before args s = true) (ws : (Jvm.Cond.selects C y z).before a0 Z = true) (wst : (Jvm.Cond.instanceMethod z).before a0 Z = true) (wp : (Jvm.Cond.publicMethod z).before a0 Z = true) (wu : (Jvm.Cond.unhidden C y.name y.desc).before a0 Z = true) (wk : (Jvm.Cond.castable C y.cls).before a0 Z = true) (wi : (Jvm.Cond.initialized z.cls).before a0 Z = true) (wc : (Jvm.Cond.code z bytes maxL rt).before a0 Z = true)
    (hy : y.cls ≠ "java/lang/invoke/MethodHandle" ∧ y.cls ≠ "java/lang/invoke/VarHandle") {rm : Room} {as : Array Value} {Qc : Option Value → Heap → List Loc → Prop} (hM : Opays l z bytes maxL rt rm [] Z h as Qc) {b : Addr} {argsL rest : List Value} (ha : (.ref b :: argsL).toArray = as) (eT : T.heap = h) (F : Exa Z h b C) {W : Nat} (hf : rm.frames + 1 ≤ R.frames) (hl : W + (maxL + 11) + rm.locals ≤ R.locals) (hc : cells + rm.cells ≤ R.cells) (hs : slots + rm.slots ≤ R.slots)
    {pc : Nat} {Ls : Array Slot} {st : List Value} (hsize : Ls.size = c.maxLocals) (hlen : ∀ sig, parseMethodDescriptor y.desc = some sig → argsL.length = sig.parameters.length) (hst : st = argsL.reverse ++ .ref b :: rest) (hW : (rest.map fun v => v.category).sum ≤ W) (hd : decode c.code pc = .ok (.invokeinterface index count, 5))
    (k : ∀ v T' L, Stand p l e R s m args below meth c T' (locs ++ L) (cells + rm.cells) (slots + rm.slots) → Qc v T'.heap L → Ogo p e below P (T'.setTop (mkF m (pc + 5) Ls (v.toList ++ rest)))) : Ogo p e below P (T.setTop (mkF m pc Ls st)) := by
  obtain ⟨cq, kq, qa, qb, qc⟩ := isOf hZ eT F
  obtain ⟨v, _, ⟨T', L', k', n'⟩, -, X', ⟨Lc, hQ, l1, y1, z1⟩, step⟩ := X.interfaceBack hx (xi := y) (y := z) hown (mvT hZ wl) (mvT hZ wd) wf (mvT hZ ws) (mvT hZ wst) (mvT hZ wp) (mvT hZ wu) (mvT hZ wk) hy (backOf (W := W) hM hZ wc wi hf hl) qa qb qc (g := mkF m pc Ls st) rfl hsize (Steps.refl _) (argsL := argsL) (rest := rest) hlen hst (by show 2 * 0 + _ ≤ _; omega) hd (fun _ _ => ⟨ha, eT, hc, hs⟩)
  dsimp only [Pt.U, Pt.locs, Pt.cells, Pt.slots] at X' l1 y1 z1 step hQ
  subst l1 y1 z1
  exact own_via (fun _ q => step.trans q) (k v T' Lc X' hQ)
end Own
/-! ## An array by its values: n places, place j holds f j -/
/-- the array at a has n places of kind ty; place j holds f j -/
def Oar (Z : State) (h : Heap) (a : Addr) (ty : FieldType) (n : Nat) (f : Nat → Value) : Prop := n < 2 ^ 31 ∧ ∃ cl : Cell, Arr Z h a cl ty ∧ cl.slots.size = n ∧ ∀ j, j < n → cl.slots[j]? = some (f j)
section Own2
variable {p : Program} {l : Launch} {e : Env} {R : Room} {s : State} {m : MethodId} {args : Array Value} {below : List Frame} {meth : Method} {c : Code} {T : State} {locs : List Loc} {cells slots : Nat} {Z : State} {a0 : Array Value} {h h' : Heap} {P : Outcome → State → Prop} {a b : Addr} {ty : FieldType} {n i sl : Nat} {f : Nat → Value} {v : Value} {ws : List Addr} {j z : Int32}
theorem Oar.lt (A : Oar Z h a ty n f) : a < h.size := by obtain ⟨_, cl, A, _⟩ := A; exact A.lt
theorem Oar.ext (A : Oar Z h a ty n f) (E : Ext h h') : Oar Z h' a ty n f := by obtain ⟨q, cl, A, r⟩ := A; exact ⟨q, cl, A.ext E, r⟩
theorem Oar.other (A : Oar Z h b ty n f) (W : Wr h h' a sl v) (q : b ≠ a) : Oar Z h' b ty n f := by obtain ⟨z, cl, A, r⟩ := A; exact ⟨z, cl, A.other W q, r⟩
theorem Oar.keep (A : Oar Z h a ty n f) (K : Keep h h' ws) (q : a ∉ ws) : Oar Z h' a ty n f := by obtain ⟨z, cl, A, r⟩ := A; exact ⟨z, cl, ⟨K.2.1 a cl A.1 q, A.2⟩, r⟩
theorem Oar.cast {f' : Nat → Value} (A : Oar Z h a ty n f) (q : ∀ j, j < n → f j = f' j) : Oar Z h a ty n f' := by obtain ⟨z, cl, A, S, r⟩ := A; exact ⟨z, cl, A, S, fun j hj => by rw [← q j hj]; exact r j hj⟩
theorem Oar.new {k : ClassId} (A : Arr Z h a (newA k ty z) ty) (hz : ¬ z < 0) (hn : z.toNatClampNeg = n) : Oar Z h a ty n (fun _ => defaultValue ty) := by
  subst hn
  refine ⟨(back32 hz).2, _, A, sz_new _ _ _, fun j hj => ?_⟩
  simp [newA, hj]
theorem Oar.set (A : Oar Z h a ty n f) (W : Wr h h' a i v) : Oar Z h' a ty n (fun j => if j = i then v else f j) := by
  obtain ⟨q, cl, A, S, H⟩ := A
  obtain ⟨cell, e1, -, e3, -⟩ := id W
  cases A.1.symm.trans e1
  refine ⟨q, _, A.same W, by rw [sz_set]; exact S, fun j hj => ?_⟩
  by_cases u : i = j
  · subst u; simp [Cell.setSlot, e3]
  · have u' : ¬ j = i := fun x => u x.symm
    simp only [if_neg u', Cell.setSlot]; rw [Array.getElem?_setIfInBounds_ne u]; exact H j hj
theorem own_cl (hj : j.toInt = (i : Int)) : ¬ j < 0 ∧ j.toNatClampNeg = i := by
  refine ⟨fun q => ?_, ?_⟩
  · rw [Int32.lt_iff_toInt_lt] at q; have : (0 : Int32).toInt = 0 := rfl; omega
  · simp only [Int32.toNatClampNeg, hj]; rfl
theorem Oar.at (A : Oar Z h a ty n f) (hj : j.toInt = (i : Int)) (hi : i < n) : ∃ cl : Cell, Arr Z h a cl ty ∧ ¬ (j < 0 ∨ cl.slots.size ≤ j.toNatClampNeg) ∧ cl.slots[j.toNatClampNeg]? = some (f i) := by
  obtain ⟨q, cl, A, S, H⟩ := A
  obtain ⟨q1, q2⟩ := own_cl hj
  exact ⟨cl, A, fun q => q.elim q1 fun u => by rw [q2, S] at u; omega, by rw [q2]; exact H i hi⟩
/-- arraylength -/
theorem own_alen (X : Stand p l e R s m args below meth c T locs cells slots) (hx : p.tables.exec = Jvm.exec) (hZ : Z.Warmed39 s.vm) (eT : T.heap = h) (A : Oar Z h a ty n f) (hz : z.toInt = (n : Int)) {pc : Nat} {Ls : Array Slot} {rest : List Value} (hd : decode c.code pc = .ok (.arraylength, 1))
    (k : Ogo p e below P (T.setTop (mkF m (pc + 1) Ls (.int z :: rest)))) : Ogo p e below P (T.setTop (mkF m pc Ls (.ref a :: rest))) := by
  obtain ⟨q, cl, A, S, H⟩ := A
  have e1 : cl.slots.size.toInt32 = z := Int32.toInt_inj.mp (by rw [S, len_toInt q, hz])
  refine own_via (fun t k => X.arraylength hx (by rw [eT]; exact A.1) (State.isArrayOf_alike hZ.alike A.2.1) (g := mkF m pc Ls (.ref a :: rest)) rfl rfl hd _ k) ?_
  rw [e1]; exact k
theorem own_iald (X : Stand p l e R s m args below meth c T locs cells slots) (hx : p.tables.exec = Jvm.exec) (hZ : Z.Warmed39 s.vm) (eT : T.heap = h) (A : Oar Z h a .int n f) (hj : j.toInt = (i : Int)) (hi : i < n) (hv : f i = v) {pc : Nat} {Ls : Array Slot} {rest : List Value} (hd : decode c.code pc = .ok (.iaload, 1))
    (k : Ogo p e below P (T.setTop (mkF m (pc + 1) Ls (v :: rest)))) : Ogo p e below P (T.setTop (mkF m pc Ls (.int j :: .ref a :: rest))) := by
  obtain ⟨cl, A, h1, h2⟩ := A.at hj hi
  rw [hv] at h2
  exact own_via (fun t k => X.iaload hx (j := j) (v := v) (by rw [eT]; exact A.1) (State.isArrayOf_alike hZ.alike A.2.1) A.2.2 h1 h2 (g := mkF m pc Ls (.int j :: .ref a :: rest)) rfl rfl hd _ k) k
theorem own_bald (X : Stand p l e R s m args below meth c T locs cells slots) (hx : p.tables.exec = Jvm.exec) (hZ : Z.Warmed39 s.vm) (eT : T.heap = h) (A : Oar Z h a .byte n f) (hj : j.toInt = (i : Int)) (hi : i < n) (hv : f i = v) {pc : Nat} {Ls : Array Slot} {rest : List Value} (hd : decode c.code pc = .ok (.baload, 1))
    (k : Ogo p e below P (T.setTop (mkF m (pc + 1) Ls (v :: rest)))) : Ogo p e below P (T.setTop (mkF m pc Ls (.int j :: .ref a :: rest))) := by
  obtain ⟨cl, A, h1, h2⟩ := A.at hj hi
  rw [hv] at h2
  exact own_via (fun t k => X.baloadBytes hx (j := j) (v := v) (by rw [eT]; exact A.1) (State.isArrayOf_alike hZ.alike A.2.1) A.2.2 h1 h2 (g := mkF m pc Ls (.int j :: .ref a :: rest)) rfl rfl hd _ k) k
theorem own_cald (X : Stand p l e R s m args below meth c T locs cells slots) (hx : p.tables.exec = Jvm.exec) (hZ : Z.Warmed39 s.vm) (eT : T.heap = h) (A : Oar Z h a .char n f) (hj : j.toInt = (i : Int)) (hi : i < n) (hv : f i = v) {pc : Nat} {Ls : Array Slot} {rest : List Value} (hd : decode c.code pc = .ok (.caload, 1))
    (k : Ogo p e below P (T.setTop (mkF m (pc + 1) Ls (v :: rest)))) : Ogo p e below P (T.setTop (mkF m pc Ls (.int j :: .ref a :: rest))) := by
  obtain ⟨cl, A, h1, h2⟩ := A.at hj hi
  rw [hv] at h2
  exact own_via (fun t k => X.caload hx (j := j) (v := v) (by rw [eT]; exact A.1) (State.isArrayOf_alike hZ.alike A.2.1) A.2.2 h1 h2 (g := mkF m pc Ls (.int j :: .ref a :: rest)) rfl rfl hd _ k) k
theorem own_zald (X : Stand p l e R s m args below meth c T locs cells slots) (hx : p.tables.exec = Jvm.exec) (hZ : Z.Warmed39 s.vm) (eT : T.heap = h) (A : Oar Z h a .boolean n f) (hj : j.toInt = (i : Int)) (hi : i < n) (hv : f i = v) {pc : Nat} {Ls : Array Slot} {rest : List Value} (hd : decode c.code pc = .ok (.baload, 1))
    (k : Ogo p e below P (T.setTop (mkF m (pc + 1) Ls (v :: rest)))) : Ogo p e below P (T.setTop (mkF m pc Ls (.int j :: .ref a :: rest))) := by
  obtain ⟨cl, A, h1, h2⟩ := A.at hj hi
  rw [hv] at h2
  exact own_via (fun t k => X.baloadBooleans hx (j := j) (v := v) (by rw [eT]; exact A.1) (State.isArrayOf_alike hZ.alike A.2.1) A.2.2 h1 h2 (g := mkF m pc Ls (.int j :: .ref a :: rest)) rfl rfl hd _ k) k
theorem own_dald (X : Stand p l e R s m args below meth c T locs cells slots) (hx : p.tables.exec = Jvm.exec) (hZ : Z.Warmed39 s.vm) (eT : T.heap = h) (A : Oar Z h a .double n f) (hj : j.toInt = (i : Int)) (hi : i < n) (hv : f i = v) {pc : Nat} {Ls : Array Slot} {rest : List Value} (hd : decode c.code pc = .ok (.daload, 1))
    (k : Ogo p e below P (T.setTop (mkF m (pc + 1) Ls (v :: rest)))) : Ogo p e below P (T.setTop (mkF m pc Ls (.int j :: .ref a :: rest))) := by
  obtain ⟨cl, A, h1, h2⟩ := A.at hj hi
  rw [hv] at h2
  exact own_via (fun t k => X.daload hx (j := j) (v := v) (by rw [eT]; exact A.1) (State.isArrayOf_alike hZ.alike A.2.1) A.2.2 h1 h2 (g := mkF m pc Ls (.int j :: .ref a :: rest)) rfl rfl hd _ k) k
theorem own_aald (X : Stand p l e R s m args below meth c T locs cells slots) (hx : p.tables.exec = Jvm.exec) (hZ : Z.Warmed39 s.vm) (eT : T.heap = h) (A : Oar Z h a ty n f) (ht : ty.isReference = true) (hj : j.toInt = (i : Int)) (hi : i < n) (hv : f i = v) {pc : Nat} {Ls : Array Slot} {rest : List Value} (hd : decode c.code pc = .ok (.aaload, 1))
    (k : Ogo p e below P (T.setTop (mkF m (pc + 1) Ls (v :: rest)))) : Ogo p e below P (T.setTop (mkF m pc Ls (.int j :: .ref a :: rest))) := by
  obtain ⟨cl, A, h1, h2⟩ := A.at hj hi
  rw [hv] at h2
  exact own_via (fun t k => X.aaload hx (j := j) (v := v) (by rw [eT]; exact A.1) (State.isArrayOf_alike hZ.alike A.2.1) ht A.2.2 h1 h2 (g := mkF m pc Ls (.int j :: .ref a :: rest)) rfl rfl hd _ k) k
theorem own_iast (X : Stand p l e R s m args below meth c T locs cells slots) (hx : p.tables.exec = Jvm.exec) (hZ : Z.Warmed39 s.vm) (eT : T.heap = h) (A : Oar Z h a .int n f) {x : Int32} (hj : j.toInt = (i : Int)) (hi : i < n) {pc : Nat} {Ls : Array Slot} {rest : List Value} (hd : decode c.code pc = .ok (.iastore, 1)) :
    ∃ T' h', Stand p l e R s m args below meth c T' (locs ++ [⟨a, i⟩]) cells slots ∧ T'.heap = h' ∧ Wr h h' a i (.int x) ∧ Oar Z h' a .int n (fun q => if q = i then .int x else f q) ∧ ∀ t, Steps p.tables e below (T'.setTop (mkF m (pc + 1) Ls rest)) t → Steps p.tables e below (T.setTop (mkF m pc Ls (.int x :: .int j :: .ref a :: rest))) t := by
  obtain ⟨cl, A', h1, h2⟩ := A.at hj hi
  obtain ⟨T', h', X', e', W, st⟩ := stI X hx hZ eT A' (j := j) (x := x) h1 (g := mkF m pc Ls (.int x :: .int j :: .ref a :: rest)) rfl rfl hd
  rw [(own_cl hj).2] at X' W
  exact ⟨T', h', X', e', W, A.set W, st⟩
theorem own_bast (X : Stand p l e R s m args below meth c T locs cells slots) (hx : p.tables.exec = Jvm.exec) (hZ : Z.Warmed39 s.vm) (eT : T.heap = h) (A : Oar Z h a .byte n f) {x : Int32} (hj : j.toInt = (i : Int)) (hi : i < n) {pc : Nat} {Ls : Array Slot} {rest : List Value} (hd : decode c.code pc = .ok (.bastore, 1)) :
    ∃ T' h', Stand p l e R s m args below meth c T' (locs ++ [⟨a, i⟩]) cells slots ∧ T'.heap = h' ∧ Wr h h' a i (.int (nar .byte x)) ∧ Oar Z h' a .byte n (fun q => if q = i then .int (nar .byte x) else f q) ∧ ∀ t, Steps p.tables e below (T'.setTop (mkF m (pc + 1) Ls rest)) t → Steps p.tables e below (T.setTop (mkF m pc Ls (.int x :: .int j :: .ref a :: rest))) t := by
  obtain ⟨cl, A', h1, h2⟩ := A.at hj hi
  obtain ⟨T', h', X', e', W, st⟩ := stB X hx hZ eT A' (j := j) (x := x) h1 (g := mkF m pc Ls (.int x :: .int j :: .ref a :: rest)) rfl rfl hd
  rw [(own_cl hj).2] at X' W
  exact ⟨T', h', X', e', W, A.set W, st⟩
theorem own_cast (X : Stand p l e R s m args below meth c T locs cells slots) (hx : p.tables.exec = Jvm.exec) (hZ : Z.Warmed39 s.vm) (eT : T.heap = h) (A : Oar Z h a .char n f) {x : Int32} (hj : j.toInt = (i : Int)) (hi : i < n) {pc : Nat} {Ls : Array Slot} {rest : List Value} (hd : decode c.code pc = .ok (.castore, 1)) :
    ∃ T' h', Stand p l e R s m args below meth c T' (locs ++ [⟨a, i⟩]) cells slots ∧ T'.heap = h' ∧ Wr h h' a i (.int (nar .char x)) ∧ Oar Z h' a .char n (fun q => if q = i then .int (nar .char x) else f q) ∧ ∀ t, Steps p.tables e below (T'.setTop (mkF m (pc + 1) Ls rest)) t → Steps p.tables e below (T.setTop (mkF m pc Ls (.int x :: .int j :: .ref a :: rest))) t := by
  obtain ⟨cl, A', h1, h2⟩ := A.at hj hi
  obtain ⟨T', h', X', e', W, st⟩ := stC X hx hZ eT A' (j := j) (x := x) h1 (g := mkF m pc Ls (.int x :: .int j :: .ref a :: rest)) rfl rfl hd
  rw [(own_cl hj).2] at X' W
  exact ⟨T', h', X', e', W, A.set W, st⟩
theorem own_zast (X : Stand p l e R s m args below meth c T locs cells slots) (hx : p.tables.exec = Jvm.exec) (hZ : Z.Warmed39 s.vm) (eT : T.heap = h) (A : Oar Z h a .boolean n f) {x : Int32} (hj : j.toInt = (i : Int)) (hi : i < n) {pc : Nat} {Ls : Array Slot} {rest : List Value} (hd : decode c.code pc = .ok (.bastore, 1)) :
    ∃ T' h', Stand p l e R s m args below meth c T' (locs ++ [⟨a, i⟩]) cells slots ∧ T'.heap = h' ∧ Wr h h' a i (.int (nar .boolean x)) ∧ Oar Z h' a .boolean n (fun q => if q = i then .int (nar .boolean x) else f q) ∧ ∀ t, Steps p.tables e below (T'.setTop (mkF m (pc + 1) Ls rest)) t → Steps p.tables e below (T.setTop (mkF m pc Ls (.int x :: .int j :: .ref a :: rest))) t := by
  obtain ⟨cl, A', h1, h2⟩ := A.at hj hi
  obtain ⟨T', h', X', e', W, st⟩ := stZ X hx hZ eT A' (j := j) (x := x) h1 (g := mkF m pc Ls (.int x :: .int j :: .ref a :: rest)) rfl rfl hd
  rw [(own_cl hj).2] at X' W
  exact ⟨T', h', X', e', W, A.set W, st⟩
theorem own_dast (X : Stand p l e R s m args below meth c T locs cells slots) (hx : p.tables.exec = Jvm.exec) (hZ : Z.Warmed39 s.vm) (eT : T.heap = h) (A : Oar Z h a .double n f) {x : UInt64} (hj : j.toInt = (i : Int)) (hi : i < n) {pc : Nat} {Ls : Array Slot} {rest : List Value} (hd : decode c.code pc = .ok (.dastore, 1)) :
    ∃ T' h', Stand p l e R s m args below meth c T' (locs ++ [⟨a, i⟩]) cells slots ∧ T'.heap = h' ∧ Wr h h' a i (.double x) ∧ Oar Z h' a .double n (fun q => if q = i then .double x else f q) ∧ ∀ t, Steps p.tables e below (T'.setTop (mkF m (pc + 1) Ls rest)) t → Steps p.tables e below (T.setTop (mkF m pc Ls (.double x :: .int j :: .ref a :: rest))) t := by
  obtain ⟨cl, A', h1, h2⟩ := A.at hj hi
  obtain ⟨T', h', X', e', W, st⟩ := stD X hx hZ eT A' (j := j) (x := x) h1 (g := mkF m pc Ls (.double x :: .int j :: .ref a :: rest)) rfl rfl hd
  rw [(own_cl hj).2] at X' W
  exact ⟨T', h', X', e', W, A.set W, st⟩
theorem own_aast (X : Stand p l e R s m args below meth c T locs cells slots) (hx : p.tables.exec = Jvm.exec) (hZ : Z.Warmed39 s.vm) (eT : T.heap = h) (A : Oar Z h a ty n f) (ht : ty.isReference = true) (F : Sto Z h a v) (hj : j.toInt = (i : Int)) (hi : i < n) {pc : Nat} {Ls : Array Slot} {rest : List Value} (hd : decode c.code pc = .ok (.aastore, 1)) :
    ∃ T' h', Stand p l e R s m args below meth c T' (locs ++ [⟨a, i⟩]) cells slots ∧ T'.heap = h' ∧ Wr h h' a i v ∧ Oar Z h' a ty n (fun q => if q = i then v else f q) ∧ ∀ t, Steps p.tables e below (T'.setTop (mkF m (pc + 1) Ls rest)) t → Steps p.tables e below (T.setTop (mkF m pc Ls (v :: .int j :: .ref a :: rest))) t := by
  obtain ⟨cl, A', h1, h2⟩ := A.at hj hi
  obtain ⟨T', h', X', e', W, st⟩ := stR X hx hZ eT A' (j := j) h1 ht F (g := mkF m pc Ls (v :: .int j :: .ref a :: rest)) rfl rfl hd
  rw [(own_cl hj).2] at X' W
  exact ⟨T', h', X', e', W, A.set W, st⟩
theorem own_pref {F : Nat → Value} {d : Value} {i j : Nat} : (if j = i then F i else if j < i then F j else d) = if j < i + 1 then F j else d := by
  by_cases u : j = i
  · subst u; simp
  · rw [if_neg u]
    by_cases w : j < i
    · rw [if_pos w, if_pos (by omega)]
    · rw [if_neg w, if_neg (by omega)]
/-! numbers: comparisons by their values -/
theorem o_lt {x y : Int64} (q : x.toInt < y.toInt) : lcmpW x y < (0 : Int32) := (lw_lt _ _).mpr (Int64.lt_iff_toInt_lt.mpr q)
theorem o_nlt {x y : Int64} (q : y.toInt ≤ x.toInt) : ¬ (lcmpW x y < (0 : Int32)) := fun u => by have := Int64.lt_iff_toInt_lt.mp ((lw_lt _ _).mp u); omega
theorem o_gt {x y : Int64} (q : y.toInt < x.toInt) : (0 : Int32) < lcmpW x y := (lw_gt _ _).mpr (Int64.lt_iff_toInt_lt.mpr q)
theorem o_ngt {x y : Int64} (q : x.toInt ≤ y.toInt) : ¬ ((0 : Int32) < lcmpW x y) := fun u => by have := Int64.lt_iff_toInt_lt.mp ((lw_gt _ _).mp u); omega
theorem o_eq {x y : Int64} (q : x.toInt = y.toInt) : lcmpW x y = (0 : Int32) := (lw_eq _ _).mpr (Int64.toInt_inj.mp q)
theorem o_ne {x y : Int64} (q : x.toInt ≠ y.toInt) : ¬ (lcmpW x y = (0 : Int32)) := fun u => q (congrArg Int64.toInt ((lw_eq _ _).mp u))
theorem i_lt {x y : Int32} (q : x.toInt < y.toInt) : x < y := Int32.lt_iff_toInt_lt.mpr q
theorem i_nlt {x y : Int32} (q : y.toInt ≤ x.toInt) : ¬ (x < y) := fun u => by have := Int32.lt_iff_toInt_lt.mp u; omega
theorem i_eq {x y : Int32} (q : x.toInt = y.toInt) : x = y := Int32.toInt_inj.mp q
theorem i_ne {x y : Int32} (q : x.toInt ≠ y.toInt) : ¬ (x = y) := fun u => q (congrArg Int32.toInt u)
theorem i_lt' {x y : Int32} (q : x < y) : x.toInt < y.toInt := Int32.lt_iff_toInt_lt.mp q
theorem i_nlt' {x y : Int32} (q : ¬ (x < y)) : y.toInt ≤ x.toInt := by rw [Int32.lt_iff_toInt_lt] at q; omega
end Own2
/-! ## The wide form: a walk in which String constants may be resolved and interned -/
def Owid (Z : State) (EL : List (String × Nat)) (s : State) (R : Room) (Q : Option Value → Heap → List Loc → Prop) (o : Outcome) (t : State) : Prop :=
  ∃ v L, o = .returned v ∧ Q v t.heap L ∧ CHr Z EL s.vm s.heap t.vm t.heap ∧ ReturnedEndW s o t L R.cells R.slots
abbrev Owpays (l : Launch) (y : MethodName) (bytes : ByteArray) (maxL : Nat) (rt : Option FieldType) (rm : Room) (ws : List Jvm.Cond) (Z : State) (EL : List (String × Nat)) (h0 : Heap) (as : Array Value) (Q : Option Value → Heap → List Loc → Prop) : Prop :=
  MetFree l y (head1 (Jvm.Cond.code y bytes maxL rt :: ws) rm) (fun a U => a = as ∧ Z.Warmed39 U.vm ∧ U.heap = h0 ∧ CHv Z EL U.vm h0) (fun _ _ _ _ _ => True) (fun _ U o U' => ∃ v L, o = .returned v ∧ Q v U'.heap L ∧ CHr Z EL U.vm U.heap U'.vm U'.heap ∧ ReturnedEndW U o U' L rm.cells rm.slots)
section OwnW
variable {p : Program} {l : Launch} {e : Env} {R : Room} {s : State} {m : MethodId} {args : Array Value} {below : List Frame} {meth : Method} {c : Code} {T : State} {locs : List Loc} {cells slots : Nat} {Z : State} {a0 : Array Value} {h h' : Heap} {Q : Option Value → Heap → List Loc → Prop} {A B : State} {P : Outcome → State → Prop} {EL : List (String × Nat)} {vm0 vm : Vm}
theorem own_sm {n n' : Nat} (h : s.Since vm0 n) (q : n ≤ n') : s.Since vm0 n' := ⟨h.1, h.2.mono q⟩
theorem own_enterW {y : MethodName} {bytes : ByteArray} {maxL : Nat} {rt : Option FieldType} {rm : Room} {ws : List Jvm.Cond} {h0 : Heap} {as : Array Value} (hp : plainFor y = true)
    (body : ∀ p e s m below meth c s₁ vm0, p.tables.exec = Jvm.exec → c.code = bytes → c.maxLocals = maxL → vm0.findClass y.cls = some m.cls → meth.name = y.name → meth.sig.returnType = rt → meth.locks = false → Z.Warmed39 vm0 → s₁.heap = h0 → s.Since vm0 h0.size → CHr Z EL s.vm s.heap vm0 h0 →
      Stand p l e rm (s.setVm vm0) m as below meth c s₁ [] 0 0 → Ogo p e below (Owid Z EL s rm Q) (s₁.setTop (entryFrame m as maxL))) : Owpays l y bytes maxL rt rm ws Z EL h0 as Q := by
  refine MetFree.of_bodySF hp hisR ?_
  intro p e s m args below meth c s₁ Bd hml0 hP hK
  obtain ⟨rfl, hZ, hh, hC⟩ := hP
  have X0 : Stand p l e rm s m args below meth c s₁ [] 0 0 := Stand.of_body Bd
  have e0 : s₁.heap = h0 := by rw [← hh, Bd.state]; rfl
  exact body p e s m below meth c s₁ s.vm Bd.exec Bd.bytes hml0 (findClass_of_methodNamed Bd.named) (name_of_methodNamed Bd.named Bd.method).1 Bd.returns Bd.notSynchronized hZ e0 ((State.WarmedH.refl s).since _) (by rw [hh]; exact CHr.refl hC) X0
theorem own_outW (X : Stand p l e R (s.setVm vm0) m args below meth c T locs cells slots) (hlk : meth.locks = false) {v : Option Value} (hv : meth.sig.returnType = none → v = none) (hc : cells ≤ R.cells) (hs : slots ≤ R.slots) (hZ : Z.Warmed39 vm0) (hEL : EW Z a0 EL) (eT : T.heap = h) (hS : s.Since vm0 h.size) (CR : CHr Z EL s.vm s.heap vm0 h) (hQ : Q v T.heap locs)
    (k : ∀ fs, (∀ (f : JFrame) (acts : List Action), f.method = m → f.locked = none → f.entered = [] → (doReturn e (T.setTop f) acts v).1 = T.setFrames fs) → Steps p.tables e below A (T.setFrames fs)) : Ogo p e below (Owid Z EL s R Q) A := by
  obtain ⟨fs, hr, hrun, hended, hW, hsame⟩ := X.leave (v := v) hv hlk
  obtain ⟨w1, w2, w3⟩ := hS.ended (U := T.setFrames fs) hW (by show h.size ≤ T.heap.size; rw [eT]; exact Nat.le_refl _) hsame
  refine ⟨_, _, k fs hr, hrun, hended, _, _, rfl, hQ, ?_, ⟨_, rfl⟩, w1, w2, w3.mono hc hs⟩
  show CHr Z EL s.vm s.heap T.vm T.heap
  rw [eT]; exact CR.trans (CHv.at X hZ hEL CR.1)
theorem own_callSW (X : Stand p l e R (s.setVm vm0) m args below meth c T locs cells slots) (hx : p.tables.exec = Jvm.exec) (hZ : Z.Warmed39 vm0) {own : String} {index : Nat} {y : MethodName} {bytes : ByteArray} {maxL : Nat} {rt : Option FieldType}
    (hown : vm0.findClass own = some m.cls) (wl : (Jvm.Cond.methodLink own index y).before a0 Z = true) (wst : (Jvm.Cond.static y).before a0 Z = true) (wi : (Jvm.Cond.initialized y.cls).before a0 Z = true) (wc : (Jvm.Cond.code y bytes maxL rt).before a0 Z = true)
    (hy : y.cls ≠ "java/lang/invoke/MethodHandle" ∧ y.cls ≠ "java/lang/invoke/VarHandle") {rm : Room} {as : Array Value} {Qc : Option Value → Heap → List Loc → Prop} (hM : Owpays l y bytes maxL rt rm [] Z EL h as Qc) {argsL rest : List Value} (ha : argsL.toArray = as) (eT : T.heap = h) {W : Nat} (hf : rm.frames + 1 ≤ R.frames) (hl : W + (maxL + 11) + rm.locals ≤ R.locals) (hc : cells + rm.cells ≤ R.cells) (hs : slots + rm.slots ≤ R.slots)
    (hEL : EW Z a0 EL) (hS : s.Since vm0 h.size) (H : CHv Z EL vm0 h) {pc : Nat} {Ls : Array Slot} {st : List Value} (hsize : Ls.size = c.maxLocals) (hlen : ∀ sig, parseMethodDescriptor y.desc = some sig → argsL.length = sig.parameters.length) (hst : st = argsL.reverse ++ rest) (hW : (rest.map fun v => v.category).sum ≤ W) (hd : decode c.code pc = .ok (.invokestatic index, 3))
    (k : ∀ v T' L, Stand p l e R (s.setVm T'.vm) m args below meth c T' (locs ++ L) (cells + rm.cells) (slots + rm.slots) → s.Since T'.vm T'.heap.size → Z.Warmed39 T'.vm → T'.vm.findClass own = some m.cls → CHr Z EL vm0 h T'.vm T'.heap → Qc v T'.heap L → Ogo p e below P (T'.setTop (mkF m (pc + 3) Ls (v.toList ++ rest)))) : Ogo p e below P (T.setTop (mkF m pc Ls st)) := by
  obtain ⟨v, _, ⟨T', L', k', n'⟩, -, X', hS2, hg, ⟨Lc, hQ, l1, y1, z1, hC⟩, step⟩ := callSS X hx (y := y) hown (mvT (s := s.setVm vm0) hZ wl) (mvT (s := s.setVm vm0) hZ wst) (mvT (s := s.setVm vm0) hZ wi) (mvT (s := s.setVm vm0) hZ wc) hy (backOfSH (s := s) (vm0 := vm0) (W := W) hM hZ wc wi hf hl hEL H) (g := mkF m pc Ls st) rfl hsize (argsL := argsL) (rest := rest) hlen hst (by show 2 * 0 + _ ≤ _; omega) hd (fun _ _ => ⟨ha, eT, hc, hs⟩)
  dsimp only [Pt.U, Pt.locs, Pt.cells, Pt.slots] at X' l1 y1 z1 step hQ hC hS2 hg
  subst l1 y1 z1
  obtain ⟨X2, hS3, hZ2, hown2⟩ := rebS (n1 := T.heap.size) hS (by rw [eT]; exact Nat.le_refl _) X' hS2 hg hZ hown
  exact own_via (fun _ q => step.trans q) (k v T' Lc X2 hS3 hZ2 hown2 hC hQ)
theorem own_callIW (X : Stand p l e R (s.setVm vm0) m args below meth c T locs cells slots) (hx : p.tables.exec = Jvm.exec) (hZ : Z.Warmed39 vm0) {own : String} {index : Nat} {y : MethodName} {bytes : ByteArray} {maxL : Nat} (hy1 : y.name = "<init>")
    (hown : vm0.findClass own = some m.cls) (wl : (Jvm.Cond.methodLink own index y).before a0 Z = true) (wst : (Jvm.Cond.instanceMethod y).before a0 Z = true) (wi : (Jvm.Cond.initialized y.cls).before a0 Z = true) (wc : (Jvm.Cond.code y bytes maxL none).before a0 Z = true)
    (hy : y.cls ≠ "java/lang/invoke/MethodHandle" ∧ y.cls ≠ "java/lang/invoke/VarHandle") {rm : Room} {as : Array Value} {Qc : Option Value → Heap → List Loc → Prop} (hM : Owpays l y bytes maxL none rm [] Z EL h as Qc) {a : Addr} {argsL rest : List Value} (ha : (.ref a :: argsL).toArray = as) (eT : T.heap = h) {W : Nat} (hf : rm.frames + 1 ≤ R.frames) (hl : W + (maxL + 11) + rm.locals ≤ R.locals) (hc : cells + rm.cells ≤ R.cells) (hs : slots + rm.slots ≤ R.slots)
    (hEL : EW Z a0 EL) (hS : s.Since vm0 h.size) (H : CHv Z EL vm0 h) {pc : Nat} {Ls : Array Slot} {st : List Value} (hsize : Ls.size = c.maxLocals) (hlen : ∀ sig, parseMethodDescriptor y.desc = some sig → argsL.length = sig.parameters.length) (hst : st = argsL.reverse ++ .ref a :: rest) (hW : (rest.map fun v => v.category).sum ≤ W) (hd : decode c.code pc = .ok (.invokespecial index, 3))
    (k : ∀ v T' L, Stand p l e R (s.setVm T'.vm) m args below meth c T' (locs ++ L) (cells + rm.cells) (slots + rm.slots) → s.Since T'.vm T'.heap.size → Z.Warmed39 T'.vm → T'.vm.findClass own = some m.cls → CHr Z EL vm0 h T'.vm T'.heap → Qc v T'.heap L → Ogo p e below P (T'.setTop (mkF m (pc + 3) Ls (v.toList ++ rest)))) : Ogo p e below P (T.setTop (mkF m pc Ls st)) := by
  obtain ⟨v, _, ⟨T', L', k', n'⟩, -, X', hS2, hg, ⟨Lc, hQ, l1, y1, z1, hC⟩, step⟩ := X.specialBackS hx (y := y) hy1 hown (mvT (s := s.setVm vm0) hZ wl) (mvT (s := s.setVm vm0) hZ wst) (mvT (s := s.setVm vm0) hZ wc) hy (backOfSH (s := s) (vm0 := vm0) (W := W) hM hZ wc wi hf hl hEL H) (g := mkF m pc Ls st) rfl hsize (Steps.refl _) (a := a) (argsL := argsL) (rest := rest) hlen hst (by show 2 * 0 + _ ≤ _; omega) hd (fun _ _ => ⟨ha, eT, hc, hs⟩)
  dsimp only [Pt.U, Pt.locs, Pt.cells, Pt.slots] at X' l1 y1 z1 step hQ hC hS2 hg
  subst l1 y1 z1
  obtain ⟨X2, hS3, hZ2, hown2⟩ := rebS (n1 := T.heap.size) hS (by rw [eT]; exact Nat.le_refl _) X' hS2 hg hZ hown
  exact own_via (fun _ q => step.trans q) (k v T' Lc X2 hS3 hZ2 hown2 hC hQ)
/-- an array that isn't of bytes is no booked String's -/
theorem own_safeA {a : Addr} {ty : FieldType} {n : Nat} {f : Nat → Value} (hal : Z.vm.Alike vm) (F : Oar Z h a ty n f) (ht : ty ≠ .byte) : Safe Z EL vm h a := by
  obtain ⟨_, cl, A, _⟩ := F; exact Safe.arr hal A ht
/-- a String whose value is null isn't booked -/
theorem own_safeN {a : Addr} (hal : Z.vm.Alike vm) (E : Exa Z h a "java/lang/String") (F : Fld Z h a "java/lang/String" "value" "[B" .null) {kk : Nat} (wi : (Jvm.Cond.instantiable "java/lang/String" kk).before a0 Z = true) : Safe Z EL vm h a := fun Bk => by
  obtain ⟨pr, _, u, b, -, q, -, ⟨cS, hSl, -⟩, hor⟩ := Bk
  obtain ⟨⟨s1, -, -, ⟨c1, k1, i1, f1, -⟩, -, -, -, v1, -, d1, d2, -⟩, -⟩ := hSl
  rcases hor with rfl | rfl
  · obtain ⟨cell, cf, k, i, f, h1, h2, h3, h4, h5, h6, h7⟩ := F
    cases h1.symm.trans s1
    obtain ⟨k2, e2, -⟩ := State.fieldFound?_setVm (s := { Z with heap := h }) hal (show ({ Z with heap := h } : State).fieldFound? _ _ _ = _ from h2)
    have e4 := (show (Wst Z vm h).fieldFound? "java/lang/String" "value" "[B" = some (cf, k2, i, f) from e2).symm.trans f1
    simp only [Option.some.injEq, Prod.mk.injEq] at e4
    rw [← e4.2.2.2, h7] at v1
    cases v1
  · obtain ⟨cell, kc, h1, h2, h3, -⟩ := E
    cases h1.symm.trans d1
    obtain ⟨-, kA, hkA, compA, hkindA⟩ := d2
    obtain ⟨c3, k3, i1', i2', i3', -⟩ := Cond.instantiable_spec wi
    cases h2.symm.trans i1'
    obtain ⟨k4, e5, e6⟩ := hal.2.2 _ _ i2'
    have e7 := (show (Wst Z vm h).vm.classes[q.SA.cls]? = some k4 from e5).symm.trans hkA
    cases e7
    rw [e6] at hkindA
    rw [i3'] at hkindA; cases hkindA
end OwnW
theorem pd_0 : parseMethodDescriptor "([CI[BII)I" = some ⟨[(.array .char), .int, (.array .byte), .int, .int], some .int⟩ := by decide +kernel
theorem pd_1 : parseMethodDescriptor "([CII)[B" = some ⟨[(.array .char), .int, .int], some (.array .byte)⟩ := by decide +kernel
theorem pd_2 : parseMethodDescriptor "([BI)B" = some ⟨[(.array .byte), .int], some .byte⟩ := by decide +kernel
theorem pd_3 : parseMethodDescriptor "([CIILjava/lang/Void;)V" = some ⟨[(.array .char), .int, .int, (.object "java/lang/Void")], none⟩ := by decide +kernel
theorem pd_4 : parseMethodDescriptor "([C)V" = some ⟨[(.array .char)], none⟩ := by decide +kernel
theorem pd_5 : parseMethodDescriptor "([B[B)Z" = some ⟨[(.array .byte), (.array .byte)], some .boolean⟩ := by decide +kernel
theorem pd_6 : parseMethodDescriptor "()V" = some ⟨[], none⟩ := by decide +kernel
theorem pd_7 : parseMethodDescriptor "(Ljava/lang/Object;)Z" = some ⟨[(.object "java/lang/Object")], some .boolean⟩ := by decide +kernel
theorem pd_8 : parseMethodDescriptor "(ICC)Ljava/lang/String;" = some ⟨[.int, .char, .char], some (.object "java/lang/String")⟩ := by decide +kernel
theorem pd_9 : parseMethodDescriptor "(I)Lcom/example/diligent_workflow/diligentworkflow/feel/FeelLexer$Kind;" = some ⟨[.int], some (.object "com/example/diligent_workflow/diligentworkflow/feel/FeelLexer$Kind")⟩ := by decide +kernel
theorem pd_10 : parseMethodDescriptor "(Lcom/example/diligent_workflow/diligentworkflow/feel/FeelLexer$Kind;Ljava/lang/String;Ljava/lang/Object;II)V" = some ⟨[(.object "com/example/diligent_workflow/diligentworkflow/feel/FeelLexer$Kind"), (.object "java/lang/String"), (.object "java/lang/Object"), .int, .int], none⟩ := by decide +kernel
theorem pd_11 : parseMethodDescriptor "(Lcom/example/diligent_workflow/diligentworkflow/feel/FeelLexer$Kind;Ljava/lang/String;)Z" = some ⟨[(.object "com/example/diligent_workflow/diligentworkflow/feel/FeelLexer$Kind"), (.object "java/lang/String")], some .boolean⟩ := by decide +kernel
theorem pn_0 : plainName "java/lang/StringUTF16" = true := by first | (simp [plainName, overriddenIn]; done) | decide +kernel
theorem pn_1 : plainName "java/lang/String" = true := by first | (simp [plainName, overriddenIn]; done) | decide +kernel
theorem pn_2 : plainName "com/example/diligent_workflow/diligentworkflow/feel/TokenIsPinLaw" = true := by first | (simp [plainName, overriddenIn]; done) | decide +kernel
theorem pn_3 : plainName "java/lang/StringLatin1" = true := by first | (simp [plainName, overriddenIn]; done) | decide +kernel
theorem pn_4 : plainName "java/lang/Record" = true := by first | (simp [plainName, overriddenIn]; done) | decide +kernel
theorem pn_5 : plainName "com/example/diligent_workflow/diligentworkflow/feel/FeelLexer$Token" = true := by first | (simp [plainName, overriddenIn]; done) | decide +kernel

def own_f0 : Nat → Value := fun _ => .int 0
/-- the bytes of a String of chars x0, x1 -/
def own_by (x0 x1 : Int32) : Nat → Int32 := fun j => if j = 0 then x0.toInt8.toInt32 else x1.toInt8.toInt32
def own_ch (x0 x1 : Int32) : Nat → Value := fun j => if j = 0 then .int x0 else .int x1
def Ostr (Z : State) (h : Heap) (b : Addr) (n : Nat) (x0 x1 : Int32) : Prop := Exa Z h b "java/lang/String" ∧ Fld Z h b "java/lang/String" "coder" "B" (.int 0) ∧ ∃ t, Fld Z h b "java/lang/String" "value" "[B" (.ref t) ∧ Oar Z h t .byte n (fun q => .int (own_by x0 x1 q))
theorem Ostr.ext {Z : State} {h h' : Heap} {b : Addr} {n : Nat} {x0 x1 : Int32} (F : Ostr Z h b n x0 x1) (E : Ext h h') : Ostr Z h' b n x0 x1 := by
  obtain ⟨h1, h2, t, h3, h4⟩ := F; exact ⟨h1.ext E, h2.ext E, t, h3.ext E, h4.ext E⟩
theorem Ostr.lt {Z : State} {h : Heap} {b : Addr} {n : Nat} {x0 x1 : Int32} (F : Ostr Z h b n x0 x1) : b < h.size := F.1.lt
theorem Ostr.keepT {Z : State} {h h' : Heap} {a b : Addr} {n kk : Nat} {x0 x1 : Int32} {C : String} {a0 : Array Value} (F : Ostr Z h b n x0 x1) (K : Keep h h' [a]) (E : Exa Z h a C) (hC : C ≠ "java/lang/String") (wi : (Jvm.Cond.instantiable C kk).before a0 Z = true) : Ostr Z h' b n x0 x1 := by
  obtain ⟨h1, h2, t, h3, h4⟩ := F
  have nb : b ≠ a := ne_exa h1 E (fun q => hC q.symm)
  have nt : t ≠ a := by obtain ⟨_, cl, A, _⟩ := h4; exact Ne.symm (ne_arr E wi A)
  exact ⟨h1.keep K, h2.keep K (ninS nb nin0), t, h3.keep K (ninS nb nin0), h4.keep K (ninS nt nin0)⟩
theorem own_ext0 {h h' : Heap} (K : Keep h h' []) : Ext h h' := ⟨K.1, fun a c q => K.2.1 a c q nin0⟩
theorem own_extW {Z : State} {h h' : Heap} {b t : Addr} {n : Nat} {x0 x1 : Int32} (E : Exa Z h b "java/lang/String") (F : Fld Z h b "java/lang/String" "coder" "B" (.int 0)) (V : Fld Z h b "java/lang/String" "value" "[B" (.ref t)) (A : Oar Z h t .byte n (fun q => .int (own_by x0 x1 q))) : Ostr Z h b n x0 x1 := ⟨E, F, t, V, A⟩
theorem own_arv0 {Z : State} {h : Heap} {b : Addr} {k : ClassId} {vs : List Value} {d : Value} (A : Arv Z h b k .byte (0 : Int32) vs d) : Oar Z h b .byte 0 own_f0 := by
  obtain ⟨cl, A, -, S, -, -⟩ := A
  exact ⟨by decide, cl, A, S, fun j hj => absurd hj (Nat.not_lt_zero j)⟩
theorem own_atoms {Z : State} {a0 : Array Value} (hw : ∀ d ∈ tables_1, d.before a0 Z = true) : ∀ a ∈ Bundle.stringAtoms, a.before a0 Z = true := by
  intro d hd
  simp only [Bundle.stringAtoms, List.mem_cons, List.not_mem_nil, or_false] at hd
  rcases hd with rfl | rfl | rfl | rfl | rfl | rfl | rfl
  · exact (hw _ (List.mem_of_getElem? (i := 6) rfl))
  · exact (hw _ (List.mem_of_getElem? (i := 5) rfl))
  · exact (hw _ (List.mem_of_getElem? (i := 23) rfl))
  · exact (hw _ (List.mem_of_getElem? (i := 33) rfl))
  · exact (hw _ (List.mem_of_getElem? (i := 31) rfl))
  · exact (hw _ (List.mem_of_getElem? (i := 35) rfl))
  · exact (hw _ (List.mem_of_getElem? (i := 36) rfl))
theorem own_nb (x : Int32) : nar .byte (x.toInt8.toInt32) = x.toInt8.toInt32 := by simp [nar]
theorem own_nc {x : Int32} (h0 : 0 ≤ x.toInt) (h1 : x.toInt ≤ 255) : nar .char x = x := Int32.toInt_inj.mp (by
  have h := c_i2c x
  show x.toUInt32.toUInt16.toUInt32.toInt32.toInt = x.toInt
  omega)
theorem own_bi {x y : Int32} (h0 : 0 ≤ x.toInt) (h1 : x.toInt ≤ 255) (k0 : 0 ≤ y.toInt) (k1 : y.toInt ≤ 255) (h : x.toInt8.toInt32 = y.toInt8.toInt32) : x = y := Int32.toInt_inj.mp (by
  have a := c_i2b x
  have b := c_i2b y
  rw [h] at a
  omega)
theorem own_xor {x y : Int32} (h0 : 0 ≤ x.toInt) (h1 : x.toInt ≤ 255) (k0 : 0 ≤ y.toInt) (k1 : y.toInt ≤ 255) : 0 ≤ (x ^^^ y).toInt ∧ (x ^^^ y).toInt ≤ 255 := by
  have ex : x.toBitVec.toNat < 2 ^ 8 := by
    have : x.toBitVec.toInt = x.toInt := rfl
    rw [BitVec.toInt_eq_toNat_cond] at this; split at this <;> omega
  have ey : y.toBitVec.toNat < 2 ^ 8 := by
    have : y.toBitVec.toInt = y.toInt := rfl
    rw [BitVec.toInt_eq_toNat_cond] at this; split at this <;> omega
  have hz := Nat.xor_lt_two_pow ex ey
  have e : (x ^^^ y).toBitVec.toNat = x.toBitVec.toNat ^^^ y.toBitVec.toNat := by rw [Int32.toBitVec_xor, BitVec.toNat_xor]
  have : (x ^^^ y).toInt = (x ^^^ y).toBitVec.toInt := rfl
  rw [this, BitVec.toInt_eq_toNat_cond, e]
  split <;> omega
theorem own_c255 {x : Int32} (h0 : 0 ≤ x.toInt) (h1 : x.toInt ≤ 255) : 0 ≤ (x.toUInt32.toUInt16.toUInt32.toInt32).toInt ∧ (x.toUInt32.toUInt16.toUInt32.toInt32).toInt ≤ 255 := by
  have h := c_i2c x; omega
theorem own_and255 (x : Int32) : 0 ≤ (x &&& 255).toInt ∧ (x &&& 255).toInt ≤ 255 := c_and x 255 (by decide)
theorem own_rem {x d : Int32} (k : Nat) (hk : d.toInt = (k : Int)) (k0 : 0 < k) (h0 : 0 ≤ x.toInt) : ∃ n : Nat, (x % d).toInt = (n : Int) ∧ n < k := by
  have h := (c_irem x d k hk).1 h0
  have h1 := Int.emod_nonneg x.toInt (show (k : Int) ≠ 0 by omega)
  have h2 := Int.emod_lt_of_pos x.toInt (show (0 : Int) < k by omega)
  exact ⟨(x % d).toInt.toNat, by omega, by omega⟩
theorem own_add {p q : Int32} (h1 : -2147483648 ≤ p.toInt + q.toInt) (h2 : p.toInt + q.toInt < 2147483648) : (p + q).toInt = p.toInt + q.toInt := by
  have := c_iadd p q; have := rng32 (p + q); omega
/-- the two Strings bear the same text -/
def Osame (n : Nat) (x0 x1 : Int32) (k : Nat) (y0 y1 : Int32) : Prop := n = k ∧ (1 ≤ n → x0 = y0) ∧ (2 ≤ n → x1 = y1)
theorem own_same {n k : Nat} {x0 x1 y0 y1 : Int32} (hn : n ≤ 2) (hx0 : 0 ≤ x0.toInt ∧ x0.toInt ≤ 255) (hx1 : 0 ≤ x1.toInt ∧ x1.toInt ≤ 255) (hy0 : 0 ≤ y0.toInt ∧ y0.toInt ≤ 255) (hy1 : 0 ≤ y1.toInt ∧ y1.toInt ≤ 255) : (n = k ∧ ∀ q, q < n → own_by x0 x1 q = own_by y0 y1 q) ↔ Osame n x0 x1 k y0 y1 := by
  constructor
  · rintro ⟨rfl, h⟩
    exact ⟨rfl, fun q => own_bi hx0.1 hx0.2 hy0.1 hy0.2 (by have := h 0 (by omega); simpa [own_by] using this), fun q => own_bi hx1.1 hx1.2 hy1.1 hy1.2 (by have := h 1 (by omega); simpa [own_by] using this)⟩
  · rintro ⟨rfl, h0, h1⟩
    refine ⟨rfl, fun q hq => ?_⟩
    rcases q with _ | _ | q
    · rw [h0 (by omega)]; simp [own_by]
    · rw [h1 (by omega)]; simp [own_by]
    · omega
theorem d1_0 : decode method_3_code 0 = .ok (.iload_n 0, 1) := by decide +kernel
theorem d1_1 : decode method_3_code 1 = .ok (.ifCond .ne 14, 3) := by decide +kernel
theorem d1_4 : decode method_3_code 4 = .ok (.new 31, 3) := by decide +kernel
theorem d1_7 : decode method_3_code 7 = .ok (.dup, 1) := by decide +kernel
theorem d1_8 : decode method_3_code 8 = .ok (.iconst 0, 1) := by decide +kernel
theorem d1_9 : decode method_3_code 9 = .ok (.newarray .char, 2) := by decide +kernel
theorem d1_11 : decode method_3_code 11 = .ok (.invokespecial 33, 3) := by decide +kernel
theorem d1_14 : decode method_3_code 14 = .ok (.areturn, 1) := by decide +kernel
theorem d1_15 : decode method_3_code 15 = .ok (.iload_n 0, 1) := by decide +kernel
theorem d1_16 : decode method_3_code 16 = .ok (.iconst 1, 1) := by decide +kernel
theorem d1_17 : decode method_3_code 17 = .ok (.if_icmp .ne 18, 3) := by decide +kernel
theorem d1_20 : decode method_3_code 20 = .ok (.new 31, 3) := by decide +kernel
theorem d1_23 : decode method_3_code 23 = .ok (.dup, 1) := by decide +kernel
theorem d1_24 : decode method_3_code 24 = .ok (.iconst 1, 1) := by decide +kernel
theorem d1_25 : decode method_3_code 25 = .ok (.newarray .char, 2) := by decide +kernel
theorem d1_27 : decode method_3_code 27 = .ok (.dup, 1) := by decide +kernel
theorem d1_28 : decode method_3_code 28 = .ok (.iconst 0, 1) := by decide +kernel
theorem d1_29 : decode method_3_code 29 = .ok (.iload_n 1, 1) := by decide +kernel
theorem d1_30 : decode method_3_code 30 = .ok (.castore, 1) := by decide +kernel
theorem d1_31 : decode method_3_code 31 = .ok (.invokespecial 33, 3) := by decide +kernel
theorem d1_34 : decode method_3_code 34 = .ok (.areturn, 1) := by decide +kernel
theorem d1_35 : decode method_3_code 35 = .ok (.new 31, 3) := by decide +kernel
theorem d1_38 : decode method_3_code 38 = .ok (.dup, 1) := by decide +kernel
theorem d1_39 : decode method_3_code 39 = .ok (.iconst 2, 1) := by decide +kernel
theorem d1_40 : decode method_3_code 40 = .ok (.newarray .char, 2) := by decide +kernel
theorem d1_42 : decode method_3_code 42 = .ok (.dup, 1) := by decide +kernel
theorem d1_43 : decode method_3_code 43 = .ok (.iconst 0, 1) := by decide +kernel
theorem d1_44 : decode method_3_code 44 = .ok (.iload_n 1, 1) := by decide +kernel
theorem d1_45 : decode method_3_code 45 = .ok (.castore, 1) := by decide +kernel
theorem d1_46 : decode method_3_code 46 = .ok (.dup, 1) := by decide +kernel
theorem d1_47 : decode method_3_code 47 = .ok (.iconst 1, 1) := by decide +kernel
theorem d1_48 : decode method_3_code 48 = .ok (.iload_n 2, 1) := by decide +kernel
theorem d1_49 : decode method_3_code 49 = .ok (.castore, 1) := by decide +kernel
theorem d1_50 : decode method_3_code 50 = .ok (.invokespecial 33, 3) := by decide +kernel
theorem d1_53 : decode method_3_code 53 = .ok (.areturn, 1) := by decide +kernel
theorem d2_0 : decode jdk_42_method_3_code 0 = .ok (.aload_n 0, 1) := by decide +kernel
theorem d2_1 : decode jdk_42_method_3_code 1 = .ok (.aload_n 1, 1) := by decide +kernel
theorem d2_2 : decode jdk_42_method_3_code 2 = .ok (.iconst 0, 1) := by decide +kernel
theorem d2_3 : decode jdk_42_method_3_code 3 = .ok (.aload_n 1, 1) := by decide +kernel
theorem d2_4 : decode jdk_42_method_3_code 4 = .ok (.arraylength, 1) := by decide +kernel
theorem d2_5 : decode jdk_42_method_3_code 5 = .ok (.aconst_null, 1) := by decide +kernel
theorem d2_6 : decode jdk_42_method_3_code 6 = .ok (.invokespecial 27, 3) := by decide +kernel
theorem d2_9 : decode jdk_42_method_3_code 9 = .ok (.return_, 1) := by decide +kernel
theorem d3_0 : decode jdk_42_method_149_code 0 = .ok (.aload_n 0, 1) := by decide +kernel
theorem d3_1 : decode jdk_42_method_149_code 1 = .ok (.invokespecial 1, 3) := by decide +kernel
theorem d3_4 : decode jdk_42_method_149_code 4 = .ok (.iload_n 3, 1) := by decide +kernel
theorem d3_5 : decode jdk_42_method_149_code 5 = .ok (.ifCond .ne 22, 3) := by decide +kernel
theorem d3_8 : decode jdk_42_method_149_code 8 = .ok (.aload_n 0, 1) := by decide +kernel
theorem d3_9 : decode jdk_42_method_149_code 9 = .ok (.ldc 7, 2) := by decide +kernel
theorem d3_11 : decode jdk_42_method_149_code 11 = .ok (.getfield 9, 3) := by decide +kernel
theorem d3_14 : decode jdk_42_method_149_code 14 = .ok (.putfield 9, 3) := by decide +kernel
theorem d3_17 : decode jdk_42_method_149_code 17 = .ok (.aload_n 0, 1) := by decide +kernel
theorem d3_18 : decode jdk_42_method_149_code 18 = .ok (.ldc 7, 2) := by decide +kernel
theorem d3_20 : decode jdk_42_method_149_code 20 = .ok (.getfield 15, 3) := by decide +kernel
theorem d3_23 : decode jdk_42_method_149_code 23 = .ok (.putfield 15, 3) := by decide +kernel
theorem d3_26 : decode jdk_42_method_149_code 26 = .ok (.return_, 1) := by decide +kernel
theorem d3_27 : decode jdk_42_method_149_code 27 = .ok (.getstatic 38, 3) := by decide +kernel
theorem d3_30 : decode jdk_42_method_149_code 30 = .ok (.ifCond .eq 28, 3) := by decide +kernel
theorem d3_33 : decode jdk_42_method_149_code 33 = .ok (.aload_n 1, 1) := by decide +kernel
theorem d3_34 : decode jdk_42_method_149_code 34 = .ok (.iload_n 2, 1) := by decide +kernel
theorem d3_35 : decode jdk_42_method_149_code 35 = .ok (.iload_n 3, 1) := by decide +kernel
theorem d3_36 : decode jdk_42_method_149_code 36 = .ok (.invokestatic 177, 3) := by decide +kernel
theorem d3_39 : decode jdk_42_method_149_code 39 = .ok (.astore 5, 2) := by decide +kernel
theorem d3_41 : decode jdk_42_method_149_code 41 = .ok (.aload_n 0, 1) := by decide +kernel
theorem d3_42 : decode jdk_42_method_149_code 42 = .ok (.aload 5, 2) := by decide +kernel
theorem d3_44 : decode jdk_42_method_149_code 44 = .ok (.iload_n 3, 1) := by decide +kernel
theorem d3_45 : decode jdk_42_method_149_code 45 = .ok (.invokestatic 47, 3) := by decide +kernel
theorem d3_48 : decode jdk_42_method_149_code 48 = .ok (.putfield 15, 3) := by decide +kernel
theorem d3_51 : decode jdk_42_method_149_code 51 = .ok (.aload_n 0, 1) := by decide +kernel
theorem d3_52 : decode jdk_42_method_149_code 52 = .ok (.aload 5, 2) := by decide +kernel
theorem d3_54 : decode jdk_42_method_149_code 54 = .ok (.putfield 9, 3) := by decide +kernel
theorem d3_57 : decode jdk_42_method_149_code 57 = .ok (.return_, 1) := by decide +kernel
theorem d5_0 : decode jdk_52_method_16_code 0 = .ok (.iload_n 2, 1) := by decide +kernel
theorem d5_1 : decode jdk_52_method_16_code 1 = .ok (.newarray .byte, 2) := by decide +kernel
theorem d5_3 : decode jdk_52_method_16_code 3 = .ok (.astore_n 3, 1) := by decide +kernel
theorem d5_4 : decode jdk_52_method_16_code 4 = .ok (.aload_n 0, 1) := by decide +kernel
theorem d5_5 : decode jdk_52_method_16_code 5 = .ok (.iload_n 1, 1) := by decide +kernel
theorem d5_6 : decode jdk_52_method_16_code 6 = .ok (.aload_n 3, 1) := by decide +kernel
theorem d5_7 : decode jdk_52_method_16_code 7 = .ok (.iconst 0, 1) := by decide +kernel
theorem d5_8 : decode jdk_52_method_16_code 8 = .ok (.iload_n 2, 1) := by decide +kernel
theorem d5_9 : decode jdk_52_method_16_code 9 = .ok (.invokestatic 115, 3) := by decide +kernel
theorem d5_12 : decode jdk_52_method_16_code 12 = .ok (.istore 4, 2) := by decide +kernel
theorem d5_14 : decode jdk_52_method_16_code 14 = .ok (.iload 4, 2) := by decide +kernel
theorem d5_16 : decode jdk_52_method_16_code 16 = .ok (.iload_n 2, 1) := by decide +kernel
theorem d5_17 : decode jdk_52_method_16_code 17 = .ok (.if_icmp .eq 40, 3) := by decide +kernel
theorem d5_57 : decode jdk_52_method_16_code 57 = .ok (.aload_n 3, 1) := by decide +kernel
theorem d5_58 : decode jdk_52_method_16_code 58 = .ok (.areturn, 1) := by decide +kernel
theorem d6_0 : decode jdk_52_method_21_code 0 = .ok (.iconst 0, 1) := by decide +kernel
theorem d6_1 : decode jdk_52_method_21_code 1 = .ok (.istore 5, 2) := by decide +kernel
theorem d6_3 : decode jdk_52_method_21_code 3 = .ok (.iload 5, 2) := by decide +kernel
theorem d6_5 : decode jdk_52_method_21_code 5 = .ok (.iload 4, 2) := by decide +kernel
theorem d6_7 : decode jdk_52_method_21_code 7 = .ok (.if_icmp .ge 37, 3) := by decide +kernel
theorem d6_10 : decode jdk_52_method_21_code 10 = .ok (.aload_n 0, 1) := by decide +kernel
theorem d6_11 : decode jdk_52_method_21_code 11 = .ok (.iload_n 1, 1) := by decide +kernel
theorem d6_12 : decode jdk_52_method_21_code 12 = .ok (.caload, 1) := by decide +kernel
theorem d6_13 : decode jdk_52_method_21_code 13 = .ok (.istore 6, 2) := by decide +kernel
theorem d6_15 : decode jdk_52_method_21_code 15 = .ok (.iload 6, 2) := by decide +kernel
theorem d6_17 : decode jdk_52_method_21_code 17 = .ok (.sipush 255, 3) := by decide +kernel
theorem d6_20 : decode jdk_52_method_21_code 20 = .ok (.if_icmp .le 6, 3) := by decide +kernel
theorem d6_26 : decode jdk_52_method_21_code 26 = .ok (.aload_n 2, 1) := by decide +kernel
theorem d6_27 : decode jdk_52_method_21_code 27 = .ok (.iload_n 3, 1) := by decide +kernel
theorem d6_28 : decode jdk_52_method_21_code 28 = .ok (.iload 6, 2) := by decide +kernel
theorem d6_30 : decode jdk_52_method_21_code 30 = .ok (.i2b, 1) := by decide +kernel
theorem d6_31 : decode jdk_52_method_21_code 31 = .ok (.bastore, 1) := by decide +kernel
theorem d6_32 : decode jdk_52_method_21_code 32 = .ok (.iinc 1 1, 3) := by decide +kernel
theorem d6_35 : decode jdk_52_method_21_code 35 = .ok (.iinc 3 1, 3) := by decide +kernel
theorem d6_38 : decode jdk_52_method_21_code 38 = .ok (.iinc 5 1, 3) := by decide +kernel
theorem d6_41 : decode jdk_52_method_21_code 41 = .ok (.goto (-38), 3) := by decide +kernel
theorem d6_44 : decode jdk_52_method_21_code 44 = .ok (.iload 4, 2) := by decide +kernel
theorem d6_46 : decode jdk_52_method_21_code 46 = .ok (.ireturn, 1) := by decide +kernel
theorem d7_0 : decode jdk_52_method_15_code 0 = .ok (.iload_n 1, 1) := by decide +kernel
theorem d7_1 : decode jdk_52_method_15_code 1 = .ok (.aload_n 0, 1) := by decide +kernel
theorem d7_2 : decode jdk_52_method_15_code 2 = .ok (.arraylength, 1) := by decide +kernel
theorem d7_3 : decode jdk_52_method_15_code 3 = .ok (.isub, 1) := by decide +kernel
theorem d7_4 : decode jdk_52_method_15_code 4 = .ok (.bipush 31, 2) := by decide +kernel
theorem d7_6 : decode jdk_52_method_15_code 6 = .ok (.iushr, 1) := by decide +kernel
theorem d7_7 : decode jdk_52_method_15_code 7 = .ok (.i2b, 1) := by decide +kernel
theorem d7_8 : decode jdk_52_method_15_code 8 = .ok (.ireturn, 1) := by decide +kernel
theorem d8_0 : decode method_2_code 0 = .ok (.iload_n 0, 1) := by decide +kernel
theorem d8_1 : decode method_2_code 1 = .ok (.ifCond .ne 7, 3) := by decide +kernel
theorem d8_4 : decode method_2_code 4 = .ok (.getstatic 7, 3) := by decide +kernel
theorem d8_7 : decode method_2_code 7 = .ok (.areturn, 1) := by decide +kernel
theorem d8_8 : decode method_2_code 8 = .ok (.iload_n 0, 1) := by decide +kernel
theorem d8_9 : decode method_2_code 9 = .ok (.iconst 1, 1) := by decide +kernel
theorem d8_10 : decode method_2_code 10 = .ok (.if_icmp .ne 7, 3) := by decide +kernel
theorem d8_13 : decode method_2_code 13 = .ok (.getstatic 13, 3) := by decide +kernel
theorem d8_16 : decode method_2_code 16 = .ok (.areturn, 1) := by decide +kernel
theorem d8_17 : decode method_2_code 17 = .ok (.iload_n 0, 1) := by decide +kernel
theorem d8_18 : decode method_2_code 18 = .ok (.iconst 2, 1) := by decide +kernel
theorem d8_19 : decode method_2_code 19 = .ok (.if_icmp .ne 7, 3) := by decide +kernel
theorem d8_22 : decode method_2_code 22 = .ok (.getstatic 16, 3) := by decide +kernel
theorem d8_25 : decode method_2_code 25 = .ok (.areturn, 1) := by decide +kernel
theorem d8_26 : decode method_2_code 26 = .ok (.iload_n 0, 1) := by decide +kernel
theorem d8_27 : decode method_2_code 27 = .ok (.iconst 3, 1) := by decide +kernel
theorem d8_28 : decode method_2_code 28 = .ok (.if_icmp .ne 7, 3) := by decide +kernel
theorem d8_31 : decode method_2_code 31 = .ok (.getstatic 19, 3) := by decide +kernel
theorem d8_34 : decode method_2_code 34 = .ok (.areturn, 1) := by decide +kernel
theorem d8_35 : decode method_2_code 35 = .ok (.iload_n 0, 1) := by decide +kernel
theorem d8_36 : decode method_2_code 36 = .ok (.iconst 4, 1) := by decide +kernel
theorem d8_37 : decode method_2_code 37 = .ok (.if_icmp .ne 7, 3) := by decide +kernel
theorem d8_40 : decode method_2_code 40 = .ok (.getstatic 22, 3) := by decide +kernel
theorem d8_43 : decode method_2_code 43 = .ok (.areturn, 1) := by decide +kernel
theorem d8_44 : decode method_2_code 44 = .ok (.iload_n 0, 1) := by decide +kernel
theorem d8_45 : decode method_2_code 45 = .ok (.iconst 5, 1) := by decide +kernel
theorem d8_46 : decode method_2_code 46 = .ok (.if_icmp .ne 7, 3) := by decide +kernel
theorem d8_49 : decode method_2_code 49 = .ok (.getstatic 25, 3) := by decide +kernel
theorem d8_52 : decode method_2_code 52 = .ok (.areturn, 1) := by decide +kernel
theorem d8_53 : decode method_2_code 53 = .ok (.iload_n 0, 1) := by decide +kernel
theorem d8_54 : decode method_2_code 54 = .ok (.bipush 6, 2) := by decide +kernel
theorem d8_56 : decode method_2_code 56 = .ok (.if_icmp .ne 7, 3) := by decide +kernel
theorem d8_59 : decode method_2_code 59 = .ok (.getstatic 28, 3) := by decide +kernel
theorem d8_62 : decode method_2_code 62 = .ok (.areturn, 1) := by decide +kernel
theorem d8_63 : decode method_2_code 63 = .ok (.aconst_null, 1) := by decide +kernel
theorem d8_64 : decode method_2_code 64 = .ok (.areturn, 1) := by decide +kernel
theorem d9_0 : decode prog_67_method_1_code 0 = .ok (.aload_n 0, 1) := by decide +kernel
theorem d9_1 : decode prog_67_method_1_code 1 = .ok (.invokespecial 1, 3) := by decide +kernel
theorem d9_4 : decode prog_67_method_1_code 4 = .ok (.aload_n 0, 1) := by decide +kernel
theorem d9_5 : decode prog_67_method_1_code 5 = .ok (.aload_n 1, 1) := by decide +kernel
theorem d9_6 : decode prog_67_method_1_code 6 = .ok (.putfield 7, 3) := by decide +kernel
theorem d9_9 : decode prog_67_method_1_code 9 = .ok (.aload_n 0, 1) := by decide +kernel
theorem d9_10 : decode prog_67_method_1_code 10 = .ok (.aload_n 2, 1) := by decide +kernel
theorem d9_11 : decode prog_67_method_1_code 11 = .ok (.putfield 13, 3) := by decide +kernel
theorem d9_14 : decode prog_67_method_1_code 14 = .ok (.aload_n 0, 1) := by decide +kernel
theorem d9_15 : decode prog_67_method_1_code 15 = .ok (.aload_n 3, 1) := by decide +kernel
theorem d9_16 : decode prog_67_method_1_code 16 = .ok (.putfield 17, 3) := by decide +kernel
theorem d9_19 : decode prog_67_method_1_code 19 = .ok (.aload_n 0, 1) := by decide +kernel
theorem d9_20 : decode prog_67_method_1_code 20 = .ok (.iload 4, 2) := by decide +kernel
theorem d9_22 : decode prog_67_method_1_code 22 = .ok (.putfield 21, 3) := by decide +kernel
theorem d9_25 : decode prog_67_method_1_code 25 = .ok (.aload_n 0, 1) := by decide +kernel
theorem d9_26 : decode prog_67_method_1_code 26 = .ok (.iload 5, 2) := by decide +kernel
theorem d9_28 : decode prog_67_method_1_code 28 = .ok (.putfield 25, 3) := by decide +kernel
theorem d9_31 : decode prog_67_method_1_code 31 = .ok (.return_, 1) := by decide +kernel
theorem d10_0 : decode jdk_30_method_1_code 0 = .ok (.aload_n 0, 1) := by decide +kernel
theorem d10_1 : decode jdk_30_method_1_code 1 = .ok (.invokespecial 1, 3) := by decide +kernel
theorem d10_4 : decode jdk_30_method_1_code 4 = .ok (.return_, 1) := by decide +kernel
theorem d11_0 : decode prog_67_method_2_code 0 = .ok (.aload_n 0, 1) := by decide +kernel
theorem d11_1 : decode prog_67_method_2_code 1 = .ok (.getfield 7, 3) := by decide +kernel
theorem d11_4 : decode prog_67_method_2_code 4 = .ok (.aload_n 1, 1) := by decide +kernel
theorem d11_5 : decode prog_67_method_2_code 5 = .ok (.if_acmp .ne 18, 3) := by decide +kernel
theorem d11_8 : decode prog_67_method_2_code 8 = .ok (.aload_n 0, 1) := by decide +kernel
theorem d11_9 : decode prog_67_method_2_code 9 = .ok (.getfield 13, 3) := by decide +kernel
theorem d11_12 : decode prog_67_method_2_code 12 = .ok (.aload_n 2, 1) := by decide +kernel
theorem d11_13 : decode prog_67_method_2_code 13 = .ok (.invokevirtual 28, 3) := by decide +kernel
theorem d11_16 : decode prog_67_method_2_code 16 = .ok (.ifCond .eq 7, 3) := by decide +kernel
theorem d11_19 : decode prog_67_method_2_code 19 = .ok (.iconst 1, 1) := by decide +kernel
theorem d11_20 : decode prog_67_method_2_code 20 = .ok (.goto 4, 3) := by decide +kernel
theorem d11_23 : decode prog_67_method_2_code 23 = .ok (.iconst 0, 1) := by decide +kernel
theorem d11_24 : decode prog_67_method_2_code 24 = .ok (.ireturn, 1) := by decide +kernel
theorem d12_0 : decode jdk_42_method_66_code 0 = .ok (.aload_n 0, 1) := by decide +kernel
theorem d12_1 : decode jdk_42_method_66_code 1 = .ok (.aload_n 1, 1) := by decide +kernel
theorem d12_2 : decode jdk_42_method_66_code 2 = .ok (.if_acmp .ne 5, 3) := by decide +kernel
theorem d12_7 : decode jdk_42_method_66_code 7 = .ok (.aload_n 1, 1) := by decide +kernel
theorem d12_8 : decode jdk_42_method_66_code 8 = .ok (.instanceof 10, 3) := by decide +kernel
theorem d12_11 : decode jdk_42_method_66_code 11 = .ok (.ifCond .eq 43, 3) := by decide +kernel
theorem d12_14 : decode jdk_42_method_66_code 14 = .ok (.aload_n 1, 1) := by decide +kernel
theorem d12_15 : decode jdk_42_method_66_code 15 = .ok (.checkcast 10, 3) := by decide +kernel
theorem d12_18 : decode jdk_42_method_66_code 18 = .ok (.astore_n 2, 1) := by decide +kernel
theorem d12_19 : decode jdk_42_method_66_code 19 = .ok (.getstatic 38, 3) := by decide +kernel
theorem d12_22 : decode jdk_42_method_66_code 22 = .ok (.ifCond .eq 14, 3) := by decide +kernel
theorem d12_25 : decode jdk_42_method_66_code 25 = .ok (.aload_n 0, 1) := by decide +kernel
theorem d12_26 : decode jdk_42_method_66_code 26 = .ok (.getfield 15, 3) := by decide +kernel
theorem d12_29 : decode jdk_42_method_66_code 29 = .ok (.aload_n 2, 1) := by decide +kernel
theorem d12_30 : decode jdk_42_method_66_code 30 = .ok (.getfield 15, 3) := by decide +kernel
theorem d12_33 : decode jdk_42_method_66_code 33 = .ok (.if_icmp .ne 21, 3) := by decide +kernel
theorem d12_36 : decode jdk_42_method_66_code 36 = .ok (.aload_n 0, 1) := by decide +kernel
theorem d12_37 : decode jdk_42_method_66_code 37 = .ok (.getfield 9, 3) := by decide +kernel
theorem d12_40 : decode jdk_42_method_66_code 40 = .ok (.aload_n 2, 1) := by decide +kernel
theorem d12_41 : decode jdk_42_method_66_code 41 = .ok (.getfield 9, 3) := by decide +kernel
theorem d12_44 : decode jdk_42_method_66_code 44 = .ok (.invokestatic 541, 3) := by decide +kernel
theorem d12_47 : decode jdk_42_method_66_code 47 = .ok (.ifCond .eq 7, 3) := by decide +kernel
theorem d12_50 : decode jdk_42_method_66_code 50 = .ok (.iconst 1, 1) := by decide +kernel
theorem d12_51 : decode jdk_42_method_66_code 51 = .ok (.goto 4, 3) := by decide +kernel
theorem d12_54 : decode jdk_42_method_66_code 54 = .ok (.iconst 0, 1) := by decide +kernel
theorem d12_55 : decode jdk_42_method_66_code 55 = .ok (.ireturn, 1) := by decide +kernel
theorem d13_0 : decode jdk_43_method_13_code 0 = .ok (.aload_n 0, 1) := by decide +kernel
theorem d13_1 : decode jdk_43_method_13_code 1 = .ok (.arraylength, 1) := by decide +kernel
theorem d13_2 : decode jdk_43_method_13_code 2 = .ok (.aload_n 1, 1) := by decide +kernel
theorem d13_3 : decode jdk_43_method_13_code 3 = .ok (.arraylength, 1) := by decide +kernel
theorem d13_4 : decode jdk_43_method_13_code 4 = .ok (.if_icmp .ne 30, 3) := by decide +kernel
theorem d13_7 : decode jdk_43_method_13_code 7 = .ok (.iconst 0, 1) := by decide +kernel
theorem d13_8 : decode jdk_43_method_13_code 8 = .ok (.istore_n 2, 1) := by decide +kernel
theorem d13_9 : decode jdk_43_method_13_code 9 = .ok (.iload_n 2, 1) := by decide +kernel
theorem d13_10 : decode jdk_43_method_13_code 10 = .ok (.aload_n 0, 1) := by decide +kernel
theorem d13_11 : decode jdk_43_method_13_code 11 = .ok (.arraylength, 1) := by decide +kernel
theorem d13_12 : decode jdk_43_method_13_code 12 = .ok (.if_icmp .ge 20, 3) := by decide +kernel
theorem d13_15 : decode jdk_43_method_13_code 15 = .ok (.aload_n 0, 1) := by decide +kernel
theorem d13_16 : decode jdk_43_method_13_code 16 = .ok (.iload_n 2, 1) := by decide +kernel
theorem d13_17 : decode jdk_43_method_13_code 17 = .ok (.baload, 1) := by decide +kernel
theorem d13_18 : decode jdk_43_method_13_code 18 = .ok (.aload_n 1, 1) := by decide +kernel
theorem d13_19 : decode jdk_43_method_13_code 19 = .ok (.iload_n 2, 1) := by decide +kernel
theorem d13_20 : decode jdk_43_method_13_code 20 = .ok (.baload, 1) := by decide +kernel
theorem d13_21 : decode jdk_43_method_13_code 21 = .ok (.if_icmp .eq 5, 3) := by decide +kernel
theorem d13_24 : decode jdk_43_method_13_code 24 = .ok (.iconst 0, 1) := by decide +kernel
theorem d13_25 : decode jdk_43_method_13_code 25 = .ok (.ireturn, 1) := by decide +kernel
theorem d13_26 : decode jdk_43_method_13_code 26 = .ok (.iinc 2 1, 3) := by decide +kernel
theorem d13_29 : decode jdk_43_method_13_code 29 = .ok (.goto (-20), 3) := by decide +kernel
theorem d13_32 : decode jdk_43_method_13_code 32 = .ok (.iconst 1, 1) := by decide +kernel
theorem d13_33 : decode jdk_43_method_13_code 33 = .ok (.ireturn, 1) := by decide +kernel
theorem d13_34 : decode jdk_43_method_13_code 34 = .ok (.iconst 0, 1) := by decide +kernel
theorem d13_35 : decode jdk_43_method_13_code 35 = .ok (.ireturn, 1) := by decide +kernel
set_option maxRecDepth 65536 in
set_option maxHeartbeats 40000000 in
theorem rm_cp1 {l : Launch} {Z : State} {a0 : Array Value} (hw : ∀ d ∈ tables_1, d.before a0 Z = true) (ch by_ : Addr) (x0 x1 : Int32) (h0 : Heap) (n0 : Nat) (A_ch : Oar Z h0 ch .char 1 (own_ch x0 x1)) (A_by : Oar Z h0 by_ .byte 1 (fun _ => defaultValue .byte)) (hne : ch ≠ by_) (g_by : n0 ≤ by_) (hx0 : 0 ≤ x0.toInt ∧ x0.toInt ≤ 255) (hx1 : 0 ≤ x1.toInt ∧ x1.toInt ≤ 255) :
    Opays l (⟨"java/lang/StringUTF16", "compress", "([CI[BII)I"⟩ : MethodName) jdk_52_method_21_code 7 (some .int) ({ frames := 0, cells := 0, slots := 0, locals := 0 } : Room) [] Z h0 #[(.ref ch), (.int (0 : Int32)), (.ref by_), (.int (0 : Int32)), (.int (1 : Int32))] (fun v h L => v = some (.int (1 : Int32)) ∧ Fr n0 L ∧ Keep h0 h [by_] ∧ Oar Z h by_ .byte 1 (fun q => .int (own_by x0 x1 q))) := by
  refine own_enter (plainFor_of_name pn_0) ?_
  intro p e s m below meth c s₁ hx hby hml0 hown hnm hret hlk hZ e0 X0
  have hml : c.maxLocals = 7 := hml0
  replace hown : s.vm.findClass "java/lang/StringUTF16" = some m.cls := hown
  have N := Fr.nil n0
  have hef : entryFrame m #[(.ref ch), (.int (0 : Int32)), (.ref by_), (.int (0 : Int32)), (.int (1 : Int32))] 7 = mkF m 0 #[.val (.ref ch), .val (.int (0 : Int32)), .val (.ref by_), .val (.int (0 : Int32)), .val (.int (1 : Int32)), .unset, .unset] [] := by first | (simp [entryFrame, mkF, argsToLocals, Value.category]; done) | rfl
  rw [hef]
  show Ogo p e below _ (s₁.setTop (mkF m 0 #[.val (.ref ch), .val (.int (0 : Int32)), .val (.ref by_), .val (.int (0 : Int32)), .val (.int (1 : Int32)), .unset, .unset] []))
  have K := Keep.refl h0 [by_]
  have l255 : (255 : Int32).toInt = 255 := rfl
  refine own_via (fun tq kq => XS.iconst X0.here hx rfl (hb hby d6_0) kq) ?_
  show Ogo p e below _ (s₁.setTop (mkF m 1 #[.val (.ref ch), .val (.int (0 : Int32)), .val (.ref by_), .val (.int (0 : Int32)), .val (.int (1 : Int32)), .unset, .unset] [(.int (0 : Int32))]))
  refine own_via (fun tq kq => XS.istore X0.here hx rfl (hb hby d6_1) rfl (l' := #[.val (.ref ch), .val (.int (0 : Int32)), .val (.ref by_), .val (.int (0 : Int32)), .val (.int (1 : Int32)), .val (.int (0 : Int32)), .unset]) rfl kq) ?_
  show Ogo p e below _ (s₁.setTop (mkF m 3 #[.val (.ref ch), .val (.int (0 : Int32)), .val (.ref by_), .val (.int (0 : Int32)), .val (.int (1 : Int32)), .val (.int (0 : Int32)), .unset] []))
  refine own_via (fun tq kq => XS.iload X0.here hx rfl (hb hby d6_3) rfl kq) ?_
  show Ogo p e below _ (s₁.setTop (mkF m 5 #[.val (.ref ch), .val (.int (0 : Int32)), .val (.ref by_), .val (.int (0 : Int32)), .val (.int (1 : Int32)), .val (.int (0 : Int32)), .unset] [(.int (0 : Int32))]))
  refine own_via (fun tq kq => XS.iload X0.here hx rfl (hb hby d6_5) rfl kq) ?_
  show Ogo p e below _ (s₁.setTop (mkF m 7 #[.val (.ref ch), .val (.int (0 : Int32)), .val (.ref by_), .val (.int (0 : Int32)), .val (.int (1 : Int32)), .val (.int (0 : Int32)), .unset] [(.int (1 : Int32)), (.int (0 : Int32))]))
  refine own_via (fun tq kq => XS.icmpNo X0.here hx rfl (hb hby d6_7) rfl (tlt ((by decide) : (0 : Int32) < (1 : Int32))).2.1 kq) ?_
  show Ogo p e below _ (s₁.setTop (mkF m 10 #[.val (.ref ch), .val (.int (0 : Int32)), .val (.ref by_), .val (.int (0 : Int32)), .val (.int (1 : Int32)), .val (.int (0 : Int32)), .unset] []))
  refine own_via (fun tq kq => XS.aloadN X0.here hx rfl (hb hby d6_10) rfl rfl kq) ?_
  show Ogo p e below _ (s₁.setTop (mkF m 11 #[.val (.ref ch), .val (.int (0 : Int32)), .val (.ref by_), .val (.int (0 : Int32)), .val (.int (1 : Int32)), .val (.int (0 : Int32)), .unset] [(.ref ch)]))
  refine own_via (fun tq kq => XS.iloadN X0.here hx rfl (hb hby d6_11) rfl kq) ?_
  show Ogo p e below _ (s₁.setTop (mkF m 12 #[.val (.ref ch), .val (.int (0 : Int32)), .val (.ref by_), .val (.int (0 : Int32)), .val (.int (1 : Int32)), .val (.int (0 : Int32)), .unset] [(.int (0 : Int32)), (.ref ch)]))
  refine own_cald X0 hx hZ e0 A_ch (j := (0 : Int32)) (i := 0) (v := (.int x0)) (by decide) (by decide) rfl (hb hby d6_12) ?_
  show Ogo p e below _ (s₁.setTop (mkF m 13 #[.val (.ref ch), .val (.int (0 : Int32)), .val (.ref by_), .val (.int (0 : Int32)), .val (.int (1 : Int32)), .val (.int (0 : Int32)), .unset] [(.int x0)]))
  refine own_via (fun tq kq => XS.istore X0.here hx rfl (hb hby d6_13) rfl (l' := #[.val (.ref ch), .val (.int (0 : Int32)), .val (.ref by_), .val (.int (0 : Int32)), .val (.int (1 : Int32)), .val (.int (0 : Int32)), .val (.int x0)]) rfl kq) ?_
  show Ogo p e below _ (s₁.setTop (mkF m 15 #[.val (.ref ch), .val (.int (0 : Int32)), .val (.ref by_), .val (.int (0 : Int32)), .val (.int (1 : Int32)), .val (.int (0 : Int32)), .val (.int x0)] []))
  refine own_via (fun tq kq => XS.iload X0.here hx rfl (hb hby d6_15) rfl kq) ?_
  show Ogo p e below _ (s₁.setTop (mkF m 17 #[.val (.ref ch), .val (.int (0 : Int32)), .val (.ref by_), .val (.int (0 : Int32)), .val (.int (1 : Int32)), .val (.int (0 : Int32)), .val (.int x0)] [(.int x0)]))
  refine own_via (fun tq kq => XS.sipush X0.here hx rfl (hb hby d6_17) kq) ?_
  show Ogo p e below _ (s₁.setTop (mkF m 20 #[.val (.ref ch), .val (.int (0 : Int32)), .val (.ref by_), .val (.int (0 : Int32)), .val (.int (1 : Int32)), .val (.int (0 : Int32)), .val (.int x0)] [(.int (255 : Int32)), (.int x0)]))
  refine own_via (fun tq kq => XS.icmpYes X0.here hx rfl (pc0 := 20) (pc' := 26) rfl (hb hby d6_20) rfl (flt (i_nlt (by omega) : ¬ ((255 : Int32) < x0))).2.2.2 (by decide) (by decide) kq) ?_
  show Ogo p e below _ (s₁.setTop (mkF m 26 #[.val (.ref ch), .val (.int (0 : Int32)), .val (.ref by_), .val (.int (0 : Int32)), .val (.int (1 : Int32)), .val (.int (0 : Int32)), .val (.int x0)] []))
  refine own_via (fun tq kq => XS.aloadN X0.here hx rfl (hb hby d6_26) rfl rfl kq) ?_
  show Ogo p e below _ (s₁.setTop (mkF m 27 #[.val (.ref ch), .val (.int (0 : Int32)), .val (.ref by_), .val (.int (0 : Int32)), .val (.int (1 : Int32)), .val (.int (0 : Int32)), .val (.int x0)] [(.ref by_)]))
  refine own_via (fun tq kq => XS.iloadN X0.here hx rfl (hb hby d6_27) rfl kq) ?_
  show Ogo p e below _ (s₁.setTop (mkF m 28 #[.val (.ref ch), .val (.int (0 : Int32)), .val (.ref by_), .val (.int (0 : Int32)), .val (.int (1 : Int32)), .val (.int (0 : Int32)), .val (.int x0)] [(.int (0 : Int32)), (.ref by_)]))
  refine own_via (fun tq kq => XS.iload X0.here hx rfl (hb hby d6_28) rfl kq) ?_
  show Ogo p e below _ (s₁.setTop (mkF m 30 #[.val (.ref ch), .val (.int (0 : Int32)), .val (.ref by_), .val (.int (0 : Int32)), .val (.int (1 : Int32)), .val (.int (0 : Int32)), .val (.int x0)] [(.int x0), (.int (0 : Int32)), (.ref by_)]))
  refine own_via (fun tq kq => XS.i2b X0.here hx rfl (hb hby d6_30) rfl kq) ?_
  show Ogo p e below _ (s₁.setTop (mkF m 31 #[.val (.ref ch), .val (.int (0 : Int32)), .val (.ref by_), .val (.int (0 : Int32)), .val (.int (1 : Int32)), .val (.int (0 : Int32)), .val (.int x0)] [(.int (x0.toInt8.toInt32)), (.int (0 : Int32)), (.ref by_)]))
  obtain ⟨T1, h1, X1, e1, W1, A_by', st1⟩ := own_bast X0 hx hZ e0 A_by (x := (x0.toInt8.toInt32)) (j := (0 : Int32)) (i := 0) (by decide) (by decide) (pc := 31) (Ls := #[.val (.ref ch), .val (.int (0 : Int32)), .val (.ref by_), .val (.int (0 : Int32)), .val (.int (1 : Int32)), .val (.int (0 : Int32)), .val (.int x0)]) (rest := []) (hb hby d6_31)
  refine own_via st1 ?_
  have A_ch := A_ch.other W1 hne
  have K := K.wr W1 (Or.inl (List.mem_of_getElem? (i := 0) rfl))
  have N := Fr.snoc X1 N g_by
  have A_by := A_by'
  show Ogo p e below _ (T1.setTop (mkF m 32 #[.val (.ref ch), .val (.int (0 : Int32)), .val (.ref by_), .val (.int (0 : Int32)), .val (.int (1 : Int32)), .val (.int (0 : Int32)), .val (.int x0)] []))
  refine own_via (fun tq kq => XS.iinc X1.here hx rfl (hb hby d6_32) rfl (l' := #[.val (.ref ch), .val (.int ((0 : Int32) + (1 : Int32))), .val (.ref by_), .val (.int (0 : Int32)), .val (.int (1 : Int32)), .val (.int (0 : Int32)), .val (.int x0)]) rfl kq) ?_
  show Ogo p e below _ (T1.setTop (mkF m 35 #[.val (.ref ch), .val (.int ((0 : Int32) + (1 : Int32))), .val (.ref by_), .val (.int (0 : Int32)), .val (.int (1 : Int32)), .val (.int (0 : Int32)), .val (.int x0)] []))
  refine own_via (fun tq kq => XS.iinc X1.here hx rfl (hb hby d6_35) rfl (l' := #[.val (.ref ch), .val (.int ((0 : Int32) + (1 : Int32))), .val (.ref by_), .val (.int ((0 : Int32) + (1 : Int32))), .val (.int (1 : Int32)), .val (.int (0 : Int32)), .val (.int x0)]) rfl kq) ?_
  show Ogo p e below _ (T1.setTop (mkF m 38 #[.val (.ref ch), .val (.int ((0 : Int32) + (1 : Int32))), .val (.ref by_), .val (.int ((0 : Int32) + (1 : Int32))), .val (.int (1 : Int32)), .val (.int (0 : Int32)), .val (.int x0)] []))
  refine own_via (fun tq kq => XS.iinc X1.here hx rfl (hb hby d6_38) rfl (l' := #[.val (.ref ch), .val (.int ((0 : Int32) + (1 : Int32))), .val (.ref by_), .val (.int ((0 : Int32) + (1 : Int32))), .val (.int (1 : Int32)), .val (.int ((0 : Int32) + (1 : Int32))), .val (.int x0)]) rfl kq) ?_
  show Ogo p e below _ (T1.setTop (mkF m 41 #[.val (.ref ch), .val (.int ((0 : Int32) + (1 : Int32))), .val (.ref by_), .val (.int ((0 : Int32) + (1 : Int32))), .val (.int (1 : Int32)), .val (.int ((0 : Int32) + (1 : Int32))), .val (.int x0)] []))
  refine own_via (fun tq kq => XS.goto X1.here hx rfl (pc0 := 41) (pc' := 3) rfl (hb hby d6_41) (by decide) (by decide) kq) ?_
  show Ogo p e below _ (T1.setTop (mkF m 3 #[.val (.ref ch), .val (.int ((0 : Int32) + (1 : Int32))), .val (.ref by_), .val (.int ((0 : Int32) + (1 : Int32))), .val (.int (1 : Int32)), .val (.int ((0 : Int32) + (1 : Int32))), .val (.int x0)] []))
  refine own_via (fun tq kq => XS.iload X1.here hx rfl (hb hby d6_3) rfl kq) ?_
  show Ogo p e below _ (T1.setTop (mkF m 5 #[.val (.ref ch), .val (.int ((0 : Int32) + (1 : Int32))), .val (.ref by_), .val (.int ((0 : Int32) + (1 : Int32))), .val (.int (1 : Int32)), .val (.int ((0 : Int32) + (1 : Int32))), .val (.int x0)] [(.int ((0 : Int32) + (1 : Int32)))]))
  refine own_via (fun tq kq => XS.iload X1.here hx rfl (hb hby d6_5) rfl kq) ?_
  show Ogo p e below _ (T1.setTop (mkF m 7 #[.val (.ref ch), .val (.int ((0 : Int32) + (1 : Int32))), .val (.ref by_), .val (.int ((0 : Int32) + (1 : Int32))), .val (.int (1 : Int32)), .val (.int ((0 : Int32) + (1 : Int32))), .val (.int x0)] [(.int (1 : Int32)), (.int ((0 : Int32) + (1 : Int32)))]))
  refine own_via (fun tq kq => XS.icmpYes X1.here hx rfl (pc0 := 7) (pc' := 44) rfl (hb hby d6_7) rfl (flt ((by decide) : ¬ (((0 : Int32) + (1 : Int32)) < (1 : Int32)))).2.1 (by decide) (by decide) kq) ?_
  show Ogo p e below _ (T1.setTop (mkF m 44 #[.val (.ref ch), .val (.int ((0 : Int32) + (1 : Int32))), .val (.ref by_), .val (.int ((0 : Int32) + (1 : Int32))), .val (.int (1 : Int32)), .val (.int ((0 : Int32) + (1 : Int32))), .val (.int x0)] []))
  refine own_via (fun tq kq => XS.iload X1.here hx rfl (hb hby d6_44) rfl kq) ?_
  show Ogo p e below _ (T1.setTop (mkF m 46 #[.val (.ref ch), .val (.int ((0 : Int32) + (1 : Int32))), .val (.ref by_), .val (.int ((0 : Int32) + (1 : Int32))), .val (.int (1 : Int32)), .val (.int ((0 : Int32) + (1 : Int32))), .val (.int x0)] [(.int (1 : Int32))]))
  have A_by := A_by.cast (f' := fun q => .int (own_by x0 x1 q)) (by intro j hj; rcases j with _ | _ | j <;> first | omega | simp [own_by, own_nb])
  exact own_out X1 hlk (fun h => by rw [hret] at h; cases h) (by decide) (by decide) (by first | exact ⟨rfl, N, K, A_by⟩ | (rw [e1]; exact ⟨rfl, N, K, A_by⟩)) (fun fs hr => retI X1 hx hret (hb hby d6_46) hr)
set_option maxRecDepth 65536 in
set_option maxHeartbeats 40000000 in
theorem rm_cm1 {l : Launch} {Z : State} {a0 : Array Value} (hw : ∀ d ∈ tables_1, d.before a0 Z = true) (ch : Addr) (x0 x1 : Int32) (h0 : Heap) (n0 : Nat) (A_ch : Oar Z h0 ch .char 1 (own_ch x0 x1)) (zs : n0 ≤ h0.size) (hx0 : 0 ≤ x0.toInt ∧ x0.toInt ≤ 255) (hx1 : 0 ≤ x1.toInt ∧ x1.toInt ≤ 255) :
    Opays l (⟨"java/lang/StringUTF16", "compress", "([CII)[B"⟩ : MethodName) jdk_52_method_16_code 6 (some (.array .byte)) ({ frames := 1, cells := 1, slots := 2, locals := 18 } : Room) [] Z h0 #[(.ref ch), (.int (0 : Int32)), (.int (1 : Int32))] (fun v h L => Fr n0 L ∧ Keep h0 h [] ∧ ∃ t, v = some (.ref t) ∧ n0 ≤ t ∧ h0.size ≤ t ∧ Oar Z h t .byte 1 (fun q => .int (own_by x0 x1 q))) := by
  refine own_enter (plainFor_of_name pn_0) ?_
  intro p e s m below meth c s₁ hx hby hml0 hown hnm hret hlk hZ e0 X0
  have hml : c.maxLocals = 6 := hml0
  replace hown : s.vm.findClass "java/lang/StringUTF16" = some m.cls := hown
  have N := Fr.nil n0
  have hef : entryFrame m #[(.ref ch), (.int (0 : Int32)), (.int (1 : Int32))] 6 = mkF m 0 #[.val (.ref ch), .val (.int (0 : Int32)), .val (.int (1 : Int32)), .unset, .unset, .unset] [] := by first | (simp [entryFrame, mkF, argsToLocals, Value.category]; done) | rfl
  rw [hef]
  show Ogo p e below _ (s₁.setTop (mkF m 0 #[.val (.ref ch), .val (.int (0 : Int32)), .val (.int (1 : Int32)), .unset, .unset, .unset] []))
  have K := Keep.refl h0 []
  refine own_via (fun tq kq => XS.iloadN X0.here hx rfl (hb hby d5_0) rfl kq) ?_
  show Ogo p e below _ (s₁.setTop (mkF m 1 #[.val (.ref ch), .val (.int (0 : Int32)), .val (.int (1 : Int32)), .unset, .unset, .unset] [(.int (1 : Int32))]))
  obtain ⟨T1, h1, k1, X1, e1, E1, A1, st1⟩ := newP X0 hx hZ (hw _ (List.mem_of_getElem? (i := 23) rfl)) e0 (g := (mkF m 1 #[.val (.ref ch), .val (.int (0 : Int32)), .val (.int (1 : Int32)), .unset, .unset, .unset] [(.int (1 : Int32))])) rfl (hb hby d5_1) rfl (by decide) (cap := 1) (by decide) (by decide) (by decide) (by decide)
  refine own_via st1 ?_
  obtain ⟨t, g1⟩ : ∃ z, z = h0.size := ⟨_, rfl⟩
  rw [← g1]
  rw [← g1] at A1
  have lt_ch_t : ch < t := by rw [g1]; exact A_ch.lt
  have g_t : n0 ≤ t := by rw [g1]; exact zs
  have sz_t : h0.size ≤ t := by rw [g1]; exact K.1
  have A_ch := A_ch.ext E1
  have zs := Nat.le_trans zs E1.1
  have K := K.ext E1
  have A_t : Oar Z h1 t .byte 1 (fun _ => defaultValue .byte) := Oar.new A1 (by decide) rfl
  show Ogo p e below _ (T1.setTop (mkF m 3 #[.val (.ref ch), .val (.int (0 : Int32)), .val (.int (1 : Int32)), .unset, .unset, .unset] [(.ref t)]))
  refine own_via (fun tq kq => XS.astoreN X1.here hx rfl (hb hby d5_3) rfl rfl (l' := #[.val (.ref ch), .val (.int (0 : Int32)), .val (.int (1 : Int32)), .val (.ref t), .unset, .unset]) rfl kq) ?_
  show Ogo p e below _ (T1.setTop (mkF m 4 #[.val (.ref ch), .val (.int (0 : Int32)), .val (.int (1 : Int32)), .val (.ref t), .unset, .unset] []))
  refine own_via (fun tq kq => XS.aloadN X1.here hx rfl (hb hby d5_4) rfl rfl kq) ?_
  show Ogo p e below _ (T1.setTop (mkF m 5 #[.val (.ref ch), .val (.int (0 : Int32)), .val (.int (1 : Int32)), .val (.ref t), .unset, .unset] [(.ref ch)]))
  refine own_via (fun tq kq => XS.iloadN X1.here hx rfl (hb hby d5_5) rfl kq) ?_
  show Ogo p e below _ (T1.setTop (mkF m 6 #[.val (.ref ch), .val (.int (0 : Int32)), .val (.int (1 : Int32)), .val (.ref t), .unset, .unset] [(.int (0 : Int32)), (.ref ch)]))
  refine own_via (fun tq kq => XS.aloadN X1.here hx rfl (hb hby d5_6) rfl rfl kq) ?_
  show Ogo p e below _ (T1.setTop (mkF m 7 #[.val (.ref ch), .val (.int (0 : Int32)), .val (.int (1 : Int32)), .val (.ref t), .unset, .unset] [(.ref t), (.int (0 : Int32)), (.ref ch)]))
  refine own_via (fun tq kq => XS.iconst X1.here hx rfl (hb hby d5_7) kq) ?_
  show Ogo p e below _ (T1.setTop (mkF m 8 #[.val (.ref ch), .val (.int (0 : Int32)), .val (.int (1 : Int32)), .val (.ref t), .unset, .unset] [(.int (0 : Int32)), (.ref t), (.int (0 : Int32)), (.ref ch)]))
  refine own_via (fun tq kq => XS.iloadN X1.here hx rfl (hb hby d5_8) rfl kq) ?_
  show Ogo p e below _ (T1.setTop (mkF m 9 #[.val (.ref ch), .val (.int (0 : Int32)), .val (.int (1 : Int32)), .val (.ref t), .unset, .unset] [(.int (1 : Int32)), (.int (0 : Int32)), (.ref t), (.int (0 : Int32)), (.ref ch)]))
  refine own_callS X1 hx hZ hown (hw _ (List.mem_of_getElem? (i := 24) rfl)) (hw _ (List.mem_of_getElem? (i := 25) rfl)) (hw _ (List.mem_of_getElem? (i := 21) rfl)) (hw _ (List.mem_of_getElem? (i := 26) rfl)) (by decide) (rm_cp1 hw ch t x0 x1 h1 n0 A_ch A_t (Nat.ne_of_lt lt_ch_t) g_t hx0 hx1) rfl e1 (W := 0) (by decide) (by decide) (by decide) (by decide) (by rw [hml]; rfl) (argsL := [(.ref ch), (.int (0 : Int32)), (.ref t), (.int (0 : Int32)), (.int (1 : Int32))]) (rest := []) (lenOf pd_0 rfl) rfl (Nat.le_of_eq rfl) (hb hby d5_9) ?_
  rintro _ T2 L2 X2 ⟨rfl, Nq, Kc, A_t⟩
  have N := N.app Nq
  have A_ch := A_ch.keep Kc (ninS (Nat.ne_of_lt lt_ch_t) nin0)
  have zs := Nat.le_trans zs Kc.1
  have K := K.trans Kc (allS (Or.inr sz_t) all0)
  show Ogo p e below _ (T2.setTop (mkF m 12 #[.val (.ref ch), .val (.int (0 : Int32)), .val (.int (1 : Int32)), .val (.ref t), .unset, .unset] [(.int (1 : Int32))]))
  refine own_via (fun tq kq => XS.istore X2.here hx rfl (hb hby d5_12) rfl (l' := #[.val (.ref ch), .val (.int (0 : Int32)), .val (.int (1 : Int32)), .val (.ref t), .val (.int (1 : Int32)), .unset]) rfl kq) ?_
  show Ogo p e below _ (T2.setTop (mkF m 14 #[.val (.ref ch), .val (.int (0 : Int32)), .val (.int (1 : Int32)), .val (.ref t), .val (.int (1 : Int32)), .unset] []))
  refine own_via (fun tq kq => XS.iload X2.here hx rfl (hb hby d5_14) rfl kq) ?_
  show Ogo p e below _ (T2.setTop (mkF m 16 #[.val (.ref ch), .val (.int (0 : Int32)), .val (.int (1 : Int32)), .val (.ref t), .val (.int (1 : Int32)), .unset] [(.int (1 : Int32))]))
  refine own_via (fun tq kq => XS.iloadN X2.here hx rfl (hb hby d5_16) rfl kq) ?_
  show Ogo p e below _ (T2.setTop (mkF m 17 #[.val (.ref ch), .val (.int (0 : Int32)), .val (.int (1 : Int32)), .val (.ref t), .val (.int (1 : Int32)), .unset] [(.int (1 : Int32)), (.int (1 : Int32))]))
  refine own_via (fun tq kq => XS.icmpYes X2.here hx rfl (pc0 := 17) (pc' := 57) rfl (hb hby d5_17) rfl (teq (rfl : (1 : Int32) = (1 : Int32))).1 (by decide) (by decide) kq) ?_
  show Ogo p e below _ (T2.setTop (mkF m 57 #[.val (.ref ch), .val (.int (0 : Int32)), .val (.int (1 : Int32)), .val (.ref t), .val (.int (1 : Int32)), .unset] []))
  refine own_via (fun tq kq => XS.aloadN X2.here hx rfl (hb hby d5_57) rfl rfl kq) ?_
  show Ogo p e below _ (T2.setTop (mkF m 58 #[.val (.ref ch), .val (.int (0 : Int32)), .val (.int (1 : Int32)), .val (.ref t), .val (.int (1 : Int32)), .unset] [(.ref t)]))
  exact own_out X2 hlk (fun h => by rw [hret] at h; cases h) (by decide) (by decide) (⟨N, K, t, rfl, g_t, (by first | exact sz_t | exact Nat.le_refl _), A_t⟩) (fun fs hr => own_retA X2 hx hret rfl rfl (hb hby d5_58) hr)
set_option maxRecDepth 65536 in
set_option maxHeartbeats 40000000 in
theorem rm_cf1 {l : Launch} {Z : State} {a0 : Array Value} (hw : ∀ d ∈ tables_1, d.before a0 Z = true) (t : Addr) (f : Nat → Value) (h0 : Heap) (n0 : Nat) (A_t : Oar Z h0 t .byte 1 f) :
    Opays l (⟨"java/lang/StringUTF16", "coderFromArrayLen", "([BI)B"⟩ : MethodName) jdk_52_method_15_code 2 (some .byte) ({ frames := 0, cells := 0, slots := 0, locals := 0 } : Room) [] Z h0 #[(.ref t), (.int (1 : Int32))] (fun v h L => v = some (.int 0) ∧ Fr n0 L ∧ h = h0) := by
  refine own_enter (plainFor_of_name pn_0) ?_
  intro p e s m below meth c s₁ hx hby hml0 hown hnm hret hlk hZ e0 X0
  have hml : c.maxLocals = 2 := hml0
  replace hown : s.vm.findClass "java/lang/StringUTF16" = some m.cls := hown
  have N := Fr.nil n0
  have hef : entryFrame m #[(.ref t), (.int (1 : Int32))] 2 = mkF m 0 #[.val (.ref t), .val (.int (1 : Int32))] [] := by first | (simp [entryFrame, mkF, argsToLocals, Value.category]; done) | rfl
  rw [hef]
  show Ogo p e below _ (s₁.setTop (mkF m 0 #[.val (.ref t), .val (.int (1 : Int32))] []))
  refine own_via (fun tq kq => XS.iloadN X0.here hx rfl (hb hby d7_0) rfl kq) ?_
  show Ogo p e below _ (s₁.setTop (mkF m 1 #[.val (.ref t), .val (.int (1 : Int32))] [(.int (1 : Int32))]))
  refine own_via (fun tq kq => XS.aloadN X0.here hx rfl (hb hby d7_1) rfl rfl kq) ?_
  show Ogo p e below _ (s₁.setTop (mkF m 2 #[.val (.ref t), .val (.int (1 : Int32))] [(.ref t), (.int (1 : Int32))]))
  refine own_alen X0 hx hZ e0 A_t (z := (1 : Int32)) rfl (hb hby d7_2) ?_
  show Ogo p e below _ (s₁.setTop (mkF m 3 #[.val (.ref t), .val (.int (1 : Int32))] [(.int (1 : Int32)), (.int (1 : Int32))]))
  refine own_via (fun tq kq => XS.isub X0.here hx rfl (hb hby d7_3) rfl kq) ?_
  show Ogo p e below _ (s₁.setTop (mkF m 4 #[.val (.ref t), .val (.int (1 : Int32))] [(.int ((1 : Int32) - (1 : Int32)))]))
  refine own_via (fun tq kq => XS.bipush X0.here hx rfl (hb hby d7_4) kq) ?_
  show Ogo p e below _ (s₁.setTop (mkF m 6 #[.val (.ref t), .val (.int (1 : Int32))] [(.int (31 : Int32)), (.int ((1 : Int32) - (1 : Int32)))]))
  refine own_via (fun tq kq => XS.iushr X0.here hx rfl (hb hby d7_6) rfl kq) ?_
  show Ogo p e below _ (s₁.setTop (mkF m 7 #[.val (.ref t), .val (.int (1 : Int32))] [(.int ((((1 : Int32) - (1 : Int32)).toUInt32 >>> ((31 : Int32) &&& 31).toUInt32).toInt32))]))
  refine own_via (fun tq kq => XS.i2b X0.here hx rfl (hb hby d7_7) rfl kq) ?_
  show Ogo p e below _ (s₁.setTop (mkF m 8 #[.val (.ref t), .val (.int (1 : Int32))] [(.int (((((1 : Int32) - (1 : Int32)).toUInt32 >>> ((31 : Int32) &&& 31).toUInt32).toInt32).toInt8.toInt32))]))
  exact own_out X0 hlk (fun h => by rw [hret] at h; cases h) (by decide) (by decide) (by first | exact ⟨(by decide +kernel), N, rfl⟩ | (rw [e0]; exact ⟨(by decide +kernel), N, rfl⟩)) (fun fs hr => retN X0 hx (t := .byte) hret (by simp) (hb hby d7_8) hr)
set_option maxRecDepth 65536 in
set_option maxHeartbeats 40000000 in
theorem rm_sv1 {l : Launch} {Z : State} {a0 : Array Value} (hw : ∀ d ∈ tables_1, d.before a0 Z = true) (a ch : Addr) (x0 x1 zc : Int32) (h0 : Heap) (n0 : Nat) (A_ch : Oar Z h0 ch .char 1 (own_ch x0 x1)) (E_a : Exa Z h0 a "java/lang/String") (F_value_a : Fld Z h0 a "java/lang/String" "value" "[B" .null) (F_coder_a : Fld Z h0 a "java/lang/String" "coder" "B" (.int (0 : Int32))) (g_a : n0 ≤ a) (zs : n0 ≤ h0.size) (SCO : Sta Z Z.heap "java/lang/String" "COMPACT_STRINGS" "Z" (.int zc)) (hzc : ¬ zc = 0) (O : Old Z n0 h0) (hne : ch ≠ a) (hx0 : 0 ≤ x0.toInt ∧ x0.toInt ≤ 255) (hx1 : 0 ≤ x1.toInt ∧ x1.toInt ≤ 255) :
    Opays l (⟨"java/lang/String", "<init>", "([CIILjava/lang/Void;)V"⟩ : MethodName) jdk_42_method_149_code 6 none ({ frames := 2, cells := 1, slots := 2, locals := 35 } : Room) [] Z h0 #[(.ref a), (.ref ch), (.int (0 : Int32)), (.int (1 : Int32)), .null] (fun v h L => v = none ∧ Fr n0 L ∧ Keep h0 h [a] ∧ Fld Z h a "java/lang/String" "coder" "B" (.int 0) ∧ ∃ t, Fld Z h a "java/lang/String" "value" "[B" (.ref t) ∧ Oar Z h t .byte 1 (fun q => .int (own_by x0 x1 q))) := by
  refine own_enter (plainFor_of_name pn_1) ?_
  intro p e s m below meth c s₁ hx hby hml0 hown hnm hret hlk hZ e0 X0
  have hml : c.maxLocals = 6 := hml0
  replace hown : s.vm.findClass "java/lang/String" = some m.cls := hown
  have N := Fr.nil n0
  have hef : entryFrame m #[(.ref a), (.ref ch), (.int (0 : Int32)), (.int (1 : Int32)), .null] 6 = mkF m 0 #[.val (.ref a), .val (.ref ch), .val (.int (0 : Int32)), .val (.int (1 : Int32)), .val .null, .unset] [] := by first | (simp [entryFrame, mkF, argsToLocals, Value.category]; done) | rfl
  rw [hef]
  show Ogo p e below _ (s₁.setTop (mkF m 0 #[.val (.ref a), .val (.ref ch), .val (.int (0 : Int32)), .val (.int (1 : Int32)), .val .null, .unset] []))
  have K := Keep.refl h0 [a]
  refine own_via (fun tq kq => XS.aloadN X0.here hx rfl (hb hby d3_0) rfl rfl kq) ?_
  show Ogo p e below _ (s₁.setTop (mkF m 1 #[.val (.ref a), .val (.ref ch), .val (.int (0 : Int32)), .val (.int (1 : Int32)), .val .null, .unset] [(.ref a)]))
  obtain ⟨T1, X1, e1, st1⟩ := initO X0 hx hZ hown (hw _ (List.mem_of_getElem? (i := 15) rfl)) (hw _ (List.mem_of_getElem? (i := 16) rfl)) (hw _ (List.mem_of_getElem? (i := 17) rfl)) e0 (g := (mkF m 1 #[.val (.ref a), .val (.ref ch), .val (.int (0 : Int32)), .val (.int (1 : Int32)), .val .null, .unset] [(.ref a)])) rfl (by rw [hml]; rfl) rfl (hb hby d3_1) (by decide) (W := 0) (by show 2 * 0 + _ ≤ _; exact Nat.le_of_eq rfl) (by decide)
  refine own_via st1 ?_
  show Ogo p e below _ (T1.setTop (mkF m 4 #[.val (.ref a), .val (.ref ch), .val (.int (0 : Int32)), .val (.int (1 : Int32)), .val .null, .unset] []))
  refine own_via (fun tq kq => XS.iloadN X1.here hx rfl (hb hby d3_4) rfl kq) ?_
  show Ogo p e below _ (T1.setTop (mkF m 5 #[.val (.ref a), .val (.ref ch), .val (.int (0 : Int32)), .val (.int (1 : Int32)), .val .null, .unset] [(.int (1 : Int32))]))
  refine own_via (fun tq kq => XS.ifYes X1.here hx rfl (pc0 := 5) (pc' := 27) rfl (hb hby d3_5) rfl ((if0 _ _).trans (feq ((by decide) : ¬ ((1 : Int32) = (0 : Int32)))).2) (by decide) (by decide) kq) ?_
  show Ogo p e below _ (T1.setTop (mkF m 27 #[.val (.ref a), .val (.ref ch), .val (.int (0 : Int32)), .val (.int (1 : Int32)), .val .null, .unset] []))
  obtain ⟨T2, X2, e2, st2⟩ := getS2 X1 hx hZ hown (host := "") (Or.inl (hw _ (List.mem_of_getElem? (i := 18) rfl))) Via.refl e1 (SCO.ext O.2) (g := (mkF m 27 #[.val (.ref a), .val (.ref ch), .val (.int (0 : Int32)), .val (.int (1 : Int32)), .val .null, .unset] [])) rfl (hb hby d3_27)
  refine own_via st2 ?_
  show Ogo p e below _ (T2.setTop (mkF m 30 #[.val (.ref a), .val (.ref ch), .val (.int (0 : Int32)), .val (.int (1 : Int32)), .val .null, .unset] [(.int zc)]))
  refine own_via (fun tq kq => XS.ifNo X2.here hx rfl (hb hby d3_30) rfl ((if0 _ _).trans (feq (hzc : ¬ (zc = (0 : Int32)))).1) kq) ?_
  show Ogo p e below _ (T2.setTop (mkF m 33 #[.val (.ref a), .val (.ref ch), .val (.int (0 : Int32)), .val (.int (1 : Int32)), .val .null, .unset] []))
  refine own_via (fun tq kq => XS.aloadN X2.here hx rfl (hb hby d3_33) rfl rfl kq) ?_
  show Ogo p e below _ (T2.setTop (mkF m 34 #[.val (.ref a), .val (.ref ch), .val (.int (0 : Int32)), .val (.int (1 : Int32)), .val .null, .unset] [(.ref ch)]))
  refine own_via (fun tq kq => XS.iloadN X2.here hx rfl (hb hby d3_34) rfl kq) ?_
  show Ogo p e below _ (T2.setTop (mkF m 35 #[.val (.ref a), .val (.ref ch), .val (.int (0 : Int32)), .val (.int (1 : Int32)), .val .null, .unset] [(.int (0 : Int32)), (.ref ch)]))
  refine own_via (fun tq kq => XS.iloadN X2.here hx rfl (hb hby d3_35) rfl kq) ?_
  show Ogo p e below _ (T2.setTop (mkF m 36 #[.val (.ref a), .val (.ref ch), .val (.int (0 : Int32)), .val (.int (1 : Int32)), .val .null, .unset] [(.int (1 : Int32)), (.int (0 : Int32)), (.ref ch)]))
  refine own_callS X2 hx hZ hown (hw _ (List.mem_of_getElem? (i := 19) rfl)) (hw _ (List.mem_of_getElem? (i := 20) rfl)) (hw _ (List.mem_of_getElem? (i := 21) rfl)) (hw _ (List.mem_of_getElem? (i := 22) rfl)) (by decide) (rm_cm1 hw ch x0 x1 h0 n0 A_ch zs hx0 hx1) rfl e2 (W := 0) (by decide) (by decide) (by decide) (by decide) (by rw [hml]; rfl) (argsL := [(.ref ch), (.int (0 : Int32)), (.int (1 : Int32))]) (rest := []) (lenOf pd_1 rfl) rfl (Nat.le_of_eq rfl) (hb hby d3_36) ?_
  rintro _ T3 L3 X3 ⟨Nq, Kc, t, rfl, g_t, hszt, A_t⟩
  have N := N.app Nq
  have lt_a_t : a < t := Nat.lt_of_lt_of_le E_a.lt hszt
  have E_a := E_a.keep Kc
  have F_value_a := F_value_a.keep Kc nin0
  have F_coder_a := F_coder_a.keep Kc nin0
  have A_ch := A_ch.keep Kc nin0
  have zs := Nat.le_trans zs Kc.1
  have O := O.keep Kc all0
  have K := K.trans Kc all0
  show Ogo p e below _ (T3.setTop (mkF m 39 #[.val (.ref a), .val (.ref ch), .val (.int (0 : Int32)), .val (.int (1 : Int32)), .val .null, .unset] [(.ref t)]))
  refine own_via (fun tq kq => XS.astore X3.here hx rfl (hb hby d3_39) rfl rfl (l' := #[.val (.ref a), .val (.ref ch), .val (.int (0 : Int32)), .val (.int (1 : Int32)), .val .null, .val (.ref t)]) rfl kq) ?_
  show Ogo p e below _ (T3.setTop (mkF m 41 #[.val (.ref a), .val (.ref ch), .val (.int (0 : Int32)), .val (.int (1 : Int32)), .val .null, .val (.ref t)] []))
  refine own_via (fun tq kq => XS.aloadN X3.here hx rfl (hb hby d3_41) rfl rfl kq) ?_
  show Ogo p e below _ (T3.setTop (mkF m 42 #[.val (.ref a), .val (.ref ch), .val (.int (0 : Int32)), .val (.int (1 : Int32)), .val .null, .val (.ref t)] [(.ref a)]))
  refine own_via (fun tq kq => XS.aload X3.here hx rfl (hb hby d3_42) rfl rfl kq) ?_
  show Ogo p e below _ (T3.setTop (mkF m 44 #[.val (.ref a), .val (.ref ch), .val (.int (0 : Int32)), .val (.int (1 : Int32)), .val .null, .val (.ref t)] [(.ref t), (.ref a)]))
  refine own_via (fun tq kq => XS.iloadN X3.here hx rfl (hb hby d3_44) rfl kq) ?_
  show Ogo p e below _ (T3.setTop (mkF m 45 #[.val (.ref a), .val (.ref ch), .val (.int (0 : Int32)), .val (.int (1 : Int32)), .val .null, .val (.ref t)] [(.int (1 : Int32)), (.ref t), (.ref a)]))
  refine own_callS X3 hx hZ hown (hw _ (List.mem_of_getElem? (i := 27) rfl)) (hw _ (List.mem_of_getElem? (i := 28) rfl)) (hw _ (List.mem_of_getElem? (i := 21) rfl)) (hw _ (List.mem_of_getElem? (i := 29) rfl)) (by decide) (rm_cf1 hw t _ T3.heap n0 A_t) rfl rfl (W := 1) (by decide) (by decide) (by decide) (by decide) (by rw [hml]; rfl) (argsL := [(.ref t), (.int (1 : Int32))]) (rest := [(.ref a)]) (lenOf pd_2 rfl) rfl (Nat.le_of_eq rfl) (hb hby d3_45) ?_
  rintro _ T4 L4 X4 ⟨rfl, Nq, hk⟩
  have N := N.app Nq
  have hk4 := hk
  show Ogo p e below _ (T4.setTop (mkF m 48 #[.val (.ref a), .val (.ref ch), .val (.int (0 : Int32)), .val (.int (1 : Int32)), .val .null, .val (.ref t)] [(.int (0 : Int32)), (.ref a)]))
  obtain ⟨T5, h5, X5, e5, W5, st5⟩ := putFN X4 hx hZ hown (hw _ (List.mem_of_getElem? (i := 30) rfl)) Via.refl hk4 F_coder_a E_a (Or.inr ⟨(hw _ (List.mem_of_getElem? (i := 31) rfl)), rfl, hnm⟩) (hw _ (List.mem_of_getElem? (i := 5) rfl)) (ty := .byte) (v' := (.int 0)) (by decide) rfl (by decide) (g := (mkF m 48 #[.val (.ref a), .val (.ref ch), .val (.int (0 : Int32)), .val (.int (1 : Int32)), .val .null, .val (.ref t)] [(.int (0 : Int32)), (.ref a)])) rfl rfl (hb hby d3_48)
  refine own_via st5 ?_
  have E_a := E_a.wr W5
  have F_value_a := F_value_a.other W5 (Or.inr (slot_ne (Or.inr (hw _ (List.mem_of_getElem? (i := 33) rfl))) (Or.inr (hw _ (List.mem_of_getElem? (i := 31) rfl))) (by decide) (t := (.array .byte)) (t' := .byte) (by decide) (by decide)))
  have F_coder_a := F_coder_a.same W5
  have A_t := A_t.other W5 (Nat.ne_of_gt lt_a_t)
  have zs := Nat.le_trans zs (Keep.of_wr W5).1
  have O := O.wr W5 g_a
  have K := K.wr W5 (Or.inl (List.mem_of_getElem? (i := 0) rfl))
  have N := Fr.snoc X5 N g_a
  show Ogo p e below _ (T5.setTop (mkF m 51 #[.val (.ref a), .val (.ref ch), .val (.int (0 : Int32)), .val (.int (1 : Int32)), .val .null, .val (.ref t)] []))
  refine own_via (fun tq kq => XS.aloadN X5.here hx rfl (hb hby d3_51) rfl rfl kq) ?_
  show Ogo p e below _ (T5.setTop (mkF m 52 #[.val (.ref a), .val (.ref ch), .val (.int (0 : Int32)), .val (.int (1 : Int32)), .val .null, .val (.ref t)] [(.ref a)]))
  refine own_via (fun tq kq => XS.aload X5.here hx rfl (hb hby d3_52) rfl rfl kq) ?_
  show Ogo p e below _ (T5.setTop (mkF m 54 #[.val (.ref a), .val (.ref ch), .val (.int (0 : Int32)), .val (.int (1 : Int32)), .val .null, .val (.ref t)] [(.ref t), (.ref a)]))
  obtain ⟨T6, h6, X6, e6, W6, st6⟩ := putF X5 hx hZ hown (host := "") (Or.inl (hw _ (List.mem_of_getElem? (i := 32) rfl))) Via.refl e5 F_value_a E_a (Or.inr ⟨(hw _ (List.mem_of_getElem? (i := 33) rfl)), rfl, hnm⟩) (hw _ (List.mem_of_getElem? (i := 5) rfl)) (ty := (.array .byte)) (by decide) rfl rfl (g := (mkF m 54 #[.val (.ref a), .val (.ref ch), .val (.int (0 : Int32)), .val (.int (1 : Int32)), .val .null, .val (.ref t)] [(.ref t), (.ref a)])) rfl rfl (hb hby d3_54)
  refine own_via st6 ?_
  have E_a := E_a.wr W6
  have F_value_a := F_value_a.same W6
  have F_coder_a := F_coder_a.other W6 (Or.inr (slot_ne (Or.inr (hw _ (List.mem_of_getElem? (i := 31) rfl))) (Or.inr (hw _ (List.mem_of_getElem? (i := 33) rfl))) (by decide) (t := .byte) (t' := (.array .byte)) (by decide) (by decide)))
  have A_t := A_t.other W6 (Nat.ne_of_gt lt_a_t)
  have zs := Nat.le_trans zs (Keep.of_wr W6).1
  have O := O.wr W6 g_a
  have K := K.wr W6 (Or.inl (List.mem_of_getElem? (i := 0) rfl))
  have N := Fr.snoc X6 N g_a
  show Ogo p e below _ (T6.setTop (mkF m 57 #[.val (.ref a), .val (.ref ch), .val (.int (0 : Int32)), .val (.int (1 : Int32)), .val .null, .val (.ref t)] []))
  exact own_out X6 hlk (fun _ => rfl) (by decide) (by decide) (by first | exact ⟨rfl, N, K, F_coder_a, t, F_value_a, A_t⟩ | (rw [e6]; exact ⟨rfl, N, K, F_coder_a, t, F_value_a, A_t⟩)) (fun fs hr => X6.returnOut hx hret (hb hby d3_57) hr)
set_option maxRecDepth 65536 in
set_option maxHeartbeats 40000000 in
theorem rm_sc1 {l : Launch} {Z : State} {a0 : Array Value} (hw : ∀ d ∈ tables_1, d.before a0 Z = true) (a ch : Addr) (x0 x1 zc : Int32) (h0 : Heap) (n0 : Nat) (A_ch : Oar Z h0 ch .char 1 (own_ch x0 x1)) (E_a : Exa Z h0 a "java/lang/String") (F_value_a : Fld Z h0 a "java/lang/String" "value" "[B" .null) (F_coder_a : Fld Z h0 a "java/lang/String" "coder" "B" (.int (0 : Int32))) (g_a : n0 ≤ a) (zs : n0 ≤ h0.size) (SCO : Sta Z Z.heap "java/lang/String" "COMPACT_STRINGS" "Z" (.int zc)) (hzc : ¬ zc = 0) (O : Old Z n0 h0) (hne : ch ≠ a) (hx0 : 0 ≤ x0.toInt ∧ x0.toInt ≤ 255) (hx1 : 0 ≤ x1.toInt ∧ x1.toInt ≤ 255) :
    Opays l (⟨"java/lang/String", "<init>", "([C)V"⟩ : MethodName) jdk_42_method_3_code 2 none ({ frames := 3, cells := 1, slots := 2, locals := 52 } : Room) [] Z h0 #[(.ref a), (.ref ch)] (fun v h L => v = none ∧ Fr n0 L ∧ Keep h0 h [a] ∧ Fld Z h a "java/lang/String" "coder" "B" (.int 0) ∧ ∃ t, Fld Z h a "java/lang/String" "value" "[B" (.ref t) ∧ Oar Z h t .byte 1 (fun q => .int (own_by x0 x1 q))) := by
  refine own_enter (plainFor_of_name pn_1) ?_
  intro p e s m below meth c s₁ hx hby hml0 hown hnm hret hlk hZ e0 X0
  have hml : c.maxLocals = 2 := hml0
  replace hown : s.vm.findClass "java/lang/String" = some m.cls := hown
  have N := Fr.nil n0
  have hef : entryFrame m #[(.ref a), (.ref ch)] 2 = mkF m 0 #[.val (.ref a), .val (.ref ch)] [] := by first | (simp [entryFrame, mkF, argsToLocals, Value.category]; done) | rfl
  rw [hef]
  show Ogo p e below _ (s₁.setTop (mkF m 0 #[.val (.ref a), .val (.ref ch)] []))
  have K := Keep.refl h0 [a]
  refine own_via (fun tq kq => XS.aloadN X0.here hx rfl (hb hby d2_0) rfl rfl kq) ?_
  show Ogo p e below _ (s₁.setTop (mkF m 1 #[.val (.ref a), .val (.ref ch)] [(.ref a)]))
  refine own_via (fun tq kq => XS.aloadN X0.here hx rfl (hb hby d2_1) rfl rfl kq) ?_
  show Ogo p e below _ (s₁.setTop (mkF m 2 #[.val (.ref a), .val (.ref ch)] [(.ref ch), (.ref a)]))
  refine own_via (fun tq kq => XS.iconst X0.here hx rfl (hb hby d2_2) kq) ?_
  show Ogo p e below _ (s₁.setTop (mkF m 3 #[.val (.ref a), .val (.ref ch)] [(.int (0 : Int32)), (.ref ch), (.ref a)]))
  refine own_via (fun tq kq => XS.aloadN X0.here hx rfl (hb hby d2_3) rfl rfl kq) ?_
  show Ogo p e below _ (s₁.setTop (mkF m 4 #[.val (.ref a), .val (.ref ch)] [(.ref ch), (.int (0 : Int32)), (.ref ch), (.ref a)]))
  refine own_alen X0 hx hZ e0 A_ch (z := (1 : Int32)) rfl (hb hby d2_4) ?_
  show Ogo p e below _ (s₁.setTop (mkF m 5 #[.val (.ref a), .val (.ref ch)] [(.int (1 : Int32)), (.int (0 : Int32)), (.ref ch), (.ref a)]))
  refine own_via (fun tq kq => XS.aconstNull X0.here hx rfl (hb hby d2_5) kq) ?_
  show Ogo p e below _ (s₁.setTop (mkF m 6 #[.val (.ref a), .val (.ref ch)] [.null, (.int (1 : Int32)), (.int (0 : Int32)), (.ref ch), (.ref a)]))
  refine own_callI X0 hx hZ rfl hown (hw _ (List.mem_of_getElem? (i := 11) rfl)) (hw _ (List.mem_of_getElem? (i := 12) rfl)) (hw _ (List.mem_of_getElem? (i := 6) rfl)) (hw _ (List.mem_of_getElem? (i := 14) rfl)) (by decide) (rm_sv1 hw a ch x0 x1 zc h0 n0 A_ch E_a F_value_a F_coder_a g_a zs SCO hzc O hne hx0 hx1) rfl e0 (W := 0) (by decide) (by decide) (by decide) (by decide) (by rw [hml]; rfl) (a := a) (argsL := [(.ref ch), (.int (0 : Int32)), (.int (1 : Int32)), .null]) (rest := []) (lenOf pd_3 rfl) rfl (Nat.le_of_eq rfl) (hb hby d2_6) ?_
  rintro _ T1 L1 X1 ⟨rfl, Nq, Kc, hres⟩
  have N := N.app Nq
  have E_a := E_a.keep Kc
  have A_ch := A_ch.keep Kc (ninS hne nin0)
  have zs := Nat.le_trans zs Kc.1
  have O := O.keep Kc (allS g_a all0)
  have K := K.trans Kc (allS (Or.inl (List.mem_of_getElem? (i := 0) rfl)) all0)
  show Ogo p e below _ (T1.setTop (mkF m 9 #[.val (.ref a), .val (.ref ch)] []))
  exact own_out X1 hlk (fun _ => rfl) (by decide) (by decide) (⟨rfl, N, K, hres⟩) (fun fs hr => X1.returnOut hx hret (hb hby d2_9) hr)
set_option maxRecDepth 65536 in
set_option maxHeartbeats 40000000 in
theorem rm_cp2 {l : Launch} {Z : State} {a0 : Array Value} (hw : ∀ d ∈ tables_1, d.before a0 Z = true) (ch by_ : Addr) (x0 x1 : Int32) (h0 : Heap) (n0 : Nat) (A_ch : Oar Z h0 ch .char 2 (own_ch x0 x1)) (A_by : Oar Z h0 by_ .byte 2 (fun _ => defaultValue .byte)) (hne : ch ≠ by_) (g_by : n0 ≤ by_) (hx0 : 0 ≤ x0.toInt ∧ x0.toInt ≤ 255) (hx1 : 0 ≤ x1.toInt ∧ x1.toInt ≤ 255) :
    Opays l (⟨"java/lang/StringUTF16", "compress", "([CI[BII)I"⟩ : MethodName) jdk_52_method_21_code 7 (some .int) ({ frames := 0, cells := 0, slots := 0, locals := 0 } : Room) [] Z h0 #[(.ref ch), (.int (0 : Int32)), (.ref by_), (.int (0 : Int32)), (.int (2 : Int32))] (fun v h L => v = some (.int (2 : Int32)) ∧ Fr n0 L ∧ Keep h0 h [by_] ∧ Oar Z h by_ .byte 2 (fun q => .int (own_by x0 x1 q))) := by
  refine own_enter (plainFor_of_name pn_0) ?_
  intro p e s m below meth c s₁ hx hby hml0 hown hnm hret hlk hZ e0 X0
  have hml : c.maxLocals = 7 := hml0
  replace hown : s.vm.findClass "java/lang/StringUTF16" = some m.cls := hown
  have N := Fr.nil n0
  have hef : entryFrame m #[(.ref ch), (.int (0 : Int32)), (.ref by_), (.int (0 : Int32)), (.int (2 : Int32))] 7 = mkF m 0 #[.val (.ref ch), .val (.int (0 : Int32)), .val (.ref by_), .val (.int (0 : Int32)), .val (.int (2 : Int32)), .unset, .unset] [] := by first | (simp [entryFrame, mkF, argsToLocals, Value.category]; done) | rfl
  rw [hef]
  show Ogo p e below _ (s₁.setTop (mkF m 0 #[.val (.ref ch), .val (.int (0 : Int32)), .val (.ref by_), .val (.int (0 : Int32)), .val (.int (2 : Int32)), .unset, .unset] []))
  have K := Keep.refl h0 [by_]
  have l255 : (255 : Int32).toInt = 255 := rfl
  refine own_via (fun tq kq => XS.iconst X0.here hx rfl (hb hby d6_0) kq) ?_
  show Ogo p e below _ (s₁.setTop (mkF m 1 #[.val (.ref ch), .val (.int (0 : Int32)), .val (.ref by_), .val (.int (0 : Int32)), .val (.int (2 : Int32)), .unset, .unset] [(.int (0 : Int32))]))
  refine own_via (fun tq kq => XS.istore X0.here hx rfl (hb hby d6_1) rfl (l' := #[.val (.ref ch), .val (.int (0 : Int32)), .val (.ref by_), .val (.int (0 : Int32)), .val (.int (2 : Int32)), .val (.int (0 : Int32)), .unset]) rfl kq) ?_
  show Ogo p e below _ (s₁.setTop (mkF m 3 #[.val (.ref ch), .val (.int (0 : Int32)), .val (.ref by_), .val (.int (0 : Int32)), .val (.int (2 : Int32)), .val (.int (0 : Int32)), .unset] []))
  refine own_via (fun tq kq => XS.iload X0.here hx rfl (hb hby d6_3) rfl kq) ?_
  show Ogo p e below _ (s₁.setTop (mkF m 5 #[.val (.ref ch), .val (.int (0 : Int32)), .val (.ref by_), .val (.int (0 : Int32)), .val (.int (2 : Int32)), .val (.int (0 : Int32)), .unset] [(.int (0 : Int32))]))
  refine own_via (fun tq kq => XS.iload X0.here hx rfl (hb hby d6_5) rfl kq) ?_
  show Ogo p e below _ (s₁.setTop (mkF m 7 #[.val (.ref ch), .val (.int (0 : Int32)), .val (.ref by_), .val (.int (0 : Int32)), .val (.int (2 : Int32)), .val (.int (0 : Int32)), .unset] [(.int (2 : Int32)), (.int (0 : Int32))]))
  refine own_via (fun tq kq => XS.icmpNo X0.here hx rfl (hb hby d6_7) rfl (tlt ((by decide) : (0 : Int32) < (2 : Int32))).2.1 kq) ?_
  show Ogo p e below _ (s₁.setTop (mkF m 10 #[.val (.ref ch), .val (.int (0 : Int32)), .val (.ref by_), .val (.int (0 : Int32)), .val (.int (2 : Int32)), .val (.int (0 : Int32)), .unset] []))
  refine own_via (fun tq kq => XS.aloadN X0.here hx rfl (hb hby d6_10) rfl rfl kq) ?_
  show Ogo p e below _ (s₁.setTop (mkF m 11 #[.val (.ref ch), .val (.int (0 : Int32)), .val (.ref by_), .val (.int (0 : Int32)), .val (.int (2 : Int32)), .val (.int (0 : Int32)), .unset] [(.ref ch)]))
  refine own_via (fun tq kq => XS.iloadN X0.here hx rfl (hb hby d6_11) rfl kq) ?_
  show Ogo p e below _ (s₁.setTop (mkF m 12 #[.val (.ref ch), .val (.int (0 : Int32)), .val (.ref by_), .val (.int (0 : Int32)), .val (.int (2 : Int32)), .val (.int (0 : Int32)), .unset] [(.int (0 : Int32)), (.ref ch)]))
  refine own_cald X0 hx hZ e0 A_ch (j := (0 : Int32)) (i := 0) (v := (.int x0)) (by decide) (by decide) rfl (hb hby d6_12) ?_
  show Ogo p e below _ (s₁.setTop (mkF m 13 #[.val (.ref ch), .val (.int (0 : Int32)), .val (.ref by_), .val (.int (0 : Int32)), .val (.int (2 : Int32)), .val (.int (0 : Int32)), .unset] [(.int x0)]))
  refine own_via (fun tq kq => XS.istore X0.here hx rfl (hb hby d6_13) rfl (l' := #[.val (.ref ch), .val (.int (0 : Int32)), .val (.ref by_), .val (.int (0 : Int32)), .val (.int (2 : Int32)), .val (.int (0 : Int32)), .val (.int x0)]) rfl kq) ?_
  show Ogo p e below _ (s₁.setTop (mkF m 15 #[.val (.ref ch), .val (.int (0 : Int32)), .val (.ref by_), .val (.int (0 : Int32)), .val (.int (2 : Int32)), .val (.int (0 : Int32)), .val (.int x0)] []))
  refine own_via (fun tq kq => XS.iload X0.here hx rfl (hb hby d6_15) rfl kq) ?_
  show Ogo p e below _ (s₁.setTop (mkF m 17 #[.val (.ref ch), .val (.int (0 : Int32)), .val (.ref by_), .val (.int (0 : Int32)), .val (.int (2 : Int32)), .val (.int (0 : Int32)), .val (.int x0)] [(.int x0)]))
  refine own_via (fun tq kq => XS.sipush X0.here hx rfl (hb hby d6_17) kq) ?_
  show Ogo p e below _ (s₁.setTop (mkF m 20 #[.val (.ref ch), .val (.int (0 : Int32)), .val (.ref by_), .val (.int (0 : Int32)), .val (.int (2 : Int32)), .val (.int (0 : Int32)), .val (.int x0)] [(.int (255 : Int32)), (.int x0)]))
  refine own_via (fun tq kq => XS.icmpYes X0.here hx rfl (pc0 := 20) (pc' := 26) rfl (hb hby d6_20) rfl (flt (i_nlt (by omega) : ¬ ((255 : Int32) < x0))).2.2.2 (by decide) (by decide) kq) ?_
  show Ogo p e below _ (s₁.setTop (mkF m 26 #[.val (.ref ch), .val (.int (0 : Int32)), .val (.ref by_), .val (.int (0 : Int32)), .val (.int (2 : Int32)), .val (.int (0 : Int32)), .val (.int x0)] []))
  refine own_via (fun tq kq => XS.aloadN X0.here hx rfl (hb hby d6_26) rfl rfl kq) ?_
  show Ogo p e below _ (s₁.setTop (mkF m 27 #[.val (.ref ch), .val (.int (0 : Int32)), .val (.ref by_), .val (.int (0 : Int32)), .val (.int (2 : Int32)), .val (.int (0 : Int32)), .val (.int x0)] [(.ref by_)]))
  refine own_via (fun tq kq => XS.iloadN X0.here hx rfl (hb hby d6_27) rfl kq) ?_
  show Ogo p e below _ (s₁.setTop (mkF m 28 #[.val (.ref ch), .val (.int (0 : Int32)), .val (.ref by_), .val (.int (0 : Int32)), .val (.int (2 : Int32)), .val (.int (0 : Int32)), .val (.int x0)] [(.int (0 : Int32)), (.ref by_)]))
  refine own_via (fun tq kq => XS.iload X0.here hx rfl (hb hby d6_28) rfl kq) ?_
  show Ogo p e below _ (s₁.setTop (mkF m 30 #[.val (.ref ch), .val (.int (0 : Int32)), .val (.ref by_), .val (.int (0 : Int32)), .val (.int (2 : Int32)), .val (.int (0 : Int32)), .val (.int x0)] [(.int x0), (.int (0 : Int32)), (.ref by_)]))
  refine own_via (fun tq kq => XS.i2b X0.here hx rfl (hb hby d6_30) rfl kq) ?_
  show Ogo p e below _ (s₁.setTop (mkF m 31 #[.val (.ref ch), .val (.int (0 : Int32)), .val (.ref by_), .val (.int (0 : Int32)), .val (.int (2 : Int32)), .val (.int (0 : Int32)), .val (.int x0)] [(.int (x0.toInt8.toInt32)), (.int (0 : Int32)), (.ref by_)]))
  obtain ⟨T1, h1, X1, e1, W1, A_by', st1⟩ := own_bast X0 hx hZ e0 A_by (x := (x0.toInt8.toInt32)) (j := (0 : Int32)) (i := 0) (by decide) (by decide) (pc := 31) (Ls := #[.val (.ref ch), .val (.int (0 : Int32)), .val (.ref by_), .val (.int (0 : Int32)), .val (.int (2 : Int32)), .val (.int (0 : Int32)), .val (.int x0)]) (rest := []) (hb hby d6_31)
  refine own_via st1 ?_
  have A_ch := A_ch.other W1 hne
  have K := K.wr W1 (Or.inl (List.mem_of_getElem? (i := 0) rfl))
  have N := Fr.snoc X1 N g_by
  have A_by := A_by'
  show Ogo p e below _ (T1.setTop (mkF m 32 #[.val (.ref ch), .val (.int (0 : Int32)), .val (.ref by_), .val (.int (0 : Int32)), .val (.int (2 : Int32)), .val (.int (0 : Int32)), .val (.int x0)] []))
  refine own_via (fun tq kq => XS.iinc X1.here hx rfl (hb hby d6_32) rfl (l' := #[.val (.ref ch), .val (.int ((0 : Int32) + (1 : Int32))), .val (.ref by_), .val (.int (0 : Int32)), .val (.int (2 : Int32)), .val (.int (0 : Int32)), .val (.int x0)]) rfl kq) ?_
  show Ogo p e below _ (T1.setTop (mkF m 35 #[.val (.ref ch), .val (.int ((0 : Int32) + (1 : Int32))), .val (.ref by_), .val (.int (0 : Int32)), .val (.int (2 : Int32)), .val (.int (0 : Int32)), .val (.int x0)] []))
  refine own_via (fun tq kq => XS.iinc X1.here hx rfl (hb hby d6_35) rfl (l' := #[.val (.ref ch), .val (.int ((0 : Int32) + (1 : Int32))), .val (.ref by_), .val (.int ((0 : Int32) + (1 : Int32))), .val (.int (2 : Int32)), .val (.int (0 : Int32)), .val (.int x0)]) rfl kq) ?_
  show Ogo p e below _ (T1.setTop (mkF m 38 #[.val (.ref ch), .val (.int ((0 : Int32) + (1 : Int32))), .val (.ref by_), .val (.int ((0 : Int32) + (1 : Int32))), .val (.int (2 : Int32)), .val (.int (0 : Int32)), .val (.int x0)] []))
  refine own_via (fun tq kq => XS.iinc X1.here hx rfl (hb hby d6_38) rfl (l' := #[.val (.ref ch), .val (.int ((0 : Int32) + (1 : Int32))), .val (.ref by_), .val (.int ((0 : Int32) + (1 : Int32))), .val (.int (2 : Int32)), .val (.int ((0 : Int32) + (1 : Int32))), .val (.int x0)]) rfl kq) ?_
  show Ogo p e below _ (T1.setTop (mkF m 41 #[.val (.ref ch), .val (.int ((0 : Int32) + (1 : Int32))), .val (.ref by_), .val (.int ((0 : Int32) + (1 : Int32))), .val (.int (2 : Int32)), .val (.int ((0 : Int32) + (1 : Int32))), .val (.int x0)] []))
  refine own_via (fun tq kq => XS.goto X1.here hx rfl (pc0 := 41) (pc' := 3) rfl (hb hby d6_41) (by decide) (by decide) kq) ?_
  show Ogo p e below _ (T1.setTop (mkF m 3 #[.val (.ref ch), .val (.int ((0 : Int32) + (1 : Int32))), .val (.ref by_), .val (.int ((0 : Int32) + (1 : Int32))), .val (.int (2 : Int32)), .val (.int ((0 : Int32) + (1 : Int32))), .val (.int x0)] []))
  refine own_via (fun tq kq => XS.iload X1.here hx rfl (hb hby d6_3) rfl kq) ?_
  show Ogo p e below _ (T1.setTop (mkF m 5 #[.val (.ref ch), .val (.int ((0 : Int32) + (1 : Int32))), .val (.ref by_), .val (.int ((0 : Int32) + (1 : Int32))), .val (.int (2 : Int32)), .val (.int ((0 : Int32) + (1 : Int32))), .val (.int x0)] [(.int ((0 : Int32) + (1 : Int32)))]))
  refine own_via (fun tq kq => XS.iload X1.here hx rfl (hb hby d6_5) rfl kq) ?_
  show Ogo p e below _ (T1.setTop (mkF m 7 #[.val (.ref ch), .val (.int ((0 : Int32) + (1 : Int32))), .val (.ref by_), .val (.int ((0 : Int32) + (1 : Int32))), .val (.int (2 : Int32)), .val (.int ((0 : Int32) + (1 : Int32))), .val (.int x0)] [(.int (2 : Int32)), (.int ((0 : Int32) + (1 : Int32)))]))
  refine own_via (fun tq kq => XS.icmpNo X1.here hx rfl (hb hby d6_7) rfl (tlt ((by decide) : ((0 : Int32) + (1 : Int32)) < (2 : Int32))).2.1 kq) ?_
  show Ogo p e below _ (T1.setTop (mkF m 10 #[.val (.ref ch), .val (.int ((0 : Int32) + (1 : Int32))), .val (.ref by_), .val (.int ((0 : Int32) + (1 : Int32))), .val (.int (2 : Int32)), .val (.int ((0 : Int32) + (1 : Int32))), .val (.int x0)] []))
  refine own_via (fun tq kq => XS.aloadN X1.here hx rfl (hb hby d6_10) rfl rfl kq) ?_
  show Ogo p e below _ (T1.setTop (mkF m 11 #[.val (.ref ch), .val (.int ((0 : Int32) + (1 : Int32))), .val (.ref by_), .val (.int ((0 : Int32) + (1 : Int32))), .val (.int (2 : Int32)), .val (.int ((0 : Int32) + (1 : Int32))), .val (.int x0)] [(.ref ch)]))
  refine own_via (fun tq kq => XS.iloadN X1.here hx rfl (hb hby d6_11) rfl kq) ?_
  show Ogo p e below _ (T1.setTop (mkF m 12 #[.val (.ref ch), .val (.int ((0 : Int32) + (1 : Int32))), .val (.ref by_), .val (.int ((0 : Int32) + (1 : Int32))), .val (.int (2 : Int32)), .val (.int ((0 : Int32) + (1 : Int32))), .val (.int x0)] [(.int ((0 : Int32) + (1 : Int32))), (.ref ch)]))
  refine own_cald X1 hx hZ e1 A_ch (j := ((0 : Int32) + (1 : Int32))) (i := 1) (v := (.int x1)) (by decide) (by decide) rfl (hb hby d6_12) ?_
  show Ogo p e below _ (T1.setTop (mkF m 13 #[.val (.ref ch), .val (.int ((0 : Int32) + (1 : Int32))), .val (.ref by_), .val (.int ((0 : Int32) + (1 : Int32))), .val (.int (2 : Int32)), .val (.int ((0 : Int32) + (1 : Int32))), .val (.int x0)] [(.int x1)]))
  refine own_via (fun tq kq => XS.istore X1.here hx rfl (hb hby d6_13) rfl (l' := #[.val (.ref ch), .val (.int ((0 : Int32) + (1 : Int32))), .val (.ref by_), .val (.int ((0 : Int32) + (1 : Int32))), .val (.int (2 : Int32)), .val (.int ((0 : Int32) + (1 : Int32))), .val (.int x1)]) rfl kq) ?_
  show Ogo p e below _ (T1.setTop (mkF m 15 #[.val (.ref ch), .val (.int ((0 : Int32) + (1 : Int32))), .val (.ref by_), .val (.int ((0 : Int32) + (1 : Int32))), .val (.int (2 : Int32)), .val (.int ((0 : Int32) + (1 : Int32))), .val (.int x1)] []))
  refine own_via (fun tq kq => XS.iload X1.here hx rfl (hb hby d6_15) rfl kq) ?_
  show Ogo p e below _ (T1.setTop (mkF m 17 #[.val (.ref ch), .val (.int ((0 : Int32) + (1 : Int32))), .val (.ref by_), .val (.int ((0 : Int32) + (1 : Int32))), .val (.int (2 : Int32)), .val (.int ((0 : Int32) + (1 : Int32))), .val (.int x1)] [(.int x1)]))
  refine own_via (fun tq kq => XS.sipush X1.here hx rfl (hb hby d6_17) kq) ?_
  show Ogo p e below _ (T1.setTop (mkF m 20 #[.val (.ref ch), .val (.int ((0 : Int32) + (1 : Int32))), .val (.ref by_), .val (.int ((0 : Int32) + (1 : Int32))), .val (.int (2 : Int32)), .val (.int ((0 : Int32) + (1 : Int32))), .val (.int x1)] [(.int (255 : Int32)), (.int x1)]))
  refine own_via (fun tq kq => XS.icmpYes X1.here hx rfl (pc0 := 20) (pc' := 26) rfl (hb hby d6_20) rfl (flt (i_nlt (by omega) : ¬ ((255 : Int32) < x1))).2.2.2 (by decide) (by decide) kq) ?_
  show Ogo p e below _ (T1.setTop (mkF m 26 #[.val (.ref ch), .val (.int ((0 : Int32) + (1 : Int32))), .val (.ref by_), .val (.int ((0 : Int32) + (1 : Int32))), .val (.int (2 : Int32)), .val (.int ((0 : Int32) + (1 : Int32))), .val (.int x1)] []))
  refine own_via (fun tq kq => XS.aloadN X1.here hx rfl (hb hby d6_26) rfl rfl kq) ?_
  show Ogo p e below _ (T1.setTop (mkF m 27 #[.val (.ref ch), .val (.int ((0 : Int32) + (1 : Int32))), .val (.ref by_), .val (.int ((0 : Int32) + (1 : Int32))), .val (.int (2 : Int32)), .val (.int ((0 : Int32) + (1 : Int32))), .val (.int x1)] [(.ref by_)]))
  refine own_via (fun tq kq => XS.iloadN X1.here hx rfl (hb hby d6_27) rfl kq) ?_
  show Ogo p e below _ (T1.setTop (mkF m 28 #[.val (.ref ch), .val (.int ((0 : Int32) + (1 : Int32))), .val (.ref by_), .val (.int ((0 : Int32) + (1 : Int32))), .val (.int (2 : Int32)), .val (.int ((0 : Int32) + (1 : Int32))), .val (.int x1)] [(.int ((0 : Int32) + (1 : Int32))), (.ref by_)]))
  refine own_via (fun tq kq => XS.iload X1.here hx rfl (hb hby d6_28) rfl kq) ?_
  show Ogo p e below _ (T1.setTop (mkF m 30 #[.val (.ref ch), .val (.int ((0 : Int32) + (1 : Int32))), .val (.ref by_), .val (.int ((0 : Int32) + (1 : Int32))), .val (.int (2 : Int32)), .val (.int ((0 : Int32) + (1 : Int32))), .val (.int x1)] [(.int x1), (.int ((0 : Int32) + (1 : Int32))), (.ref by_)]))
  refine own_via (fun tq kq => XS.i2b X1.here hx rfl (hb hby d6_30) rfl kq) ?_
  show Ogo p e below _ (T1.setTop (mkF m 31 #[.val (.ref ch), .val (.int ((0 : Int32) + (1 : Int32))), .val (.ref by_), .val (.int ((0 : Int32) + (1 : Int32))), .val (.int (2 : Int32)), .val (.int ((0 : Int32) + (1 : Int32))), .val (.int x1)] [(.int (x1.toInt8.toInt32)), (.int ((0 : Int32) + (1 : Int32))), (.ref by_)]))
  obtain ⟨T2, h2, X2, e2, W2, A_by', st2⟩ := own_bast X1 hx hZ e1 A_by (x := (x1.toInt8.toInt32)) (j := ((0 : Int32) + (1 : Int32))) (i := 1) (by decide) (by decide) (pc := 31) (Ls := #[.val (.ref ch), .val (.int ((0 : Int32) + (1 : Int32))), .val (.ref by_), .val (.int ((0 : Int32) + (1 : Int32))), .val (.int (2 : Int32)), .val (.int ((0 : Int32) + (1 : Int32))), .val (.int x1)]) (rest := []) (hb hby d6_31)
  refine own_via st2 ?_
  have A_ch := A_ch.other W2 hne
  have K := K.wr W2 (Or.inl (List.mem_of_getElem? (i := 0) rfl))
  have N := Fr.snoc X2 N g_by
  have A_by := A_by'
  show Ogo p e below _ (T2.setTop (mkF m 32 #[.val (.ref ch), .val (.int ((0 : Int32) + (1 : Int32))), .val (.ref by_), .val (.int ((0 : Int32) + (1 : Int32))), .val (.int (2 : Int32)), .val (.int ((0 : Int32) + (1 : Int32))), .val (.int x1)] []))
  refine own_via (fun tq kq => XS.iinc X2.here hx rfl (hb hby d6_32) rfl (l' := #[.val (.ref ch), .val (.int (((0 : Int32) + (1 : Int32)) + (1 : Int32))), .val (.ref by_), .val (.int ((0 : Int32) + (1 : Int32))), .val (.int (2 : Int32)), .val (.int ((0 : Int32) + (1 : Int32))), .val (.int x1)]) rfl kq) ?_
  show Ogo p e below _ (T2.setTop (mkF m 35 #[.val (.ref ch), .val (.int (((0 : Int32) + (1 : Int32)) + (1 : Int32))), .val (.ref by_), .val (.int ((0 : Int32) + (1 : Int32))), .val (.int (2 : Int32)), .val (.int ((0 : Int32) + (1 : Int32))), .val (.int x1)] []))
  refine own_via (fun tq kq => XS.iinc X2.here hx rfl (hb hby d6_35) rfl (l' := #[.val (.ref ch), .val (.int (((0 : Int32) + (1 : Int32)) + (1 : Int32))), .val (.ref by_), .val (.int (((0 : Int32) + (1 : Int32)) + (1 : Int32))), .val (.int (2 : Int32)), .val (.int ((0 : Int32) + (1 : Int32))), .val (.int x1)]) rfl kq) ?_
  show Ogo p e below _ (T2.setTop (mkF m 38 #[.val (.ref ch), .val (.int (((0 : Int32) + (1 : Int32)) + (1 : Int32))), .val (.ref by_), .val (.int (((0 : Int32) + (1 : Int32)) + (1 : Int32))), .val (.int (2 : Int32)), .val (.int ((0 : Int32) + (1 : Int32))), .val (.int x1)] []))
  refine own_via (fun tq kq => XS.iinc X2.here hx rfl (hb hby d6_38) rfl (l' := #[.val (.ref ch), .val (.int (((0 : Int32) + (1 : Int32)) + (1 : Int32))), .val (.ref by_), .val (.int (((0 : Int32) + (1 : Int32)) + (1 : Int32))), .val (.int (2 : Int32)), .val (.int (((0 : Int32) + (1 : Int32)) + (1 : Int32))), .val (.int x1)]) rfl kq) ?_
  show Ogo p e below _ (T2.setTop (mkF m 41 #[.val (.ref ch), .val (.int (((0 : Int32) + (1 : Int32)) + (1 : Int32))), .val (.ref by_), .val (.int (((0 : Int32) + (1 : Int32)) + (1 : Int32))), .val (.int (2 : Int32)), .val (.int (((0 : Int32) + (1 : Int32)) + (1 : Int32))), .val (.int x1)] []))
  refine own_via (fun tq kq => XS.goto X2.here hx rfl (pc0 := 41) (pc' := 3) rfl (hb hby d6_41) (by decide) (by decide) kq) ?_
  show Ogo p e below _ (T2.setTop (mkF m 3 #[.val (.ref ch), .val (.int (((0 : Int32) + (1 : Int32)) + (1 : Int32))), .val (.ref by_), .val (.int (((0 : Int32) + (1 : Int32)) + (1 : Int32))), .val (.int (2 : Int32)), .val (.int (((0 : Int32) + (1 : Int32)) + (1 : Int32))), .val (.int x1)] []))
  refine own_via (fun tq kq => XS.iload X2.here hx rfl (hb hby d6_3) rfl kq) ?_
  show Ogo p e below _ (T2.setTop (mkF m 5 #[.val (.ref ch), .val (.int (((0 : Int32) + (1 : Int32)) + (1 : Int32))), .val (.ref by_), .val (.int (((0 : Int32) + (1 : Int32)) + (1 : Int32))), .val (.int (2 : Int32)), .val (.int (((0 : Int32) + (1 : Int32)) + (1 : Int32))), .val (.int x1)] [(.int (((0 : Int32) + (1 : Int32)) + (1 : Int32)))]))
  refine own_via (fun tq kq => XS.iload X2.here hx rfl (hb hby d6_5) rfl kq) ?_
  show Ogo p e below _ (T2.setTop (mkF m 7 #[.val (.ref ch), .val (.int (((0 : Int32) + (1 : Int32)) + (1 : Int32))), .val (.ref by_), .val (.int (((0 : Int32) + (1 : Int32)) + (1 : Int32))), .val (.int (2 : Int32)), .val (.int (((0 : Int32) + (1 : Int32)) + (1 : Int32))), .val (.int x1)] [(.int (2 : Int32)), (.int (((0 : Int32) + (1 : Int32)) + (1 : Int32)))]))
  refine own_via (fun tq kq => XS.icmpYes X2.here hx rfl (pc0 := 7) (pc' := 44) rfl (hb hby d6_7) rfl (flt ((by decide) : ¬ ((((0 : Int32) + (1 : Int32)) + (1 : Int32)) < (2 : Int32)))).2.1 (by decide) (by decide) kq) ?_
  show Ogo p e below _ (T2.setTop (mkF m 44 #[.val (.ref ch), .val (.int (((0 : Int32) + (1 : Int32)) + (1 : Int32))), .val (.ref by_), .val (.int (((0 : Int32) + (1 : Int32)) + (1 : Int32))), .val (.int (2 : Int32)), .val (.int (((0 : Int32) + (1 : Int32)) + (1 : Int32))), .val (.int x1)] []))
  refine own_via (fun tq kq => XS.iload X2.here hx rfl (hb hby d6_44) rfl kq) ?_
  show Ogo p e below _ (T2.setTop (mkF m 46 #[.val (.ref ch), .val (.int (((0 : Int32) + (1 : Int32)) + (1 : Int32))), .val (.ref by_), .val (.int (((0 : Int32) + (1 : Int32)) + (1 : Int32))), .val (.int (2 : Int32)), .val (.int (((0 : Int32) + (1 : Int32)) + (1 : Int32))), .val (.int x1)] [(.int (2 : Int32))]))
  have A_by := A_by.cast (f' := fun q => .int (own_by x0 x1 q)) (by intro j hj; rcases j with _ | _ | j <;> first | omega | simp [own_by, own_nb])
  exact own_out X2 hlk (fun h => by rw [hret] at h; cases h) (by decide) (by decide) (by first | exact ⟨rfl, N, K, A_by⟩ | (rw [e2]; exact ⟨rfl, N, K, A_by⟩)) (fun fs hr => retI X2 hx hret (hb hby d6_46) hr)
set_option maxRecDepth 65536 in
set_option maxHeartbeats 40000000 in
theorem rm_cm2 {l : Launch} {Z : State} {a0 : Array Value} (hw : ∀ d ∈ tables_1, d.before a0 Z = true) (ch : Addr) (x0 x1 : Int32) (h0 : Heap) (n0 : Nat) (A_ch : Oar Z h0 ch .char 2 (own_ch x0 x1)) (zs : n0 ≤ h0.size) (hx0 : 0 ≤ x0.toInt ∧ x0.toInt ≤ 255) (hx1 : 0 ≤ x1.toInt ∧ x1.toInt ≤ 255) :
    Opays l (⟨"java/lang/StringUTF16", "compress", "([CII)[B"⟩ : MethodName) jdk_52_method_16_code 6 (some (.array .byte)) ({ frames := 1, cells := 1, slots := 2, locals := 18 } : Room) [] Z h0 #[(.ref ch), (.int (0 : Int32)), (.int (2 : Int32))] (fun v h L => Fr n0 L ∧ Keep h0 h [] ∧ ∃ t, v = some (.ref t) ∧ n0 ≤ t ∧ h0.size ≤ t ∧ Oar Z h t .byte 2 (fun q => .int (own_by x0 x1 q))) := by
  refine own_enter (plainFor_of_name pn_0) ?_
  intro p e s m below meth c s₁ hx hby hml0 hown hnm hret hlk hZ e0 X0
  have hml : c.maxLocals = 6 := hml0
  replace hown : s.vm.findClass "java/lang/StringUTF16" = some m.cls := hown
  have N := Fr.nil n0
  have hef : entryFrame m #[(.ref ch), (.int (0 : Int32)), (.int (2 : Int32))] 6 = mkF m 0 #[.val (.ref ch), .val (.int (0 : Int32)), .val (.int (2 : Int32)), .unset, .unset, .unset] [] := by first | (simp [entryFrame, mkF, argsToLocals, Value.category]; done) | rfl
  rw [hef]
  show Ogo p e below _ (s₁.setTop (mkF m 0 #[.val (.ref ch), .val (.int (0 : Int32)), .val (.int (2 : Int32)), .unset, .unset, .unset] []))
  have K := Keep.refl h0 []
  refine own_via (fun tq kq => XS.iloadN X0.here hx rfl (hb hby d5_0) rfl kq) ?_
  show Ogo p e below _ (s₁.setTop (mkF m 1 #[.val (.ref ch), .val (.int (0 : Int32)), .val (.int (2 : Int32)), .unset, .unset, .unset] [(.int (2 : Int32))]))
  obtain ⟨T1, h1, k1, X1, e1, E1, A1, st1⟩ := newP X0 hx hZ (hw _ (List.mem_of_getElem? (i := 23) rfl)) e0 (g := (mkF m 1 #[.val (.ref ch), .val (.int (0 : Int32)), .val (.int (2 : Int32)), .unset, .unset, .unset] [(.int (2 : Int32))])) rfl (hb hby d5_1) rfl (by decide) (cap := 2) (by decide) (by decide) (by decide) (by decide)
  refine own_via st1 ?_
  obtain ⟨t, g1⟩ : ∃ z, z = h0.size := ⟨_, rfl⟩
  rw [← g1]
  rw [← g1] at A1
  have lt_ch_t : ch < t := by rw [g1]; exact A_ch.lt
  have g_t : n0 ≤ t := by rw [g1]; exact zs
  have sz_t : h0.size ≤ t := by rw [g1]; exact K.1
  have A_ch := A_ch.ext E1
  have zs := Nat.le_trans zs E1.1
  have K := K.ext E1
  have A_t : Oar Z h1 t .byte 2 (fun _ => defaultValue .byte) := Oar.new A1 (by decide) rfl
  show Ogo p e below _ (T1.setTop (mkF m 3 #[.val (.ref ch), .val (.int (0 : Int32)), .val (.int (2 : Int32)), .unset, .unset, .unset] [(.ref t)]))
  refine own_via (fun tq kq => XS.astoreN X1.here hx rfl (hb hby d5_3) rfl rfl (l' := #[.val (.ref ch), .val (.int (0 : Int32)), .val (.int (2 : Int32)), .val (.ref t), .unset, .unset]) rfl kq) ?_
  show Ogo p e below _ (T1.setTop (mkF m 4 #[.val (.ref ch), .val (.int (0 : Int32)), .val (.int (2 : Int32)), .val (.ref t), .unset, .unset] []))
  refine own_via (fun tq kq => XS.aloadN X1.here hx rfl (hb hby d5_4) rfl rfl kq) ?_
  show Ogo p e below _ (T1.setTop (mkF m 5 #[.val (.ref ch), .val (.int (0 : Int32)), .val (.int (2 : Int32)), .val (.ref t), .unset, .unset] [(.ref ch)]))
  refine own_via (fun tq kq => XS.iloadN X1.here hx rfl (hb hby d5_5) rfl kq) ?_
  show Ogo p e below _ (T1.setTop (mkF m 6 #[.val (.ref ch), .val (.int (0 : Int32)), .val (.int (2 : Int32)), .val (.ref t), .unset, .unset] [(.int (0 : Int32)), (.ref ch)]))
  refine own_via (fun tq kq => XS.aloadN X1.here hx rfl (hb hby d5_6) rfl rfl kq) ?_
  show Ogo p e below _ (T1.setTop (mkF m 7 #[.val (.ref ch), .val (.int (0 : Int32)), .val (.int (2 : Int32)), .val (.ref t), .unset, .unset] [(.ref t), (.int (0 : Int32)), (.ref ch)]))
  refine own_via (fun tq kq => XS.iconst X1.here hx rfl (hb hby d5_7) kq) ?_
  show Ogo p e below _ (T1.setTop (mkF m 8 #[.val (.ref ch), .val (.int (0 : Int32)), .val (.int (2 : Int32)), .val (.ref t), .unset, .unset] [(.int (0 : Int32)), (.ref t), (.int (0 : Int32)), (.ref ch)]))
  refine own_via (fun tq kq => XS.iloadN X1.here hx rfl (hb hby d5_8) rfl kq) ?_
  show Ogo p e below _ (T1.setTop (mkF m 9 #[.val (.ref ch), .val (.int (0 : Int32)), .val (.int (2 : Int32)), .val (.ref t), .unset, .unset] [(.int (2 : Int32)), (.int (0 : Int32)), (.ref t), (.int (0 : Int32)), (.ref ch)]))
  refine own_callS X1 hx hZ hown (hw _ (List.mem_of_getElem? (i := 24) rfl)) (hw _ (List.mem_of_getElem? (i := 25) rfl)) (hw _ (List.mem_of_getElem? (i := 21) rfl)) (hw _ (List.mem_of_getElem? (i := 26) rfl)) (by decide) (rm_cp2 hw ch t x0 x1 h1 n0 A_ch A_t (Nat.ne_of_lt lt_ch_t) g_t hx0 hx1) rfl e1 (W := 0) (by decide) (by decide) (by decide) (by decide) (by rw [hml]; rfl) (argsL := [(.ref ch), (.int (0 : Int32)), (.ref t), (.int (0 : Int32)), (.int (2 : Int32))]) (rest := []) (lenOf pd_0 rfl) rfl (Nat.le_of_eq rfl) (hb hby d5_9) ?_
  rintro _ T2 L2 X2 ⟨rfl, Nq, Kc, A_t⟩
  have N := N.app Nq
  have A_ch := A_ch.keep Kc (ninS (Nat.ne_of_lt lt_ch_t) nin0)
  have zs := Nat.le_trans zs Kc.1
  have K := K.trans Kc (allS (Or.inr sz_t) all0)
  show Ogo p e below _ (T2.setTop (mkF m 12 #[.val (.ref ch), .val (.int (0 : Int32)), .val (.int (2 : Int32)), .val (.ref t), .unset, .unset] [(.int (2 : Int32))]))
  refine own_via (fun tq kq => XS.istore X2.here hx rfl (hb hby d5_12) rfl (l' := #[.val (.ref ch), .val (.int (0 : Int32)), .val (.int (2 : Int32)), .val (.ref t), .val (.int (2 : Int32)), .unset]) rfl kq) ?_
  show Ogo p e below _ (T2.setTop (mkF m 14 #[.val (.ref ch), .val (.int (0 : Int32)), .val (.int (2 : Int32)), .val (.ref t), .val (.int (2 : Int32)), .unset] []))
  refine own_via (fun tq kq => XS.iload X2.here hx rfl (hb hby d5_14) rfl kq) ?_
  show Ogo p e below _ (T2.setTop (mkF m 16 #[.val (.ref ch), .val (.int (0 : Int32)), .val (.int (2 : Int32)), .val (.ref t), .val (.int (2 : Int32)), .unset] [(.int (2 : Int32))]))
  refine own_via (fun tq kq => XS.iloadN X2.here hx rfl (hb hby d5_16) rfl kq) ?_
  show Ogo p e below _ (T2.setTop (mkF m 17 #[.val (.ref ch), .val (.int (0 : Int32)), .val (.int (2 : Int32)), .val (.ref t), .val (.int (2 : Int32)), .unset] [(.int (2 : Int32)), (.int (2 : Int32))]))
  refine own_via (fun tq kq => XS.icmpYes X2.here hx rfl (pc0 := 17) (pc' := 57) rfl (hb hby d5_17) rfl (teq (rfl : (2 : Int32) = (2 : Int32))).1 (by decide) (by decide) kq) ?_
  show Ogo p e below _ (T2.setTop (mkF m 57 #[.val (.ref ch), .val (.int (0 : Int32)), .val (.int (2 : Int32)), .val (.ref t), .val (.int (2 : Int32)), .unset] []))
  refine own_via (fun tq kq => XS.aloadN X2.here hx rfl (hb hby d5_57) rfl rfl kq) ?_
  show Ogo p e below _ (T2.setTop (mkF m 58 #[.val (.ref ch), .val (.int (0 : Int32)), .val (.int (2 : Int32)), .val (.ref t), .val (.int (2 : Int32)), .unset] [(.ref t)]))
  exact own_out X2 hlk (fun h => by rw [hret] at h; cases h) (by decide) (by decide) (⟨N, K, t, rfl, g_t, (by first | exact sz_t | exact Nat.le_refl _), A_t⟩) (fun fs hr => own_retA X2 hx hret rfl rfl (hb hby d5_58) hr)
set_option maxRecDepth 65536 in
set_option maxHeartbeats 40000000 in
theorem rm_cf2 {l : Launch} {Z : State} {a0 : Array Value} (hw : ∀ d ∈ tables_1, d.before a0 Z = true) (t : Addr) (f : Nat → Value) (h0 : Heap) (n0 : Nat) (A_t : Oar Z h0 t .byte 2 f) :
    Opays l (⟨"java/lang/StringUTF16", "coderFromArrayLen", "([BI)B"⟩ : MethodName) jdk_52_method_15_code 2 (some .byte) ({ frames := 0, cells := 0, slots := 0, locals := 0 } : Room) [] Z h0 #[(.ref t), (.int (2 : Int32))] (fun v h L => v = some (.int 0) ∧ Fr n0 L ∧ h = h0) := by
  refine own_enter (plainFor_of_name pn_0) ?_
  intro p e s m below meth c s₁ hx hby hml0 hown hnm hret hlk hZ e0 X0
  have hml : c.maxLocals = 2 := hml0
  replace hown : s.vm.findClass "java/lang/StringUTF16" = some m.cls := hown
  have N := Fr.nil n0
  have hef : entryFrame m #[(.ref t), (.int (2 : Int32))] 2 = mkF m 0 #[.val (.ref t), .val (.int (2 : Int32))] [] := by first | (simp [entryFrame, mkF, argsToLocals, Value.category]; done) | rfl
  rw [hef]
  show Ogo p e below _ (s₁.setTop (mkF m 0 #[.val (.ref t), .val (.int (2 : Int32))] []))
  refine own_via (fun tq kq => XS.iloadN X0.here hx rfl (hb hby d7_0) rfl kq) ?_
  show Ogo p e below _ (s₁.setTop (mkF m 1 #[.val (.ref t), .val (.int (2 : Int32))] [(.int (2 : Int32))]))
  refine own_via (fun tq kq => XS.aloadN X0.here hx rfl (hb hby d7_1) rfl rfl kq) ?_
  show Ogo p e below _ (s₁.setTop (mkF m 2 #[.val (.ref t), .val (.int (2 : Int32))] [(.ref t), (.int (2 : Int32))]))
  refine own_alen X0 hx hZ e0 A_t (z := (2 : Int32)) rfl (hb hby d7_2) ?_
  show Ogo p e below _ (s₁.setTop (mkF m 3 #[.val (.ref t), .val (.int (2 : Int32))] [(.int (2 : Int32)), (.int (2 : Int32))]))
  refine own_via (fun tq kq => XS.isub X0.here hx rfl (hb hby d7_3) rfl kq) ?_
  show Ogo p e below _ (s₁.setTop (mkF m 4 #[.val (.ref t), .val (.int (2 : Int32))] [(.int ((2 : Int32) - (2 : Int32)))]))
  refine own_via (fun tq kq => XS.bipush X0.here hx rfl (hb hby d7_4) kq) ?_
  show Ogo p e below _ (s₁.setTop (mkF m 6 #[.val (.ref t), .val (.int (2 : Int32))] [(.int (31 : Int32)), (.int ((2 : Int32) - (2 : Int32)))]))
  refine own_via (fun tq kq => XS.iushr X0.here hx rfl (hb hby d7_6) rfl kq) ?_
  show Ogo p e below _ (s₁.setTop (mkF m 7 #[.val (.ref t), .val (.int (2 : Int32))] [(.int ((((2 : Int32) - (2 : Int32)).toUInt32 >>> ((31 : Int32) &&& 31).toUInt32).toInt32))]))
  refine own_via (fun tq kq => XS.i2b X0.here hx rfl (hb hby d7_7) rfl kq) ?_
  show Ogo p e below _ (s₁.setTop (mkF m 8 #[.val (.ref t), .val (.int (2 : Int32))] [(.int (((((2 : Int32) - (2 : Int32)).toUInt32 >>> ((31 : Int32) &&& 31).toUInt32).toInt32).toInt8.toInt32))]))
  exact own_out X0 hlk (fun h => by rw [hret] at h; cases h) (by decide) (by decide) (by first | exact ⟨(by decide +kernel), N, rfl⟩ | (rw [e0]; exact ⟨(by decide +kernel), N, rfl⟩)) (fun fs hr => retN X0 hx (t := .byte) hret (by simp) (hb hby d7_8) hr)
set_option maxRecDepth 65536 in
set_option maxHeartbeats 40000000 in
theorem rm_sv2 {l : Launch} {Z : State} {a0 : Array Value} (hw : ∀ d ∈ tables_1, d.before a0 Z = true) (a ch : Addr) (x0 x1 zc : Int32) (h0 : Heap) (n0 : Nat) (A_ch : Oar Z h0 ch .char 2 (own_ch x0 x1)) (E_a : Exa Z h0 a "java/lang/String") (F_value_a : Fld Z h0 a "java/lang/String" "value" "[B" .null) (F_coder_a : Fld Z h0 a "java/lang/String" "coder" "B" (.int (0 : Int32))) (g_a : n0 ≤ a) (zs : n0 ≤ h0.size) (SCO : Sta Z Z.heap "java/lang/String" "COMPACT_STRINGS" "Z" (.int zc)) (hzc : ¬ zc = 0) (O : Old Z n0 h0) (hne : ch ≠ a) (hx0 : 0 ≤ x0.toInt ∧ x0.toInt ≤ 255) (hx1 : 0 ≤ x1.toInt ∧ x1.toInt ≤ 255) :
    Opays l (⟨"java/lang/String", "<init>", "([CIILjava/lang/Void;)V"⟩ : MethodName) jdk_42_method_149_code 6 none ({ frames := 2, cells := 1, slots := 2, locals := 35 } : Room) [] Z h0 #[(.ref a), (.ref ch), (.int (0 : Int32)), (.int (2 : Int32)), .null] (fun v h L => v = none ∧ Fr n0 L ∧ Keep h0 h [a] ∧ Fld Z h a "java/lang/String" "coder" "B" (.int 0) ∧ ∃ t, Fld Z h a "java/lang/String" "value" "[B" (.ref t) ∧ Oar Z h t .byte 2 (fun q => .int (own_by x0 x1 q))) := by
  refine own_enter (plainFor_of_name pn_1) ?_
  intro p e s m below meth c s₁ hx hby hml0 hown hnm hret hlk hZ e0 X0
  have hml : c.maxLocals = 6 := hml0
  replace hown : s.vm.findClass "java/lang/String" = some m.cls := hown
  have N := Fr.nil n0
  have hef : entryFrame m #[(.ref a), (.ref ch), (.int (0 : Int32)), (.int (2 : Int32)), .null] 6 = mkF m 0 #[.val (.ref a), .val (.ref ch), .val (.int (0 : Int32)), .val (.int (2 : Int32)), .val .null, .unset] [] := by first | (simp [entryFrame, mkF, argsToLocals, Value.category]; done) | rfl
  rw [hef]
  show Ogo p e below _ (s₁.setTop (mkF m 0 #[.val (.ref a), .val (.ref ch), .val (.int (0 : Int32)), .val (.int (2 : Int32)), .val .null, .unset] []))
  have K := Keep.refl h0 [a]
  refine own_via (fun tq kq => XS.aloadN X0.here hx rfl (hb hby d3_0) rfl rfl kq) ?_
  show Ogo p e below _ (s₁.setTop (mkF m 1 #[.val (.ref a), .val (.ref ch), .val (.int (0 : Int32)), .val (.int (2 : Int32)), .val .null, .unset] [(.ref a)]))
  obtain ⟨T1, X1, e1, st1⟩ := initO X0 hx hZ hown (hw _ (List.mem_of_getElem? (i := 15) rfl)) (hw _ (List.mem_of_getElem? (i := 16) rfl)) (hw _ (List.mem_of_getElem? (i := 17) rfl)) e0 (g := (mkF m 1 #[.val (.ref a), .val (.ref ch), .val (.int (0 : Int32)), .val (.int (2 : Int32)), .val .null, .unset] [(.ref a)])) rfl (by rw [hml]; rfl) rfl (hb hby d3_1) (by decide) (W := 0) (by show 2 * 0 + _ ≤ _; exact Nat.le_of_eq rfl) (by decide)
  refine own_via st1 ?_
  show Ogo p e below _ (T1.setTop (mkF m 4 #[.val (.ref a), .val (.ref ch), .val (.int (0 : Int32)), .val (.int (2 : Int32)), .val .null, .unset] []))
  refine own_via (fun tq kq => XS.iloadN X1.here hx rfl (hb hby d3_4) rfl kq) ?_
  show Ogo p e below _ (T1.setTop (mkF m 5 #[.val (.ref a), .val (.ref ch), .val (.int (0 : Int32)), .val (.int (2 : Int32)), .val .null, .unset] [(.int (2 : Int32))]))
  refine own_via (fun tq kq => XS.ifYes X1.here hx rfl (pc0 := 5) (pc' := 27) rfl (hb hby d3_5) rfl ((if0 _ _).trans (feq ((by decide) : ¬ ((2 : Int32) = (0 : Int32)))).2) (by decide) (by decide) kq) ?_
  show Ogo p e below _ (T1.setTop (mkF m 27 #[.val (.ref a), .val (.ref ch), .val (.int (0 : Int32)), .val (.int (2 : Int32)), .val .null, .unset] []))
  obtain ⟨T2, X2, e2, st2⟩ := getS2 X1 hx hZ hown (host := "") (Or.inl (hw _ (List.mem_of_getElem? (i := 18) rfl))) Via.refl e1 (SCO.ext O.2) (g := (mkF m 27 #[.val (.ref a), .val (.ref ch), .val (.int (0 : Int32)), .val (.int (2 : Int32)), .val .null, .unset] [])) rfl (hb hby d3_27)
  refine own_via st2 ?_
  show Ogo p e below _ (T2.setTop (mkF m 30 #[.val (.ref a), .val (.ref ch), .val (.int (0 : Int32)), .val (.int (2 : Int32)), .val .null, .unset] [(.int zc)]))
  refine own_via (fun tq kq => XS.ifNo X2.here hx rfl (hb hby d3_30) rfl ((if0 _ _).trans (feq (hzc : ¬ (zc = (0 : Int32)))).1) kq) ?_
  show Ogo p e below _ (T2.setTop (mkF m 33 #[.val (.ref a), .val (.ref ch), .val (.int (0 : Int32)), .val (.int (2 : Int32)), .val .null, .unset] []))
  refine own_via (fun tq kq => XS.aloadN X2.here hx rfl (hb hby d3_33) rfl rfl kq) ?_
  show Ogo p e below _ (T2.setTop (mkF m 34 #[.val (.ref a), .val (.ref ch), .val (.int (0 : Int32)), .val (.int (2 : Int32)), .val .null, .unset] [(.ref ch)]))
  refine own_via (fun tq kq => XS.iloadN X2.here hx rfl (hb hby d3_34) rfl kq) ?_
  show Ogo p e below _ (T2.setTop (mkF m 35 #[.val (.ref a), .val (.ref ch), .val (.int (0 : Int32)), .val (.int (2 : Int32)), .val .null, .unset] [(.int (0 : Int32)), (.ref ch)]))
  refine own_via (fun tq kq => XS.iloadN X2.here hx rfl (hb hby d3_35) rfl kq) ?_
  show Ogo p e below _ (T2.setTop (mkF m 36 #[.val (.ref a), .val (.ref ch), .val (.int (0 : Int32)), .val (.int (2 : Int32)), .val .null, .unset] [(.int (2 : Int32)), (.int (0 : Int32)), (.ref ch)]))
  refine own_callS X2 hx hZ hown (hw _ (List.mem_of_getElem? (i := 19) rfl)) (hw _ (List.mem_of_getElem? (i := 20) rfl)) (hw _ (List.mem_of_getElem? (i := 21) rfl)) (hw _ (List.mem_of_getElem? (i := 22) rfl)) (by decide) (rm_cm2 hw ch x0 x1 h0 n0 A_ch zs hx0 hx1) rfl e2 (W := 0) (by decide) (by decide) (by decide) (by decide) (by rw [hml]; rfl) (argsL := [(.ref ch), (.int (0 : Int32)), (.int (2 : Int32))]) (rest := []) (lenOf pd_1 rfl) rfl (Nat.le_of_eq rfl) (hb hby d3_36) ?_
  rintro _ T3 L3 X3 ⟨Nq, Kc, t, rfl, g_t, hszt, A_t⟩
  have N := N.app Nq
  have lt_a_t : a < t := Nat.lt_of_lt_of_le E_a.lt hszt
  have E_a := E_a.keep Kc
  have F_value_a := F_value_a.keep Kc nin0
  have F_coder_a := F_coder_a.keep Kc nin0
  have A_ch := A_ch.keep Kc nin0
  have zs := Nat.le_trans zs Kc.1
  have O := O.keep Kc all0
  have K := K.trans Kc all0
  show Ogo p e below _ (T3.setTop (mkF m 39 #[.val (.ref a), .val (.ref ch), .val (.int (0 : Int32)), .val (.int (2 : Int32)), .val .null, .unset] [(.ref t)]))
  refine own_via (fun tq kq => XS.astore X3.here hx rfl (hb hby d3_39) rfl rfl (l' := #[.val (.ref a), .val (.ref ch), .val (.int (0 : Int32)), .val (.int (2 : Int32)), .val .null, .val (.ref t)]) rfl kq) ?_
  show Ogo p e below _ (T3.setTop (mkF m 41 #[.val (.ref a), .val (.ref ch), .val (.int (0 : Int32)), .val (.int (2 : Int32)), .val .null, .val (.ref t)] []))
  refine own_via (fun tq kq => XS.aloadN X3.here hx rfl (hb hby d3_41) rfl rfl kq) ?_
  show Ogo p e below _ (T3.setTop (mkF m 42 #[.val (.ref a), .val (.ref ch), .val (.int (0 : Int32)), .val (.int (2 : Int32)), .val .null, .val (.ref t)] [(.ref a)]))
  refine own_via (fun tq kq => XS.aload X3.here hx rfl (hb hby d3_42) rfl rfl kq) ?_
  show Ogo p e below _ (T3.setTop (mkF m 44 #[.val (.ref a), .val (.ref ch), .val (.int (0 : Int32)), .val (.int (2 : Int32)), .val .null, .val (.ref t)] [(.ref t), (.ref a)]))
  refine own_via (fun tq kq => XS.iloadN X3.here hx rfl (hb hby d3_44) rfl kq) ?_
  show Ogo p e below _ (T3.setTop (mkF m 45 #[.val (.ref a), .val (.ref ch), .val (.int (0 : Int32)), .val (.int (2 : Int32)), .val .null, .val (.ref t)] [(.int (2 : Int32)), (.ref t), (.ref a)]))
  refine own_callS X3 hx hZ hown (hw _ (List.mem_of_getElem? (i := 27) rfl)) (hw _ (List.mem_of_getElem? (i := 28) rfl)) (hw _ (List.mem_of_getElem? (i := 21) rfl)) (hw _ (List.mem_of_getElem? (i := 29) rfl)) (by decide) (rm_cf2 hw t _ T3.heap n0 A_t) rfl rfl (W := 1) (by decide) (by decide) (by decide) (by decide) (by rw [hml]; rfl) (argsL := [(.ref t), (.int (2 : Int32))]) (rest := [(.ref a)]) (lenOf pd_2 rfl) rfl (Nat.le_of_eq rfl) (hb hby d3_45) ?_
  rintro _ T4 L4 X4 ⟨rfl, Nq, hk⟩
  have N := N.app Nq
  have hk4 := hk
  show Ogo p e below _ (T4.setTop (mkF m 48 #[.val (.ref a), .val (.ref ch), .val (.int (0 : Int32)), .val (.int (2 : Int32)), .val .null, .val (.ref t)] [(.int (0 : Int32)), (.ref a)]))
  obtain ⟨T5, h5, X5, e5, W5, st5⟩ := putFN X4 hx hZ hown (hw _ (List.mem_of_getElem? (i := 30) rfl)) Via.refl hk4 F_coder_a E_a (Or.inr ⟨(hw _ (List.mem_of_getElem? (i := 31) rfl)), rfl, hnm⟩) (hw _ (List.mem_of_getElem? (i := 5) rfl)) (ty := .byte) (v' := (.int 0)) (by decide) rfl (by decide) (g := (mkF m 48 #[.val (.ref a), .val (.ref ch), .val (.int (0 : Int32)), .val (.int (2 : Int32)), .val .null, .val (.ref t)] [(.int (0 : Int32)), (.ref a)])) rfl rfl (hb hby d3_48)
  refine own_via st5 ?_
  have E_a := E_a.wr W5
  have F_value_a := F_value_a.other W5 (Or.inr (slot_ne (Or.inr (hw _ (List.mem_of_getElem? (i := 33) rfl))) (Or.inr (hw _ (List.mem_of_getElem? (i := 31) rfl))) (by decide) (t := (.array .byte)) (t' := .byte) (by decide) (by decide)))
  have F_coder_a := F_coder_a.same W5
  have A_t := A_t.other W5 (Nat.ne_of_gt lt_a_t)
  have zs := Nat.le_trans zs (Keep.of_wr W5).1
  have O := O.wr W5 g_a
  have K := K.wr W5 (Or.inl (List.mem_of_getElem? (i := 0) rfl))
  have N := Fr.snoc X5 N g_a
  show Ogo p e below _ (T5.setTop (mkF m 51 #[.val (.ref a), .val (.ref ch), .val (.int (0 : Int32)), .val (.int (2 : Int32)), .val .null, .val (.ref t)] []))
  refine own_via (fun tq kq => XS.aloadN X5.here hx rfl (hb hby d3_51) rfl rfl kq) ?_
  show Ogo p e below _ (T5.setTop (mkF m 52 #[.val (.ref a), .val (.ref ch), .val (.int (0 : Int32)), .val (.int (2 : Int32)), .val .null, .val (.ref t)] [(.ref a)]))
  refine own_via (fun tq kq => XS.aload X5.here hx rfl (hb hby d3_52) rfl rfl kq) ?_
  show Ogo p e below _ (T5.setTop (mkF m 54 #[.val (.ref a), .val (.ref ch), .val (.int (0 : Int32)), .val (.int (2 : Int32)), .val .null, .val (.ref t)] [(.ref t), (.ref a)]))
  obtain ⟨T6, h6, X6, e6, W6, st6⟩ := putF X5 hx hZ hown (host := "") (Or.inl (hw _ (List.mem_of_getElem? (i := 32) rfl))) Via.refl e5 F_value_a E_a (Or.inr ⟨(hw _ (List.mem_of_getElem? (i := 33) rfl)), rfl, hnm⟩) (hw _ (List.mem_of_getElem? (i := 5) rfl)) (ty := (.array .byte)) (by decide) rfl rfl (g := (mkF m 54 #[.val (.ref a), .val (.ref ch), .val (.int (0 : Int32)), .val (.int (2 : Int32)), .val .null, .val (.ref t)] [(.ref t), (.ref a)])) rfl rfl (hb hby d3_54)
  refine own_via st6 ?_
  have E_a := E_a.wr W6
  have F_value_a := F_value_a.same W6
  have F_coder_a := F_coder_a.other W6 (Or.inr (slot_ne (Or.inr (hw _ (List.mem_of_getElem? (i := 31) rfl))) (Or.inr (hw _ (List.mem_of_getElem? (i := 33) rfl))) (by decide) (t := .byte) (t' := (.array .byte)) (by decide) (by decide)))
  have A_t := A_t.other W6 (Nat.ne_of_gt lt_a_t)
  have zs := Nat.le_trans zs (Keep.of_wr W6).1
  have O := O.wr W6 g_a
  have K := K.wr W6 (Or.inl (List.mem_of_getElem? (i := 0) rfl))
  have N := Fr.snoc X6 N g_a
  show Ogo p e below _ (T6.setTop (mkF m 57 #[.val (.ref a), .val (.ref ch), .val (.int (0 : Int32)), .val (.int (2 : Int32)), .val .null, .val (.ref t)] []))
  exact own_out X6 hlk (fun _ => rfl) (by decide) (by decide) (by first | exact ⟨rfl, N, K, F_coder_a, t, F_value_a, A_t⟩ | (rw [e6]; exact ⟨rfl, N, K, F_coder_a, t, F_value_a, A_t⟩)) (fun fs hr => X6.returnOut hx hret (hb hby d3_57) hr)
set_option maxRecDepth 65536 in
set_option maxHeartbeats 40000000 in
theorem rm_sc2 {l : Launch} {Z : State} {a0 : Array Value} (hw : ∀ d ∈ tables_1, d.before a0 Z = true) (a ch : Addr) (x0 x1 zc : Int32) (h0 : Heap) (n0 : Nat) (A_ch : Oar Z h0 ch .char 2 (own_ch x0 x1)) (E_a : Exa Z h0 a "java/lang/String") (F_value_a : Fld Z h0 a "java/lang/String" "value" "[B" .null) (F_coder_a : Fld Z h0 a "java/lang/String" "coder" "B" (.int (0 : Int32))) (g_a : n0 ≤ a) (zs : n0 ≤ h0.size) (SCO : Sta Z Z.heap "java/lang/String" "COMPACT_STRINGS" "Z" (.int zc)) (hzc : ¬ zc = 0) (O : Old Z n0 h0) (hne : ch ≠ a) (hx0 : 0 ≤ x0.toInt ∧ x0.toInt ≤ 255) (hx1 : 0 ≤ x1.toInt ∧ x1.toInt ≤ 255) :
    Opays l (⟨"java/lang/String", "<init>", "([C)V"⟩ : MethodName) jdk_42_method_3_code 2 none ({ frames := 3, cells := 1, slots := 2, locals := 52 } : Room) [] Z h0 #[(.ref a), (.ref ch)] (fun v h L => v = none ∧ Fr n0 L ∧ Keep h0 h [a] ∧ Fld Z h a "java/lang/String" "coder" "B" (.int 0) ∧ ∃ t, Fld Z h a "java/lang/String" "value" "[B" (.ref t) ∧ Oar Z h t .byte 2 (fun q => .int (own_by x0 x1 q))) := by
  refine own_enter (plainFor_of_name pn_1) ?_
  intro p e s m below meth c s₁ hx hby hml0 hown hnm hret hlk hZ e0 X0
  have hml : c.maxLocals = 2 := hml0
  replace hown : s.vm.findClass "java/lang/String" = some m.cls := hown
  have N := Fr.nil n0
  have hef : entryFrame m #[(.ref a), (.ref ch)] 2 = mkF m 0 #[.val (.ref a), .val (.ref ch)] [] := by first | (simp [entryFrame, mkF, argsToLocals, Value.category]; done) | rfl
  rw [hef]
  show Ogo p e below _ (s₁.setTop (mkF m 0 #[.val (.ref a), .val (.ref ch)] []))
  have K := Keep.refl h0 [a]
  refine own_via (fun tq kq => XS.aloadN X0.here hx rfl (hb hby d2_0) rfl rfl kq) ?_
  show Ogo p e below _ (s₁.setTop (mkF m 1 #[.val (.ref a), .val (.ref ch)] [(.ref a)]))
  refine own_via (fun tq kq => XS.aloadN X0.here hx rfl (hb hby d2_1) rfl rfl kq) ?_
  show Ogo p e below _ (s₁.setTop (mkF m 2 #[.val (.ref a), .val (.ref ch)] [(.ref ch), (.ref a)]))
  refine own_via (fun tq kq => XS.iconst X0.here hx rfl (hb hby d2_2) kq) ?_
  show Ogo p e below _ (s₁.setTop (mkF m 3 #[.val (.ref a), .val (.ref ch)] [(.int (0 : Int32)), (.ref ch), (.ref a)]))
  refine own_via (fun tq kq => XS.aloadN X0.here hx rfl (hb hby d2_3) rfl rfl kq) ?_
  show Ogo p e below _ (s₁.setTop (mkF m 4 #[.val (.ref a), .val (.ref ch)] [(.ref ch), (.int (0 : Int32)), (.ref ch), (.ref a)]))
  refine own_alen X0 hx hZ e0 A_ch (z := (2 : Int32)) rfl (hb hby d2_4) ?_
  show Ogo p e below _ (s₁.setTop (mkF m 5 #[.val (.ref a), .val (.ref ch)] [(.int (2 : Int32)), (.int (0 : Int32)), (.ref ch), (.ref a)]))
  refine own_via (fun tq kq => XS.aconstNull X0.here hx rfl (hb hby d2_5) kq) ?_
  show Ogo p e below _ (s₁.setTop (mkF m 6 #[.val (.ref a), .val (.ref ch)] [.null, (.int (2 : Int32)), (.int (0 : Int32)), (.ref ch), (.ref a)]))
  refine own_callI X0 hx hZ rfl hown (hw _ (List.mem_of_getElem? (i := 11) rfl)) (hw _ (List.mem_of_getElem? (i := 12) rfl)) (hw _ (List.mem_of_getElem? (i := 6) rfl)) (hw _ (List.mem_of_getElem? (i := 14) rfl)) (by decide) (rm_sv2 hw a ch x0 x1 zc h0 n0 A_ch E_a F_value_a F_coder_a g_a zs SCO hzc O hne hx0 hx1) rfl e0 (W := 0) (by decide) (by decide) (by decide) (by decide) (by rw [hml]; rfl) (a := a) (argsL := [(.ref ch), (.int (0 : Int32)), (.int (2 : Int32)), .null]) (rest := []) (lenOf pd_3 rfl) rfl (Nat.le_of_eq rfl) (hb hby d2_6) ?_
  rintro _ T1 L1 X1 ⟨rfl, Nq, Kc, hres⟩
  have N := N.app Nq
  have E_a := E_a.keep Kc
  have A_ch := A_ch.keep Kc (ninS hne nin0)
  have zs := Nat.le_trans zs Kc.1
  have O := O.keep Kc (allS g_a all0)
  have K := K.trans Kc (allS (Or.inl (List.mem_of_getElem? (i := 0) rfl)) all0)
  show Ogo p e below _ (T1.setTop (mkF m 9 #[.val (.ref a), .val (.ref ch)] []))
  exact own_out X1 hlk (fun _ => rfl) (by decide) (by decide) (⟨rfl, N, K, hres⟩) (fun fs hr => X1.returnOut hx hret (hb hby d2_9) hr)
set_option maxRecDepth 65536 in
set_option maxHeartbeats 40000000 in
theorem rm_sv0 {l : Launch} {Z : State} {a0 : Array Value} (hw : ∀ d ∈ tables_1, d.before a0 Z = true) (a ch : Addr) (x0 x1 : Int32) (h0 : Heap) (n0 : Nat) (hEL : EW Z a0 consts_1) (E_a : Exa Z h0 a "java/lang/String") (F_value_a : Fld Z h0 a "java/lang/String" "value" "[B" .null) (F_coder_a : Fld Z h0 a "java/lang/String" "coder" "B" (.int (0 : Int32))) (g_a : n0 ≤ a) (zs : n0 ≤ h0.size) :
    Owpays l (⟨"java/lang/String", "<init>", "([CIILjava/lang/Void;)V"⟩ : MethodName) jdk_42_method_149_code 6 none ({ frames := 1, cells := 4, slots := 8, locals := 12 } : Room) [] Z consts_1 h0 #[(.ref a), (.ref ch), (.int (0 : Int32)), (.int (0 : Int32)), .null] (fun v h L => v = none ∧ Fr n0 L ∧ Keep h0 h [a] ∧ Fld Z h a "java/lang/String" "coder" "B" (.int 0) ∧ ∃ t, Fld Z h a "java/lang/String" "value" "[B" (.ref t) ∧ Oar Z h t .byte 0 (fun q => .int (own_by x0 x1 q))) := by
  refine own_enterW (plainFor_of_name pn_1) ?_
  intro p e s m below meth c s₁ vm0 hx hby hml0 hown hnm hret hlk hZ e0 hS CR X0
  have hml : c.maxLocals = 6 := hml0
  replace hown : vm0.findClass "java/lang/String" = some m.cls := hown
  have N := Fr.nil n0
  have hef : entryFrame m #[(.ref a), (.ref ch), (.int (0 : Int32)), (.int (0 : Int32)), .null] 6 = mkF m 0 #[.val (.ref a), .val (.ref ch), .val (.int (0 : Int32)), .val (.int (0 : Int32)), .val .null, .unset] [] := by first | (simp [entryFrame, mkF, argsToLocals, Value.category]; done) | rfl
  rw [hef]
  show Ogo p e below _ (s₁.setTop (mkF m 0 #[.val (.ref a), .val (.ref ch), .val (.int (0 : Int32)), .val (.int (0 : Int32)), .val .null, .unset] []))
  have K := Keep.refl h0 [a]
  have S_a : Safe Z consts_1 vm0 h0 a := own_safeN hZ.alike E_a F_value_a (hw _ (List.mem_of_getElem? (i := 5) rfl))
  refine own_via (fun tq kq => XS.aloadN X0.here hx rfl (hb hby d3_0) rfl rfl kq) ?_
  show Ogo p e below _ (s₁.setTop (mkF m 1 #[.val (.ref a), .val (.ref ch), .val (.int (0 : Int32)), .val (.int (0 : Int32)), .val .null, .unset] [(.ref a)]))
  obtain ⟨T1, X1, e1, st1⟩ := initO X0 hx hZ hown (hw _ (List.mem_of_getElem? (i := 15) rfl)) (hw _ (List.mem_of_getElem? (i := 16) rfl)) (hw _ (List.mem_of_getElem? (i := 17) rfl)) e0 (g := (mkF m 1 #[.val (.ref a), .val (.ref ch), .val (.int (0 : Int32)), .val (.int (0 : Int32)), .val .null, .unset] [(.ref a)])) rfl (by rw [hml]; rfl) rfl (hb hby d3_1) (by decide) (W := 0) (by show 2 * 0 + _ ≤ _; exact Nat.le_of_eq rfl) (by decide)
  refine own_via st1 ?_
  show Ogo p e below _ (T1.setTop (mkF m 4 #[.val (.ref a), .val (.ref ch), .val (.int (0 : Int32)), .val (.int (0 : Int32)), .val .null, .unset] []))
  refine own_via (fun tq kq => XS.iloadN X1.here hx rfl (hb hby d3_4) rfl kq) ?_
  show Ogo p e below _ (T1.setTop (mkF m 5 #[.val (.ref a), .val (.ref ch), .val (.int (0 : Int32)), .val (.int (0 : Int32)), .val .null, .unset] [(.int (0 : Int32))]))
  refine own_via (fun tq kq => XS.ifNo X1.here hx rfl (hb hby d3_5) rfl ((if0 _ _).trans (teq (rfl : (0 : Int32) = (0 : Int32))).2) kq) ?_
  show Ogo p e below _ (T1.setTop (mkF m 8 #[.val (.ref a), .val (.ref ch), .val (.int (0 : Int32)), .val (.int (0 : Int32)), .val .null, .unset] []))
  refine own_via (fun tq kq => XS.aloadN X1.here hx rfl (hb hby d3_8) rfl rfl kq) ?_
  show Ogo p e below _ (T1.setTop (mkF m 9 #[.val (.ref a), .val (.ref ch), .val (.int (0 : Int32)), .val (.int (0 : Int32)), .val .null, .unset] [(.ref a)]))
  obtain ⟨l1, T2, h2, k2, t1, kb2, X2, e2, E2, hS', hk', hZ', hown', E_l1, F_coder_l1, F_value_l1, Av2, -, -, CRl, -, hsf, st2⟩ := ldcCH X1 hx hZ hown (hw _ (List.mem_of_getElem? (i := 34) rfl)) (own_atoms hw) e1 hS (Nat.le_refl _) hEL (List.mem_of_getElem? (i := 0) rfl) CR.1 (vs := []) (z := 0) (And.intro (fun c hc => (nomatch hc)) rfl) (by decide) rfl (g := (mkF m 9 #[.val (.ref a), .val (.ref ch), .val (.int (0 : Int32)), .val (.int (0 : Int32)), .val .null, .unset] [(.ref a)])) rfl (hb hby d3_9) (n := 0) (by decide) (by decide) (by decide) (by decide)
  refine own_via st2 ?_
  have S_a := CRl.safe E_a.lt S_a
  obtain ⟨ne_a_l1, ne_a_t1⟩ := hsf _ S_a
  have CR := CR.trans CRl
  have hS := own_sm hS' hk'
  have hZ : Z.Warmed39 T2.vm := hZ'
  have hown : T2.vm.findClass "java/lang/String" = some m.cls := hown'
  have A_t1 := own_arv0 Av2
  have E_a := E_a.ext E2
  have F_value_a := F_value_a.ext E2
  have F_coder_a := F_coder_a.ext E2
  have zs := Nat.le_trans zs E2.1
  have K := K.ext E2
  show Ogo p e below _ (T2.setTop (mkF m 11 #[.val (.ref a), .val (.ref ch), .val (.int (0 : Int32)), .val (.int (0 : Int32)), .val .null, .unset] [(.ref l1), (.ref a)]))
  obtain ⟨T3, X3, e3, st3⟩ := getF X2 hx hZ hown (host := "") (Or.inl (hw _ (List.mem_of_getElem? (i := 32) rfl))) Via.refl e2 F_value_l1 (g := (mkF m 11 #[.val (.ref a), .val (.ref ch), .val (.int (0 : Int32)), .val (.int (0 : Int32)), .val .null, .unset] [(.ref l1), (.ref a)])) rfl rfl (hb hby d3_11)
  refine own_via st3 ?_
  show Ogo p e below _ (T3.setTop (mkF m 14 #[.val (.ref a), .val (.ref ch), .val (.int (0 : Int32)), .val (.int (0 : Int32)), .val .null, .unset] [(.ref t1), (.ref a)]))
  obtain ⟨T4, h4, X4, e4, W4, st4⟩ := putF X3 hx hZ hown (host := "") (Or.inl (hw _ (List.mem_of_getElem? (i := 32) rfl))) Via.refl e3 F_value_a E_a (Or.inr ⟨(hw _ (List.mem_of_getElem? (i := 33) rfl)), rfl, hnm⟩) (hw _ (List.mem_of_getElem? (i := 5) rfl)) (ty := (.array .byte)) (by decide) rfl rfl (g := (mkF m 14 #[.val (.ref a), .val (.ref ch), .val (.int (0 : Int32)), .val (.int (0 : Int32)), .val .null, .unset] [(.ref t1), (.ref a)])) rfl rfl (hb hby d3_14)
  refine own_via st4 ?_
  have sA : Safe Z consts_1 T2.vm _ a := S_a
  have S_a := Safe.wr W4 sA CR.1 S_a
  have CR := CR.trans (CHr.wr W4 sA CR.1)
  have hS := own_sm hS (Keep.of_wr W4).1
  have E_a := E_a.wr W4
  have F_value_a := F_value_a.same W4
  have F_coder_a := F_coder_a.other W4 (Or.inr (slot_ne (Or.inr (hw _ (List.mem_of_getElem? (i := 31) rfl))) (Or.inr (hw _ (List.mem_of_getElem? (i := 33) rfl))) (by decide) (t := .byte) (t' := (.array .byte)) (by decide) (by decide)))
  have A_t1 := A_t1.other W4 (Ne.symm ne_a_t1)
  have zs := Nat.le_trans zs (Keep.of_wr W4).1
  have K := K.wr W4 (Or.inl (List.mem_of_getElem? (i := 0) rfl))
  have N := Fr.snoc X4 N g_a
  show Ogo p e below _ (T4.setTop (mkF m 17 #[.val (.ref a), .val (.ref ch), .val (.int (0 : Int32)), .val (.int (0 : Int32)), .val .null, .unset] []))
  refine own_via (fun tq kq => XS.aloadN X4.here hx rfl (hb hby d3_17) rfl rfl kq) ?_
  show Ogo p e below _ (T4.setTop (mkF m 18 #[.val (.ref a), .val (.ref ch), .val (.int (0 : Int32)), .val (.int (0 : Int32)), .val .null, .unset] [(.ref a)]))
  obtain ⟨l2, T5, h5, k5, t2, kb5, X5, e5, E5, hS', hk', hZ', hown', E_l2, F_coder_l2, F_value_l2, Av5, -, -, CRl, -, hsf, st5⟩ := ldcCH X4 hx hZ hown (hw _ (List.mem_of_getElem? (i := 34) rfl)) (own_atoms hw) e4 hS (Nat.le_refl _) hEL (List.mem_of_getElem? (i := 0) rfl) CR.1 (vs := []) (z := 0) (And.intro (fun c hc => (nomatch hc)) rfl) (by decide) rfl (g := (mkF m 18 #[.val (.ref a), .val (.ref ch), .val (.int (0 : Int32)), .val (.int (0 : Int32)), .val .null, .unset] [(.ref a)])) rfl (hb hby d3_18) (n := 0) (by decide) (by decide) (by decide) (by decide)
  refine own_via st5 ?_
  have S_a := CRl.safe E_a.lt S_a
  obtain ⟨ne_a_l2, ne_a_t2⟩ := hsf _ S_a
  have CR := CR.trans CRl
  have hS := own_sm hS' hk'
  have hZ : Z.Warmed39 T5.vm := hZ'
  have hown : T5.vm.findClass "java/lang/String" = some m.cls := hown'
  have A_t2 := own_arv0 Av5
  have E_a := E_a.ext E5
  have F_value_a := F_value_a.ext E5
  have F_coder_a := F_coder_a.ext E5
  have A_t1 := A_t1.ext E5
  have zs := Nat.le_trans zs E5.1
  have K := K.ext E5
  show Ogo p e below _ (T5.setTop (mkF m 20 #[.val (.ref a), .val (.ref ch), .val (.int (0 : Int32)), .val (.int (0 : Int32)), .val .null, .unset] [(.ref l2), (.ref a)]))
  obtain ⟨T6, X6, e6, st6⟩ := getF X5 hx hZ hown (host := "") (Or.inl (hw _ (List.mem_of_getElem? (i := 30) rfl))) Via.refl e5 F_coder_l2 (g := (mkF m 20 #[.val (.ref a), .val (.ref ch), .val (.int (0 : Int32)), .val (.int (0 : Int32)), .val .null, .unset] [(.ref l2), (.ref a)])) rfl rfl (hb hby d3_20)
  refine own_via st6 ?_
  show Ogo p e below _ (T6.setTop (mkF m 23 #[.val (.ref a), .val (.ref ch), .val (.int (0 : Int32)), .val (.int (0 : Int32)), .val .null, .unset] [(.int (0 : Int32)), (.ref a)]))
  obtain ⟨T7, h7, X7, e7, W7, st7⟩ := putFN X6 hx hZ hown (hw _ (List.mem_of_getElem? (i := 30) rfl)) Via.refl e6 F_coder_a E_a (Or.inr ⟨(hw _ (List.mem_of_getElem? (i := 31) rfl)), rfl, hnm⟩) (hw _ (List.mem_of_getElem? (i := 5) rfl)) (ty := .byte) (v' := (.int 0)) (by decide) rfl (by decide) (g := (mkF m 23 #[.val (.ref a), .val (.ref ch), .val (.int (0 : Int32)), .val (.int (0 : Int32)), .val .null, .unset] [(.int (0 : Int32)), (.ref a)])) rfl rfl (hb hby d3_23)
  refine own_via st7 ?_
  have sA : Safe Z consts_1 T5.vm _ a := S_a
  have S_a := Safe.wr W7 sA CR.1 S_a
  have CR := CR.trans (CHr.wr W7 sA CR.1)
  have hS := own_sm hS (Keep.of_wr W7).1
  have E_a := E_a.wr W7
  have F_value_a := F_value_a.other W7 (Or.inr (slot_ne (Or.inr (hw _ (List.mem_of_getElem? (i := 33) rfl))) (Or.inr (hw _ (List.mem_of_getElem? (i := 31) rfl))) (by decide) (t := (.array .byte)) (t' := .byte) (by decide) (by decide)))
  have F_coder_a := F_coder_a.same W7
  have A_t1 := A_t1.other W7 (Ne.symm ne_a_t1)
  have zs := Nat.le_trans zs (Keep.of_wr W7).1
  have K := K.wr W7 (Or.inl (List.mem_of_getElem? (i := 0) rfl))
  have N := Fr.snoc X7 N g_a
  show Ogo p e below _ (T7.setTop (mkF m 26 #[.val (.ref a), .val (.ref ch), .val (.int (0 : Int32)), .val (.int (0 : Int32)), .val .null, .unset] []))
  have A_t1 := A_t1.cast (f' := fun q => .int (own_by x0 x1 q)) (fun j hj => absurd hj (Nat.not_lt_zero j))
  exact own_outW X7 hlk (fun _ => rfl) (by decide) (by decide) hZ hEL e7 hS CR (by first | exact ⟨rfl, N, K, F_coder_a, t1, F_value_a, A_t1⟩ | (rw [e7]; exact ⟨rfl, N, K, F_coder_a, t1, F_value_a, A_t1⟩)) (fun fs hr => X7.returnOut hx hret (hb hby d3_26) hr)
set_option maxRecDepth 65536 in
set_option maxHeartbeats 40000000 in
theorem rm_sc0 {l : Launch} {Z : State} {a0 : Array Value} (hw : ∀ d ∈ tables_1, d.before a0 Z = true) (a ch : Addr) (x0 x1 : Int32) (f : Nat → Value) (h0 : Heap) (n0 : Nat) (hEL : EW Z a0 consts_1) (A_ch : Oar Z h0 ch .char 0 f) (E_a : Exa Z h0 a "java/lang/String") (F_value_a : Fld Z h0 a "java/lang/String" "value" "[B" .null) (F_coder_a : Fld Z h0 a "java/lang/String" "coder" "B" (.int (0 : Int32))) (g_a : n0 ≤ a) (zs : n0 ≤ h0.size) :
    Owpays l (⟨"java/lang/String", "<init>", "([C)V"⟩ : MethodName) jdk_42_method_3_code 2 none ({ frames := 2, cells := 4, slots := 8, locals := 29 } : Room) [] Z consts_1 h0 #[(.ref a), (.ref ch)] (fun v h L => v = none ∧ Fr n0 L ∧ Keep h0 h [a] ∧ Fld Z h a "java/lang/String" "coder" "B" (.int 0) ∧ ∃ t, Fld Z h a "java/lang/String" "value" "[B" (.ref t) ∧ Oar Z h t .byte 0 (fun q => .int (own_by x0 x1 q))) := by
  refine own_enterW (plainFor_of_name pn_1) ?_
  intro p e s m below meth c s₁ vm0 hx hby hml0 hown hnm hret hlk hZ e0 hS CR X0
  have hml : c.maxLocals = 2 := hml0
  replace hown : vm0.findClass "java/lang/String" = some m.cls := hown
  have N := Fr.nil n0
  have hef : entryFrame m #[(.ref a), (.ref ch)] 2 = mkF m 0 #[.val (.ref a), .val (.ref ch)] [] := by first | (simp [entryFrame, mkF, argsToLocals, Value.category]; done) | rfl
  rw [hef]
  show Ogo p e below _ (s₁.setTop (mkF m 0 #[.val (.ref a), .val (.ref ch)] []))
  have K := Keep.refl h0 [a]
  refine own_via (fun tq kq => XS.aloadN X0.here hx rfl (hb hby d2_0) rfl rfl kq) ?_
  show Ogo p e below _ (s₁.setTop (mkF m 1 #[.val (.ref a), .val (.ref ch)] [(.ref a)]))
  refine own_via (fun tq kq => XS.aloadN X0.here hx rfl (hb hby d2_1) rfl rfl kq) ?_
  show Ogo p e below _ (s₁.setTop (mkF m 2 #[.val (.ref a), .val (.ref ch)] [(.ref ch), (.ref a)]))
  refine own_via (fun tq kq => XS.iconst X0.here hx rfl (hb hby d2_2) kq) ?_
  show Ogo p e below _ (s₁.setTop (mkF m 3 #[.val (.ref a), .val (.ref ch)] [(.int (0 : Int32)), (.ref ch), (.ref a)]))
  refine own_via (fun tq kq => XS.aloadN X0.here hx rfl (hb hby d2_3) rfl rfl kq) ?_
  show Ogo p e below _ (s₁.setTop (mkF m 4 #[.val (.ref a), .val (.ref ch)] [(.ref ch), (.int (0 : Int32)), (.ref ch), (.ref a)]))
  refine own_alen X0 hx hZ e0 A_ch (z := (0 : Int32)) rfl (hb hby d2_4) ?_
  show Ogo p e below _ (s₁.setTop (mkF m 5 #[.val (.ref a), .val (.ref ch)] [(.int (0 : Int32)), (.int (0 : Int32)), (.ref ch), (.ref a)]))
  refine own_via (fun tq kq => XS.aconstNull X0.here hx rfl (hb hby d2_5) kq) ?_
  show Ogo p e below _ (s₁.setTop (mkF m 6 #[.val (.ref a), .val (.ref ch)] [.null, (.int (0 : Int32)), (.int (0 : Int32)), (.ref ch), (.ref a)]))
  refine own_callIW X0 hx hZ rfl hown (hw _ (List.mem_of_getElem? (i := 11) rfl)) (hw _ (List.mem_of_getElem? (i := 12) rfl)) (hw _ (List.mem_of_getElem? (i := 6) rfl)) (hw _ (List.mem_of_getElem? (i := 14) rfl)) (by decide) (rm_sv0 hw a ch x0 x1 h0 n0 hEL E_a F_value_a F_coder_a g_a zs) rfl e0 (W := 0) (by decide) (by decide) (by decide) (by decide) hEL hS CR.1 (by rw [hml]; rfl) (a := a) (argsL := [(.ref ch), (.int (0 : Int32)), (.int (0 : Int32)), .null]) (rest := []) (lenOf pd_3 rfl) rfl (Nat.le_of_eq rfl) (hb hby d2_6) ?_
  rintro _ T1 L1 X1 hS hZ hown CRl ⟨rfl, Nq, Kc, hres⟩
  have N := N.app Nq
  have CR := CR.trans CRl
  have E_a := E_a.keep Kc
  have zs := Nat.le_trans zs Kc.1
  have K := K.trans Kc (allS (Or.inl (List.mem_of_getElem? (i := 0) rfl)) all0)
  show Ogo p e below _ (T1.setTop (mkF m 9 #[.val (.ref a), .val (.ref ch)] []))
  exact own_outW X1 hlk (fun _ => rfl) (by decide) (by decide) hZ hEL rfl hS CR (⟨rfl, N, K, hres⟩) (fun fs hr => X1.returnOut hx hret (hb hby d2_9) hr)
set_option maxRecDepth 65536 in
set_option maxHeartbeats 40000000 in
theorem rm_str {l : Launch} {Z : State} {a0 : Array Value} (hw : ∀ d ∈ tables_1, d.before a0 Z = true) (n : Nat) (zl x0 x1 zc : Int32) (h0 : Heap) (n0 : Nat) (hEL : EW Z a0 consts_1) (hzl : zl.toInt = (n : Int)) (hn2 : n ≤ 2) (zs : n0 ≤ h0.size) (SCO : Sta Z Z.heap "java/lang/String" "COMPACT_STRINGS" "Z" (.int zc)) (hzc : ¬ zc = 0) (O : Old Z n0 h0) (hx0 : 0 ≤ x0.toInt ∧ x0.toInt ≤ 255) (hx1 : 0 ≤ x1.toInt ∧ x1.toInt ≤ 255) :
    Owpays l (⟨"com/example/diligent_workflow/diligentworkflow/feel/TokenIsPinLaw", "str", "(ICC)Ljava/lang/String;"⟩ : MethodName) method_3_code 3 (some (.object "java/lang/String")) ({ frames := 4, cells := 6, slots := 14, locals := 66 } : Room) [] Z consts_1 h0 #[(.int zl), (.int x0), (.int x1)] (fun v h L => Fr n0 L ∧ Keep h0 h [] ∧ ∃ b, v = some (.ref b) ∧ h0.size ≤ b ∧ Ostr Z h b n x0 x1) := by
  refine own_enterW (plainFor_of_name pn_2) ?_
  intro p e s m below meth c s₁ vm0 hx hby hml0 hown hnm hret hlk hZ e0 hS CR X0
  have hml : c.maxLocals = 3 := hml0
  replace hown : vm0.findClass "com/example/diligent_workflow/diligentworkflow/feel/TokenIsPinLaw" = some m.cls := hown
  have N := Fr.nil n0
  have hef : entryFrame m #[(.int zl), (.int x0), (.int x1)] 3 = mkF m 0 #[.val (.int zl), .val (.int x0), .val (.int x1)] [] := by first | (simp [entryFrame, mkF, argsToLocals, Value.category]; done) | rfl
  rw [hef]
  show Ogo p e below _ (s₁.setTop (mkF m 0 #[.val (.int zl), .val (.int x0), .val (.int x1)] []))
  have K := Keep.refl h0 []
  have l0 : (0 : Int32).toInt = 0 := rfl
  have l1 : (1 : Int32).toInt = 1 := rfl
  have l2 : (2 : Int32).toInt = 2 := rfl
  refine own_via (fun tq kq => XS.iloadN X0.here hx rfl (hb hby d1_0) rfl kq) ?_
  show Ogo p e below _ (s₁.setTop (mkF m 1 #[.val (.int zl), .val (.int x0), .val (.int x1)] [(.int zl)]))
  by_cases hc1 : zl = (0 : Int32)
  · refine own_via (fun tq kq => XS.ifNo X0.here hx rfl (hb hby d1_1) rfl ((if0 _ _).trans (teq (hc1 : zl = (0 : Int32))).2) kq) ?_
    show Ogo p e below _ (s₁.setTop (mkF m 4 #[.val (.int zl), .val (.int x0), .val (.int x1)] []))
    obtain rfl : n = 0 := by have := congrArg Int32.toInt hc1; omega
    obtain ⟨T1, h1, X1, e1, E1, A1, D1, -, st1⟩ := newO X0 hx hZ hown (hw _ (List.mem_of_getElem? (i := 4) rfl)) (hw _ (List.mem_of_getElem? (i := 5) rfl)) (hw _ (List.mem_of_getElem? (i := 6) rfl)) e0 (g := (mkF m 4 #[.val (.int zl), .val (.int x0), .val (.int x1)] [])) rfl (hb hby d1_4) (by decide) (by decide)
    refine own_via st1 ?_
    obtain ⟨b, g1⟩ : ∃ z, z = h0.size := ⟨_, rfl⟩
    rw [← g1]
    rw [← g1] at A1 D1
    have g_b : n0 ≤ b := by rw [g1]; exact zs
    have sz_b : h0.size ≤ b := by rw [g1]; exact K.1
    have CR := CR.trans (CHr.ext E1 CR.1)
    have hS := own_sm hS E1.1
    have zs := Nat.le_trans zs E1.1
    have O := O.ext E1
    have K := K.ext E1
    have E_b := A1
    have F_coder_b : Fld Z h1 b "java/lang/String" "coder" "B" (.int (0 : Int32)) := D1 (Or.inr (hw _ (List.mem_of_getElem? (i := 31) rfl))) (ty := .byte) (by decide)
    have F_value_b : Fld Z h1 b "java/lang/String" "value" "[B" .null := D1 (Or.inr (hw _ (List.mem_of_getElem? (i := 33) rfl))) (ty := (.array .byte)) (by decide)
    show Ogo p e below _ (T1.setTop (mkF m 7 #[.val (.int zl), .val (.int x0), .val (.int x1)] [(.ref b)]))
    refine own_via (fun tq kq => XS.dup X1.here hx rfl (hb hby d1_7) rfl rfl kq) ?_
    show Ogo p e below _ (T1.setTop (mkF m 8 #[.val (.int zl), .val (.int x0), .val (.int x1)] [(.ref b), (.ref b)]))
    refine own_via (fun tq kq => XS.iconst X1.here hx rfl (hb hby d1_8) kq) ?_
    show Ogo p e below _ (T1.setTop (mkF m 9 #[.val (.int zl), .val (.int x0), .val (.int x1)] [(.int (0 : Int32)), (.ref b), (.ref b)]))
    obtain ⟨T2, h2, k2, X2, e2, E2, A2, st2⟩ := newP X1 hx hZ (hw _ (List.mem_of_getElem? (i := 7) rfl)) e1 (g := (mkF m 9 #[.val (.int zl), .val (.int x0), .val (.int x1)] [(.int (0 : Int32)), (.ref b), (.ref b)])) rfl (hb hby d1_9) rfl (by decide) (cap := 0) (by decide) (by decide) (by decide) (by decide)
    refine own_via st2 ?_
    obtain ⟨ch, g2⟩ : ∃ z, z = h1.size := ⟨_, rfl⟩
    rw [← g2]
    rw [← g2] at A2
    have lt_b_ch : b < ch := by rw [g2]; exact E_b.lt
    have g_ch : n0 ≤ ch := by rw [g2]; exact zs
    have sz_ch : h0.size ≤ ch := by rw [g2]; exact K.1
    have CR := CR.trans (CHr.ext E2 CR.1)
    have hS := own_sm hS E2.1
    have E_b := E_b.ext E2
    have F_coder_b := F_coder_b.ext E2
    have F_value_b := F_value_b.ext E2
    have zs := Nat.le_trans zs E2.1
    have O := O.ext E2
    have K := K.ext E2
    have A_ch : Oar Z h2 ch .char 0 (fun _ => defaultValue .char) := Oar.new A2 (by decide) rfl
    show Ogo p e below _ (T2.setTop (mkF m 11 #[.val (.int zl), .val (.int x0), .val (.int x1)] [(.ref ch), (.ref b), (.ref b)]))
    refine own_callIW X2 hx hZ rfl hown (hw _ (List.mem_of_getElem? (i := 8) rfl)) (hw _ (List.mem_of_getElem? (i := 9) rfl)) (hw _ (List.mem_of_getElem? (i := 6) rfl)) (hw _ (List.mem_of_getElem? (i := 10) rfl)) (by decide) (rm_sc0 hw b ch x0 x1 _ h2 n0 hEL A_ch E_b F_value_b F_coder_b g_b zs) rfl e2 (W := 1) (by decide) (by decide) (by decide) (by decide) hEL hS CR.1 (by rw [hml]; rfl) (a := b) (argsL := [(.ref ch)]) (rest := [(.ref b)]) (lenOf pd_4 rfl) rfl (Nat.le_of_eq rfl) (hb hby d1_11) ?_
    rintro _ T3 L3 X3 hS hZ hown CRl ⟨rfl, Nq, Kc, Fc9, t, Fv9, A_t⟩
    have N := N.app Nq
    have CR := CR.trans CRl
    have E_b := E_b.keep Kc
    have A_ch := A_ch.keep Kc (ninS (Nat.ne_of_gt lt_b_ch) nin0)
    have zs := Nat.le_trans zs Kc.1
    have O := O.keep Kc (allS g_b all0)
    have K := K.trans Kc (allS (Or.inr sz_b) all0)
    show Ogo p e below _ (T3.setTop (mkF m 14 #[.val (.int zl), .val (.int x0), .val (.int x1)] [(.ref b)]))
    exact own_outW X3 hlk (fun h => by rw [hret] at h; cases h) (by decide) (by decide) hZ hEL rfl hS CR (⟨N, K, b, rfl, (by first | exact sz_b | exact Nat.le_refl _), E_b, Fc9, t, Fv9, A_t⟩) (fun fs hr => own_retA X3 hx hret rfl rfl (hb hby d1_14) hr)
  · refine own_via (fun tq kq => XS.ifYes X0.here hx rfl (pc0 := 1) (pc' := 15) rfl (hb hby d1_1) rfl ((if0 _ _).trans (feq (hc1 : ¬ (zl = (0 : Int32)))).2) (by decide) (by decide) kq) ?_
    show Ogo p e below _ (s₁.setTop (mkF m 15 #[.val (.int zl), .val (.int x0), .val (.int x1)] []))
    refine own_via (fun tq kq => XS.iloadN X0.here hx rfl (hb hby d1_15) rfl kq) ?_
    show Ogo p e below _ (s₁.setTop (mkF m 16 #[.val (.int zl), .val (.int x0), .val (.int x1)] [(.int zl)]))
    refine own_via (fun tq kq => XS.iconst X0.here hx rfl (hb hby d1_16) kq) ?_
    show Ogo p e below _ (s₁.setTop (mkF m 17 #[.val (.int zl), .val (.int x0), .val (.int x1)] [(.int (1 : Int32)), (.int zl)]))
    by_cases hc17 : zl = (1 : Int32)
    · refine own_via (fun tq kq => XS.icmpNo X0.here hx rfl (hb hby d1_17) rfl (teq (hc17 : zl = (1 : Int32))).2 kq) ?_
      show Ogo p e below _ (s₁.setTop (mkF m 20 #[.val (.int zl), .val (.int x0), .val (.int x1)] []))
      obtain rfl : n = 1 := by have := congrArg Int32.toInt hc17; omega
      obtain ⟨T4, h4, X4, e4, E4, A4, D4, -, st4⟩ := newO X0 hx hZ hown (hw _ (List.mem_of_getElem? (i := 4) rfl)) (hw _ (List.mem_of_getElem? (i := 5) rfl)) (hw _ (List.mem_of_getElem? (i := 6) rfl)) e0 (g := (mkF m 20 #[.val (.int zl), .val (.int x0), .val (.int x1)] [])) rfl (hb hby d1_20) (by decide) (by decide)
      refine own_via st4 ?_
      obtain ⟨b, g4⟩ : ∃ z, z = h0.size := ⟨_, rfl⟩
      rw [← g4]
      rw [← g4] at A4 D4
      have g_b : n0 ≤ b := by rw [g4]; exact zs
      have sz_b : h0.size ≤ b := by rw [g4]; exact K.1
      have CR := CR.trans (CHr.ext E4 CR.1)
      have hS := own_sm hS E4.1
      have zs := Nat.le_trans zs E4.1
      have O := O.ext E4
      have K := K.ext E4
      have E_b := A4
      have F_coder_b : Fld Z h4 b "java/lang/String" "coder" "B" (.int (0 : Int32)) := D4 (Or.inr (hw _ (List.mem_of_getElem? (i := 31) rfl))) (ty := .byte) (by decide)
      have F_value_b : Fld Z h4 b "java/lang/String" "value" "[B" .null := D4 (Or.inr (hw _ (List.mem_of_getElem? (i := 33) rfl))) (ty := (.array .byte)) (by decide)
      show Ogo p e below _ (T4.setTop (mkF m 23 #[.val (.int zl), .val (.int x0), .val (.int x1)] [(.ref b)]))
      refine own_via (fun tq kq => XS.dup X4.here hx rfl (hb hby d1_23) rfl rfl kq) ?_
      show Ogo p e below _ (T4.setTop (mkF m 24 #[.val (.int zl), .val (.int x0), .val (.int x1)] [(.ref b), (.ref b)]))
      refine own_via (fun tq kq => XS.iconst X4.here hx rfl (hb hby d1_24) kq) ?_
      show Ogo p e below _ (T4.setTop (mkF m 25 #[.val (.int zl), .val (.int x0), .val (.int x1)] [(.int (1 : Int32)), (.ref b), (.ref b)]))
      obtain ⟨T5, h5, k5, X5, e5, E5, A5, st5⟩ := newP X4 hx hZ (hw _ (List.mem_of_getElem? (i := 7) rfl)) e4 (g := (mkF m 25 #[.val (.int zl), .val (.int x0), .val (.int x1)] [(.int (1 : Int32)), (.ref b), (.ref b)])) rfl (hb hby d1_25) rfl (by decide) (cap := 1) (by decide) (by decide) (by decide) (by decide)
      refine own_via st5 ?_
      obtain ⟨ch, g5⟩ : ∃ z, z = h4.size := ⟨_, rfl⟩
      rw [← g5]
      rw [← g5] at A5
      have lt_b_ch : b < ch := by rw [g5]; exact E_b.lt
      have g_ch : n0 ≤ ch := by rw [g5]; exact zs
      have sz_ch : h0.size ≤ ch := by rw [g5]; exact K.1
      have CR := CR.trans (CHr.ext E5 CR.1)
      have hS := own_sm hS E5.1
      have E_b := E_b.ext E5
      have F_coder_b := F_coder_b.ext E5
      have F_value_b := F_value_b.ext E5
      have zs := Nat.le_trans zs E5.1
      have O := O.ext E5
      have K := K.ext E5
      have A_ch : Oar Z h5 ch .char 1 (fun _ => defaultValue .char) := Oar.new A5 (by decide) rfl
      show Ogo p e below _ (T5.setTop (mkF m 27 #[.val (.int zl), .val (.int x0), .val (.int x1)] [(.ref ch), (.ref b), (.ref b)]))
      refine own_via (fun tq kq => XS.dup X5.here hx rfl (hb hby d1_27) rfl rfl kq) ?_
      show Ogo p e below _ (T5.setTop (mkF m 28 #[.val (.int zl), .val (.int x0), .val (.int x1)] [(.ref ch), (.ref ch), (.ref b), (.ref b)]))
      refine own_via (fun tq kq => XS.iconst X5.here hx rfl (hb hby d1_28) kq) ?_
      show Ogo p e below _ (T5.setTop (mkF m 29 #[.val (.int zl), .val (.int x0), .val (.int x1)] [(.int (0 : Int32)), (.ref ch), (.ref ch), (.ref b), (.ref b)]))
      refine own_via (fun tq kq => XS.iloadN X5.here hx rfl (hb hby d1_29) rfl kq) ?_
      show Ogo p e below _ (T5.setTop (mkF m 30 #[.val (.int zl), .val (.int x0), .val (.int x1)] [(.int x0), (.int (0 : Int32)), (.ref ch), (.ref ch), (.ref b), (.ref b)]))
      obtain ⟨T6, h6, X6, e6, W6, A_ch', st6⟩ := own_cast X5 hx hZ e5 A_ch (x := x0) (j := (0 : Int32)) (i := 0) (by decide) (by decide) (pc := 30) (Ls := #[.val (.int zl), .val (.int x0), .val (.int x1)]) (rest := [(.ref ch), (.ref b), (.ref b)]) (hb hby d1_30)
      refine own_via st6 ?_
      have sA : Safe Z consts_1 vm0 _ ch := (own_safeA hZ.alike A_ch (by intro h; cases h))
      have CR := CR.trans (CHr.wr W6 sA CR.1)
      have hS := own_sm hS (Keep.of_wr W6).1
      have E_b := E_b.wr W6
      have F_coder_b := F_coder_b.other W6 (Or.inl (Nat.ne_of_lt lt_b_ch))
      have F_value_b := F_value_b.other W6 (Or.inl (Nat.ne_of_lt lt_b_ch))
      have zs := Nat.le_trans zs (Keep.of_wr W6).1
      have O := O.wr W6 g_ch
      have K := K.wr W6 (Or.inr sz_ch)
      have N := Fr.snoc X6 N g_ch
      have A_ch := A_ch'
      show Ogo p e below _ (T6.setTop (mkF m 31 #[.val (.int zl), .val (.int x0), .val (.int x1)] [(.ref ch), (.ref b), (.ref b)]))
      have A_ch := A_ch.cast (f' := own_ch x0 x1) (by intro j hj; rcases j with _ | _ | j <;> first | omega | simp [own_ch, own_nc hx0.1 hx0.2, own_nc hx1.1 hx1.2])
      refine own_callI X6 hx hZ rfl hown (hw _ (List.mem_of_getElem? (i := 8) rfl)) (hw _ (List.mem_of_getElem? (i := 9) rfl)) (hw _ (List.mem_of_getElem? (i := 6) rfl)) (hw _ (List.mem_of_getElem? (i := 10) rfl)) (by decide) (rm_sc1 hw b ch x0 x1 zc h6 n0 A_ch E_b F_value_b F_coder_b g_b zs SCO hzc O (Nat.ne_of_gt lt_b_ch) hx0 hx1) rfl e6 (W := 1) (by decide) (by decide) (by decide) (by decide) (by rw [hml]; rfl) (a := b) (argsL := [(.ref ch)]) (rest := [(.ref b)]) (lenOf pd_4 rfl) rfl (Nat.le_of_eq rfl) (hb hby d1_31) ?_
      rintro _ T7 L7 X7 ⟨rfl, Nq, Kc, Fc9, t, Fv9, A_t⟩
      have N := N.app Nq
      have sK : ∀ x ∈ [b], Safe Z consts_1 vm0 h6 x := allS (own_safeN hZ.alike E_b F_value_b (hw _ (List.mem_of_getElem? (i := 5) rfl))) (all0)
      have CR := CR.trans (CHr.keep Kc sK CR.1)
      have hS := own_sm hS Kc.1
      have E_b := E_b.keep Kc
      have A_ch := A_ch.keep Kc (ninS (Nat.ne_of_gt lt_b_ch) nin0)
      have zs := Nat.le_trans zs Kc.1
      have O := O.keep Kc (allS g_b all0)
      have K := K.trans Kc (allS (Or.inr sz_b) all0)
      show Ogo p e below _ (T7.setTop (mkF m 34 #[.val (.int zl), .val (.int x0), .val (.int x1)] [(.ref b)]))
      exact own_outW X7 hlk (fun h => by rw [hret] at h; cases h) (by decide) (by decide) hZ hEL rfl hS CR (⟨N, K, b, rfl, (by first | exact sz_b | exact Nat.le_refl _), E_b, Fc9, t, Fv9, A_t⟩) (fun fs hr => own_retA X7 hx hret rfl rfl (hb hby d1_34) hr)
    · refine own_via (fun tq kq => XS.icmpYes X0.here hx rfl (pc0 := 17) (pc' := 35) rfl (hb hby d1_17) rfl (feq (hc17 : ¬ (zl = (1 : Int32)))).2 (by decide) (by decide) kq) ?_
      show Ogo p e below _ (s₁.setTop (mkF m 35 #[.val (.int zl), .val (.int x0), .val (.int x1)] []))
      obtain rfl : n = 2 := by have a1 : zl.toInt ≠ 0 := fun q => hc1 (Int32.toInt_inj.mp q); have a2 : zl.toInt ≠ 1 := fun q => hc17 (Int32.toInt_inj.mp q); omega
      obtain ⟨T8, h8, X8, e8, E8, A8, D8, -, st8⟩ := newO X0 hx hZ hown (hw _ (List.mem_of_getElem? (i := 4) rfl)) (hw _ (List.mem_of_getElem? (i := 5) rfl)) (hw _ (List.mem_of_getElem? (i := 6) rfl)) e0 (g := (mkF m 35 #[.val (.int zl), .val (.int x0), .val (.int x1)] [])) rfl (hb hby d1_35) (by decide) (by decide)
      refine own_via st8 ?_
      obtain ⟨b, g8⟩ : ∃ z, z = h0.size := ⟨_, rfl⟩
      rw [← g8]
      rw [← g8] at A8 D8
      have g_b : n0 ≤ b := by rw [g8]; exact zs
      have sz_b : h0.size ≤ b := by rw [g8]; exact K.1
      have CR := CR.trans (CHr.ext E8 CR.1)
      have hS := own_sm hS E8.1
      have zs := Nat.le_trans zs E8.1
      have O := O.ext E8
      have K := K.ext E8
      have E_b := A8
      have F_coder_b : Fld Z h8 b "java/lang/String" "coder" "B" (.int (0 : Int32)) := D8 (Or.inr (hw _ (List.mem_of_getElem? (i := 31) rfl))) (ty := .byte) (by decide)
      have F_value_b : Fld Z h8 b "java/lang/String" "value" "[B" .null := D8 (Or.inr (hw _ (List.mem_of_getElem? (i := 33) rfl))) (ty := (.array .byte)) (by decide)
      show Ogo p e below _ (T8.setTop (mkF m 38 #[.val (.int zl), .val (.int x0), .val (.int x1)] [(.ref b)]))
      refine own_via (fun tq kq => XS.dup X8.here hx rfl (hb hby d1_38) rfl rfl kq) ?_
      show Ogo p e below _ (T8.setTop (mkF m 39 #[.val (.int zl), .val (.int x0), .val (.int x1)] [(.ref b), (.ref b)]))
      refine own_via (fun tq kq => XS.iconst X8.here hx rfl (hb hby d1_39) kq) ?_
      show Ogo p e below _ (T8.setTop (mkF m 40 #[.val (.int zl), .val (.int x0), .val (.int x1)] [(.int (2 : Int32)), (.ref b), (.ref b)]))
      obtain ⟨T9, h9, k9, X9, e9, E9, A9, st9⟩ := newP X8 hx hZ (hw _ (List.mem_of_getElem? (i := 7) rfl)) e8 (g := (mkF m 40 #[.val (.int zl), .val (.int x0), .val (.int x1)] [(.int (2 : Int32)), (.ref b), (.ref b)])) rfl (hb hby d1_40) rfl (by decide) (cap := 2) (by decide) (by decide) (by decide) (by decide)
      refine own_via st9 ?_
      obtain ⟨ch, g9⟩ : ∃ z, z = h8.size := ⟨_, rfl⟩
      rw [← g9]
      rw [← g9] at A9
      have lt_b_ch : b < ch := by rw [g9]; exact E_b.lt
      have g_ch : n0 ≤ ch := by rw [g9]; exact zs
      have sz_ch : h0.size ≤ ch := by rw [g9]; exact K.1
      have CR := CR.trans (CHr.ext E9 CR.1)
      have hS := own_sm hS E9.1
      have E_b := E_b.ext E9
      have F_coder_b := F_coder_b.ext E9
      have F_value_b := F_value_b.ext E9
      have zs := Nat.le_trans zs E9.1
      have O := O.ext E9
      have K := K.ext E9
      have A_ch : Oar Z h9 ch .char 2 (fun _ => defaultValue .char) := Oar.new A9 (by decide) rfl
      show Ogo p e below _ (T9.setTop (mkF m 42 #[.val (.int zl), .val (.int x0), .val (.int x1)] [(.ref ch), (.ref b), (.ref b)]))
      refine own_via (fun tq kq => XS.dup X9.here hx rfl (hb hby d1_42) rfl rfl kq) ?_
      show Ogo p e below _ (T9.setTop (mkF m 43 #[.val (.int zl), .val (.int x0), .val (.int x1)] [(.ref ch), (.ref ch), (.ref b), (.ref b)]))
      refine own_via (fun tq kq => XS.iconst X9.here hx rfl (hb hby d1_43) kq) ?_
      show Ogo p e below _ (T9.setTop (mkF m 44 #[.val (.int zl), .val (.int x0), .val (.int x1)] [(.int (0 : Int32)), (.ref ch), (.ref ch), (.ref b), (.ref b)]))
      refine own_via (fun tq kq => XS.iloadN X9.here hx rfl (hb hby d1_44) rfl kq) ?_
      show Ogo p e below _ (T9.setTop (mkF m 45 #[.val (.int zl), .val (.int x0), .val (.int x1)] [(.int x0), (.int (0 : Int32)), (.ref ch), (.ref ch), (.ref b), (.ref b)]))
      obtain ⟨T10, h10, X10, e10, W10, A_ch', st10⟩ := own_cast X9 hx hZ e9 A_ch (x := x0) (j := (0 : Int32)) (i := 0) (by decide) (by decide) (pc := 45) (Ls := #[.val (.int zl), .val (.int x0), .val (.int x1)]) (rest := [(.ref ch), (.ref b), (.ref b)]) (hb hby d1_45)
      refine own_via st10 ?_
      have sA : Safe Z consts_1 vm0 _ ch := (own_safeA hZ.alike A_ch (by intro h; cases h))
      have CR := CR.trans (CHr.wr W10 sA CR.1)
      have hS := own_sm hS (Keep.of_wr W10).1
      have E_b := E_b.wr W10
      have F_coder_b := F_coder_b.other W10 (Or.inl (Nat.ne_of_lt lt_b_ch))
      have F_value_b := F_value_b.other W10 (Or.inl (Nat.ne_of_lt lt_b_ch))
      have zs := Nat.le_trans zs (Keep.of_wr W10).1
      have O := O.wr W10 g_ch
      have K := K.wr W10 (Or.inr sz_ch)
      have N := Fr.snoc X10 N g_ch
      have A_ch := A_ch'
      show Ogo p e below _ (T10.setTop (mkF m 46 #[.val (.int zl), .val (.int x0), .val (.int x1)] [(.ref ch), (.ref b), (.ref b)]))
      refine own_via (fun tq kq => XS.dup X10.here hx rfl (hb hby d1_46) rfl rfl kq) ?_
      show Ogo p e below _ (T10.setTop (mkF m 47 #[.val (.int zl), .val (.int x0), .val (.int x1)] [(.ref ch), (.ref ch), (.ref b), (.ref b)]))
      refine own_via (fun tq kq => XS.iconst X10.here hx rfl (hb hby d1_47) kq) ?_
      show Ogo p e below _ (T10.setTop (mkF m 48 #[.val (.int zl), .val (.int x0), .val (.int x1)] [(.int (1 : Int32)), (.ref ch), (.ref ch), (.ref b), (.ref b)]))
      refine own_via (fun tq kq => XS.iloadN X10.here hx rfl (hb hby d1_48) rfl kq) ?_
      show Ogo p e below _ (T10.setTop (mkF m 49 #[.val (.int zl), .val (.int x0), .val (.int x1)] [(.int x1), (.int (1 : Int32)), (.ref ch), (.ref ch), (.ref b), (.ref b)]))
      obtain ⟨T11, h11, X11, e11, W11, A_ch', st11⟩ := own_cast X10 hx hZ e10 A_ch (x := x1) (j := (1 : Int32)) (i := 1) (by decide) (by decide) (pc := 49) (Ls := #[.val (.int zl), .val (.int x0), .val (.int x1)]) (rest := [(.ref ch), (.ref b), (.ref b)]) (hb hby d1_49)
      refine own_via st11 ?_
      have sA : Safe Z consts_1 vm0 _ ch := (own_safeA hZ.alike A_ch (by intro h; cases h))
      have CR := CR.trans (CHr.wr W11 sA CR.1)
      have hS := own_sm hS (Keep.of_wr W11).1
      have E_b := E_b.wr W11
      have F_coder_b := F_coder_b.other W11 (Or.inl (Nat.ne_of_lt lt_b_ch))
      have F_value_b := F_value_b.other W11 (Or.inl (Nat.ne_of_lt lt_b_ch))
      have zs := Nat.le_trans zs (Keep.of_wr W11).1
      have O := O.wr W11 g_ch
      have K := K.wr W11 (Or.inr sz_ch)
      have N := Fr.snoc X11 N g_ch
      have A_ch := A_ch'
      show Ogo p e below _ (T11.setTop (mkF m 50 #[.val (.int zl), .val (.int x0), .val (.int x1)] [(.ref ch), (.ref b), (.ref b)]))
      have A_ch := A_ch.cast (f' := own_ch x0 x1) (by intro j hj; rcases j with _ | _ | j <;> first | omega | simp [own_ch, own_nc hx0.1 hx0.2, own_nc hx1.1 hx1.2])
      refine own_callI X11 hx hZ rfl hown (hw _ (List.mem_of_getElem? (i := 8) rfl)) (hw _ (List.mem_of_getElem? (i := 9) rfl)) (hw _ (List.mem_of_getElem? (i := 6) rfl)) (hw _ (List.mem_of_getElem? (i := 10) rfl)) (by decide) (rm_sc2 hw b ch x0 x1 zc h11 n0 A_ch E_b F_value_b F_coder_b g_b zs SCO hzc O (Nat.ne_of_gt lt_b_ch) hx0 hx1) rfl e11 (W := 1) (by decide) (by decide) (by decide) (by decide) (by rw [hml]; rfl) (a := b) (argsL := [(.ref ch)]) (rest := [(.ref b)]) (lenOf pd_4 rfl) rfl (Nat.le_of_eq rfl) (hb hby d1_50) ?_
      rintro _ T12 L12 X12 ⟨rfl, Nq, Kc, Fc9, t, Fv9, A_t⟩
      have N := N.app Nq
      have sK : ∀ x ∈ [b], Safe Z consts_1 vm0 h11 x := allS (own_safeN hZ.alike E_b F_value_b (hw _ (List.mem_of_getElem? (i := 5) rfl))) (all0)
      have CR := CR.trans (CHr.keep Kc sK CR.1)
      have hS := own_sm hS Kc.1
      have E_b := E_b.keep Kc
      have A_ch := A_ch.keep Kc (ninS (Nat.ne_of_gt lt_b_ch) nin0)
      have zs := Nat.le_trans zs Kc.1
      have O := O.keep Kc (allS g_b all0)
      have K := K.trans Kc (allS (Or.inr sz_b) all0)
      show Ogo p e below _ (T12.setTop (mkF m 53 #[.val (.int zl), .val (.int x0), .val (.int x1)] [(.ref b)]))
      exact own_outW X12 hlk (fun h => by rw [hret] at h; cases h) (by decide) (by decide) hZ hEL rfl hS CR (⟨N, K, b, rfl, (by first | exact sz_b | exact Nat.le_refl _), E_b, Fc9, t, Fv9, A_t⟩) (fun fs hr => own_retA X12 hx hret rfl rfl (hb hby d1_53) hr)
set_option maxRecDepth 65536 in
set_option maxHeartbeats 40000000 in
theorem rm_le {l : Launch} {Z : State} {a0 : Array Value} (hw : ∀ d ∈ tables_1, d.before a0 Z = true) (ta tb : Addr) (n k : Nat) (f g : Nat → Int32) (h0 : Heap) (n0 : Nat) (A_ta : Oar Z h0 ta .byte n (fun q => .int (f q))) (A_tb : Oar Z h0 tb .byte k (fun q => .int (g q))) (hn : n ≤ 2) (hk : k ≤ 2) :
    Opays l (⟨"java/lang/StringLatin1", "equals", "([B[B)Z"⟩ : MethodName) jdk_43_method_13_code 3 (some .boolean) ({ frames := 0, cells := 0, slots := 0, locals := 0 } : Room) [] Z h0 #[(.ref ta), (.ref tb)] (fun v h L => ∃ r : Int32, v = some (.int r) ∧ ((r = 1 ∧ n = k ∧ ∀ q, q < n → f q = g q) ∨ (r = 0 ∧ ¬ (n = k ∧ ∀ q, q < n → f q = g q))) ∧ Fr n0 L ∧ h = h0) := by
  refine own_enter (plainFor_of_name pn_3) ?_
  intro p e s m below meth c s₁ hx hby hml0 hown hnm hret hlk hZ e0 X0
  have hml : c.maxLocals = 3 := hml0
  replace hown : s.vm.findClass "java/lang/StringLatin1" = some m.cls := hown
  have N := Fr.nil n0
  have hef : entryFrame m #[(.ref ta), (.ref tb)] 3 = mkF m 0 #[.val (.ref ta), .val (.ref tb), .unset] [] := by first | (simp [entryFrame, mkF, argsToLocals, Value.category]; done) | rfl
  rw [hef]
  show Ogo p e below _ (s₁.setTop (mkF m 0 #[.val (.ref ta), .val (.ref tb), .unset] []))
  obtain ⟨zn, hzn⟩ : ∃ z : Int32, z.toInt = (n : Int) := ⟨Int32.ofNat n, Int32.toInt_ofNat_small (by omega)⟩
  obtain ⟨zk, hzk⟩ : ∃ z : Int32, z.toInt = (k : Int) := ⟨Int32.ofNat k, Int32.toInt_ofNat_small (by omega)⟩
  have l1 : (1 : Int32).toInt = 1 := rfl
  have loop : ∀ (d j : Nat) (iv : Int32), n = k → j + d = n → iv.toInt = (j : Int) → (∀ q, q < j → f q = g q) → Ogo p e below (Onar s ({ frames := 0, cells := 0, slots := 0, locals := 0 } : Room) (fun v h L => ∃ r : Int32, v = some (.int r) ∧ ((r = 1 ∧ n = k ∧ ∀ q, q < n → f q = g q) ∨ (r = 0 ∧ ¬ (n = k ∧ ∀ q, q < n → f q = g q))) ∧ Fr n0 L ∧ h = h0)) (s₁.setTop (mkF m 9 #[.val (.ref ta), .val (.ref tb), .val (.int iv)] [])) := by
    intro d
    induction d with
    | zero =>
      intro j iv hnk hj hiv hq
      show Ogo p e below _ (s₁.setTop (mkF m 9 #[.val (.ref ta), .val (.ref tb), .val (.int iv)] []))
      refine own_via (fun tq kq => XS.iloadN X0.here hx rfl (hb hby d13_9) rfl kq) ?_
      show Ogo p e below _ (s₁.setTop (mkF m 10 #[.val (.ref ta), .val (.ref tb), .val (.int iv)] [(.int iv)]))
      refine own_via (fun tq kq => XS.aloadN X0.here hx rfl (hb hby d13_10) rfl rfl kq) ?_
      show Ogo p e below _ (s₁.setTop (mkF m 11 #[.val (.ref ta), .val (.ref tb), .val (.int iv)] [(.ref ta), (.int iv)]))
      refine own_alen X0 hx hZ e0 A_ta (z := zn) hzn (hb hby d13_11) ?_
      show Ogo p e below _ (s₁.setTop (mkF m 12 #[.val (.ref ta), .val (.ref tb), .val (.int iv)] [(.int zn), (.int iv)]))
      refine own_via (fun tq kq => XS.icmpYes X0.here hx rfl (pc0 := 12) (pc' := 32) rfl (hb hby d13_12) rfl (flt (i_nlt (by omega) : ¬ (iv < zn))).2.1 (by decide) (by decide) kq) ?_
      show Ogo p e below _ (s₁.setTop (mkF m 32 #[.val (.ref ta), .val (.ref tb), .val (.int iv)] []))
      refine own_via (fun tq kq => XS.iconst X0.here hx rfl (hb hby d13_32) kq) ?_
      show Ogo p e below _ (s₁.setTop (mkF m 33 #[.val (.ref ta), .val (.ref tb), .val (.int iv)] [(.int (1 : Int32))]))
      exact own_out X0 hlk (fun h => by rw [hret] at h; cases h) (by decide) (by decide) (by first | exact ⟨1, rfl, Or.inl ⟨rfl, hnk, fun q h => hq q (by omega)⟩, N, rfl⟩ | (rw [e0]; exact ⟨1, rfl, Or.inl ⟨rfl, hnk, fun q h => hq q (by omega)⟩, N, rfl⟩)) (fun fs hr => retN X0 hx (t := .boolean) hret (by simp) (hb hby d13_33) hr)
    | succ d ih =>
      intro j iv hnk hj hiv hq
      show Ogo p e below _ (s₁.setTop (mkF m 9 #[.val (.ref ta), .val (.ref tb), .val (.int iv)] []))
      refine own_via (fun tq kq => XS.iloadN X0.here hx rfl (hb hby d13_9) rfl kq) ?_
      show Ogo p e below _ (s₁.setTop (mkF m 10 #[.val (.ref ta), .val (.ref tb), .val (.int iv)] [(.int iv)]))
      refine own_via (fun tq kq => XS.aloadN X0.here hx rfl (hb hby d13_10) rfl rfl kq) ?_
      show Ogo p e below _ (s₁.setTop (mkF m 11 #[.val (.ref ta), .val (.ref tb), .val (.int iv)] [(.ref ta), (.int iv)]))
      refine own_alen X0 hx hZ e0 A_ta (z := zn) hzn (hb hby d13_11) ?_
      show Ogo p e below _ (s₁.setTop (mkF m 12 #[.val (.ref ta), .val (.ref tb), .val (.int iv)] [(.int zn), (.int iv)]))
      refine own_via (fun tq kq => XS.icmpNo X0.here hx rfl (hb hby d13_12) rfl (tlt (i_lt (by omega) : iv < zn)).2.1 kq) ?_
      show Ogo p e below _ (s₁.setTop (mkF m 15 #[.val (.ref ta), .val (.ref tb), .val (.int iv)] []))
      refine own_via (fun tq kq => XS.aloadN X0.here hx rfl (hb hby d13_15) rfl rfl kq) ?_
      show Ogo p e below _ (s₁.setTop (mkF m 16 #[.val (.ref ta), .val (.ref tb), .val (.int iv)] [(.ref ta)]))
      refine own_via (fun tq kq => XS.iloadN X0.here hx rfl (hb hby d13_16) rfl kq) ?_
      show Ogo p e below _ (s₁.setTop (mkF m 17 #[.val (.ref ta), .val (.ref tb), .val (.int iv)] [(.int iv), (.ref ta)]))
      refine own_bald X0 hx hZ e0 A_ta (j := iv) (i := j) (v := (.int (f j))) hiv (by omega) rfl (hb hby d13_17) ?_
      show Ogo p e below _ (s₁.setTop (mkF m 18 #[.val (.ref ta), .val (.ref tb), .val (.int iv)] [(.int (f j))]))
      refine own_via (fun tq kq => XS.aloadN X0.here hx rfl (hb hby d13_18) rfl rfl kq) ?_
      show Ogo p e below _ (s₁.setTop (mkF m 19 #[.val (.ref ta), .val (.ref tb), .val (.int iv)] [(.ref tb), (.int (f j))]))
      refine own_via (fun tq kq => XS.iloadN X0.here hx rfl (hb hby d13_19) rfl kq) ?_
      show Ogo p e below _ (s₁.setTop (mkF m 20 #[.val (.ref ta), .val (.ref tb), .val (.int iv)] [(.int iv), (.ref tb), (.int (f j))]))
      refine own_bald X0 hx hZ e0 A_tb (j := iv) (i := j) (v := (.int (g j))) hiv (by omega) rfl (hb hby d13_20) ?_
      show Ogo p e below _ (s₁.setTop (mkF m 21 #[.val (.ref ta), .val (.ref tb), .val (.int iv)] [(.int (g j)), (.int (f j))]))
      by_cases hc21 : (f j) = (g j)
      · refine own_via (fun tq kq => XS.icmpYes X0.here hx rfl (pc0 := 21) (pc' := 26) rfl (hb hby d13_21) rfl (teq (hc21 : (f j) = (g j))).1 (by decide) (by decide) kq) ?_
        show Ogo p e below _ (s₁.setTop (mkF m 26 #[.val (.ref ta), .val (.ref tb), .val (.int iv)] []))
        refine own_via (fun tq kq => XS.iinc X0.here hx rfl (hb hby d13_26) rfl (l' := #[.val (.ref ta), .val (.ref tb), .val (.int (iv + (1 : Int32)))]) rfl kq) ?_
        show Ogo p e below _ (s₁.setTop (mkF m 29 #[.val (.ref ta), .val (.ref tb), .val (.int (iv + (1 : Int32)))] []))
        refine own_via (fun tq kq => XS.goto X0.here hx rfl (pc0 := 29) (pc' := 9) rfl (hb hby d13_29) (by decide) (by decide) kq) ?_
        show Ogo p e below _ (s₁.setTop (mkF m 9 #[.val (.ref ta), .val (.ref tb), .val (.int (iv + (1 : Int32)))] []))
        exact ih (j + 1) (iv + 1) hnk (by omega) (by rw [own_add (by omega) (by omega)]; omega) (fun q h => (Decidable.em (q = j)).elim (fun u => u ▸ hc21) (fun u => hq q (by omega)))
      · refine own_via (fun tq kq => XS.icmpNo X0.here hx rfl (hb hby d13_21) rfl (feq (hc21 : ¬ ((f j) = (g j)))).1 kq) ?_
        show Ogo p e below _ (s₁.setTop (mkF m 24 #[.val (.ref ta), .val (.ref tb), .val (.int iv)] []))
        refine own_via (fun tq kq => XS.iconst X0.here hx rfl (hb hby d13_24) kq) ?_
        show Ogo p e below _ (s₁.setTop (mkF m 25 #[.val (.ref ta), .val (.ref tb), .val (.int iv)] [(.int (0 : Int32))]))
        exact own_out X0 hlk (fun h => by rw [hret] at h; cases h) (by decide) (by decide) (by first | exact ⟨0, rfl, Or.inr ⟨rfl, fun z => hc21 (z.2 j (by omega))⟩, N, rfl⟩ | (rw [e0]; exact ⟨0, rfl, Or.inr ⟨rfl, fun z => hc21 (z.2 j (by omega))⟩, N, rfl⟩)) (fun fs hr => retN X0 hx (t := .boolean) hret (by simp) (hb hby d13_25) hr)
  refine own_via (fun tq kq => XS.aloadN X0.here hx rfl (hb hby d13_0) rfl rfl kq) ?_
  show Ogo p e below _ (s₁.setTop (mkF m 1 #[.val (.ref ta), .val (.ref tb), .unset] [(.ref ta)]))
  refine own_alen X0 hx hZ e0 A_ta (z := zn) hzn (hb hby d13_1) ?_
  show Ogo p e below _ (s₁.setTop (mkF m 2 #[.val (.ref ta), .val (.ref tb), .unset] [(.int zn)]))
  refine own_via (fun tq kq => XS.aloadN X0.here hx rfl (hb hby d13_2) rfl rfl kq) ?_
  show Ogo p e below _ (s₁.setTop (mkF m 3 #[.val (.ref ta), .val (.ref tb), .unset] [(.ref tb), (.int zn)]))
  refine own_alen X0 hx hZ e0 A_tb (z := zk) hzk (hb hby d13_3) ?_
  show Ogo p e below _ (s₁.setTop (mkF m 4 #[.val (.ref ta), .val (.ref tb), .unset] [(.int zk), (.int zn)]))
  by_cases hc4 : zn = zk
  · refine own_via (fun tq kq => XS.icmpNo X0.here hx rfl (hb hby d13_4) rfl (teq (hc4 : zn = zk)).2 kq) ?_
    show Ogo p e below _ (s₁.setTop (mkF m 7 #[.val (.ref ta), .val (.ref tb), .unset] []))
    refine own_via (fun tq kq => XS.iconst X0.here hx rfl (hb hby d13_7) kq) ?_
    show Ogo p e below _ (s₁.setTop (mkF m 8 #[.val (.ref ta), .val (.ref tb), .unset] [(.int (0 : Int32))]))
    refine own_via (fun tq kq => XS.istoreN X0.here hx rfl (hb hby d13_8) rfl (l' := #[.val (.ref ta), .val (.ref tb), .val (.int (0 : Int32))]) rfl kq) ?_
    show Ogo p e below _ (s₁.setTop (mkF m 9 #[.val (.ref ta), .val (.ref tb), .val (.int (0 : Int32))] []))
    exact loop n 0 0 (by have := congrArg Int32.toInt hc4; omega) (by omega) rfl (fun q h => absurd h (Nat.not_lt_zero q))
  · refine own_via (fun tq kq => XS.icmpYes X0.here hx rfl (pc0 := 4) (pc' := 34) rfl (hb hby d13_4) rfl (feq (hc4 : ¬ (zn = zk))).2 (by decide) (by decide) kq) ?_
    show Ogo p e below _ (s₁.setTop (mkF m 34 #[.val (.ref ta), .val (.ref tb), .unset] []))
    refine own_via (fun tq kq => XS.iconst X0.here hx rfl (hb hby d13_34) kq) ?_
    show Ogo p e below _ (s₁.setTop (mkF m 35 #[.val (.ref ta), .val (.ref tb), .unset] [(.int (0 : Int32))]))
    exact own_out X0 hlk (fun h => by rw [hret] at h; cases h) (by decide) (by decide) (by first | exact ⟨0, rfl, Or.inr ⟨rfl, fun z => hc4 (Int32.toInt_inj.mp (by rw [hzn, hzk, z.1]))⟩, N, rfl⟩ | (rw [e0]; exact ⟨0, rfl, Or.inr ⟨rfl, fun z => hc4 (Int32.toInt_inj.mp (by rw [hzn, hzk, z.1]))⟩, N, rfl⟩)) (fun fs hr => retN X0 hx (t := .boolean) hret (by simp) (hb hby d13_35) hr)
set_option maxRecDepth 65536 in
set_option maxHeartbeats 40000000 in
theorem rm_eq {l : Launch} {Z : State} {a0 : Array Value} (hw : ∀ d ∈ tables_1, d.before a0 Z = true) (b1 b2 : Addr) (n k : Nat) (x0 x1 y0 y1 zc : Int32) (h0 : Heap) (n0 : Nat) (TX : Ostr Z h0 b1 n x0 x1) (TY : Ostr Z h0 b2 k y0 y1) (hne : b1 ≠ b2) (hn : n ≤ 2) (hk : k ≤ 2) (hx0 : 0 ≤ x0.toInt ∧ x0.toInt ≤ 255) (hx1 : 0 ≤ x1.toInt ∧ x1.toInt ≤ 255) (hy0 : 0 ≤ y0.toInt ∧ y0.toInt ≤ 255) (hy1 : 0 ≤ y1.toInt ∧ y1.toInt ≤ 255) (SCO : Sta Z Z.heap "java/lang/String" "COMPACT_STRINGS" "Z" (.int zc)) (hzc : ¬ zc = 0) (O : Old Z n0 h0) :
    Opays l (⟨"java/lang/String", "equals", "(Ljava/lang/Object;)Z"⟩ : MethodName) jdk_42_method_66_code 3 (some .boolean) ({ frames := 1, cells := 0, slots := 0, locals := 14 } : Room) [] Z h0 #[(.ref b1), (.ref b2)] (fun v h L => ∃ r : Int32, v = some (.int r) ∧ ((r = 1 ∧ Osame n x0 x1 k y0 y1) ∨ (r = 0 ∧ ¬ Osame n x0 x1 k y0 y1)) ∧ Fr n0 L ∧ h = h0) := by
  refine own_enter (plainFor_of_name pn_1) ?_
  intro p e s m below meth c s₁ hx hby hml0 hown hnm hret hlk hZ e0 X0
  have hml : c.maxLocals = 3 := hml0
  replace hown : s.vm.findClass "java/lang/String" = some m.cls := hown
  have N := Fr.nil n0
  have hef : entryFrame m #[(.ref b1), (.ref b2)] 3 = mkF m 0 #[.val (.ref b1), .val (.ref b2), .unset] [] := by first | (simp [entryFrame, mkF, argsToLocals, Value.category]; done) | rfl
  rw [hef]
  show Ogo p e below _ (s₁.setTop (mkF m 0 #[.val (.ref b1), .val (.ref b2), .unset] []))
  obtain ⟨E_b1, F_coder_b1, t1, F_value_b1, A_t1⟩ := TX
  obtain ⟨E_b2, F_coder_b2, t2, F_value_b2, A_t2⟩ := TY
  refine own_via (fun tq kq => XS.aloadN X0.here hx rfl (hb hby d12_0) rfl rfl kq) ?_
  show Ogo p e below _ (s₁.setTop (mkF m 1 #[.val (.ref b1), .val (.ref b2), .unset] [(.ref b1)]))
  refine own_via (fun tq kq => XS.aloadN X0.here hx rfl (hb hby d12_1) rfl rfl kq) ?_
  show Ogo p e below _ (s₁.setTop (mkF m 2 #[.val (.ref b1), .val (.ref b2), .unset] [(.ref b2), (.ref b1)]))
  refine own_via (fun tq kq => Jvm.RoadKit.acmp (g := (mkF m 2 #[.val (.ref b1), .val (.ref b2), .unset] [(.ref b2), (.ref b1)])) X0 hx rfl rfl rfl (pc0 := 2) (pc' := 7) (same := false) rfl (hb hby d12_2) rfl (decide_eq_false fun q => hne (Value.ref.inj q)) (by decide) (by decide) kq) ?_
  show Ogo p e below _ (s₁.setTop (mkF m 7 #[.val (.ref b1), .val (.ref b2), .unset] []))
  refine own_via (fun tq kq => XS.aloadN X0.here hx rfl (hb hby d12_7) rfl rfl kq) ?_
  show Ogo p e below _ (s₁.setTop (mkF m 8 #[.val (.ref b1), .val (.ref b2), .unset] [(.ref b2)]))
  obtain ⟨T1, X1, e1, st1⟩ := instY X0 hx hZ hown (hw _ (List.mem_of_getElem? (i := 75) rfl)) e0 (Ins.self E_b2) (g := (mkF m 8 #[.val (.ref b1), .val (.ref b2), .unset] [(.ref b2)])) rfl rfl (hb hby d12_8)
  refine own_via st1 ?_
  show Ogo p e below _ (T1.setTop (mkF m 11 #[.val (.ref b1), .val (.ref b2), .unset] [(.int (1 : Int32))]))
  refine own_via (fun tq kq => XS.ifNo X1.here hx rfl (hb hby d12_11) rfl ((if0 _ _).trans (feq ((by decide) : ¬ ((1 : Int32) = (0 : Int32)))).1) kq) ?_
  show Ogo p e below _ (T1.setTop (mkF m 14 #[.val (.ref b1), .val (.ref b2), .unset] []))
  refine own_via (fun tq kq => XS.aloadN X1.here hx rfl (hb hby d12_14) rfl rfl kq) ?_
  show Ogo p e below _ (T1.setTop (mkF m 15 #[.val (.ref b1), .val (.ref b2), .unset] [(.ref b2)]))
  obtain ⟨T2, X2, e2, st2⟩ := castY X1 hx hZ hown (hw _ (List.mem_of_getElem? (i := 75) rfl)) e1 (Ins.self E_b2) (g := (mkF m 15 #[.val (.ref b1), .val (.ref b2), .unset] [(.ref b2)])) rfl rfl (hb hby d12_15)
  refine own_via st2 ?_
  show Ogo p e below _ (T2.setTop (mkF m 18 #[.val (.ref b1), .val (.ref b2), .unset] [(.ref b2)]))
  refine own_via (fun tq kq => XS.astoreN X2.here hx rfl (hb hby d12_18) rfl rfl (l' := #[.val (.ref b1), .val (.ref b2), .val (.ref b2)]) rfl kq) ?_
  show Ogo p e below _ (T2.setTop (mkF m 19 #[.val (.ref b1), .val (.ref b2), .val (.ref b2)] []))
  obtain ⟨T3, X3, e3, st3⟩ := getS2 X2 hx hZ hown (host := "") (Or.inl (hw _ (List.mem_of_getElem? (i := 18) rfl))) Via.refl e2 (SCO.ext O.2) (g := (mkF m 19 #[.val (.ref b1), .val (.ref b2), .val (.ref b2)] [])) rfl (hb hby d12_19)
  refine own_via st3 ?_
  show Ogo p e below _ (T3.setTop (mkF m 22 #[.val (.ref b1), .val (.ref b2), .val (.ref b2)] [(.int zc)]))
  refine own_via (fun tq kq => XS.ifNo X3.here hx rfl (hb hby d12_22) rfl ((if0 _ _).trans (feq (hzc : ¬ (zc = (0 : Int32)))).1) kq) ?_
  show Ogo p e below _ (T3.setTop (mkF m 25 #[.val (.ref b1), .val (.ref b2), .val (.ref b2)] []))
  refine own_via (fun tq kq => XS.aloadN X3.here hx rfl (hb hby d12_25) rfl rfl kq) ?_
  show Ogo p e below _ (T3.setTop (mkF m 26 #[.val (.ref b1), .val (.ref b2), .val (.ref b2)] [(.ref b1)]))
  obtain ⟨T4, X4, e4, st4⟩ := getF X3 hx hZ hown (host := "") (Or.inl (hw _ (List.mem_of_getElem? (i := 30) rfl))) Via.refl e3 F_coder_b1 (g := (mkF m 26 #[.val (.ref b1), .val (.ref b2), .val (.ref b2)] [(.ref b1)])) rfl rfl (hb hby d12_26)
  refine own_via st4 ?_
  show Ogo p e below _ (T4.setTop (mkF m 29 #[.val (.ref b1), .val (.ref b2), .val (.ref b2)] [(.int (0 : Int32))]))
  refine own_via (fun tq kq => XS.aloadN X4.here hx rfl (hb hby d12_29) rfl rfl kq) ?_
  show Ogo p e below _ (T4.setTop (mkF m 30 #[.val (.ref b1), .val (.ref b2), .val (.ref b2)] [(.ref b2), (.int (0 : Int32))]))
  obtain ⟨T5, X5, e5, st5⟩ := getF X4 hx hZ hown (host := "") (Or.inl (hw _ (List.mem_of_getElem? (i := 30) rfl))) Via.refl e4 F_coder_b2 (g := (mkF m 30 #[.val (.ref b1), .val (.ref b2), .val (.ref b2)] [(.ref b2), (.int (0 : Int32))])) rfl rfl (hb hby d12_30)
  refine own_via st5 ?_
  show Ogo p e below _ (T5.setTop (mkF m 33 #[.val (.ref b1), .val (.ref b2), .val (.ref b2)] [(.int (0 : Int32)), (.int (0 : Int32))]))
  refine own_via (fun tq kq => XS.icmpNo X5.here hx rfl (hb hby d12_33) rfl (teq (rfl : (0 : Int32) = (0 : Int32))).2 kq) ?_
  show Ogo p e below _ (T5.setTop (mkF m 36 #[.val (.ref b1), .val (.ref b2), .val (.ref b2)] []))
  refine own_via (fun tq kq => XS.aloadN X5.here hx rfl (hb hby d12_36) rfl rfl kq) ?_
  show Ogo p e below _ (T5.setTop (mkF m 37 #[.val (.ref b1), .val (.ref b2), .val (.ref b2)] [(.ref b1)]))
  obtain ⟨T6, X6, e6, st6⟩ := getF X5 hx hZ hown (host := "") (Or.inl (hw _ (List.mem_of_getElem? (i := 32) rfl))) Via.refl e5 F_value_b1 (g := (mkF m 37 #[.val (.ref b1), .val (.ref b2), .val (.ref b2)] [(.ref b1)])) rfl rfl (hb hby d12_37)
  refine own_via st6 ?_
  show Ogo p e below _ (T6.setTop (mkF m 40 #[.val (.ref b1), .val (.ref b2), .val (.ref b2)] [(.ref t1)]))
  refine own_via (fun tq kq => XS.aloadN X6.here hx rfl (hb hby d12_40) rfl rfl kq) ?_
  show Ogo p e below _ (T6.setTop (mkF m 41 #[.val (.ref b1), .val (.ref b2), .val (.ref b2)] [(.ref b2), (.ref t1)]))
  obtain ⟨T7, X7, e7, st7⟩ := getF X6 hx hZ hown (host := "") (Or.inl (hw _ (List.mem_of_getElem? (i := 32) rfl))) Via.refl e6 F_value_b2 (g := (mkF m 41 #[.val (.ref b1), .val (.ref b2), .val (.ref b2)] [(.ref b2), (.ref t1)])) rfl rfl (hb hby d12_41)
  refine own_via st7 ?_
  show Ogo p e below _ (T7.setTop (mkF m 44 #[.val (.ref b1), .val (.ref b2), .val (.ref b2)] [(.ref t2), (.ref t1)]))
  refine own_callS X7 hx hZ hown (hw _ (List.mem_of_getElem? (i := 76) rfl)) (hw _ (List.mem_of_getElem? (i := 77) rfl)) (hw _ (List.mem_of_getElem? (i := 78) rfl)) (hw _ (List.mem_of_getElem? (i := 79) rfl)) (by decide) (rm_le hw t1 t2 n k _ _ h0 n0 A_t1 A_t2 hn hk) rfl e7 (W := 0) (by decide) (by decide) (by decide) (by decide) (by rw [hml]; rfl) (argsL := [(.ref t1), (.ref t2)]) (rest := []) (lenOf pd_5 rfl) rfl (Nat.le_of_eq rfl) (hb hby d12_44) ?_
  rintro _ T8 L8 X8 ⟨r, rfl, hr, Nq, hk9⟩
  have N := N.app Nq
  have hk := hk9
  rw [own_same hn hx0 hx1 hy0 hy1] at hr
  have hk8 := hk
  show Ogo p e below _ (T8.setTop (mkF m 47 #[.val (.ref b1), .val (.ref b2), .val (.ref b2)] [(.int r)]))
  rcases hr with ⟨rfl, hrr⟩ | ⟨rfl, hrr⟩
  · show Ogo p e below _ (T8.setTop (mkF m 47 #[.val (.ref b1), .val (.ref b2), .val (.ref b2)] [(.int (1 : Int32))]))
    refine own_via (fun tq kq => XS.ifNo X8.here hx rfl (hb hby d12_47) rfl ((if0 _ _).trans (feq ((by decide) : ¬ ((1 : Int32) = (0 : Int32)))).1) kq) ?_
    show Ogo p e below _ (T8.setTop (mkF m 50 #[.val (.ref b1), .val (.ref b2), .val (.ref b2)] []))
    refine own_via (fun tq kq => XS.iconst X8.here hx rfl (hb hby d12_50) kq) ?_
    show Ogo p e below _ (T8.setTop (mkF m 51 #[.val (.ref b1), .val (.ref b2), .val (.ref b2)] [(.int (1 : Int32))]))
    refine own_via (fun tq kq => XS.goto X8.here hx rfl (pc0 := 51) (pc' := 55) rfl (hb hby d12_51) (by decide) (by decide) kq) ?_
    show Ogo p e below _ (T8.setTop (mkF m 55 #[.val (.ref b1), .val (.ref b2), .val (.ref b2)] [(.int (1 : Int32))]))
    exact own_out X8 hlk (fun h => by rw [hret] at h; cases h) (by decide) (by decide) (by first | exact ⟨1, rfl, Or.inl ⟨rfl, hrr⟩, N, rfl⟩ | (rw [hk8]; exact ⟨1, rfl, Or.inl ⟨rfl, hrr⟩, N, rfl⟩)) (fun fs hr => retN X8 hx (t := .boolean) hret (by simp) (hb hby d12_55) hr)
  · show Ogo p e below _ (T8.setTop (mkF m 47 #[.val (.ref b1), .val (.ref b2), .val (.ref b2)] [(.int (0 : Int32))]))
    refine own_via (fun tq kq => XS.ifYes X8.here hx rfl (pc0 := 47) (pc' := 54) rfl (hb hby d12_47) rfl ((if0 _ _).trans (teq ((by decide) : (0 : Int32) = (0 : Int32))).1) (by decide) (by decide) kq) ?_
    show Ogo p e below _ (T8.setTop (mkF m 54 #[.val (.ref b1), .val (.ref b2), .val (.ref b2)] []))
    refine own_via (fun tq kq => XS.iconst X8.here hx rfl (hb hby d12_54) kq) ?_
    show Ogo p e below _ (T8.setTop (mkF m 55 #[.val (.ref b1), .val (.ref b2), .val (.ref b2)] [(.int (0 : Int32))]))
    exact own_out X8 hlk (fun h => by rw [hret] at h; cases h) (by decide) (by decide) (by first | exact ⟨0, rfl, Or.inr ⟨rfl, hrr⟩, N, rfl⟩ | (rw [hk8]; exact ⟨0, rfl, Or.inr ⟨rfl, hrr⟩, N, rfl⟩)) (fun fs hr => retN X8 hx (t := .boolean) hret (by simp) (hb hby d12_55) hr)
set_option maxRecDepth 65536 in
set_option maxHeartbeats 40000000 in
theorem rm_eq0 {l : Launch} {Z : State} {a0 : Array Value} (hw : ∀ d ∈ tables_1, d.before a0 Z = true) (b1 : Addr) (h0 : Heap) (n0 : Nat)  :
    Opays l (⟨"java/lang/String", "equals", "(Ljava/lang/Object;)Z"⟩ : MethodName) jdk_42_method_66_code 3 (some .boolean) ({ frames := 0, cells := 0, slots := 0, locals := 0 } : Room) [] Z h0 #[(.ref b1), .null] (fun v h L => v = some (.int 0) ∧ Fr n0 L ∧ h = h0) := by
  refine own_enter (plainFor_of_name pn_1) ?_
  intro p e s m below meth c s₁ hx hby hml0 hown hnm hret hlk hZ e0 X0
  have hml : c.maxLocals = 3 := hml0
  replace hown : s.vm.findClass "java/lang/String" = some m.cls := hown
  have N := Fr.nil n0
  have hef : entryFrame m #[(.ref b1), .null] 3 = mkF m 0 #[.val (.ref b1), .val .null, .unset] [] := by first | (simp [entryFrame, mkF, argsToLocals, Value.category]; done) | rfl
  rw [hef]
  show Ogo p e below _ (s₁.setTop (mkF m 0 #[.val (.ref b1), .val .null, .unset] []))
  refine own_via (fun tq kq => XS.aloadN X0.here hx rfl (hb hby d12_0) rfl rfl kq) ?_
  show Ogo p e below _ (s₁.setTop (mkF m 1 #[.val (.ref b1), .val .null, .unset] [(.ref b1)]))
  refine own_via (fun tq kq => XS.aloadN X0.here hx rfl (hb hby d12_1) rfl rfl kq) ?_
  show Ogo p e below _ (s₁.setTop (mkF m 2 #[.val (.ref b1), .val .null, .unset] [.null, (.ref b1)]))
  refine own_via (fun tq kq => Jvm.RoadKit.acmp (g := (mkF m 2 #[.val (.ref b1), .val .null, .unset] [.null, (.ref b1)])) X0 hx rfl rfl rfl (pc0 := 2) (pc' := 7) (same := false) rfl (hb hby d12_2) rfl (decide_eq_false nofun) (by decide) (by decide) kq) ?_
  show Ogo p e below _ (s₁.setTop (mkF m 7 #[.val (.ref b1), .val .null, .unset] []))
  refine own_via (fun tq kq => XS.aloadN X0.here hx rfl (hb hby d12_7) rfl rfl kq) ?_
  show Ogo p e below _ (s₁.setTop (mkF m 8 #[.val (.ref b1), .val .null, .unset] [.null]))
  refine own_via (fun tq kq => X0.instanceofNull hx (g := (mkF m 8 #[.val (.ref b1), .val .null, .unset] [.null])) rfl rfl (hb hby d12_8) _ kq) ?_
  show Ogo p e below _ (s₁.setTop (mkF m 11 #[.val (.ref b1), .val .null, .unset] [(.int (0 : Int32))]))
  refine own_via (fun tq kq => XS.ifYes X0.here hx rfl (pc0 := 11) (pc' := 54) rfl (hb hby d12_11) rfl ((if0 _ _).trans (teq ((by decide) : (0 : Int32) = (0 : Int32))).1) (by decide) (by decide) kq) ?_
  show Ogo p e below _ (s₁.setTop (mkF m 54 #[.val (.ref b1), .val .null, .unset] []))
  refine own_via (fun tq kq => XS.iconst X0.here hx rfl (hb hby d12_54) kq) ?_
  show Ogo p e below _ (s₁.setTop (mkF m 55 #[.val (.ref b1), .val .null, .unset] [(.int (0 : Int32))]))
  exact own_out X0 hlk (fun h => by rw [hret] at h; cases h) (by decide) (by decide) (by first | exact ⟨rfl, N, rfl⟩ | (rw [e0]; exact ⟨rfl, N, rfl⟩)) (fun fs hr => retN X0 hx (t := .boolean) hret (by simp) (hb hby d12_55) hr)
set_option maxRecDepth 65536 in
set_option maxHeartbeats 40000000 in
theorem rm_ki {l : Launch} {Z : State} {a0 : Array Value} (hw : ∀ d ∈ tables_1, d.before a0 Z = true) (i : Nat) (zi : Int32) (km : Nat → Addr) (h0 : Heap) (n0 : Nat) (hzi : zi.toInt = (i : Int)) (hi : i < 8) (S0 : Sta Z Z.heap "com/example/diligent_workflow/diligentworkflow/feel/FeelLexer$Kind" "NUMBER" "Lcom/example/diligent_workflow/diligentworkflow/feel/FeelLexer$Kind;" (.ref (km 0))) (S1 : Sta Z Z.heap "com/example/diligent_workflow/diligentworkflow/feel/FeelLexer$Kind" "STRING" "Lcom/example/diligent_workflow/diligentworkflow/feel/FeelLexer$Kind;" (.ref (km 1))) (S2 : Sta Z Z.heap "com/example/diligent_workflow/diligentworkflow/feel/FeelLexer$Kind" "TEMPORAL" "Lcom/example/diligent_workflow/diligentworkflow/feel/FeelLexer$Kind;" (.ref (km 2))) (S3 : Sta Z Z.heap "com/example/diligent_workflow/diligentworkflow/feel/FeelLexer$Kind" "NAME" "Lcom/example/diligent_workflow/diligentworkflow/feel/FeelLexer$Kind;" (.ref (km 3))) (S4 : Sta Z Z.heap "com/example/diligent_workflow/diligentworkflow/feel/FeelLexer$Kind" "KEYWORD" "Lcom/example/diligent_workflow/diligentworkflow/feel/FeelLexer$Kind;" (.ref (km 4))) (S5 : Sta Z Z.heap "com/example/diligent_workflow/diligentworkflow/feel/FeelLexer$Kind" "SYMBOL" "Lcom/example/diligent_workflow/diligentworkflow/feel/FeelLexer$Kind;" (.ref (km 5))) (S6 : Sta Z Z.heap "com/example/diligent_workflow/diligentworkflow/feel/FeelLexer$Kind" "END" "Lcom/example/diligent_workflow/diligentworkflow/feel/FeelLexer$Kind;" (.ref (km 6))) (O : Old Z n0 h0) :
    Opays l (⟨"com/example/diligent_workflow/diligentworkflow/feel/TokenIsPinLaw", "kind", "(I)Lcom/example/diligent_workflow/diligentworkflow/feel/FeelLexer$Kind;"⟩ : MethodName) method_2_code 1 (some (.object "com/example/diligent_workflow/diligentworkflow/feel/FeelLexer$Kind")) ({ frames := 0, cells := 0, slots := 0, locals := 0 } : Room) [] Z h0 #[(.int zi)] (fun v h L => v = some (if i < 7 then .ref (km i) else .null) ∧ Fr n0 L ∧ h = h0) := by
  refine own_enter (plainFor_of_name pn_2) ?_
  intro p e s m below meth c s₁ hx hby hml0 hown hnm hret hlk hZ e0 X0
  have hml : c.maxLocals = 1 := hml0
  replace hown : s.vm.findClass "com/example/diligent_workflow/diligentworkflow/feel/TokenIsPinLaw" = some m.cls := hown
  have N := Fr.nil n0
  have hef : entryFrame m #[(.int zi)] 1 = mkF m 0 #[.val (.int zi)] [] := by first | (simp [entryFrame, mkF, argsToLocals, Value.category]; done) | rfl
  rw [hef]
  show Ogo p e below _ (s₁.setTop (mkF m 0 #[.val (.int zi)] []))
  have l0 : (0 : Int32).toInt = 0 := rfl
  have l1 : (1 : Int32).toInt = 1 := rfl
  have l2 : (2 : Int32).toInt = 2 := rfl
  have l3 : (3 : Int32).toInt = 3 := rfl
  have l4 : (4 : Int32).toInt = 4 := rfl
  have l5 : (5 : Int32).toInt = 5 := rfl
  have l6 : (6 : Int32).toInt = 6 := rfl
  refine own_via (fun tq kq => XS.iloadN X0.here hx rfl (hb hby d8_0) rfl kq) ?_
  show Ogo p e below _ (s₁.setTop (mkF m 1 #[.val (.int zi)] [(.int zi)]))
  by_cases hc1 : zi = (0 : Int32)
  · refine own_via (fun tq kq => XS.ifNo X0.here hx rfl (hb hby d8_1) rfl ((if0 _ _).trans (teq (hc1 : zi = (0 : Int32))).2) kq) ?_
    show Ogo p e below _ (s₁.setTop (mkF m 4 #[.val (.int zi)] []))
    obtain rfl : i = 0 := by have := congrArg Int32.toInt hc1; omega
    obtain ⟨T1, X1, e1, st1⟩ := getS2 X0 hx hZ hown (host := "") (Or.inl (hw _ (List.mem_of_getElem? (i := 43) rfl))) Via.refl e0 (S0.ext O.2) (g := (mkF m 4 #[.val (.int zi)] [])) rfl (hb hby d8_4)
    refine own_via st1 ?_
    show Ogo p e below _ (T1.setTop (mkF m 7 #[.val (.int zi)] [(.ref (km 0))]))
    exact own_out X1 hlk (fun h => by rw [hret] at h; cases h) (by decide) (by decide) (by first | exact ⟨rfl, N, rfl⟩ | (rw [e1]; exact ⟨rfl, N, rfl⟩)) (fun fs hr => own_retA X1 hx hret rfl rfl (hb hby d8_7) hr)
  · refine own_via (fun tq kq => XS.ifYes X0.here hx rfl (pc0 := 1) (pc' := 8) rfl (hb hby d8_1) rfl ((if0 _ _).trans (feq (hc1 : ¬ (zi = (0 : Int32)))).2) (by decide) (by decide) kq) ?_
    show Ogo p e below _ (s₁.setTop (mkF m 8 #[.val (.int zi)] []))
    refine own_via (fun tq kq => XS.iloadN X0.here hx rfl (hb hby d8_8) rfl kq) ?_
    show Ogo p e below _ (s₁.setTop (mkF m 9 #[.val (.int zi)] [(.int zi)]))
    refine own_via (fun tq kq => XS.iconst X0.here hx rfl (hb hby d8_9) kq) ?_
    show Ogo p e below _ (s₁.setTop (mkF m 10 #[.val (.int zi)] [(.int (1 : Int32)), (.int zi)]))
    by_cases hc10 : zi = (1 : Int32)
    · refine own_via (fun tq kq => XS.icmpNo X0.here hx rfl (hb hby d8_10) rfl (teq (hc10 : zi = (1 : Int32))).2 kq) ?_
      show Ogo p e below _ (s₁.setTop (mkF m 13 #[.val (.int zi)] []))
      obtain rfl : i = 1 := by have := congrArg Int32.toInt hc10; omega
      obtain ⟨T2, X2, e2, st2⟩ := getS2 X0 hx hZ hown (host := "") (Or.inl (hw _ (List.mem_of_getElem? (i := 90) rfl))) Via.refl e0 (S1.ext O.2) (g := (mkF m 13 #[.val (.int zi)] [])) rfl (hb hby d8_13)
      refine own_via st2 ?_
      show Ogo p e below _ (T2.setTop (mkF m 16 #[.val (.int zi)] [(.ref (km 1))]))
      exact own_out X2 hlk (fun h => by rw [hret] at h; cases h) (by decide) (by decide) (by first | exact ⟨rfl, N, rfl⟩ | (rw [e2]; exact ⟨rfl, N, rfl⟩)) (fun fs hr => own_retA X2 hx hret rfl rfl (hb hby d8_16) hr)
    · refine own_via (fun tq kq => XS.icmpYes X0.here hx rfl (pc0 := 10) (pc' := 17) rfl (hb hby d8_10) rfl (feq (hc10 : ¬ (zi = (1 : Int32)))).2 (by decide) (by decide) kq) ?_
      show Ogo p e below _ (s₁.setTop (mkF m 17 #[.val (.int zi)] []))
      refine own_via (fun tq kq => XS.iloadN X0.here hx rfl (hb hby d8_17) rfl kq) ?_
      show Ogo p e below _ (s₁.setTop (mkF m 18 #[.val (.int zi)] [(.int zi)]))
      refine own_via (fun tq kq => XS.iconst X0.here hx rfl (hb hby d8_18) kq) ?_
      show Ogo p e below _ (s₁.setTop (mkF m 19 #[.val (.int zi)] [(.int (2 : Int32)), (.int zi)]))
      by_cases hc19 : zi = (2 : Int32)
      · refine own_via (fun tq kq => XS.icmpNo X0.here hx rfl (hb hby d8_19) rfl (teq (hc19 : zi = (2 : Int32))).2 kq) ?_
        show Ogo p e below _ (s₁.setTop (mkF m 22 #[.val (.int zi)] []))
        obtain rfl : i = 2 := by have := congrArg Int32.toInt hc19; omega
        obtain ⟨T3, X3, e3, st3⟩ := getS2 X0 hx hZ hown (host := "") (Or.inl (hw _ (List.mem_of_getElem? (i := 82) rfl))) Via.refl e0 (S2.ext O.2) (g := (mkF m 22 #[.val (.int zi)] [])) rfl (hb hby d8_22)
        refine own_via st3 ?_
        show Ogo p e below _ (T3.setTop (mkF m 25 #[.val (.int zi)] [(.ref (km 2))]))
        exact own_out X3 hlk (fun h => by rw [hret] at h; cases h) (by decide) (by decide) (by first | exact ⟨rfl, N, rfl⟩ | (rw [e3]; exact ⟨rfl, N, rfl⟩)) (fun fs hr => own_retA X3 hx hret rfl rfl (hb hby d8_25) hr)
      · refine own_via (fun tq kq => XS.icmpYes X0.here hx rfl (pc0 := 19) (pc' := 26) rfl (hb hby d8_19) rfl (feq (hc19 : ¬ (zi = (2 : Int32)))).2 (by decide) (by decide) kq) ?_
        show Ogo p e below _ (s₁.setTop (mkF m 26 #[.val (.int zi)] []))
        refine own_via (fun tq kq => XS.iloadN X0.here hx rfl (hb hby d8_26) rfl kq) ?_
        show Ogo p e below _ (s₁.setTop (mkF m 27 #[.val (.int zi)] [(.int zi)]))
        refine own_via (fun tq kq => XS.iconst X0.here hx rfl (hb hby d8_27) kq) ?_
        show Ogo p e below _ (s₁.setTop (mkF m 28 #[.val (.int zi)] [(.int (3 : Int32)), (.int zi)]))
        by_cases hc28 : zi = (3 : Int32)
        · refine own_via (fun tq kq => XS.icmpNo X0.here hx rfl (hb hby d8_28) rfl (teq (hc28 : zi = (3 : Int32))).2 kq) ?_
          show Ogo p e below _ (s₁.setTop (mkF m 31 #[.val (.int zi)] []))
          obtain rfl : i = 3 := by have := congrArg Int32.toInt hc28; omega
          obtain ⟨T4, X4, e4, st4⟩ := getS2 X0 hx hZ hown (host := "") (Or.inl (hw _ (List.mem_of_getElem? (i := 84) rfl))) Via.refl e0 (S3.ext O.2) (g := (mkF m 31 #[.val (.int zi)] [])) rfl (hb hby d8_31)
          refine own_via st4 ?_
          show Ogo p e below _ (T4.setTop (mkF m 34 #[.val (.int zi)] [(.ref (km 3))]))
          exact own_out X4 hlk (fun h => by rw [hret] at h; cases h) (by decide) (by decide) (by first | exact ⟨rfl, N, rfl⟩ | (rw [e4]; exact ⟨rfl, N, rfl⟩)) (fun fs hr => own_retA X4 hx hret rfl rfl (hb hby d8_34) hr)
        · refine own_via (fun tq kq => XS.icmpYes X0.here hx rfl (pc0 := 28) (pc' := 35) rfl (hb hby d8_28) rfl (feq (hc28 : ¬ (zi = (3 : Int32)))).2 (by decide) (by decide) kq) ?_
          show Ogo p e below _ (s₁.setTop (mkF m 35 #[.val (.int zi)] []))
          refine own_via (fun tq kq => XS.iloadN X0.here hx rfl (hb hby d8_35) rfl kq) ?_
          show Ogo p e below _ (s₁.setTop (mkF m 36 #[.val (.int zi)] [(.int zi)]))
          refine own_via (fun tq kq => XS.iconst X0.here hx rfl (hb hby d8_36) kq) ?_
          show Ogo p e below _ (s₁.setTop (mkF m 37 #[.val (.int zi)] [(.int (4 : Int32)), (.int zi)]))
          by_cases hc37 : zi = (4 : Int32)
          · refine own_via (fun tq kq => XS.icmpNo X0.here hx rfl (hb hby d8_37) rfl (teq (hc37 : zi = (4 : Int32))).2 kq) ?_
            show Ogo p e below _ (s₁.setTop (mkF m 40 #[.val (.int zi)] []))
            obtain rfl : i = 4 := by have := congrArg Int32.toInt hc37; omega
            obtain ⟨T5, X5, e5, st5⟩ := getS2 X0 hx hZ hown (host := "") (Or.inl (hw _ (List.mem_of_getElem? (i := 80) rfl))) Via.refl e0 (S4.ext O.2) (g := (mkF m 40 #[.val (.int zi)] [])) rfl (hb hby d8_40)
            refine own_via st5 ?_
            show Ogo p e below _ (T5.setTop (mkF m 43 #[.val (.int zi)] [(.ref (km 4))]))
            exact own_out X5 hlk (fun h => by rw [hret] at h; cases h) (by decide) (by decide) (by first | exact ⟨rfl, N, rfl⟩ | (rw [e5]; exact ⟨rfl, N, rfl⟩)) (fun fs hr => own_retA X5 hx hret rfl rfl (hb hby d8_43) hr)
          · refine own_via (fun tq kq => XS.icmpYes X0.here hx rfl (pc0 := 37) (pc' := 44) rfl (hb hby d8_37) rfl (feq (hc37 : ¬ (zi = (4 : Int32)))).2 (by decide) (by decide) kq) ?_
            show Ogo p e below _ (s₁.setTop (mkF m 44 #[.val (.int zi)] []))
            refine own_via (fun tq kq => XS.iloadN X0.here hx rfl (hb hby d8_44) rfl kq) ?_
            show Ogo p e below _ (s₁.setTop (mkF m 45 #[.val (.int zi)] [(.int zi)]))
            refine own_via (fun tq kq => XS.iconst X0.here hx rfl (hb hby d8_45) kq) ?_
            show Ogo p e below _ (s₁.setTop (mkF m 46 #[.val (.int zi)] [(.int (5 : Int32)), (.int zi)]))
            by_cases hc46 : zi = (5 : Int32)
            · refine own_via (fun tq kq => XS.icmpNo X0.here hx rfl (hb hby d8_46) rfl (teq (hc46 : zi = (5 : Int32))).2 kq) ?_
              show Ogo p e below _ (s₁.setTop (mkF m 49 #[.val (.int zi)] []))
              obtain rfl : i = 5 := by have := congrArg Int32.toInt hc46; omega
              obtain ⟨T6, X6, e6, st6⟩ := getS2 X0 hx hZ hown (host := "") (Or.inl (hw _ (List.mem_of_getElem? (i := 88) rfl))) Via.refl e0 (S5.ext O.2) (g := (mkF m 49 #[.val (.int zi)] [])) rfl (hb hby d8_49)
              refine own_via st6 ?_
              show Ogo p e below _ (T6.setTop (mkF m 52 #[.val (.int zi)] [(.ref (km 5))]))
              exact own_out X6 hlk (fun h => by rw [hret] at h; cases h) (by decide) (by decide) (by first | exact ⟨rfl, N, rfl⟩ | (rw [e6]; exact ⟨rfl, N, rfl⟩)) (fun fs hr => own_retA X6 hx hret rfl rfl (hb hby d8_52) hr)
            · refine own_via (fun tq kq => XS.icmpYes X0.here hx rfl (pc0 := 46) (pc' := 53) rfl (hb hby d8_46) rfl (feq (hc46 : ¬ (zi = (5 : Int32)))).2 (by decide) (by decide) kq) ?_
              show Ogo p e below _ (s₁.setTop (mkF m 53 #[.val (.int zi)] []))
              refine own_via (fun tq kq => XS.iloadN X0.here hx rfl (hb hby d8_53) rfl kq) ?_
              show Ogo p e below _ (s₁.setTop (mkF m 54 #[.val (.int zi)] [(.int zi)]))
              refine own_via (fun tq kq => XS.bipush X0.here hx rfl (hb hby d8_54) kq) ?_
              show Ogo p e below _ (s₁.setTop (mkF m 56 #[.val (.int zi)] [(.int (6 : Int32)), (.int zi)]))
              by_cases hc56 : zi = (6 : Int32)
              · refine own_via (fun tq kq => XS.icmpNo X0.here hx rfl (hb hby d8_56) rfl (teq (hc56 : zi = (6 : Int32))).2 kq) ?_
                show Ogo p e below _ (s₁.setTop (mkF m 59 #[.val (.int zi)] []))
                obtain rfl : i = 6 := by have := congrArg Int32.toInt hc56; omega
                obtain ⟨T7, X7, e7, st7⟩ := getS2 X0 hx hZ hown (host := "") (Or.inl (hw _ (List.mem_of_getElem? (i := 86) rfl))) Via.refl e0 (S6.ext O.2) (g := (mkF m 59 #[.val (.int zi)] [])) rfl (hb hby d8_59)
                refine own_via st7 ?_
                show Ogo p e below _ (T7.setTop (mkF m 62 #[.val (.int zi)] [(.ref (km 6))]))
                exact own_out X7 hlk (fun h => by rw [hret] at h; cases h) (by decide) (by decide) (by first | exact ⟨rfl, N, rfl⟩ | (rw [e7]; exact ⟨rfl, N, rfl⟩)) (fun fs hr => own_retA X7 hx hret rfl rfl (hb hby d8_62) hr)
              · refine own_via (fun tq kq => XS.icmpYes X0.here hx rfl (pc0 := 56) (pc' := 63) rfl (hb hby d8_56) rfl (feq (hc56 : ¬ (zi = (6 : Int32)))).2 (by decide) (by decide) kq) ?_
                show Ogo p e below _ (s₁.setTop (mkF m 63 #[.val (.int zi)] []))
                have n0 : zi.toInt ≠ 0 := fun q => hc1 (Int32.toInt_inj.mp q)
                have n1 : zi.toInt ≠ 1 := fun q => hc10 (Int32.toInt_inj.mp q)
                have n2 : zi.toInt ≠ 2 := fun q => hc19 (Int32.toInt_inj.mp q)
                have n3 : zi.toInt ≠ 3 := fun q => hc28 (Int32.toInt_inj.mp q)
                have n4 : zi.toInt ≠ 4 := fun q => hc37 (Int32.toInt_inj.mp q)
                have n5 : zi.toInt ≠ 5 := fun q => hc46 (Int32.toInt_inj.mp q)
                have n6 : zi.toInt ≠ 6 := fun q => hc56 (Int32.toInt_inj.mp q)
                obtain rfl : i = 7 := by omega
                refine own_via (fun tq kq => XS.aconstNull X0.here hx rfl (hb hby d8_63) kq) ?_
                show Ogo p e below _ (s₁.setTop (mkF m 64 #[.val (.int zi)] [.null]))
                exact own_out X0 hlk (fun h => by rw [hret] at h; cases h) (by decide) (by decide) (by first | exact ⟨rfl, N, rfl⟩ | (rw [e0]; exact ⟨rfl, N, rfl⟩)) (fun fs hr => own_retA X0 hx hret rfl rfl (hb hby d8_64) hr)
set_option maxRecDepth 65536 in
set_option maxHeartbeats 40000000 in
theorem rm_re {l : Launch} {Z : State} {a0 : Array Value} (hw : ∀ d ∈ tables_1, d.before a0 Z = true) (a : Addr) (h0 : Heap) (n0 : Nat)  :
    Opays l (⟨"java/lang/Record", "<init>", "()V"⟩ : MethodName) jdk_30_method_1_code 1 none ({ frames := 1, cells := 0, slots := 0, locals := 12 } : Room) [] Z h0 #[(.ref a)] (fun v h L => v = none ∧ Fr n0 L ∧ h = h0) := by
  refine own_enter (plainFor_of_name pn_4) ?_
  intro p e s m below meth c s₁ hx hby hml0 hown hnm hret hlk hZ e0 X0
  have hml : c.maxLocals = 1 := hml0
  replace hown : s.vm.findClass "java/lang/Record" = some m.cls := hown
  have N := Fr.nil n0
  have hef : entryFrame m #[(.ref a)] 1 = mkF m 0 #[.val (.ref a)] [] := by first | (simp [entryFrame, mkF, argsToLocals, Value.category]; done) | rfl
  rw [hef]
  show Ogo p e below _ (s₁.setTop (mkF m 0 #[.val (.ref a)] []))
  refine own_via (fun tq kq => XS.aloadN X0.here hx rfl (hb hby d10_0) rfl rfl kq) ?_
  show Ogo p e below _ (s₁.setTop (mkF m 1 #[.val (.ref a)] [(.ref a)]))
  obtain ⟨T1, X1, e1, st1⟩ := initO X0 hx hZ hown (hw _ (List.mem_of_getElem? (i := 54) rfl)) (hw _ (List.mem_of_getElem? (i := 16) rfl)) (hw _ (List.mem_of_getElem? (i := 17) rfl)) e0 (g := (mkF m 1 #[.val (.ref a)] [(.ref a)])) rfl (by rw [hml]; rfl) rfl (hb hby d10_1) (by decide) (W := 0) (by show 2 * 0 + _ ≤ _; exact Nat.le_of_eq rfl) (by decide)
  refine own_via st1 ?_
  show Ogo p e below _ (T1.setTop (mkF m 4 #[.val (.ref a)] []))
  exact own_out X1 hlk (fun _ => rfl) (by decide) (by decide) (by first | exact ⟨rfl, N, rfl⟩ | (rw [e1]; exact ⟨rfl, N, rfl⟩)) (fun fs hr => X1.returnOut hx hret (hb hby d10_4) hr)
set_option maxRecDepth 65536 in
set_option maxHeartbeats 40000000 in
theorem rm_ti {l : Launch} {Z : State} {a0 : Array Value} (hw : ∀ d ∈ tables_1, d.before a0 Z = true) (a kk b1 : Addr) (p1 p2 : Int32) (h0 : Heap) (n0 : Nat) (E_a : Exa Z h0 a "com/example/diligent_workflow/diligentworkflow/feel/FeelLexer$Token") (F_kind_a : Fld Z h0 a "com/example/diligent_workflow/diligentworkflow/feel/FeelLexer$Token" "kind" "Lcom/example/diligent_workflow/diligentworkflow/feel/FeelLexer$Kind;" .null) (F_text_a : Fld Z h0 a "com/example/diligent_workflow/diligentworkflow/feel/FeelLexer$Token" "text" "Ljava/lang/String;" .null) (F_value_a : Fld Z h0 a "com/example/diligent_workflow/diligentworkflow/feel/FeelLexer$Token" "value" "Ljava/lang/Object;" .null) (F_start_a : Fld Z h0 a "com/example/diligent_workflow/diligentworkflow/feel/FeelLexer$Token" "start" "I" (.int (0 : Int32))) (F_end_a : Fld Z h0 a "com/example/diligent_workflow/diligentworkflow/feel/FeelLexer$Token" "end" "I" (.int (0 : Int32))) (g_a : n0 ≤ a) :
    Opays l (⟨"com/example/diligent_workflow/diligentworkflow/feel/FeelLexer$Token", "<init>", "(Lcom/example/diligent_workflow/diligentworkflow/feel/FeelLexer$Kind;Ljava/lang/String;Ljava/lang/Object;II)V"⟩ : MethodName) prog_67_method_1_code 6 none ({ frames := 2, cells := 0, slots := 0, locals := 24 } : Room) [] Z h0 #[(.ref a), (.ref kk), (.ref b1), .null, (.int p1), (.int p2)] (fun v h L => v = none ∧ Fr n0 L ∧ Keep h0 h [a] ∧ Fld Z h a "com/example/diligent_workflow/diligentworkflow/feel/FeelLexer$Token" "kind" "Lcom/example/diligent_workflow/diligentworkflow/feel/FeelLexer$Kind;" (.ref kk) ∧ Fld Z h a "com/example/diligent_workflow/diligentworkflow/feel/FeelLexer$Token" "text" "Ljava/lang/String;" (.ref b1)) := by
  refine own_enter (plainFor_of_name pn_5) ?_
  intro p e s m below meth c s₁ hx hby hml0 hown hnm hret hlk hZ e0 X0
  have hml : c.maxLocals = 6 := hml0
  replace hown : s.vm.findClass "com/example/diligent_workflow/diligentworkflow/feel/FeelLexer$Token" = some m.cls := hown
  have N := Fr.nil n0
  have hef : entryFrame m #[(.ref a), (.ref kk), (.ref b1), .null, (.int p1), (.int p2)] 6 = mkF m 0 #[.val (.ref a), .val (.ref kk), .val (.ref b1), .val .null, .val (.int p1), .val (.int p2)] [] := by first | (simp [entryFrame, mkF, argsToLocals, Value.category]; done) | rfl
  rw [hef]
  show Ogo p e below _ (s₁.setTop (mkF m 0 #[.val (.ref a), .val (.ref kk), .val (.ref b1), .val .null, .val (.int p1), .val (.int p2)] []))
  have K := Keep.refl h0 [a]
  refine own_via (fun tq kq => XS.aloadN X0.here hx rfl (hb hby d9_0) rfl rfl kq) ?_
  show Ogo p e below _ (s₁.setTop (mkF m 1 #[.val (.ref a), .val (.ref kk), .val (.ref b1), .val .null, .val (.int p1), .val (.int p2)] [(.ref a)]))
  refine own_callI X0 hx hZ rfl hown (hw _ (List.mem_of_getElem? (i := 49) rfl)) (hw _ (List.mem_of_getElem? (i := 50) rfl)) (hw _ (List.mem_of_getElem? (i := 52) rfl)) (hw _ (List.mem_of_getElem? (i := 53) rfl)) (by decide) (rm_re hw a h0 n0) rfl e0 (W := 0) (by decide) (by decide) (by decide) (by decide) (by rw [hml]; rfl) (a := a) (argsL := []) (rest := []) (lenOf pd_6 rfl) rfl (Nat.le_of_eq rfl) (hb hby d9_1) ?_
  rintro _ T1 L1 X1 ⟨rfl, Nq, hk⟩
  have N := N.app Nq
  have hk1 := hk
  show Ogo p e below _ (T1.setTop (mkF m 4 #[.val (.ref a), .val (.ref kk), .val (.ref b1), .val .null, .val (.int p1), .val (.int p2)] []))
  refine own_via (fun tq kq => XS.aloadN X1.here hx rfl (hb hby d9_4) rfl rfl kq) ?_
  show Ogo p e below _ (T1.setTop (mkF m 5 #[.val (.ref a), .val (.ref kk), .val (.ref b1), .val .null, .val (.int p1), .val (.int p2)] [(.ref a)]))
  refine own_via (fun tq kq => XS.aloadN X1.here hx rfl (hb hby d9_5) rfl rfl kq) ?_
  show Ogo p e below _ (T1.setTop (mkF m 6 #[.val (.ref a), .val (.ref kk), .val (.ref b1), .val .null, .val (.int p1), .val (.int p2)] [(.ref kk), (.ref a)]))
  obtain ⟨T2, h2, X2, e2, W2, st2⟩ := putF X1 hx hZ hown (host := "") (Or.inl (hw _ (List.mem_of_getElem? (i := 55) rfl))) Via.refl hk1 F_kind_a E_a (Or.inr ⟨(hw _ (List.mem_of_getElem? (i := 56) rfl)), rfl, hnm⟩) (hw _ (List.mem_of_getElem? (i := 38) rfl)) (ty := (.object "com/example/diligent_workflow/diligentworkflow/feel/FeelLexer$Kind")) (by decide) rfl rfl (g := (mkF m 6 #[.val (.ref a), .val (.ref kk), .val (.ref b1), .val .null, .val (.int p1), .val (.int p2)] [(.ref kk), (.ref a)])) rfl rfl (hb hby d9_6)
  refine own_via st2 ?_
  have E_a := E_a.wr W2
  have F_kind_a := F_kind_a.same W2
  have F_text_a := F_text_a.other W2 (Or.inr (slot_ne (Or.inr (hw _ (List.mem_of_getElem? (i := 58) rfl))) (Or.inr (hw _ (List.mem_of_getElem? (i := 56) rfl))) (by decide) (t := (.object "java/lang/String")) (t' := (.object "com/example/diligent_workflow/diligentworkflow/feel/FeelLexer$Kind")) (by decide) (by decide)))
  have F_value_a := F_value_a.other W2 (Or.inr (slot_ne (Or.inr (hw _ (List.mem_of_getElem? (i := 60) rfl))) (Or.inr (hw _ (List.mem_of_getElem? (i := 56) rfl))) (by decide) (t := (.object "java/lang/Object")) (t' := (.object "com/example/diligent_workflow/diligentworkflow/feel/FeelLexer$Kind")) (by decide) (by decide)))
  have F_start_a := F_start_a.other W2 (Or.inr (slot_ne (Or.inr (hw _ (List.mem_of_getElem? (i := 62) rfl))) (Or.inr (hw _ (List.mem_of_getElem? (i := 56) rfl))) (by decide) (t := .int) (t' := (.object "com/example/diligent_workflow/diligentworkflow/feel/FeelLexer$Kind")) (by decide) (by decide)))
  have F_end_a := F_end_a.other W2 (Or.inr (slot_ne (Or.inr (hw _ (List.mem_of_getElem? (i := 64) rfl))) (Or.inr (hw _ (List.mem_of_getElem? (i := 56) rfl))) (by decide) (t := .int) (t' := (.object "com/example/diligent_workflow/diligentworkflow/feel/FeelLexer$Kind")) (by decide) (by decide)))
  have K := K.wr W2 (Or.inl (List.mem_of_getElem? (i := 0) rfl))
  have N := Fr.snoc X2 N g_a
  show Ogo p e below _ (T2.setTop (mkF m 9 #[.val (.ref a), .val (.ref kk), .val (.ref b1), .val .null, .val (.int p1), .val (.int p2)] []))
  refine own_via (fun tq kq => XS.aloadN X2.here hx rfl (hb hby d9_9) rfl rfl kq) ?_
  show Ogo p e below _ (T2.setTop (mkF m 10 #[.val (.ref a), .val (.ref kk), .val (.ref b1), .val .null, .val (.int p1), .val (.int p2)] [(.ref a)]))
  refine own_via (fun tq kq => XS.aloadN X2.here hx rfl (hb hby d9_10) rfl rfl kq) ?_
  show Ogo p e below _ (T2.setTop (mkF m 11 #[.val (.ref a), .val (.ref kk), .val (.ref b1), .val .null, .val (.int p1), .val (.int p2)] [(.ref b1), (.ref a)]))
  obtain ⟨T3, h3, X3, e3, W3, st3⟩ := putF X2 hx hZ hown (host := "") (Or.inl (hw _ (List.mem_of_getElem? (i := 57) rfl))) Via.refl e2 F_text_a E_a (Or.inr ⟨(hw _ (List.mem_of_getElem? (i := 58) rfl)), rfl, hnm⟩) (hw _ (List.mem_of_getElem? (i := 38) rfl)) (ty := (.object "java/lang/String")) (by decide) rfl rfl (g := (mkF m 11 #[.val (.ref a), .val (.ref kk), .val (.ref b1), .val .null, .val (.int p1), .val (.int p2)] [(.ref b1), (.ref a)])) rfl rfl (hb hby d9_11)
  refine own_via st3 ?_
  have E_a := E_a.wr W3
  have F_kind_a := F_kind_a.other W3 (Or.inr (slot_ne (Or.inr (hw _ (List.mem_of_getElem? (i := 56) rfl))) (Or.inr (hw _ (List.mem_of_getElem? (i := 58) rfl))) (by decide) (t := (.object "com/example/diligent_workflow/diligentworkflow/feel/FeelLexer$Kind")) (t' := (.object "java/lang/String")) (by decide) (by decide)))
  have F_text_a := F_text_a.same W3
  have F_value_a := F_value_a.other W3 (Or.inr (slot_ne (Or.inr (hw _ (List.mem_of_getElem? (i := 60) rfl))) (Or.inr (hw _ (List.mem_of_getElem? (i := 58) rfl))) (by decide) (t := (.object "java/lang/Object")) (t' := (.object "java/lang/String")) (by decide) (by decide)))
  have F_start_a := F_start_a.other W3 (Or.inr (slot_ne (Or.inr (hw _ (List.mem_of_getElem? (i := 62) rfl))) (Or.inr (hw _ (List.mem_of_getElem? (i := 58) rfl))) (by decide) (t := .int) (t' := (.object "java/lang/String")) (by decide) (by decide)))
  have F_end_a := F_end_a.other W3 (Or.inr (slot_ne (Or.inr (hw _ (List.mem_of_getElem? (i := 64) rfl))) (Or.inr (hw _ (List.mem_of_getElem? (i := 58) rfl))) (by decide) (t := .int) (t' := (.object "java/lang/String")) (by decide) (by decide)))
  have K := K.wr W3 (Or.inl (List.mem_of_getElem? (i := 0) rfl))
  have N := Fr.snoc X3 N g_a
  show Ogo p e below _ (T3.setTop (mkF m 14 #[.val (.ref a), .val (.ref kk), .val (.ref b1), .val .null, .val (.int p1), .val (.int p2)] []))
  refine own_via (fun tq kq => XS.aloadN X3.here hx rfl (hb hby d9_14) rfl rfl kq) ?_
  show Ogo p e below _ (T3.setTop (mkF m 15 #[.val (.ref a), .val (.ref kk), .val (.ref b1), .val .null, .val (.int p1), .val (.int p2)] [(.ref a)]))
  refine own_via (fun tq kq => XS.aloadN X3.here hx rfl (hb hby d9_15) rfl rfl kq) ?_
  show Ogo p e below _ (T3.setTop (mkF m 16 #[.val (.ref a), .val (.ref kk), .val (.ref b1), .val .null, .val (.int p1), .val (.int p2)] [.null, (.ref a)]))
  obtain ⟨T4, h4, X4, e4, W4, st4⟩ := putF X3 hx hZ hown (host := "") (Or.inl (hw _ (List.mem_of_getElem? (i := 59) rfl))) Via.refl e3 F_value_a E_a (Or.inr ⟨(hw _ (List.mem_of_getElem? (i := 60) rfl)), rfl, hnm⟩) (hw _ (List.mem_of_getElem? (i := 38) rfl)) (ty := (.object "java/lang/Object")) (by decide) rfl rfl (g := (mkF m 16 #[.val (.ref a), .val (.ref kk), .val (.ref b1), .val .null, .val (.int p1), .val (.int p2)] [.null, (.ref a)])) rfl rfl (hb hby d9_16)
  refine own_via st4 ?_
  have E_a := E_a.wr W4
  have F_kind_a := F_kind_a.other W4 (Or.inr (slot_ne (Or.inr (hw _ (List.mem_of_getElem? (i := 56) rfl))) (Or.inr (hw _ (List.mem_of_getElem? (i := 60) rfl))) (by decide) (t := (.object "com/example/diligent_workflow/diligentworkflow/feel/FeelLexer$Kind")) (t' := (.object "java/lang/Object")) (by decide) (by decide)))
  have F_text_a := F_text_a.other W4 (Or.inr (slot_ne (Or.inr (hw _ (List.mem_of_getElem? (i := 58) rfl))) (Or.inr (hw _ (List.mem_of_getElem? (i := 60) rfl))) (by decide) (t := (.object "java/lang/String")) (t' := (.object "java/lang/Object")) (by decide) (by decide)))
  have F_value_a := F_value_a.same W4
  have F_start_a := F_start_a.other W4 (Or.inr (slot_ne (Or.inr (hw _ (List.mem_of_getElem? (i := 62) rfl))) (Or.inr (hw _ (List.mem_of_getElem? (i := 60) rfl))) (by decide) (t := .int) (t' := (.object "java/lang/Object")) (by decide) (by decide)))
  have F_end_a := F_end_a.other W4 (Or.inr (slot_ne (Or.inr (hw _ (List.mem_of_getElem? (i := 64) rfl))) (Or.inr (hw _ (List.mem_of_getElem? (i := 60) rfl))) (by decide) (t := .int) (t' := (.object "java/lang/Object")) (by decide) (by decide)))
  have K := K.wr W4 (Or.inl (List.mem_of_getElem? (i := 0) rfl))
  have N := Fr.snoc X4 N g_a
  show Ogo p e below _ (T4.setTop (mkF m 19 #[.val (.ref a), .val (.ref kk), .val (.ref b1), .val .null, .val (.int p1), .val (.int p2)] []))
  refine own_via (fun tq kq => XS.aloadN X4.here hx rfl (hb hby d9_19) rfl rfl kq) ?_
  show Ogo p e below _ (T4.setTop (mkF m 20 #[.val (.ref a), .val (.ref kk), .val (.ref b1), .val .null, .val (.int p1), .val (.int p2)] [(.ref a)]))
  refine own_via (fun tq kq => XS.iload X4.here hx rfl (hb hby d9_20) rfl kq) ?_
  show Ogo p e below _ (T4.setTop (mkF m 22 #[.val (.ref a), .val (.ref kk), .val (.ref b1), .val .null, .val (.int p1), .val (.int p2)] [(.int p1), (.ref a)]))
  obtain ⟨T5, h5, X5, e5, W5, st5⟩ := putF X4 hx hZ hown (host := "") (Or.inl (hw _ (List.mem_of_getElem? (i := 61) rfl))) Via.refl e4 F_start_a E_a (Or.inr ⟨(hw _ (List.mem_of_getElem? (i := 62) rfl)), rfl, hnm⟩) (hw _ (List.mem_of_getElem? (i := 38) rfl)) (ty := .int) (by decide) rfl rfl (g := (mkF m 22 #[.val (.ref a), .val (.ref kk), .val (.ref b1), .val .null, .val (.int p1), .val (.int p2)] [(.int p1), (.ref a)])) rfl rfl (hb hby d9_22)
  refine own_via st5 ?_
  have E_a := E_a.wr W5
  have F_kind_a := F_kind_a.other W5 (Or.inr (slot_ne (Or.inr (hw _ (List.mem_of_getElem? (i := 56) rfl))) (Or.inr (hw _ (List.mem_of_getElem? (i := 62) rfl))) (by decide) (t := (.object "com/example/diligent_workflow/diligentworkflow/feel/FeelLexer$Kind")) (t' := .int) (by decide) (by decide)))
  have F_text_a := F_text_a.other W5 (Or.inr (slot_ne (Or.inr (hw _ (List.mem_of_getElem? (i := 58) rfl))) (Or.inr (hw _ (List.mem_of_getElem? (i := 62) rfl))) (by decide) (t := (.object "java/lang/String")) (t' := .int) (by decide) (by decide)))
  have F_value_a := F_value_a.other W5 (Or.inr (slot_ne (Or.inr (hw _ (List.mem_of_getElem? (i := 60) rfl))) (Or.inr (hw _ (List.mem_of_getElem? (i := 62) rfl))) (by decide) (t := (.object "java/lang/Object")) (t' := .int) (by decide) (by decide)))
  have F_start_a := F_start_a.same W5
  have F_end_a := F_end_a.other W5 (Or.inr (slot_ne (Or.inr (hw _ (List.mem_of_getElem? (i := 64) rfl))) (Or.inr (hw _ (List.mem_of_getElem? (i := 62) rfl))) (by decide) (t := .int) (t' := .int) (by decide) (by decide)))
  have K := K.wr W5 (Or.inl (List.mem_of_getElem? (i := 0) rfl))
  have N := Fr.snoc X5 N g_a
  show Ogo p e below _ (T5.setTop (mkF m 25 #[.val (.ref a), .val (.ref kk), .val (.ref b1), .val .null, .val (.int p1), .val (.int p2)] []))
  refine own_via (fun tq kq => XS.aloadN X5.here hx rfl (hb hby d9_25) rfl rfl kq) ?_
  show Ogo p e below _ (T5.setTop (mkF m 26 #[.val (.ref a), .val (.ref kk), .val (.ref b1), .val .null, .val (.int p1), .val (.int p2)] [(.ref a)]))
  refine own_via (fun tq kq => XS.iload X5.here hx rfl (hb hby d9_26) rfl kq) ?_
  show Ogo p e below _ (T5.setTop (mkF m 28 #[.val (.ref a), .val (.ref kk), .val (.ref b1), .val .null, .val (.int p1), .val (.int p2)] [(.int p2), (.ref a)]))
  obtain ⟨T6, h6, X6, e6, W6, st6⟩ := putF X5 hx hZ hown (host := "") (Or.inl (hw _ (List.mem_of_getElem? (i := 63) rfl))) Via.refl e5 F_end_a E_a (Or.inr ⟨(hw _ (List.mem_of_getElem? (i := 64) rfl)), rfl, hnm⟩) (hw _ (List.mem_of_getElem? (i := 38) rfl)) (ty := .int) (by decide) rfl rfl (g := (mkF m 28 #[.val (.ref a), .val (.ref kk), .val (.ref b1), .val .null, .val (.int p1), .val (.int p2)] [(.int p2), (.ref a)])) rfl rfl (hb hby d9_28)
  refine own_via st6 ?_
  have E_a := E_a.wr W6
  have F_kind_a := F_kind_a.other W6 (Or.inr (slot_ne (Or.inr (hw _ (List.mem_of_getElem? (i := 56) rfl))) (Or.inr (hw _ (List.mem_of_getElem? (i := 64) rfl))) (by decide) (t := (.object "com/example/diligent_workflow/diligentworkflow/feel/FeelLexer$Kind")) (t' := .int) (by decide) (by decide)))
  have F_text_a := F_text_a.other W6 (Or.inr (slot_ne (Or.inr (hw _ (List.mem_of_getElem? (i := 58) rfl))) (Or.inr (hw _ (List.mem_of_getElem? (i := 64) rfl))) (by decide) (t := (.object "java/lang/String")) (t' := .int) (by decide) (by decide)))
  have F_value_a := F_value_a.other W6 (Or.inr (slot_ne (Or.inr (hw _ (List.mem_of_getElem? (i := 60) rfl))) (Or.inr (hw _ (List.mem_of_getElem? (i := 64) rfl))) (by decide) (t := (.object "java/lang/Object")) (t' := .int) (by decide) (by decide)))
  have F_start_a := F_start_a.other W6 (Or.inr (slot_ne (Or.inr (hw _ (List.mem_of_getElem? (i := 62) rfl))) (Or.inr (hw _ (List.mem_of_getElem? (i := 64) rfl))) (by decide) (t := .int) (t' := .int) (by decide) (by decide)))
  have F_end_a := F_end_a.same W6
  have K := K.wr W6 (Or.inl (List.mem_of_getElem? (i := 0) rfl))
  have N := Fr.snoc X6 N g_a
  show Ogo p e below _ (T6.setTop (mkF m 31 #[.val (.ref a), .val (.ref kk), .val (.ref b1), .val .null, .val (.int p1), .val (.int p2)] []))
  exact own_out X6 hlk (fun _ => rfl) (by decide) (by decide) (by first | exact ⟨rfl, N, K, F_kind_a, F_text_a⟩ | (rw [e6]; exact ⟨rfl, N, K, F_kind_a, F_text_a⟩)) (fun fs hr => X6.returnOut hx hret (hb hby d9_31) hr)
set_option maxRecDepth 65536 in
set_option maxHeartbeats 40000000 in
theorem rm_is {l : Launch} {Z : State} {a0 : Array Value} (hw : ∀ d ∈ tables_1, d.before a0 Z = true) (a kk b1 : Addr) (kk2 : Addr) (b2 : Addr) (n k : Nat) (x0 x1 y0 y1 zc : Int32) (h0 : Heap) (n0 : Nat) (E_a : Exa Z h0 a "com/example/diligent_workflow/diligentworkflow/feel/FeelLexer$Token") (F_kind_a : Fld Z h0 a "com/example/diligent_workflow/diligentworkflow/feel/FeelLexer$Token" "kind" "Lcom/example/diligent_workflow/diligentworkflow/feel/FeelLexer$Kind;" (.ref kk)) (F_text_a : Fld Z h0 a "com/example/diligent_workflow/diligentworkflow/feel/FeelLexer$Token" "text" "Ljava/lang/String;" (.ref b1)) (TX : Ostr Z h0 b1 n x0 x1) (TY : Ostr Z h0 b2 k y0 y1) (hne : b1 ≠ b2) (hn : n ≤ 2) (hk : k ≤ 2) (hx0 : 0 ≤ x0.toInt ∧ x0.toInt ≤ 255) (hx1 : 0 ≤ x1.toInt ∧ x1.toInt ≤ 255) (hy0 : 0 ≤ y0.toInt ∧ y0.toInt ≤ 255) (hy1 : 0 ≤ y1.toInt ∧ y1.toInt ≤ 255) (SCO : Sta Z Z.heap "java/lang/String" "COMPACT_STRINGS" "Z" (.int zc)) (hzc : ¬ zc = 0) (O : Old Z n0 h0) :
    Opays l (⟨"com/example/diligent_workflow/diligentworkflow/feel/FeelLexer$Token", "is", "(Lcom/example/diligent_workflow/diligentworkflow/feel/FeelLexer$Kind;Ljava/lang/String;)Z"⟩ : MethodName) prog_67_method_2_code 3 (some .boolean) ({ frames := 2, cells := 0, slots := 0, locals := 28 } : Room) [] Z h0 #[(.ref a), (.ref kk2), (.ref b2)] (fun v h L => ∃ r : Int32, v = some (.int r) ∧ ((r = 1 ∧ kk = kk2 ∧ Osame n x0 x1 k y0 y1) ∨ (r = 0 ∧ ¬ (kk = kk2 ∧ Osame n x0 x1 k y0 y1))) ∧ Fr n0 L ∧ h = h0) := by
  refine own_enter (plainFor_of_name pn_5) ?_
  intro p e s m below meth c s₁ hx hby hml0 hown hnm hret hlk hZ e0 X0
  have hml : c.maxLocals = 3 := hml0
  replace hown : s.vm.findClass "com/example/diligent_workflow/diligentworkflow/feel/FeelLexer$Token" = some m.cls := hown
  have N := Fr.nil n0
  have hef : entryFrame m #[(.ref a), (.ref kk2), (.ref b2)] 3 = mkF m 0 #[.val (.ref a), .val (.ref kk2), .val (.ref b2)] [] := by first | (simp [entryFrame, mkF, argsToLocals, Value.category]; done) | rfl
  rw [hef]
  show Ogo p e below _ (s₁.setTop (mkF m 0 #[.val (.ref a), .val (.ref kk2), .val (.ref b2)] []))
  refine own_via (fun tq kq => XS.aloadN X0.here hx rfl (hb hby d11_0) rfl rfl kq) ?_
  show Ogo p e below _ (s₁.setTop (mkF m 1 #[.val (.ref a), .val (.ref kk2), .val (.ref b2)] [(.ref a)]))
  obtain ⟨T1, X1, e1, st1⟩ := getF X0 hx hZ hown (host := "") (Or.inl (hw _ (List.mem_of_getElem? (i := 55) rfl))) Via.refl e0 F_kind_a (g := (mkF m 1 #[.val (.ref a), .val (.ref kk2), .val (.ref b2)] [(.ref a)])) rfl rfl (hb hby d11_1)
  refine own_via st1 ?_
  show Ogo p e below _ (T1.setTop (mkF m 4 #[.val (.ref a), .val (.ref kk2), .val (.ref b2)] [(.ref kk)]))
  refine own_via (fun tq kq => XS.aloadN X1.here hx rfl (hb hby d11_4) rfl rfl kq) ?_
  show Ogo p e below _ (T1.setTop (mkF m 5 #[.val (.ref a), .val (.ref kk2), .val (.ref b2)] [(.ref kk2), (.ref kk)]))
  by_cases hkk : kk = kk2
  · refine own_via (fun tq kq => Jvm.RoadKit.acmp (g := (mkF m 5 #[.val (.ref a), .val (.ref kk2), .val (.ref b2)] [(.ref kk2), (.ref kk)])) X1 hx rfl rfl rfl (pc0 := 5) (pc' := 8) (same := true) rfl (hb hby d11_5) rfl (decide_eq_true (congrArg Value.ref hkk)) (by decide) (by decide) kq) ?_
    show Ogo p e below _ (T1.setTop (mkF m 8 #[.val (.ref a), .val (.ref kk2), .val (.ref b2)] []))
    refine own_via (fun tq kq => XS.aloadN X1.here hx rfl (hb hby d11_8) rfl rfl kq) ?_
    show Ogo p e below _ (T1.setTop (mkF m 9 #[.val (.ref a), .val (.ref kk2), .val (.ref b2)] [(.ref a)]))
    obtain ⟨T2, X2, e2, st2⟩ := getF X1 hx hZ hown (host := "") (Or.inl (hw _ (List.mem_of_getElem? (i := 57) rfl))) Via.refl e1 F_text_a (g := (mkF m 9 #[.val (.ref a), .val (.ref kk2), .val (.ref b2)] [(.ref a)])) rfl rfl (hb hby d11_9)
    refine own_via st2 ?_
    show Ogo p e below _ (T2.setTop (mkF m 12 #[.val (.ref a), .val (.ref kk2), .val (.ref b2)] [(.ref b1)]))
    refine own_via (fun tq kq => XS.aloadN X2.here hx rfl (hb hby d11_12) rfl rfl kq) ?_
    show Ogo p e below _ (T2.setTop (mkF m 13 #[.val (.ref a), .val (.ref kk2), .val (.ref b2)] [(.ref b2), (.ref b1)]))
    have E_b1 := TX.1
    refine own_callV X2 hx hZ hown (hw _ (List.mem_of_getElem? (i := 70) rfl)) (hw _ (List.mem_of_getElem? (i := 71) rfl)) (hw _ (List.mem_of_getElem? (i := 73) rfl)) (hw _ (List.mem_of_getElem? (i := 72) rfl)) (hw _ (List.mem_of_getElem? (i := 6) rfl)) (hw _ (List.mem_of_getElem? (i := 74) rfl)) (notFace_of_selects (args := #[]) (mvT hZ (hw _ (List.mem_of_getElem? (i := 73) rfl)))) (by decide) (rm_eq hw b1 b2 n k x0 x1 y0 y1 zc h0 n0 TX TY hne hn hk hx0 hx1 hy0 hy1 SCO hzc O) rfl e2 E_b1 (W := 0) (by decide) (by decide) (by decide) (by decide) (by rw [hml]; rfl) (b := b1) (argsL := [(.ref b2)]) (rest := []) (lenOf pd_7 rfl) rfl (Nat.le_of_eq rfl) (hb hby d11_13) ?_
    rintro _ T3 L3 X3 ⟨r, rfl, hr, Nq, hk9⟩
    have N := N.app Nq
    have hk := hk9
    have hk3 := hk
    show Ogo p e below _ (T3.setTop (mkF m 16 #[.val (.ref a), .val (.ref kk2), .val (.ref b2)] [(.int r)]))
    rcases hr with ⟨rfl, hr⟩ | ⟨rfl, hr⟩
    · show Ogo p e below _ (T3.setTop (mkF m 16 #[.val (.ref a), .val (.ref kk2), .val (.ref b2)] [(.int (1 : Int32))]))
      refine own_via (fun tq kq => XS.ifNo X3.here hx rfl (hb hby d11_16) rfl ((if0 _ _).trans (feq ((by decide) : ¬ ((1 : Int32) = (0 : Int32)))).1) kq) ?_
      show Ogo p e below _ (T3.setTop (mkF m 19 #[.val (.ref a), .val (.ref kk2), .val (.ref b2)] []))
      refine own_via (fun tq kq => XS.iconst X3.here hx rfl (hb hby d11_19) kq) ?_
      show Ogo p e below _ (T3.setTop (mkF m 20 #[.val (.ref a), .val (.ref kk2), .val (.ref b2)] [(.int (1 : Int32))]))
      refine own_via (fun tq kq => XS.goto X3.here hx rfl (pc0 := 20) (pc' := 24) rfl (hb hby d11_20) (by decide) (by decide) kq) ?_
      show Ogo p e below _ (T3.setTop (mkF m 24 #[.val (.ref a), .val (.ref kk2), .val (.ref b2)] [(.int (1 : Int32))]))
      exact own_out X3 hlk (fun h => by rw [hret] at h; cases h) (by decide) (by decide) (by first | exact ⟨1, rfl, Or.inl ⟨rfl, hkk, hr⟩, N, rfl⟩ | (rw [hk3]; exact ⟨1, rfl, Or.inl ⟨rfl, hkk, hr⟩, N, rfl⟩)) (fun fs hr => retN X3 hx (t := .boolean) hret (by simp) (hb hby d11_24) hr)
    · show Ogo p e below _ (T3.setTop (mkF m 16 #[.val (.ref a), .val (.ref kk2), .val (.ref b2)] [(.int (0 : Int32))]))
      refine own_via (fun tq kq => XS.ifYes X3.here hx rfl (pc0 := 16) (pc' := 23) rfl (hb hby d11_16) rfl ((if0 _ _).trans (teq (rfl : (0 : Int32) = (0 : Int32))).1) (by decide) (by decide) kq) ?_
      show Ogo p e below _ (T3.setTop (mkF m 23 #[.val (.ref a), .val (.ref kk2), .val (.ref b2)] []))
      refine own_via (fun tq kq => XS.iconst X3.here hx rfl (hb hby d11_23) kq) ?_
      show Ogo p e below _ (T3.setTop (mkF m 24 #[.val (.ref a), .val (.ref kk2), .val (.ref b2)] [(.int (0 : Int32))]))
      exact own_out X3 hlk (fun h => by rw [hret] at h; cases h) (by decide) (by decide) (by first | exact ⟨0, rfl, Or.inr ⟨rfl, fun z => hr z.2⟩, N, rfl⟩ | (rw [hk3]; exact ⟨0, rfl, Or.inr ⟨rfl, fun z => hr z.2⟩, N, rfl⟩)) (fun fs hr => retN X3 hx (t := .boolean) hret (by simp) (hb hby d11_24) hr)
  · refine own_via (fun tq kq => Jvm.RoadKit.acmp (g := (mkF m 5 #[.val (.ref a), .val (.ref kk2), .val (.ref b2)] [(.ref kk2), (.ref kk)])) X1 hx rfl rfl rfl (pc0 := 5) (pc' := 23) (same := false) rfl (hb hby d11_5) rfl (decide_eq_false fun q => hkk (Value.ref.inj q)) (by decide) (by decide) kq) ?_
    show Ogo p e below _ (T1.setTop (mkF m 23 #[.val (.ref a), .val (.ref kk2), .val (.ref b2)] []))
    refine own_via (fun tq kq => XS.iconst X1.here hx rfl (hb hby d11_23) kq) ?_
    show Ogo p e below _ (T1.setTop (mkF m 24 #[.val (.ref a), .val (.ref kk2), .val (.ref b2)] [(.int (0 : Int32))]))
    exact own_out X1 hlk (fun h => by rw [hret] at h; cases h) (by decide) (by decide) (by first | exact ⟨0, rfl, Or.inr ⟨rfl, fun z => hkk z.1⟩, N, rfl⟩ | (rw [e1]; exact ⟨0, rfl, Or.inr ⟨rfl, fun z => hkk z.1⟩, N, rfl⟩)) (fun fs hr => retN X1 hx (t := .boolean) hret (by simp) (hb hby d11_24) hr)
set_option maxRecDepth 65536 in
set_option maxHeartbeats 40000000 in
theorem rm_isN {l : Launch} {Z : State} {a0 : Array Value} (hw : ∀ d ∈ tables_1, d.before a0 Z = true) (a kk b1 : Addr) (kk2 : Addr) (h0 : Heap) (n0 : Nat) (E_a : Exa Z h0 a "com/example/diligent_workflow/diligentworkflow/feel/FeelLexer$Token") (F_kind_a : Fld Z h0 a "com/example/diligent_workflow/diligentworkflow/feel/FeelLexer$Token" "kind" "Lcom/example/diligent_workflow/diligentworkflow/feel/FeelLexer$Kind;" (.ref kk)) (F_text_a : Fld Z h0 a "com/example/diligent_workflow/diligentworkflow/feel/FeelLexer$Token" "text" "Ljava/lang/String;" (.ref b1)) (E_b1 : Exa Z h0 b1 "java/lang/String") :
    Opays l (⟨"com/example/diligent_workflow/diligentworkflow/feel/FeelLexer$Token", "is", "(Lcom/example/diligent_workflow/diligentworkflow/feel/FeelLexer$Kind;Ljava/lang/String;)Z"⟩ : MethodName) prog_67_method_2_code 3 (some .boolean) ({ frames := 2, cells := 0, slots := 0, locals := 28 } : Room) [] Z h0 #[(.ref a), (.ref kk2), .null] (fun v h L => v = some (.int 0) ∧ Fr n0 L ∧ h = h0) := by
  refine own_enter (plainFor_of_name pn_5) ?_
  intro p e s m below meth c s₁ hx hby hml0 hown hnm hret hlk hZ e0 X0
  have hml : c.maxLocals = 3 := hml0
  replace hown : s.vm.findClass "com/example/diligent_workflow/diligentworkflow/feel/FeelLexer$Token" = some m.cls := hown
  have N := Fr.nil n0
  have hef : entryFrame m #[(.ref a), (.ref kk2), .null] 3 = mkF m 0 #[.val (.ref a), .val (.ref kk2), .val .null] [] := by first | (simp [entryFrame, mkF, argsToLocals, Value.category]; done) | rfl
  rw [hef]
  show Ogo p e below _ (s₁.setTop (mkF m 0 #[.val (.ref a), .val (.ref kk2), .val .null] []))
  refine own_via (fun tq kq => XS.aloadN X0.here hx rfl (hb hby d11_0) rfl rfl kq) ?_
  show Ogo p e below _ (s₁.setTop (mkF m 1 #[.val (.ref a), .val (.ref kk2), .val .null] [(.ref a)]))
  obtain ⟨T1, X1, e1, st1⟩ := getF X0 hx hZ hown (host := "") (Or.inl (hw _ (List.mem_of_getElem? (i := 55) rfl))) Via.refl e0 F_kind_a (g := (mkF m 1 #[.val (.ref a), .val (.ref kk2), .val .null] [(.ref a)])) rfl rfl (hb hby d11_1)
  refine own_via st1 ?_
  show Ogo p e below _ (T1.setTop (mkF m 4 #[.val (.ref a), .val (.ref kk2), .val .null] [(.ref kk)]))
  refine own_via (fun tq kq => XS.aloadN X1.here hx rfl (hb hby d11_4) rfl rfl kq) ?_
  show Ogo p e below _ (T1.setTop (mkF m 5 #[.val (.ref a), .val (.ref kk2), .val .null] [(.ref kk2), (.ref kk)]))
  by_cases hkk : kk = kk2
  · refine own_via (fun tq kq => Jvm.RoadKit.acmp (g := (mkF m 5 #[.val (.ref a), .val (.ref kk2), .val .null] [(.ref kk2), (.ref kk)])) X1 hx rfl rfl rfl (pc0 := 5) (pc' := 8) (same := true) rfl (hb hby d11_5) rfl (decide_eq_true (congrArg Value.ref hkk)) (by decide) (by decide) kq) ?_
    show Ogo p e below _ (T1.setTop (mkF m 8 #[.val (.ref a), .val (.ref kk2), .val .null] []))
    refine own_via (fun tq kq => XS.aloadN X1.here hx rfl (hb hby d11_8) rfl rfl kq) ?_
    show Ogo p e below _ (T1.setTop (mkF m 9 #[.val (.ref a), .val (.ref kk2), .val .null] [(.ref a)]))
    obtain ⟨T2, X2, e2, st2⟩ := getF X1 hx hZ hown (host := "") (Or.inl (hw _ (List.mem_of_getElem? (i := 57) rfl))) Via.refl e1 F_text_a (g := (mkF m 9 #[.val (.ref a), .val (.ref kk2), .val .null] [(.ref a)])) rfl rfl (hb hby d11_9)
    refine own_via st2 ?_
    show Ogo p e below _ (T2.setTop (mkF m 12 #[.val (.ref a), .val (.ref kk2), .val .null] [(.ref b1)]))
    refine own_via (fun tq kq => XS.aloadN X2.here hx rfl (hb hby d11_12) rfl rfl kq) ?_
    show Ogo p e below _ (T2.setTop (mkF m 13 #[.val (.ref a), .val (.ref kk2), .val .null] [.null, (.ref b1)]))
    refine own_callV X2 hx hZ hown (hw _ (List.mem_of_getElem? (i := 70) rfl)) (hw _ (List.mem_of_getElem? (i := 71) rfl)) (hw _ (List.mem_of_getElem? (i := 73) rfl)) (hw _ (List.mem_of_getElem? (i := 72) rfl)) (hw _ (List.mem_of_getElem? (i := 6) rfl)) (hw _ (List.mem_of_getElem? (i := 74) rfl)) (notFace_of_selects (args := #[]) (mvT hZ (hw _ (List.mem_of_getElem? (i := 73) rfl)))) (by decide) (rm_eq0 hw b1 h0 n0) rfl e2 E_b1 (W := 0) (by decide) (by decide) (by decide) (by decide) (by rw [hml]; rfl) (b := b1) (argsL := [.null]) (rest := []) (lenOf pd_7 rfl) rfl (Nat.le_of_eq rfl) (hb hby d11_13) ?_
    rintro _ T3 L3 X3 ⟨rfl, Nq, hk⟩
    have N := N.app Nq
    have hk3 := hk
    show Ogo p e below _ (T3.setTop (mkF m 16 #[.val (.ref a), .val (.ref kk2), .val .null] [(.int (0 : Int32))]))
    refine own_via (fun tq kq => XS.ifYes X3.here hx rfl (pc0 := 16) (pc' := 23) rfl (hb hby d11_16) rfl ((if0 _ _).trans (teq (rfl : (0 : Int32) = (0 : Int32))).1) (by decide) (by decide) kq) ?_
    show Ogo p e below _ (T3.setTop (mkF m 23 #[.val (.ref a), .val (.ref kk2), .val .null] []))
    refine own_via (fun tq kq => XS.iconst X3.here hx rfl (hb hby d11_23) kq) ?_
    show Ogo p e below _ (T3.setTop (mkF m 24 #[.val (.ref a), .val (.ref kk2), .val .null] [(.int (0 : Int32))]))
    exact own_out X3 hlk (fun h => by rw [hret] at h; cases h) (by decide) (by decide) (by first | exact ⟨rfl, N, rfl⟩ | (rw [hk3]; exact ⟨rfl, N, rfl⟩)) (fun fs hr => retN X3 hx (t := .boolean) hret (by simp) (hb hby d11_24) hr)
  · refine own_via (fun tq kq => Jvm.RoadKit.acmp (g := (mkF m 5 #[.val (.ref a), .val (.ref kk2), .val .null] [(.ref kk2), (.ref kk)])) X1 hx rfl rfl rfl (pc0 := 5) (pc' := 23) (same := false) rfl (hb hby d11_5) rfl (decide_eq_false fun q => hkk (Value.ref.inj q)) (by decide) (by decide) kq) ?_
    show Ogo p e below _ (T1.setTop (mkF m 23 #[.val (.ref a), .val (.ref kk2), .val .null] []))
    refine own_via (fun tq kq => XS.iconst X1.here hx rfl (hb hby d11_23) kq) ?_
    show Ogo p e below _ (T1.setTop (mkF m 24 #[.val (.ref a), .val (.ref kk2), .val .null] [(.int (0 : Int32))]))
    exact own_out X1 hlk (fun h => by rw [hret] at h; cases h) (by decide) (by decide) (by first | exact ⟨rfl, N, rfl⟩ | (rw [e1]; exact ⟨rfl, N, rfl⟩)) (fun fs hr => retN X1 hx (t := .boolean) hret (by simp) (hb hby d11_24) hr)
set_option maxRecDepth 65536 in
set_option maxHeartbeats 40000000 in
theorem rm_isZ {l : Launch} {Z : State} {a0 : Array Value} (hw : ∀ d ∈ tables_1, d.before a0 Z = true) (a kk b1 : Addr) (b2 : Addr) (h0 : Heap) (n0 : Nat) (E_a : Exa Z h0 a "com/example/diligent_workflow/diligentworkflow/feel/FeelLexer$Token") (F_kind_a : Fld Z h0 a "com/example/diligent_workflow/diligentworkflow/feel/FeelLexer$Token" "kind" "Lcom/example/diligent_workflow/diligentworkflow/feel/FeelLexer$Kind;" (.ref kk)) (F_text_a : Fld Z h0 a "com/example/diligent_workflow/diligentworkflow/feel/FeelLexer$Token" "text" "Ljava/lang/String;" (.ref b1)) :
    Opays l (⟨"com/example/diligent_workflow/diligentworkflow/feel/FeelLexer$Token", "is", "(Lcom/example/diligent_workflow/diligentworkflow/feel/FeelLexer$Kind;Ljava/lang/String;)Z"⟩ : MethodName) prog_67_method_2_code 3 (some .boolean) ({ frames := 2, cells := 0, slots := 0, locals := 28 } : Room) [] Z h0 #[(.ref a), .null, (.ref b2)] (fun v h L => v = some (.int 0) ∧ Fr n0 L ∧ h = h0) := by
  refine own_enter (plainFor_of_name pn_5) ?_
  intro p e s m below meth c s₁ hx hby hml0 hown hnm hret hlk hZ e0 X0
  have hml : c.maxLocals = 3 := hml0
  replace hown : s.vm.findClass "com/example/diligent_workflow/diligentworkflow/feel/FeelLexer$Token" = some m.cls := hown
  have N := Fr.nil n0
  have hef : entryFrame m #[(.ref a), .null, (.ref b2)] 3 = mkF m 0 #[.val (.ref a), .val .null, .val (.ref b2)] [] := by first | (simp [entryFrame, mkF, argsToLocals, Value.category]; done) | rfl
  rw [hef]
  show Ogo p e below _ (s₁.setTop (mkF m 0 #[.val (.ref a), .val .null, .val (.ref b2)] []))
  refine own_via (fun tq kq => XS.aloadN X0.here hx rfl (hb hby d11_0) rfl rfl kq) ?_
  show Ogo p e below _ (s₁.setTop (mkF m 1 #[.val (.ref a), .val .null, .val (.ref b2)] [(.ref a)]))
  obtain ⟨T1, X1, e1, st1⟩ := getF X0 hx hZ hown (host := "") (Or.inl (hw _ (List.mem_of_getElem? (i := 55) rfl))) Via.refl e0 F_kind_a (g := (mkF m 1 #[.val (.ref a), .val .null, .val (.ref b2)] [(.ref a)])) rfl rfl (hb hby d11_1)
  refine own_via st1 ?_
  show Ogo p e below _ (T1.setTop (mkF m 4 #[.val (.ref a), .val .null, .val (.ref b2)] [(.ref kk)]))
  refine own_via (fun tq kq => XS.aloadN X1.here hx rfl (hb hby d11_4) rfl rfl kq) ?_
  show Ogo p e below _ (T1.setTop (mkF m 5 #[.val (.ref a), .val .null, .val (.ref b2)] [.null, (.ref kk)]))
  refine own_via (fun tq kq => Jvm.RoadKit.acmp (g := (mkF m 5 #[.val (.ref a), .val .null, .val (.ref b2)] [.null, (.ref kk)])) X1 hx rfl rfl rfl (pc0 := 5) (pc' := 23) (same := false) rfl (hb hby d11_5) rfl (decide_eq_false nofun) (by decide) (by decide) kq) ?_
  show Ogo p e below _ (T1.setTop (mkF m 23 #[.val (.ref a), .val .null, .val (.ref b2)] []))
  refine own_via (fun tq kq => XS.iconst X1.here hx rfl (hb hby d11_23) kq) ?_
  show Ogo p e below _ (T1.setTop (mkF m 24 #[.val (.ref a), .val .null, .val (.ref b2)] [(.int (0 : Int32))]))
  exact own_out X1 hlk (fun h => by rw [hret] at h; cases h) (by decide) (by decide) (by first | exact ⟨rfl, N, rfl⟩ | (rw [e1]; exact ⟨rfl, N, rfl⟩)) (fun fs hr => retN X1 hx (t := .boolean) hret (by simp) (hb hby d11_24) hr)
set_option maxRecDepth 65536 in
set_option maxHeartbeats 40000000 in
theorem rm_isZN {l : Launch} {Z : State} {a0 : Array Value} (hw : ∀ d ∈ tables_1, d.before a0 Z = true) (a kk b1 : Addr) (h0 : Heap) (n0 : Nat) (E_a : Exa Z h0 a "com/example/diligent_workflow/diligentworkflow/feel/FeelLexer$Token") (F_kind_a : Fld Z h0 a "com/example/diligent_workflow/diligentworkflow/feel/FeelLexer$Token" "kind" "Lcom/example/diligent_workflow/diligentworkflow/feel/FeelLexer$Kind;" (.ref kk)) (F_text_a : Fld Z h0 a "com/example/diligent_workflow/diligentworkflow/feel/FeelLexer$Token" "text" "Ljava/lang/String;" (.ref b1)) :
    Opays l (⟨"com/example/diligent_workflow/diligentworkflow/feel/FeelLexer$Token", "is", "(Lcom/example/diligent_workflow/diligentworkflow/feel/FeelLexer$Kind;Ljava/lang/String;)Z"⟩ : MethodName) prog_67_method_2_code 3 (some .boolean) ({ frames := 2, cells := 0, slots := 0, locals := 28 } : Room) [] Z h0 #[(.ref a), .null, .null] (fun v h L => v = some (.int 0) ∧ Fr n0 L ∧ h = h0) := by
  refine own_enter (plainFor_of_name pn_5) ?_
  intro p e s m below meth c s₁ hx hby hml0 hown hnm hret hlk hZ e0 X0
  have hml : c.maxLocals = 3 := hml0
  replace hown : s.vm.findClass "com/example/diligent_workflow/diligentworkflow/feel/FeelLexer$Token" = some m.cls := hown
  have N := Fr.nil n0
  have hef : entryFrame m #[(.ref a), .null, .null] 3 = mkF m 0 #[.val (.ref a), .val .null, .val .null] [] := by first | (simp [entryFrame, mkF, argsToLocals, Value.category]; done) | rfl
  rw [hef]
  show Ogo p e below _ (s₁.setTop (mkF m 0 #[.val (.ref a), .val .null, .val .null] []))
  refine own_via (fun tq kq => XS.aloadN X0.here hx rfl (hb hby d11_0) rfl rfl kq) ?_
  show Ogo p e below _ (s₁.setTop (mkF m 1 #[.val (.ref a), .val .null, .val .null] [(.ref a)]))
  obtain ⟨T1, X1, e1, st1⟩ := getF X0 hx hZ hown (host := "") (Or.inl (hw _ (List.mem_of_getElem? (i := 55) rfl))) Via.refl e0 F_kind_a (g := (mkF m 1 #[.val (.ref a), .val .null, .val .null] [(.ref a)])) rfl rfl (hb hby d11_1)
  refine own_via st1 ?_
  show Ogo p e below _ (T1.setTop (mkF m 4 #[.val (.ref a), .val .null, .val .null] [(.ref kk)]))
  refine own_via (fun tq kq => XS.aloadN X1.here hx rfl (hb hby d11_4) rfl rfl kq) ?_
  show Ogo p e below _ (T1.setTop (mkF m 5 #[.val (.ref a), .val .null, .val .null] [.null, (.ref kk)]))
  refine own_via (fun tq kq => Jvm.RoadKit.acmp (g := (mkF m 5 #[.val (.ref a), .val .null, .val .null] [.null, (.ref kk)])) X1 hx rfl rfl rfl (pc0 := 5) (pc' := 23) (same := false) rfl (hb hby d11_5) rfl (decide_eq_false nofun) (by decide) (by decide) kq) ?_
  show Ogo p e below _ (T1.setTop (mkF m 23 #[.val (.ref a), .val .null, .val .null] []))
  refine own_via (fun tq kq => XS.iconst X1.here hx rfl (hb hby d11_23) kq) ?_
  show Ogo p e below _ (T1.setTop (mkF m 24 #[.val (.ref a), .val .null, .val .null] [(.int (0 : Int32))]))
  exact own_out X1 hlk (fun h => by rw [hret] at h; cases h) (by decide) (by decide) (by first | exact ⟨rfl, N, rfl⟩ | (rw [e1]; exact ⟨rfl, N, rfl⟩)) (fun fs hr => retN X1 hx (t := .boolean) hret (by simp) (hb hby d11_24) hr)
set_option maxRecDepth 65536 in
set_option maxHeartbeats 40000000 in
theorem rm_law {l : Launch} {Z : State} {a0 : Array Value} (hw : ∀ d ∈ tables_1, d.before a0 Z = true) (p1 p2 p3 p4 p5 p6 : Int32) (km : Nat → Addr) (zc : Int32) (h0 : Heap) (n0 : Nat) (hEL : EW Z a0 consts_1) (zs : n0 ≤ h0.size) (S0 : Sta Z Z.heap "com/example/diligent_workflow/diligentworkflow/feel/FeelLexer$Kind" "NUMBER" "Lcom/example/diligent_workflow/diligentworkflow/feel/FeelLexer$Kind;" (.ref (km 0))) (S1 : Sta Z Z.heap "com/example/diligent_workflow/diligentworkflow/feel/FeelLexer$Kind" "STRING" "Lcom/example/diligent_workflow/diligentworkflow/feel/FeelLexer$Kind;" (.ref (km 1))) (S2 : Sta Z Z.heap "com/example/diligent_workflow/diligentworkflow/feel/FeelLexer$Kind" "TEMPORAL" "Lcom/example/diligent_workflow/diligentworkflow/feel/FeelLexer$Kind;" (.ref (km 2))) (S3 : Sta Z Z.heap "com/example/diligent_workflow/diligentworkflow/feel/FeelLexer$Kind" "NAME" "Lcom/example/diligent_workflow/diligentworkflow/feel/FeelLexer$Kind;" (.ref (km 3))) (S4 : Sta Z Z.heap "com/example/diligent_workflow/diligentworkflow/feel/FeelLexer$Kind" "KEYWORD" "Lcom/example/diligent_workflow/diligentworkflow/feel/FeelLexer$Kind;" (.ref (km 4))) (S5 : Sta Z Z.heap "com/example/diligent_workflow/diligentworkflow/feel/FeelLexer$Kind" "SYMBOL" "Lcom/example/diligent_workflow/diligentworkflow/feel/FeelLexer$Kind;" (.ref (km 5))) (S6 : Sta Z Z.heap "com/example/diligent_workflow/diligentworkflow/feel/FeelLexer$Kind" "END" "Lcom/example/diligent_workflow/diligentworkflow/feel/FeelLexer$Kind;" (.ref (km 6))) (SCO : Sta Z Z.heap "java/lang/String" "COMPACT_STRINGS" "Z" (.int zc)) (hzc : ¬ zc = 0) (O : Old Z n0 h0) (hkm : ∀ i j, i < 7 → j < 7 → km i = km j → i = j) :
    Owpays l x code maxLocals ret room_1 tables_1 Z consts_1 h0 #[(.int p1), (.int p2), (.int p3), (.int p4), (.int p5), (.int p6)] (fun v h L => v = some (.int 1) ∧ Fr n0 L) := by
  refine own_enterW (plainFor_of_name pn_2) ?_
  intro p e s m below meth c s₁ vm0 hx hby hml0 hown hnm hret hlk hZ e0 hS CR X0
  have hml : c.maxLocals = 22 := hml0
  replace hown : vm0.findClass "com/example/diligent_workflow/diligentworkflow/feel/TokenIsPinLaw" = some m.cls := hown
  have N := Fr.nil n0
  have hef : entryFrame m #[(.int p1), (.int p2), (.int p3), (.int p4), (.int p5), (.int p6)] maxLocals = mkF m 0 #[.val (.int p1), .val (.int p2), .val (.int p3), .val (.int p4), .val (.int p5), .val (.int p6), .unset, .unset, .unset, .unset, .unset, .unset, .unset, .unset, .unset, .unset, .unset, .unset, .unset, .unset, .unset, .unset] [] := by first | (simp [entryFrame, mkF, argsToLocals, Value.category, maxLocals]; done) | rfl
  rw [hef]
  show Ogo p e below _ (s₁.setTop (mkF m 0 #[.val (.int p1), .val (.int p2), .val (.int p3), .val (.int p4), .val (.int p5), .val (.int p6), .unset, .unset, .unset, .unset, .unset, .unset, .unset, .unset, .unset, .unset, .unset, .unset, .unset, .unset, .unset, .unset] []))
  refine own_via (fun tq kq => XS.iloadN X0.here hx rfl (hb hby at_0) rfl kq) ?_
  show Ogo p e below _ (s₁.setTop (mkF m 1 #[.val (.int p1), .val (.int p2), .val (.int p3), .val (.int p4), .val (.int p5), .val (.int p6), .unset, .unset, .unset, .unset, .unset, .unset, .unset, .unset, .unset, .unset, .unset, .unset, .unset, .unset, .unset, .unset] [(.int p1)]))
  refine own_via (fun tq kq => XS.sipush X0.here hx rfl (hb hby at_1) kq) ?_
  show Ogo p e below _ (s₁.setTop (mkF m 4 #[.val (.int p1), .val (.int p2), .val (.int p3), .val (.int p4), .val (.int p5), .val (.int p6), .unset, .unset, .unset, .unset, .unset, .unset, .unset, .unset, .unset, .unset, .unset, .unset, .unset, .unset, .unset, .unset] [(.int (255 : Int32)), (.int p1)]))
  refine own_via (fun tq kq => XS.iand X0.here hx rfl (hb hby at_4) rfl kq) ?_
  show Ogo p e below _ (s₁.setTop (mkF m 5 #[.val (.int p1), .val (.int p2), .val (.int p3), .val (.int p4), .val (.int p5), .val (.int p6), .unset, .unset, .unset, .unset, .unset, .unset, .unset, .unset, .unset, .unset, .unset, .unset, .unset, .unset, .unset, .unset] [(.int (p1 &&& (255 : Int32)))]))
  refine own_via (fun tq kq => XS.bipush X0.here hx rfl (hb hby at_5) kq) ?_
  show Ogo p e below _ (s₁.setTop (mkF m 7 #[.val (.int p1), .val (.int p2), .val (.int p3), .val (.int p4), .val (.int p5), .val (.int p6), .unset, .unset, .unset, .unset, .unset, .unset, .unset, .unset, .unset, .unset, .unset, .unset, .unset, .unset, .unset, .unset] [(.int (7 : Int32)), (.int (p1 &&& (255 : Int32)))]))
  refine own_via (fun tq kq => iremM X0 hx rfl (hb hby at_7) rfl (by decide) kq) ?_
  show Ogo p e below _ (s₁.setTop (mkF m 8 #[.val (.int p1), .val (.int p2), .val (.int p3), .val (.int p4), .val (.int p5), .val (.int p6), .unset, .unset, .unset, .unset, .unset, .unset, .unset, .unset, .unset, .unset, .unset, .unset, .unset, .unset, .unset, .unset] [(.int ((p1 &&& (255 : Int32)) % (7 : Int32)))]))
  obtain ⟨zi1, hzi1⟩ : ∃ z, z = ((p1 &&& (255 : Int32)) % (7 : Int32)) := ⟨_, rfl⟩
  rw [← hzi1]
  show Ogo p e below _ (s₁.setTop (mkF m 8 #[.val (.int p1), .val (.int p2), .val (.int p3), .val (.int p4), .val (.int p5), .val (.int p6), .unset, .unset, .unset, .unset, .unset, .unset, .unset, .unset, .unset, .unset, .unset, .unset, .unset, .unset, .unset, .unset] [(.int zi1)]))
  obtain ⟨i1, hi1, li1⟩ : ∃ n : Nat, zi1.toInt = (n : Int) ∧ n < 7 := by rw [hzi1]; exact own_rem 7 rfl (by decide) (own_and255 _).1
  refine own_via (fun tq kq => XS.istore X0.here hx rfl (hb hby at_8) rfl (l' := #[.val (.int p1), .val (.int p2), .val (.int p3), .val (.int p4), .val (.int p5), .val (.int p6), .val (.int zi1), .unset, .unset, .unset, .unset, .unset, .unset, .unset, .unset, .unset, .unset, .unset, .unset, .unset, .unset, .unset]) rfl kq) ?_
  show Ogo p e below _ (s₁.setTop (mkF m 10 #[.val (.int p1), .val (.int p2), .val (.int p3), .val (.int p4), .val (.int p5), .val (.int p6), .val (.int zi1), .unset, .unset, .unset, .unset, .unset, .unset, .unset, .unset, .unset, .unset, .unset, .unset, .unset, .unset, .unset] []))
  refine own_via (fun tq kq => XS.iloadN X0.here hx rfl (hb hby at_10) rfl kq) ?_
  show Ogo p e below _ (s₁.setTop (mkF m 11 #[.val (.int p1), .val (.int p2), .val (.int p3), .val (.int p4), .val (.int p5), .val (.int p6), .val (.int zi1), .unset, .unset, .unset, .unset, .unset, .unset, .unset, .unset, .unset, .unset, .unset, .unset, .unset, .unset, .unset] [(.int p1)]))
  refine own_via (fun tq kq => XS.bipush X0.here hx rfl (hb hby at_11) kq) ?_
  show Ogo p e below _ (s₁.setTop (mkF m 13 #[.val (.int p1), .val (.int p2), .val (.int p3), .val (.int p4), .val (.int p5), .val (.int p6), .val (.int zi1), .unset, .unset, .unset, .unset, .unset, .unset, .unset, .unset, .unset, .unset, .unset, .unset, .unset, .unset, .unset] [(.int (8 : Int32)), (.int p1)]))
  refine own_via (fun tq kq => XS.iushr X0.here hx rfl (hb hby at_13) rfl kq) ?_
  show Ogo p e below _ (s₁.setTop (mkF m 14 #[.val (.int p1), .val (.int p2), .val (.int p3), .val (.int p4), .val (.int p5), .val (.int p6), .val (.int zi1), .unset, .unset, .unset, .unset, .unset, .unset, .unset, .unset, .unset, .unset, .unset, .unset, .unset, .unset, .unset] [(.int ((p1.toUInt32 >>> ((8 : Int32) &&& 31).toUInt32).toInt32))]))
  refine own_via (fun tq kq => XS.sipush X0.here hx rfl (hb hby at_14) kq) ?_
  show Ogo p e below _ (s₁.setTop (mkF m 17 #[.val (.int p1), .val (.int p2), .val (.int p3), .val (.int p4), .val (.int p5), .val (.int p6), .val (.int zi1), .unset, .unset, .unset, .unset, .unset, .unset, .unset, .unset, .unset, .unset, .unset, .unset, .unset, .unset, .unset] [(.int (255 : Int32)), (.int ((p1.toUInt32 >>> ((8 : Int32) &&& 31).toUInt32).toInt32))]))
  refine own_via (fun tq kq => XS.iand X0.here hx rfl (hb hby at_17) rfl kq) ?_
  show Ogo p e below _ (s₁.setTop (mkF m 18 #[.val (.int p1), .val (.int p2), .val (.int p3), .val (.int p4), .val (.int p5), .val (.int p6), .val (.int zi1), .unset, .unset, .unset, .unset, .unset, .unset, .unset, .unset, .unset, .unset, .unset, .unset, .unset, .unset, .unset] [(.int (((p1.toUInt32 >>> ((8 : Int32) &&& 31).toUInt32).toInt32) &&& (255 : Int32)))]))
  refine own_via (fun tq kq => XS.bipush X0.here hx rfl (hb hby at_18) kq) ?_
  show Ogo p e below _ (s₁.setTop (mkF m 20 #[.val (.int p1), .val (.int p2), .val (.int p3), .val (.int p4), .val (.int p5), .val (.int p6), .val (.int zi1), .unset, .unset, .unset, .unset, .unset, .unset, .unset, .unset, .unset, .unset, .unset, .unset, .unset, .unset, .unset] [(.int (8 : Int32)), (.int (((p1.toUInt32 >>> ((8 : Int32) &&& 31).toUInt32).toInt32) &&& (255 : Int32)))]))
  refine own_via (fun tq kq => iremM X0 hx rfl (hb hby at_20) rfl (by decide) kq) ?_
  show Ogo p e below _ (s₁.setTop (mkF m 21 #[.val (.int p1), .val (.int p2), .val (.int p3), .val (.int p4), .val (.int p5), .val (.int p6), .val (.int zi1), .unset, .unset, .unset, .unset, .unset, .unset, .unset, .unset, .unset, .unset, .unset, .unset, .unset, .unset, .unset] [(.int ((((p1.toUInt32 >>> ((8 : Int32) &&& 31).toUInt32).toInt32) &&& (255 : Int32)) % (8 : Int32)))]))
  obtain ⟨zi2, hzi2⟩ : ∃ z, z = ((((p1.toUInt32 >>> ((8 : Int32) &&& 31).toUInt32).toInt32) &&& (255 : Int32)) % (8 : Int32)) := ⟨_, rfl⟩
  rw [← hzi2]
  show Ogo p e below _ (s₁.setTop (mkF m 21 #[.val (.int p1), .val (.int p2), .val (.int p3), .val (.int p4), .val (.int p5), .val (.int p6), .val (.int zi1), .unset, .unset, .unset, .unset, .unset, .unset, .unset, .unset, .unset, .unset, .unset, .unset, .unset, .unset, .unset] [(.int zi2)]))
  obtain ⟨i2, hi2, li2⟩ : ∃ n : Nat, zi2.toInt = (n : Int) ∧ n < 8 := by rw [hzi2]; exact own_rem 8 rfl (by decide) (own_and255 _).1
  refine own_via (fun tq kq => XS.istore X0.here hx rfl (hb hby at_21) rfl (l' := #[.val (.int p1), .val (.int p2), .val (.int p3), .val (.int p4), .val (.int p5), .val (.int p6), .val (.int zi1), .val (.int zi2), .unset, .unset, .unset, .unset, .unset, .unset, .unset, .unset, .unset, .unset, .unset, .unset, .unset, .unset]) rfl kq) ?_
  show Ogo p e below _ (s₁.setTop (mkF m 23 #[.val (.int p1), .val (.int p2), .val (.int p3), .val (.int p4), .val (.int p5), .val (.int p6), .val (.int zi1), .val (.int zi2), .unset, .unset, .unset, .unset, .unset, .unset, .unset, .unset, .unset, .unset, .unset, .unset, .unset, .unset] []))
  refine own_via (fun tq kq => XS.iloadN X0.here hx rfl (hb hby at_23) rfl kq) ?_
  show Ogo p e below _ (s₁.setTop (mkF m 24 #[.val (.int p1), .val (.int p2), .val (.int p3), .val (.int p4), .val (.int p5), .val (.int p6), .val (.int zi1), .val (.int zi2), .unset, .unset, .unset, .unset, .unset, .unset, .unset, .unset, .unset, .unset, .unset, .unset, .unset, .unset] [(.int p4)]))
  refine own_via (fun tq kq => XS.sipush X0.here hx rfl (hb hby at_24) kq) ?_
  show Ogo p e below _ (s₁.setTop (mkF m 27 #[.val (.int p1), .val (.int p2), .val (.int p3), .val (.int p4), .val (.int p5), .val (.int p6), .val (.int zi1), .val (.int zi2), .unset, .unset, .unset, .unset, .unset, .unset, .unset, .unset, .unset, .unset, .unset, .unset, .unset, .unset] [(.int (255 : Int32)), (.int p4)]))
  refine own_via (fun tq kq => XS.iand X0.here hx rfl (hb hby at_27) rfl kq) ?_
  show Ogo p e below _ (s₁.setTop (mkF m 28 #[.val (.int p1), .val (.int p2), .val (.int p3), .val (.int p4), .val (.int p5), .val (.int p6), .val (.int zi1), .val (.int zi2), .unset, .unset, .unset, .unset, .unset, .unset, .unset, .unset, .unset, .unset, .unset, .unset, .unset, .unset] [(.int (p4 &&& (255 : Int32)))]))
  refine own_via (fun tq kq => XS.iconst X0.here hx rfl (hb hby at_28) kq) ?_
  show Ogo p e below _ (s₁.setTop (mkF m 29 #[.val (.int p1), .val (.int p2), .val (.int p3), .val (.int p4), .val (.int p5), .val (.int p6), .val (.int zi1), .val (.int zi2), .unset, .unset, .unset, .unset, .unset, .unset, .unset, .unset, .unset, .unset, .unset, .unset, .unset, .unset] [(.int (3 : Int32)), (.int (p4 &&& (255 : Int32)))]))
  refine own_via (fun tq kq => iremM X0 hx rfl (hb hby at_29) rfl (by decide) kq) ?_
  show Ogo p e below _ (s₁.setTop (mkF m 30 #[.val (.int p1), .val (.int p2), .val (.int p3), .val (.int p4), .val (.int p5), .val (.int p6), .val (.int zi1), .val (.int zi2), .unset, .unset, .unset, .unset, .unset, .unset, .unset, .unset, .unset, .unset, .unset, .unset, .unset, .unset] [(.int ((p4 &&& (255 : Int32)) % (3 : Int32)))]))
  obtain ⟨ztl, hztl⟩ : ∃ z, z = ((p4 &&& (255 : Int32)) % (3 : Int32)) := ⟨_, rfl⟩
  rw [← hztl]
  show Ogo p e below _ (s₁.setTop (mkF m 30 #[.val (.int p1), .val (.int p2), .val (.int p3), .val (.int p4), .val (.int p5), .val (.int p6), .val (.int zi1), .val (.int zi2), .unset, .unset, .unset, .unset, .unset, .unset, .unset, .unset, .unset, .unset, .unset, .unset, .unset, .unset] [(.int ztl)]))
  obtain ⟨tl, htl, ltl⟩ : ∃ n : Nat, ztl.toInt = (n : Int) ∧ n < 3 := by rw [hztl]; exact own_rem 3 rfl (by decide) (own_and255 _).1
  refine own_via (fun tq kq => XS.istore X0.here hx rfl (hb hby at_30) rfl (l' := #[.val (.int p1), .val (.int p2), .val (.int p3), .val (.int p4), .val (.int p5), .val (.int p6), .val (.int zi1), .val (.int zi2), .val (.int ztl), .unset, .unset, .unset, .unset, .unset, .unset, .unset, .unset, .unset, .unset, .unset, .unset, .unset]) rfl kq) ?_
  show Ogo p e below _ (s₁.setTop (mkF m 32 #[.val (.int p1), .val (.int p2), .val (.int p3), .val (.int p4), .val (.int p5), .val (.int p6), .val (.int zi1), .val (.int zi2), .val (.int ztl), .unset, .unset, .unset, .unset, .unset, .unset, .unset, .unset, .unset, .unset, .unset, .unset, .unset] []))
  refine own_via (fun tq kq => XS.iloadN X0.here hx rfl (hb hby at_32) rfl kq) ?_
  show Ogo p e below _ (s₁.setTop (mkF m 33 #[.val (.int p1), .val (.int p2), .val (.int p3), .val (.int p4), .val (.int p5), .val (.int p6), .val (.int zi1), .val (.int zi2), .val (.int ztl), .unset, .unset, .unset, .unset, .unset, .unset, .unset, .unset, .unset, .unset, .unset, .unset, .unset] [(.int p4)]))
  refine own_via (fun tq kq => XS.bipush X0.here hx rfl (hb hby at_33) kq) ?_
  show Ogo p e below _ (s₁.setTop (mkF m 35 #[.val (.int p1), .val (.int p2), .val (.int p3), .val (.int p4), .val (.int p5), .val (.int p6), .val (.int zi1), .val (.int zi2), .val (.int ztl), .unset, .unset, .unset, .unset, .unset, .unset, .unset, .unset, .unset, .unset, .unset, .unset, .unset] [(.int (8 : Int32)), (.int p4)]))
  refine own_via (fun tq kq => XS.iushr X0.here hx rfl (hb hby at_35) rfl kq) ?_
  show Ogo p e below _ (s₁.setTop (mkF m 36 #[.val (.int p1), .val (.int p2), .val (.int p3), .val (.int p4), .val (.int p5), .val (.int p6), .val (.int zi1), .val (.int zi2), .val (.int ztl), .unset, .unset, .unset, .unset, .unset, .unset, .unset, .unset, .unset, .unset, .unset, .unset, .unset] [(.int ((p4.toUInt32 >>> ((8 : Int32) &&& 31).toUInt32).toInt32))]))
  refine own_via (fun tq kq => XS.sipush X0.here hx rfl (hb hby at_36) kq) ?_
  show Ogo p e below _ (s₁.setTop (mkF m 39 #[.val (.int p1), .val (.int p2), .val (.int p3), .val (.int p4), .val (.int p5), .val (.int p6), .val (.int zi1), .val (.int zi2), .val (.int ztl), .unset, .unset, .unset, .unset, .unset, .unset, .unset, .unset, .unset, .unset, .unset, .unset, .unset] [(.int (255 : Int32)), (.int ((p4.toUInt32 >>> ((8 : Int32) &&& 31).toUInt32).toInt32))]))
  refine own_via (fun tq kq => XS.iand X0.here hx rfl (hb hby at_39) rfl kq) ?_
  show Ogo p e below _ (s₁.setTop (mkF m 40 #[.val (.int p1), .val (.int p2), .val (.int p3), .val (.int p4), .val (.int p5), .val (.int p6), .val (.int zi1), .val (.int zi2), .val (.int ztl), .unset, .unset, .unset, .unset, .unset, .unset, .unset, .unset, .unset, .unset, .unset, .unset, .unset] [(.int (((p4.toUInt32 >>> ((8 : Int32) &&& 31).toUInt32).toInt32) &&& (255 : Int32)))]))
  refine own_via (fun tq kq => XS.iconst X0.here hx rfl (hb hby at_40) kq) ?_
  show Ogo p e below _ (s₁.setTop (mkF m 41 #[.val (.int p1), .val (.int p2), .val (.int p3), .val (.int p4), .val (.int p5), .val (.int p6), .val (.int zi1), .val (.int zi2), .val (.int ztl), .unset, .unset, .unset, .unset, .unset, .unset, .unset, .unset, .unset, .unset, .unset, .unset, .unset] [(.int (3 : Int32)), (.int (((p4.toUInt32 >>> ((8 : Int32) &&& 31).toUInt32).toInt32) &&& (255 : Int32)))]))
  refine own_via (fun tq kq => iremM X0 hx rfl (hb hby at_41) rfl (by decide) kq) ?_
  show Ogo p e below _ (s₁.setTop (mkF m 42 #[.val (.int p1), .val (.int p2), .val (.int p3), .val (.int p4), .val (.int p5), .val (.int p6), .val (.int zi1), .val (.int zi2), .val (.int ztl), .unset, .unset, .unset, .unset, .unset, .unset, .unset, .unset, .unset, .unset, .unset, .unset, .unset] [(.int ((((p4.toUInt32 >>> ((8 : Int32) &&& 31).toUInt32).toInt32) &&& (255 : Int32)) % (3 : Int32)))]))
  obtain ⟨zwl, hzwl⟩ : ∃ z, z = ((((p4.toUInt32 >>> ((8 : Int32) &&& 31).toUInt32).toInt32) &&& (255 : Int32)) % (3 : Int32)) := ⟨_, rfl⟩
  rw [← hzwl]
  show Ogo p e below _ (s₁.setTop (mkF m 42 #[.val (.int p1), .val (.int p2), .val (.int p3), .val (.int p4), .val (.int p5), .val (.int p6), .val (.int zi1), .val (.int zi2), .val (.int ztl), .unset, .unset, .unset, .unset, .unset, .unset, .unset, .unset, .unset, .unset, .unset, .unset, .unset] [(.int zwl)]))
  obtain ⟨wl, hwl, lwl⟩ : ∃ n : Nat, zwl.toInt = (n : Int) ∧ n < 3 := by rw [hzwl]; exact own_rem 3 rfl (by decide) (own_and255 _).1
  refine own_via (fun tq kq => XS.istore X0.here hx rfl (hb hby at_42) rfl (l' := #[.val (.int p1), .val (.int p2), .val (.int p3), .val (.int p4), .val (.int p5), .val (.int p6), .val (.int zi1), .val (.int zi2), .val (.int ztl), .val (.int zwl), .unset, .unset, .unset, .unset, .unset, .unset, .unset, .unset, .unset, .unset, .unset, .unset]) rfl kq) ?_
  show Ogo p e below _ (s₁.setTop (mkF m 44 #[.val (.int p1), .val (.int p2), .val (.int p3), .val (.int p4), .val (.int p5), .val (.int p6), .val (.int zi1), .val (.int zi2), .val (.int ztl), .val (.int zwl), .unset, .unset, .unset, .unset, .unset, .unset, .unset, .unset, .unset, .unset, .unset, .unset] []))
  refine own_via (fun tq kq => XS.iloadN X0.here hx rfl (hb hby at_44) rfl kq) ?_
  show Ogo p e below _ (s₁.setTop (mkF m 45 #[.val (.int p1), .val (.int p2), .val (.int p3), .val (.int p4), .val (.int p5), .val (.int p6), .val (.int zi1), .val (.int zi2), .val (.int ztl), .val (.int zwl), .unset, .unset, .unset, .unset, .unset, .unset, .unset, .unset, .unset, .unset, .unset, .unset] [(.int p4)]))
  refine own_via (fun tq kq => XS.bipush X0.here hx rfl (hb hby at_45) kq) ?_
  show Ogo p e below _ (s₁.setTop (mkF m 47 #[.val (.int p1), .val (.int p2), .val (.int p3), .val (.int p4), .val (.int p5), .val (.int p6), .val (.int zi1), .val (.int zi2), .val (.int ztl), .val (.int zwl), .unset, .unset, .unset, .unset, .unset, .unset, .unset, .unset, .unset, .unset, .unset, .unset] [(.int (16 : Int32)), (.int p4)]))
  refine own_via (fun tq kq => XS.iushr X0.here hx rfl (hb hby at_47) rfl kq) ?_
  show Ogo p e below _ (s₁.setTop (mkF m 48 #[.val (.int p1), .val (.int p2), .val (.int p3), .val (.int p4), .val (.int p5), .val (.int p6), .val (.int zi1), .val (.int zi2), .val (.int ztl), .val (.int zwl), .unset, .unset, .unset, .unset, .unset, .unset, .unset, .unset, .unset, .unset, .unset, .unset] [(.int ((p4.toUInt32 >>> ((16 : Int32) &&& 31).toUInt32).toInt32))]))
  refine own_via (fun tq kq => XS.bipush X0.here hx rfl (hb hby at_48) kq) ?_
  show Ogo p e below _ (s₁.setTop (mkF m 50 #[.val (.int p1), .val (.int p2), .val (.int p3), .val (.int p4), .val (.int p5), .val (.int p6), .val (.int zi1), .val (.int zi2), .val (.int ztl), .val (.int zwl), .unset, .unset, .unset, .unset, .unset, .unset, .unset, .unset, .unset, .unset, .unset, .unset] [(.int (7 : Int32)), (.int ((p4.toUInt32 >>> ((16 : Int32) &&& 31).toUInt32).toInt32))]))
  refine own_via (fun tq kq => XS.iand X0.here hx rfl (hb hby at_50) rfl kq) ?_
  show Ogo p e below _ (s₁.setTop (mkF m 51 #[.val (.int p1), .val (.int p2), .val (.int p3), .val (.int p4), .val (.int p5), .val (.int p6), .val (.int zi1), .val (.int zi2), .val (.int ztl), .val (.int zwl), .unset, .unset, .unset, .unset, .unset, .unset, .unset, .unset, .unset, .unset, .unset, .unset] [(.int (((p4.toUInt32 >>> ((16 : Int32) &&& 31).toUInt32).toInt32) &&& (7 : Int32)))]))
  refine own_via (fun tq kq => XS.bipush X0.here hx rfl (hb hby at_51) kq) ?_
  show Ogo p e below _ (s₁.setTop (mkF m 53 #[.val (.int p1), .val (.int p2), .val (.int p3), .val (.int p4), .val (.int p5), .val (.int p6), .val (.int zi1), .val (.int zi2), .val (.int ztl), .val (.int zwl), .unset, .unset, .unset, .unset, .unset, .unset, .unset, .unset, .unset, .unset, .unset, .unset] [(.int (7 : Int32)), (.int (((p4.toUInt32 >>> ((16 : Int32) &&& 31).toUInt32).toInt32) &&& (7 : Int32)))]))
  suffices hj : ∀ (nw : Int32) (_ : nw = 0 ∨ nw = 1), Ogo p e below (Owid Z consts_1 s room_1 (fun v h L => v = some (.int 1) ∧ Fr n0 L)) (s₁.setTop (mkF m 61 #[.val (.int p1), .val (.int p2), .val (.int p3), .val (.int p4), .val (.int p5), .val (.int p6), .val (.int zi1), .val (.int zi2), .val (.int ztl), .val (.int zwl), .unset, .unset, .unset, .unset, .unset, .unset, .unset, .unset, .unset, .unset, .unset, .unset] [(.int nw)])) by
    by_cases hc53 : (((p4.toUInt32 >>> ((16 : Int32) &&& 31).toUInt32).toInt32) &&& (7 : Int32)) = (7 : Int32)
    · refine own_via (fun tq kq => XS.icmpNo X0.here hx rfl (hb hby at_53) rfl (teq (hc53 : (((p4.toUInt32 >>> ((16 : Int32) &&& 31).toUInt32).toInt32) &&& (7 : Int32)) = (7 : Int32))).2 kq) ?_
      show Ogo p e below _ (s₁.setTop (mkF m 56 #[.val (.int p1), .val (.int p2), .val (.int p3), .val (.int p4), .val (.int p5), .val (.int p6), .val (.int zi1), .val (.int zi2), .val (.int ztl), .val (.int zwl), .unset, .unset, .unset, .unset, .unset, .unset, .unset, .unset, .unset, .unset, .unset, .unset] []))
      refine own_via (fun tq kq => XS.iconst X0.here hx rfl (hb hby at_56) kq) ?_
      show Ogo p e below _ (s₁.setTop (mkF m 57 #[.val (.int p1), .val (.int p2), .val (.int p3), .val (.int p4), .val (.int p5), .val (.int p6), .val (.int zi1), .val (.int zi2), .val (.int ztl), .val (.int zwl), .unset, .unset, .unset, .unset, .unset, .unset, .unset, .unset, .unset, .unset, .unset, .unset] [(.int (1 : Int32))]))
      refine own_via (fun tq kq => XS.goto X0.here hx rfl (pc0 := 57) (pc' := 61) rfl (hb hby at_57) (by decide) (by decide) kq) ?_
      show Ogo p e below _ (s₁.setTop (mkF m 61 #[.val (.int p1), .val (.int p2), .val (.int p3), .val (.int p4), .val (.int p5), .val (.int p6), .val (.int zi1), .val (.int zi2), .val (.int ztl), .val (.int zwl), .unset, .unset, .unset, .unset, .unset, .unset, .unset, .unset, .unset, .unset, .unset, .unset] [(.int (1 : Int32))]))
      exact hj _ (Or.inr rfl)
    · refine own_via (fun tq kq => XS.icmpYes X0.here hx rfl (pc0 := 53) (pc' := 60) rfl (hb hby at_53) rfl (feq (hc53 : ¬ ((((p4.toUInt32 >>> ((16 : Int32) &&& 31).toUInt32).toInt32) &&& (7 : Int32)) = (7 : Int32)))).2 (by decide) (by decide) kq) ?_
      show Ogo p e below _ (s₁.setTop (mkF m 60 #[.val (.int p1), .val (.int p2), .val (.int p3), .val (.int p4), .val (.int p5), .val (.int p6), .val (.int zi1), .val (.int zi2), .val (.int ztl), .val (.int zwl), .unset, .unset, .unset, .unset, .unset, .unset, .unset, .unset, .unset, .unset, .unset, .unset] []))
      refine own_via (fun tq kq => XS.iconst X0.here hx rfl (hb hby at_60) kq) ?_
      show Ogo p e below _ (s₁.setTop (mkF m 61 #[.val (.int p1), .val (.int p2), .val (.int p3), .val (.int p4), .val (.int p5), .val (.int p6), .val (.int zi1), .val (.int zi2), .val (.int ztl), .val (.int zwl), .unset, .unset, .unset, .unset, .unset, .unset, .unset, .unset, .unset, .unset, .unset, .unset] [(.int (0 : Int32))]))
      exact hj _ (Or.inl rfl)
  intro nw hnw
  show Ogo p e below _ (s₁.setTop (mkF m 61 #[.val (.int p1), .val (.int p2), .val (.int p3), .val (.int p4), .val (.int p5), .val (.int p6), .val (.int zi1), .val (.int zi2), .val (.int ztl), .val (.int zwl), .unset, .unset, .unset, .unset, .unset, .unset, .unset, .unset, .unset, .unset, .unset, .unset] [(.int nw)]))
  refine own_via (fun tq kq => XS.istore X0.here hx rfl (hb hby at_61) rfl (l' := #[.val (.int p1), .val (.int p2), .val (.int p3), .val (.int p4), .val (.int p5), .val (.int p6), .val (.int zi1), .val (.int zi2), .val (.int ztl), .val (.int zwl), .val (.int nw), .unset, .unset, .unset, .unset, .unset, .unset, .unset, .unset, .unset, .unset, .unset]) rfl kq) ?_
  show Ogo p e below _ (s₁.setTop (mkF m 63 #[.val (.int p1), .val (.int p2), .val (.int p3), .val (.int p4), .val (.int p5), .val (.int p6), .val (.int zi1), .val (.int zi2), .val (.int ztl), .val (.int zwl), .val (.int nw), .unset, .unset, .unset, .unset, .unset, .unset, .unset, .unset, .unset, .unset, .unset] []))
  refine own_via (fun tq kq => XS.iloadN X0.here hx rfl (hb hby at_63) rfl kq) ?_
  show Ogo p e below _ (s₁.setTop (mkF m 64 #[.val (.int p1), .val (.int p2), .val (.int p3), .val (.int p4), .val (.int p5), .val (.int p6), .val (.int zi1), .val (.int zi2), .val (.int ztl), .val (.int zwl), .val (.int nw), .unset, .unset, .unset, .unset, .unset, .unset, .unset, .unset, .unset, .unset, .unset] [(.int p2)]))
  refine own_via (fun tq kq => XS.sipush X0.here hx rfl (hb hby at_64) kq) ?_
  show Ogo p e below _ (s₁.setTop (mkF m 67 #[.val (.int p1), .val (.int p2), .val (.int p3), .val (.int p4), .val (.int p5), .val (.int p6), .val (.int zi1), .val (.int zi2), .val (.int ztl), .val (.int zwl), .val (.int nw), .unset, .unset, .unset, .unset, .unset, .unset, .unset, .unset, .unset, .unset, .unset] [(.int (255 : Int32)), (.int p2)]))
  refine own_via (fun tq kq => XS.iand X0.here hx rfl (hb hby at_67) rfl kq) ?_
  show Ogo p e below _ (s₁.setTop (mkF m 68 #[.val (.int p1), .val (.int p2), .val (.int p3), .val (.int p4), .val (.int p5), .val (.int p6), .val (.int zi1), .val (.int zi2), .val (.int ztl), .val (.int zwl), .val (.int nw), .unset, .unset, .unset, .unset, .unset, .unset, .unset, .unset, .unset, .unset, .unset] [(.int (p2 &&& (255 : Int32)))]))
  refine own_via (fun tq kq => XS.i2c X0.here hx rfl (hb hby at_68) rfl kq) ?_
  show Ogo p e below _ (s₁.setTop (mkF m 69 #[.val (.int p1), .val (.int p2), .val (.int p3), .val (.int p4), .val (.int p5), .val (.int p6), .val (.int zi1), .val (.int zi2), .val (.int ztl), .val (.int zwl), .val (.int nw), .unset, .unset, .unset, .unset, .unset, .unset, .unset, .unset, .unset, .unset, .unset] [(.int ((p2 &&& (255 : Int32)).toUInt32.toUInt16.toUInt32.toInt32))]))
  obtain ⟨t0, ht0⟩ : ∃ z, z = ((p2 &&& (255 : Int32)).toUInt32.toUInt16.toUInt32.toInt32) := ⟨_, rfl⟩
  rw [← ht0]
  show Ogo p e below _ (s₁.setTop (mkF m 69 #[.val (.int p1), .val (.int p2), .val (.int p3), .val (.int p4), .val (.int p5), .val (.int p6), .val (.int zi1), .val (.int zi2), .val (.int ztl), .val (.int zwl), .val (.int nw), .unset, .unset, .unset, .unset, .unset, .unset, .unset, .unset, .unset, .unset, .unset] [(.int t0)]))
  have ht0 : 0 ≤ t0.toInt ∧ t0.toInt ≤ 255 := by rw [ht0]; exact own_c255 (own_and255 _).1 (own_and255 _).2
  refine own_via (fun tq kq => XS.istore X0.here hx rfl (hb hby at_69) rfl (l' := #[.val (.int p1), .val (.int p2), .val (.int p3), .val (.int p4), .val (.int p5), .val (.int p6), .val (.int zi1), .val (.int zi2), .val (.int ztl), .val (.int zwl), .val (.int nw), .val (.int t0), .unset, .unset, .unset, .unset, .unset, .unset, .unset, .unset, .unset, .unset]) rfl kq) ?_
  show Ogo p e below _ (s₁.setTop (mkF m 71 #[.val (.int p1), .val (.int p2), .val (.int p3), .val (.int p4), .val (.int p5), .val (.int p6), .val (.int zi1), .val (.int zi2), .val (.int ztl), .val (.int zwl), .val (.int nw), .val (.int t0), .unset, .unset, .unset, .unset, .unset, .unset, .unset, .unset, .unset, .unset] []))
  refine own_via (fun tq kq => XS.iloadN X0.here hx rfl (hb hby at_71) rfl kq) ?_
  show Ogo p e below _ (s₁.setTop (mkF m 72 #[.val (.int p1), .val (.int p2), .val (.int p3), .val (.int p4), .val (.int p5), .val (.int p6), .val (.int zi1), .val (.int zi2), .val (.int ztl), .val (.int zwl), .val (.int nw), .val (.int t0), .unset, .unset, .unset, .unset, .unset, .unset, .unset, .unset, .unset, .unset] [(.int p2)]))
  refine own_via (fun tq kq => XS.bipush X0.here hx rfl (hb hby at_72) kq) ?_
  show Ogo p e below _ (s₁.setTop (mkF m 74 #[.val (.int p1), .val (.int p2), .val (.int p3), .val (.int p4), .val (.int p5), .val (.int p6), .val (.int zi1), .val (.int zi2), .val (.int ztl), .val (.int zwl), .val (.int nw), .val (.int t0), .unset, .unset, .unset, .unset, .unset, .unset, .unset, .unset, .unset, .unset] [(.int (8 : Int32)), (.int p2)]))
  refine own_via (fun tq kq => XS.iushr X0.here hx rfl (hb hby at_74) rfl kq) ?_
  show Ogo p e below _ (s₁.setTop (mkF m 75 #[.val (.int p1), .val (.int p2), .val (.int p3), .val (.int p4), .val (.int p5), .val (.int p6), .val (.int zi1), .val (.int zi2), .val (.int ztl), .val (.int zwl), .val (.int nw), .val (.int t0), .unset, .unset, .unset, .unset, .unset, .unset, .unset, .unset, .unset, .unset] [(.int ((p2.toUInt32 >>> ((8 : Int32) &&& 31).toUInt32).toInt32))]))
  refine own_via (fun tq kq => XS.sipush X0.here hx rfl (hb hby at_75) kq) ?_
  show Ogo p e below _ (s₁.setTop (mkF m 78 #[.val (.int p1), .val (.int p2), .val (.int p3), .val (.int p4), .val (.int p5), .val (.int p6), .val (.int zi1), .val (.int zi2), .val (.int ztl), .val (.int zwl), .val (.int nw), .val (.int t0), .unset, .unset, .unset, .unset, .unset, .unset, .unset, .unset, .unset, .unset] [(.int (255 : Int32)), (.int ((p2.toUInt32 >>> ((8 : Int32) &&& 31).toUInt32).toInt32))]))
  refine own_via (fun tq kq => XS.iand X0.here hx rfl (hb hby at_78) rfl kq) ?_
  show Ogo p e below _ (s₁.setTop (mkF m 79 #[.val (.int p1), .val (.int p2), .val (.int p3), .val (.int p4), .val (.int p5), .val (.int p6), .val (.int zi1), .val (.int zi2), .val (.int ztl), .val (.int zwl), .val (.int nw), .val (.int t0), .unset, .unset, .unset, .unset, .unset, .unset, .unset, .unset, .unset, .unset] [(.int (((p2.toUInt32 >>> ((8 : Int32) &&& 31).toUInt32).toInt32) &&& (255 : Int32)))]))
  refine own_via (fun tq kq => XS.i2c X0.here hx rfl (hb hby at_79) rfl kq) ?_
  show Ogo p e below _ (s₁.setTop (mkF m 80 #[.val (.int p1), .val (.int p2), .val (.int p3), .val (.int p4), .val (.int p5), .val (.int p6), .val (.int zi1), .val (.int zi2), .val (.int ztl), .val (.int zwl), .val (.int nw), .val (.int t0), .unset, .unset, .unset, .unset, .unset, .unset, .unset, .unset, .unset, .unset] [(.int ((((p2.toUInt32 >>> ((8 : Int32) &&& 31).toUInt32).toInt32) &&& (255 : Int32)).toUInt32.toUInt16.toUInt32.toInt32))]))
  obtain ⟨t1, ht1⟩ : ∃ z, z = ((((p2.toUInt32 >>> ((8 : Int32) &&& 31).toUInt32).toInt32) &&& (255 : Int32)).toUInt32.toUInt16.toUInt32.toInt32) := ⟨_, rfl⟩
  rw [← ht1]
  show Ogo p e below _ (s₁.setTop (mkF m 80 #[.val (.int p1), .val (.int p2), .val (.int p3), .val (.int p4), .val (.int p5), .val (.int p6), .val (.int zi1), .val (.int zi2), .val (.int ztl), .val (.int zwl), .val (.int nw), .val (.int t0), .unset, .unset, .unset, .unset, .unset, .unset, .unset, .unset, .unset, .unset] [(.int t1)]))
  have ht1 : 0 ≤ t1.toInt ∧ t1.toInt ≤ 255 := by rw [ht1]; exact own_c255 (own_and255 _).1 (own_and255 _).2
  refine own_via (fun tq kq => XS.istore X0.here hx rfl (hb hby at_80) rfl (l' := #[.val (.int p1), .val (.int p2), .val (.int p3), .val (.int p4), .val (.int p5), .val (.int p6), .val (.int zi1), .val (.int zi2), .val (.int ztl), .val (.int zwl), .val (.int nw), .val (.int t0), .val (.int t1), .unset, .unset, .unset, .unset, .unset, .unset, .unset, .unset, .unset]) rfl kq) ?_
  show Ogo p e below _ (s₁.setTop (mkF m 82 #[.val (.int p1), .val (.int p2), .val (.int p3), .val (.int p4), .val (.int p5), .val (.int p6), .val (.int zi1), .val (.int zi2), .val (.int ztl), .val (.int zwl), .val (.int nw), .val (.int t0), .val (.int t1), .unset, .unset, .unset, .unset, .unset, .unset, .unset, .unset, .unset] []))
  refine own_via (fun tq kq => XS.iloadN X0.here hx rfl (hb hby at_82) rfl kq) ?_
  show Ogo p e below _ (s₁.setTop (mkF m 83 #[.val (.int p1), .val (.int p2), .val (.int p3), .val (.int p4), .val (.int p5), .val (.int p6), .val (.int zi1), .val (.int zi2), .val (.int ztl), .val (.int zwl), .val (.int nw), .val (.int t0), .val (.int t1), .unset, .unset, .unset, .unset, .unset, .unset, .unset, .unset, .unset] [(.int p3)]))
  refine own_via (fun tq kq => XS.bipush X0.here hx rfl (hb hby at_83) kq) ?_
  show Ogo p e below _ (s₁.setTop (mkF m 85 #[.val (.int p1), .val (.int p2), .val (.int p3), .val (.int p4), .val (.int p5), .val (.int p6), .val (.int zi1), .val (.int zi2), .val (.int ztl), .val (.int zwl), .val (.int nw), .val (.int t0), .val (.int t1), .unset, .unset, .unset, .unset, .unset, .unset, .unset, .unset, .unset] [(.int (16 : Int32)), (.int p3)]))
  refine own_via (fun tq kq => XS.iushr X0.here hx rfl (hb hby at_85) rfl kq) ?_
  show Ogo p e below _ (s₁.setTop (mkF m 86 #[.val (.int p1), .val (.int p2), .val (.int p3), .val (.int p4), .val (.int p5), .val (.int p6), .val (.int zi1), .val (.int zi2), .val (.int ztl), .val (.int zwl), .val (.int nw), .val (.int t0), .val (.int t1), .unset, .unset, .unset, .unset, .unset, .unset, .unset, .unset, .unset] [(.int ((p3.toUInt32 >>> ((16 : Int32) &&& 31).toUInt32).toInt32))]))
  refine own_via (fun tq kq => XS.iconst X0.here hx rfl (hb hby at_86) kq) ?_
  show Ogo p e below _ (s₁.setTop (mkF m 87 #[.val (.int p1), .val (.int p2), .val (.int p3), .val (.int p4), .val (.int p5), .val (.int p6), .val (.int zi1), .val (.int zi2), .val (.int ztl), .val (.int zwl), .val (.int nw), .val (.int t0), .val (.int t1), .unset, .unset, .unset, .unset, .unset, .unset, .unset, .unset, .unset] [(.int (1 : Int32)), (.int ((p3.toUInt32 >>> ((16 : Int32) &&& 31).toUInt32).toInt32))]))
  refine own_via (fun tq kq => XS.iand X0.here hx rfl (hb hby at_87) rfl kq) ?_
  show Ogo p e below _ (s₁.setTop (mkF m 88 #[.val (.int p1), .val (.int p2), .val (.int p3), .val (.int p4), .val (.int p5), .val (.int p6), .val (.int zi1), .val (.int zi2), .val (.int ztl), .val (.int zwl), .val (.int nw), .val (.int t0), .val (.int t1), .unset, .unset, .unset, .unset, .unset, .unset, .unset, .unset, .unset] [(.int (((p3.toUInt32 >>> ((16 : Int32) &&& 31).toUInt32).toInt32) &&& (1 : Int32)))]))
  suffices hj : ∀ (d0 : Int32) (_ : 0 ≤ d0.toInt ∧ d0.toInt ≤ 255), Ogo p e below (Owid Z consts_1 s room_1 (fun v h L => v = some (.int 1) ∧ Fr n0 L)) (s₁.setTop (mkF m 100 #[.val (.int p1), .val (.int p2), .val (.int p3), .val (.int p4), .val (.int p5), .val (.int p6), .val (.int zi1), .val (.int zi2), .val (.int ztl), .val (.int zwl), .val (.int nw), .val (.int t0), .val (.int t1), .unset, .unset, .unset, .unset, .unset, .unset, .unset, .unset, .unset] [(.int d0)])) by
    by_cases hc88 : (((p3.toUInt32 >>> ((16 : Int32) &&& 31).toUInt32).toInt32) &&& (1 : Int32)) = (0 : Int32)
    · refine own_via (fun tq kq => XS.ifYes X0.here hx rfl (pc0 := 88) (pc' := 95) rfl (hb hby at_88) rfl ((if0 _ _).trans (teq (hc88 : (((p3.toUInt32 >>> ((16 : Int32) &&& 31).toUInt32).toInt32) &&& (1 : Int32)) = (0 : Int32))).1) (by decide) (by decide) kq) ?_
      show Ogo p e below _ (s₁.setTop (mkF m 95 #[.val (.int p1), .val (.int p2), .val (.int p3), .val (.int p4), .val (.int p5), .val (.int p6), .val (.int zi1), .val (.int zi2), .val (.int ztl), .val (.int zwl), .val (.int nw), .val (.int t0), .val (.int t1), .unset, .unset, .unset, .unset, .unset, .unset, .unset, .unset, .unset] []))
      refine own_via (fun tq kq => XS.iloadN X0.here hx rfl (hb hby at_95) rfl kq) ?_
      show Ogo p e below _ (s₁.setTop (mkF m 96 #[.val (.int p1), .val (.int p2), .val (.int p3), .val (.int p4), .val (.int p5), .val (.int p6), .val (.int zi1), .val (.int zi2), .val (.int ztl), .val (.int zwl), .val (.int nw), .val (.int t0), .val (.int t1), .unset, .unset, .unset, .unset, .unset, .unset, .unset, .unset, .unset] [(.int p3)]))
      refine own_via (fun tq kq => XS.sipush X0.here hx rfl (hb hby at_96) kq) ?_
      show Ogo p e below _ (s₁.setTop (mkF m 99 #[.val (.int p1), .val (.int p2), .val (.int p3), .val (.int p4), .val (.int p5), .val (.int p6), .val (.int zi1), .val (.int zi2), .val (.int ztl), .val (.int zwl), .val (.int nw), .val (.int t0), .val (.int t1), .unset, .unset, .unset, .unset, .unset, .unset, .unset, .unset, .unset] [(.int (255 : Int32)), (.int p3)]))
      refine own_via (fun tq kq => XS.iand X0.here hx rfl (hb hby at_99) rfl kq) ?_
      show Ogo p e below _ (s₁.setTop (mkF m 100 #[.val (.int p1), .val (.int p2), .val (.int p3), .val (.int p4), .val (.int p5), .val (.int p6), .val (.int zi1), .val (.int zi2), .val (.int ztl), .val (.int zwl), .val (.int nw), .val (.int t0), .val (.int t1), .unset, .unset, .unset, .unset, .unset, .unset, .unset, .unset, .unset] [(.int (p3 &&& (255 : Int32)))]))
      exact hj _ (own_and255 _)
    · refine own_via (fun tq kq => XS.ifNo X0.here hx rfl (hb hby at_88) rfl ((if0 _ _).trans (feq (hc88 : ¬ ((((p3.toUInt32 >>> ((16 : Int32) &&& 31).toUInt32).toInt32) &&& (1 : Int32)) = (0 : Int32)))).1) kq) ?_
      show Ogo p e below _ (s₁.setTop (mkF m 91 #[.val (.int p1), .val (.int p2), .val (.int p3), .val (.int p4), .val (.int p5), .val (.int p6), .val (.int zi1), .val (.int zi2), .val (.int ztl), .val (.int zwl), .val (.int nw), .val (.int t0), .val (.int t1), .unset, .unset, .unset, .unset, .unset, .unset, .unset, .unset, .unset] []))
      refine own_via (fun tq kq => XS.iconst X0.here hx rfl (hb hby at_91) kq) ?_
      show Ogo p e below _ (s₁.setTop (mkF m 92 #[.val (.int p1), .val (.int p2), .val (.int p3), .val (.int p4), .val (.int p5), .val (.int p6), .val (.int zi1), .val (.int zi2), .val (.int ztl), .val (.int zwl), .val (.int nw), .val (.int t0), .val (.int t1), .unset, .unset, .unset, .unset, .unset, .unset, .unset, .unset, .unset] [(.int (0 : Int32))]))
      refine own_via (fun tq kq => XS.goto X0.here hx rfl (pc0 := 92) (pc' := 100) rfl (hb hby at_92) (by decide) (by decide) kq) ?_
      show Ogo p e below _ (s₁.setTop (mkF m 100 #[.val (.int p1), .val (.int p2), .val (.int p3), .val (.int p4), .val (.int p5), .val (.int p6), .val (.int zi1), .val (.int zi2), .val (.int ztl), .val (.int zwl), .val (.int nw), .val (.int t0), .val (.int t1), .unset, .unset, .unset, .unset, .unset, .unset, .unset, .unset, .unset] [(.int (0 : Int32))]))
      exact hj _ (by decide)
  intro d0 hd0
  show Ogo p e below _ (s₁.setTop (mkF m 100 #[.val (.int p1), .val (.int p2), .val (.int p3), .val (.int p4), .val (.int p5), .val (.int p6), .val (.int zi1), .val (.int zi2), .val (.int ztl), .val (.int zwl), .val (.int nw), .val (.int t0), .val (.int t1), .unset, .unset, .unset, .unset, .unset, .unset, .unset, .unset, .unset] [(.int d0)]))
  refine own_via (fun tq kq => XS.istore X0.here hx rfl (hb hby at_100) rfl (l' := #[.val (.int p1), .val (.int p2), .val (.int p3), .val (.int p4), .val (.int p5), .val (.int p6), .val (.int zi1), .val (.int zi2), .val (.int ztl), .val (.int zwl), .val (.int nw), .val (.int t0), .val (.int t1), .val (.int d0), .unset, .unset, .unset, .unset, .unset, .unset, .unset, .unset]) rfl kq) ?_
  show Ogo p e below _ (s₁.setTop (mkF m 102 #[.val (.int p1), .val (.int p2), .val (.int p3), .val (.int p4), .val (.int p5), .val (.int p6), .val (.int zi1), .val (.int zi2), .val (.int ztl), .val (.int zwl), .val (.int nw), .val (.int t0), .val (.int t1), .val (.int d0), .unset, .unset, .unset, .unset, .unset, .unset, .unset, .unset] []))
  refine own_via (fun tq kq => XS.iloadN X0.here hx rfl (hb hby at_102) rfl kq) ?_
  show Ogo p e below _ (s₁.setTop (mkF m 103 #[.val (.int p1), .val (.int p2), .val (.int p3), .val (.int p4), .val (.int p5), .val (.int p6), .val (.int zi1), .val (.int zi2), .val (.int ztl), .val (.int zwl), .val (.int nw), .val (.int t0), .val (.int t1), .val (.int d0), .unset, .unset, .unset, .unset, .unset, .unset, .unset, .unset] [(.int p3)]))
  refine own_via (fun tq kq => XS.bipush X0.here hx rfl (hb hby at_103) kq) ?_
  show Ogo p e below _ (s₁.setTop (mkF m 105 #[.val (.int p1), .val (.int p2), .val (.int p3), .val (.int p4), .val (.int p5), .val (.int p6), .val (.int zi1), .val (.int zi2), .val (.int ztl), .val (.int zwl), .val (.int nw), .val (.int t0), .val (.int t1), .val (.int d0), .unset, .unset, .unset, .unset, .unset, .unset, .unset, .unset] [(.int (17 : Int32)), (.int p3)]))
  refine own_via (fun tq kq => XS.iushr X0.here hx rfl (hb hby at_105) rfl kq) ?_
  show Ogo p e below _ (s₁.setTop (mkF m 106 #[.val (.int p1), .val (.int p2), .val (.int p3), .val (.int p4), .val (.int p5), .val (.int p6), .val (.int zi1), .val (.int zi2), .val (.int ztl), .val (.int zwl), .val (.int nw), .val (.int t0), .val (.int t1), .val (.int d0), .unset, .unset, .unset, .unset, .unset, .unset, .unset, .unset] [(.int ((p3.toUInt32 >>> ((17 : Int32) &&& 31).toUInt32).toInt32))]))
  refine own_via (fun tq kq => XS.iconst X0.here hx rfl (hb hby at_106) kq) ?_
  show Ogo p e below _ (s₁.setTop (mkF m 107 #[.val (.int p1), .val (.int p2), .val (.int p3), .val (.int p4), .val (.int p5), .val (.int p6), .val (.int zi1), .val (.int zi2), .val (.int ztl), .val (.int zwl), .val (.int nw), .val (.int t0), .val (.int t1), .val (.int d0), .unset, .unset, .unset, .unset, .unset, .unset, .unset, .unset] [(.int (1 : Int32)), (.int ((p3.toUInt32 >>> ((17 : Int32) &&& 31).toUInt32).toInt32))]))
  refine own_via (fun tq kq => XS.iand X0.here hx rfl (hb hby at_107) rfl kq) ?_
  show Ogo p e below _ (s₁.setTop (mkF m 108 #[.val (.int p1), .val (.int p2), .val (.int p3), .val (.int p4), .val (.int p5), .val (.int p6), .val (.int zi1), .val (.int zi2), .val (.int ztl), .val (.int zwl), .val (.int nw), .val (.int t0), .val (.int t1), .val (.int d0), .unset, .unset, .unset, .unset, .unset, .unset, .unset, .unset] [(.int (((p3.toUInt32 >>> ((17 : Int32) &&& 31).toUInt32).toInt32) &&& (1 : Int32)))]))
  suffices hj : ∀ (d1 : Int32) (_ : 0 ≤ d1.toInt ∧ d1.toInt ≤ 255), Ogo p e below (Owid Z consts_1 s room_1 (fun v h L => v = some (.int 1) ∧ Fr n0 L)) (s₁.setTop (mkF m 123 #[.val (.int p1), .val (.int p2), .val (.int p3), .val (.int p4), .val (.int p5), .val (.int p6), .val (.int zi1), .val (.int zi2), .val (.int ztl), .val (.int zwl), .val (.int nw), .val (.int t0), .val (.int t1), .val (.int d0), .unset, .unset, .unset, .unset, .unset, .unset, .unset, .unset] [(.int d1)])) by
    by_cases hc108 : (((p3.toUInt32 >>> ((17 : Int32) &&& 31).toUInt32).toInt32) &&& (1 : Int32)) = (0 : Int32)
    · refine own_via (fun tq kq => XS.ifYes X0.here hx rfl (pc0 := 108) (pc' := 115) rfl (hb hby at_108) rfl ((if0 _ _).trans (teq (hc108 : (((p3.toUInt32 >>> ((17 : Int32) &&& 31).toUInt32).toInt32) &&& (1 : Int32)) = (0 : Int32))).1) (by decide) (by decide) kq) ?_
      show Ogo p e below _ (s₁.setTop (mkF m 115 #[.val (.int p1), .val (.int p2), .val (.int p3), .val (.int p4), .val (.int p5), .val (.int p6), .val (.int zi1), .val (.int zi2), .val (.int ztl), .val (.int zwl), .val (.int nw), .val (.int t0), .val (.int t1), .val (.int d0), .unset, .unset, .unset, .unset, .unset, .unset, .unset, .unset] []))
      refine own_via (fun tq kq => XS.iloadN X0.here hx rfl (hb hby at_115) rfl kq) ?_
      show Ogo p e below _ (s₁.setTop (mkF m 116 #[.val (.int p1), .val (.int p2), .val (.int p3), .val (.int p4), .val (.int p5), .val (.int p6), .val (.int zi1), .val (.int zi2), .val (.int ztl), .val (.int zwl), .val (.int nw), .val (.int t0), .val (.int t1), .val (.int d0), .unset, .unset, .unset, .unset, .unset, .unset, .unset, .unset] [(.int p3)]))
      refine own_via (fun tq kq => XS.bipush X0.here hx rfl (hb hby at_116) kq) ?_
      show Ogo p e below _ (s₁.setTop (mkF m 118 #[.val (.int p1), .val (.int p2), .val (.int p3), .val (.int p4), .val (.int p5), .val (.int p6), .val (.int zi1), .val (.int zi2), .val (.int ztl), .val (.int zwl), .val (.int nw), .val (.int t0), .val (.int t1), .val (.int d0), .unset, .unset, .unset, .unset, .unset, .unset, .unset, .unset] [(.int (8 : Int32)), (.int p3)]))
      refine own_via (fun tq kq => XS.iushr X0.here hx rfl (hb hby at_118) rfl kq) ?_
      show Ogo p e below _ (s₁.setTop (mkF m 119 #[.val (.int p1), .val (.int p2), .val (.int p3), .val (.int p4), .val (.int p5), .val (.int p6), .val (.int zi1), .val (.int zi2), .val (.int ztl), .val (.int zwl), .val (.int nw), .val (.int t0), .val (.int t1), .val (.int d0), .unset, .unset, .unset, .unset, .unset, .unset, .unset, .unset] [(.int ((p3.toUInt32 >>> ((8 : Int32) &&& 31).toUInt32).toInt32))]))
      refine own_via (fun tq kq => XS.sipush X0.here hx rfl (hb hby at_119) kq) ?_
      show Ogo p e below _ (s₁.setTop (mkF m 122 #[.val (.int p1), .val (.int p2), .val (.int p3), .val (.int p4), .val (.int p5), .val (.int p6), .val (.int zi1), .val (.int zi2), .val (.int ztl), .val (.int zwl), .val (.int nw), .val (.int t0), .val (.int t1), .val (.int d0), .unset, .unset, .unset, .unset, .unset, .unset, .unset, .unset] [(.int (255 : Int32)), (.int ((p3.toUInt32 >>> ((8 : Int32) &&& 31).toUInt32).toInt32))]))
      refine own_via (fun tq kq => XS.iand X0.here hx rfl (hb hby at_122) rfl kq) ?_
      show Ogo p e below _ (s₁.setTop (mkF m 123 #[.val (.int p1), .val (.int p2), .val (.int p3), .val (.int p4), .val (.int p5), .val (.int p6), .val (.int zi1), .val (.int zi2), .val (.int ztl), .val (.int zwl), .val (.int nw), .val (.int t0), .val (.int t1), .val (.int d0), .unset, .unset, .unset, .unset, .unset, .unset, .unset, .unset] [(.int (((p3.toUInt32 >>> ((8 : Int32) &&& 31).toUInt32).toInt32) &&& (255 : Int32)))]))
      exact hj _ (own_and255 _)
    · refine own_via (fun tq kq => XS.ifNo X0.here hx rfl (hb hby at_108) rfl ((if0 _ _).trans (feq (hc108 : ¬ ((((p3.toUInt32 >>> ((17 : Int32) &&& 31).toUInt32).toInt32) &&& (1 : Int32)) = (0 : Int32)))).1) kq) ?_
      show Ogo p e below _ (s₁.setTop (mkF m 111 #[.val (.int p1), .val (.int p2), .val (.int p3), .val (.int p4), .val (.int p5), .val (.int p6), .val (.int zi1), .val (.int zi2), .val (.int ztl), .val (.int zwl), .val (.int nw), .val (.int t0), .val (.int t1), .val (.int d0), .unset, .unset, .unset, .unset, .unset, .unset, .unset, .unset] []))
      refine own_via (fun tq kq => XS.iconst X0.here hx rfl (hb hby at_111) kq) ?_
      show Ogo p e below _ (s₁.setTop (mkF m 112 #[.val (.int p1), .val (.int p2), .val (.int p3), .val (.int p4), .val (.int p5), .val (.int p6), .val (.int zi1), .val (.int zi2), .val (.int ztl), .val (.int zwl), .val (.int nw), .val (.int t0), .val (.int t1), .val (.int d0), .unset, .unset, .unset, .unset, .unset, .unset, .unset, .unset] [(.int (0 : Int32))]))
      refine own_via (fun tq kq => XS.goto X0.here hx rfl (pc0 := 112) (pc' := 123) rfl (hb hby at_112) (by decide) (by decide) kq) ?_
      show Ogo p e below _ (s₁.setTop (mkF m 123 #[.val (.int p1), .val (.int p2), .val (.int p3), .val (.int p4), .val (.int p5), .val (.int p6), .val (.int zi1), .val (.int zi2), .val (.int ztl), .val (.int zwl), .val (.int nw), .val (.int t0), .val (.int t1), .val (.int d0), .unset, .unset, .unset, .unset, .unset, .unset, .unset, .unset] [(.int (0 : Int32))]))
      exact hj _ (by decide)
  intro d1 hd1
  show Ogo p e below _ (s₁.setTop (mkF m 123 #[.val (.int p1), .val (.int p2), .val (.int p3), .val (.int p4), .val (.int p5), .val (.int p6), .val (.int zi1), .val (.int zi2), .val (.int ztl), .val (.int zwl), .val (.int nw), .val (.int t0), .val (.int t1), .val (.int d0), .unset, .unset, .unset, .unset, .unset, .unset, .unset, .unset] [(.int d1)]))
  refine own_via (fun tq kq => XS.istore X0.here hx rfl (hb hby at_123) rfl (l' := #[.val (.int p1), .val (.int p2), .val (.int p3), .val (.int p4), .val (.int p5), .val (.int p6), .val (.int zi1), .val (.int zi2), .val (.int ztl), .val (.int zwl), .val (.int nw), .val (.int t0), .val (.int t1), .val (.int d0), .val (.int d1), .unset, .unset, .unset, .unset, .unset, .unset, .unset]) rfl kq) ?_
  show Ogo p e below _ (s₁.setTop (mkF m 125 #[.val (.int p1), .val (.int p2), .val (.int p3), .val (.int p4), .val (.int p5), .val (.int p6), .val (.int zi1), .val (.int zi2), .val (.int ztl), .val (.int zwl), .val (.int nw), .val (.int t0), .val (.int t1), .val (.int d0), .val (.int d1), .unset, .unset, .unset, .unset, .unset, .unset, .unset] []))
  refine own_via (fun tq kq => XS.iload X0.here hx rfl (hb hby at_125) rfl kq) ?_
  show Ogo p e below _ (s₁.setTop (mkF m 127 #[.val (.int p1), .val (.int p2), .val (.int p3), .val (.int p4), .val (.int p5), .val (.int p6), .val (.int zi1), .val (.int zi2), .val (.int ztl), .val (.int zwl), .val (.int nw), .val (.int t0), .val (.int t1), .val (.int d0), .val (.int d1), .unset, .unset, .unset, .unset, .unset, .unset, .unset] [(.int t0)]))
  refine own_via (fun tq kq => XS.iload X0.here hx rfl (hb hby at_127) rfl kq) ?_
  show Ogo p e below _ (s₁.setTop (mkF m 129 #[.val (.int p1), .val (.int p2), .val (.int p3), .val (.int p4), .val (.int p5), .val (.int p6), .val (.int zi1), .val (.int zi2), .val (.int ztl), .val (.int zwl), .val (.int nw), .val (.int t0), .val (.int t1), .val (.int d0), .val (.int d1), .unset, .unset, .unset, .unset, .unset, .unset, .unset] [(.int d0), (.int t0)]))
  refine own_via (fun tq kq => XS.ixor X0.here hx rfl (hb hby at_129) rfl kq) ?_
  show Ogo p e below _ (s₁.setTop (mkF m 130 #[.val (.int p1), .val (.int p2), .val (.int p3), .val (.int p4), .val (.int p5), .val (.int p6), .val (.int zi1), .val (.int zi2), .val (.int ztl), .val (.int zwl), .val (.int nw), .val (.int t0), .val (.int t1), .val (.int d0), .val (.int d1), .unset, .unset, .unset, .unset, .unset, .unset, .unset] [(.int (t0 ^^^ d0))]))
  refine own_via (fun tq kq => XS.i2c X0.here hx rfl (hb hby at_130) rfl kq) ?_
  show Ogo p e below _ (s₁.setTop (mkF m 131 #[.val (.int p1), .val (.int p2), .val (.int p3), .val (.int p4), .val (.int p5), .val (.int p6), .val (.int zi1), .val (.int zi2), .val (.int ztl), .val (.int zwl), .val (.int nw), .val (.int t0), .val (.int t1), .val (.int d0), .val (.int d1), .unset, .unset, .unset, .unset, .unset, .unset, .unset] [(.int ((t0 ^^^ d0).toUInt32.toUInt16.toUInt32.toInt32))]))
  obtain ⟨w0, hw0⟩ : ∃ z, z = ((t0 ^^^ d0).toUInt32.toUInt16.toUInt32.toInt32) := ⟨_, rfl⟩
  rw [← hw0]
  show Ogo p e below _ (s₁.setTop (mkF m 131 #[.val (.int p1), .val (.int p2), .val (.int p3), .val (.int p4), .val (.int p5), .val (.int p6), .val (.int zi1), .val (.int zi2), .val (.int ztl), .val (.int zwl), .val (.int nw), .val (.int t0), .val (.int t1), .val (.int d0), .val (.int d1), .unset, .unset, .unset, .unset, .unset, .unset, .unset] [(.int w0)]))
  have hw0 : 0 ≤ w0.toInt ∧ w0.toInt ≤ 255 := by rw [hw0]; exact own_c255 (own_xor ht0.1 ht0.2 hd0.1 hd0.2).1 (own_xor ht0.1 ht0.2 hd0.1 hd0.2).2
  refine own_via (fun tq kq => XS.istore X0.here hx rfl (hb hby at_131) rfl (l' := #[.val (.int p1), .val (.int p2), .val (.int p3), .val (.int p4), .val (.int p5), .val (.int p6), .val (.int zi1), .val (.int zi2), .val (.int ztl), .val (.int zwl), .val (.int nw), .val (.int t0), .val (.int t1), .val (.int d0), .val (.int d1), .val (.int w0), .unset, .unset, .unset, .unset, .unset, .unset]) rfl kq) ?_
  show Ogo p e below _ (s₁.setTop (mkF m 133 #[.val (.int p1), .val (.int p2), .val (.int p3), .val (.int p4), .val (.int p5), .val (.int p6), .val (.int zi1), .val (.int zi2), .val (.int ztl), .val (.int zwl), .val (.int nw), .val (.int t0), .val (.int t1), .val (.int d0), .val (.int d1), .val (.int w0), .unset, .unset, .unset, .unset, .unset, .unset] []))
  refine own_via (fun tq kq => XS.iload X0.here hx rfl (hb hby at_133) rfl kq) ?_
  show Ogo p e below _ (s₁.setTop (mkF m 135 #[.val (.int p1), .val (.int p2), .val (.int p3), .val (.int p4), .val (.int p5), .val (.int p6), .val (.int zi1), .val (.int zi2), .val (.int ztl), .val (.int zwl), .val (.int nw), .val (.int t0), .val (.int t1), .val (.int d0), .val (.int d1), .val (.int w0), .unset, .unset, .unset, .unset, .unset, .unset] [(.int t1)]))
  refine own_via (fun tq kq => XS.iload X0.here hx rfl (hb hby at_135) rfl kq) ?_
  show Ogo p e below _ (s₁.setTop (mkF m 137 #[.val (.int p1), .val (.int p2), .val (.int p3), .val (.int p4), .val (.int p5), .val (.int p6), .val (.int zi1), .val (.int zi2), .val (.int ztl), .val (.int zwl), .val (.int nw), .val (.int t0), .val (.int t1), .val (.int d0), .val (.int d1), .val (.int w0), .unset, .unset, .unset, .unset, .unset, .unset] [(.int d1), (.int t1)]))
  refine own_via (fun tq kq => XS.ixor X0.here hx rfl (hb hby at_137) rfl kq) ?_
  show Ogo p e below _ (s₁.setTop (mkF m 138 #[.val (.int p1), .val (.int p2), .val (.int p3), .val (.int p4), .val (.int p5), .val (.int p6), .val (.int zi1), .val (.int zi2), .val (.int ztl), .val (.int zwl), .val (.int nw), .val (.int t0), .val (.int t1), .val (.int d0), .val (.int d1), .val (.int w0), .unset, .unset, .unset, .unset, .unset, .unset] [(.int (t1 ^^^ d1))]))
  refine own_via (fun tq kq => XS.i2c X0.here hx rfl (hb hby at_138) rfl kq) ?_
  show Ogo p e below _ (s₁.setTop (mkF m 139 #[.val (.int p1), .val (.int p2), .val (.int p3), .val (.int p4), .val (.int p5), .val (.int p6), .val (.int zi1), .val (.int zi2), .val (.int ztl), .val (.int zwl), .val (.int nw), .val (.int t0), .val (.int t1), .val (.int d0), .val (.int d1), .val (.int w0), .unset, .unset, .unset, .unset, .unset, .unset] [(.int ((t1 ^^^ d1).toUInt32.toUInt16.toUInt32.toInt32))]))
  obtain ⟨w1, hw1⟩ : ∃ z, z = ((t1 ^^^ d1).toUInt32.toUInt16.toUInt32.toInt32) := ⟨_, rfl⟩
  rw [← hw1]
  show Ogo p e below _ (s₁.setTop (mkF m 139 #[.val (.int p1), .val (.int p2), .val (.int p3), .val (.int p4), .val (.int p5), .val (.int p6), .val (.int zi1), .val (.int zi2), .val (.int ztl), .val (.int zwl), .val (.int nw), .val (.int t0), .val (.int t1), .val (.int d0), .val (.int d1), .val (.int w0), .unset, .unset, .unset, .unset, .unset, .unset] [(.int w1)]))
  have hw1 : 0 ≤ w1.toInt ∧ w1.toInt ≤ 255 := by rw [hw1]; exact own_c255 (own_xor ht1.1 ht1.2 hd1.1 hd1.2).1 (own_xor ht1.1 ht1.2 hd1.1 hd1.2).2
  refine own_via (fun tq kq => XS.istore X0.here hx rfl (hb hby at_139) rfl (l' := #[.val (.int p1), .val (.int p2), .val (.int p3), .val (.int p4), .val (.int p5), .val (.int p6), .val (.int zi1), .val (.int zi2), .val (.int ztl), .val (.int zwl), .val (.int nw), .val (.int t0), .val (.int t1), .val (.int d0), .val (.int d1), .val (.int w0), .val (.int w1), .unset, .unset, .unset, .unset, .unset]) rfl kq) ?_
  show Ogo p e below _ (s₁.setTop (mkF m 141 #[.val (.int p1), .val (.int p2), .val (.int p3), .val (.int p4), .val (.int p5), .val (.int p6), .val (.int zi1), .val (.int zi2), .val (.int ztl), .val (.int zwl), .val (.int nw), .val (.int t0), .val (.int t1), .val (.int d0), .val (.int d1), .val (.int w0), .val (.int w1), .unset, .unset, .unset, .unset, .unset] []))
  refine own_via (fun tq kq => XS.iload X0.here hx rfl (hb hby at_141) rfl kq) ?_
  show Ogo p e below _ (s₁.setTop (mkF m 143 #[.val (.int p1), .val (.int p2), .val (.int p3), .val (.int p4), .val (.int p5), .val (.int p6), .val (.int zi1), .val (.int zi2), .val (.int ztl), .val (.int zwl), .val (.int nw), .val (.int t0), .val (.int t1), .val (.int d0), .val (.int d1), .val (.int w0), .val (.int w1), .unset, .unset, .unset, .unset, .unset] [(.int ztl)]))
  refine own_via (fun tq kq => XS.iload X0.here hx rfl (hb hby at_143) rfl kq) ?_
  show Ogo p e below _ (s₁.setTop (mkF m 145 #[.val (.int p1), .val (.int p2), .val (.int p3), .val (.int p4), .val (.int p5), .val (.int p6), .val (.int zi1), .val (.int zi2), .val (.int ztl), .val (.int zwl), .val (.int nw), .val (.int t0), .val (.int t1), .val (.int d0), .val (.int d1), .val (.int w0), .val (.int w1), .unset, .unset, .unset, .unset, .unset] [(.int t0), (.int ztl)]))
  refine own_via (fun tq kq => XS.iload X0.here hx rfl (hb hby at_145) rfl kq) ?_
  show Ogo p e below _ (s₁.setTop (mkF m 147 #[.val (.int p1), .val (.int p2), .val (.int p3), .val (.int p4), .val (.int p5), .val (.int p6), .val (.int zi1), .val (.int zi2), .val (.int ztl), .val (.int zwl), .val (.int nw), .val (.int t0), .val (.int t1), .val (.int d0), .val (.int d1), .val (.int w0), .val (.int w1), .unset, .unset, .unset, .unset, .unset] [(.int t1), (.int t0), (.int ztl)]))
  refine own_callSW X0 hx hZ hown (hw _ (List.mem_of_getElem? (i := 0) rfl)) (hw _ (List.mem_of_getElem? (i := 1) rfl)) (hw _ (List.mem_of_getElem? (i := 2) rfl)) (hw _ (List.mem_of_getElem? (i := 3) rfl)) (by decide) (rm_str hw tl ztl t0 t1 zc h0 n0 hEL htl (by omega) zs SCO hzc O ht0 ht1) rfl e0 (W := 0) (by decide) (by decide) (by decide) (by decide) hEL hS CR.1 (by rw [hml]; rfl) (argsL := [(.int ztl), (.int t0), (.int t1)]) (rest := []) (lenOf pd_8 rfl) rfl (Nat.le_of_eq rfl) (hb hby at_147) ?_
  rintro _ T1 L1 X1 hS hZ hown CRl ⟨Nq, Kc, b1, rfl, hsz, T_b1⟩
  have N := N.app Nq
  have CR := CR.trans CRl
  have zs := Nat.le_trans zs Kc.1
  have O := O.keep Kc all0
  show Ogo p e below _ (T1.setTop (mkF m 150 #[.val (.int p1), .val (.int p2), .val (.int p3), .val (.int p4), .val (.int p5), .val (.int p6), .val (.int zi1), .val (.int zi2), .val (.int ztl), .val (.int zwl), .val (.int nw), .val (.int t0), .val (.int t1), .val (.int d0), .val (.int d1), .val (.int w0), .val (.int w1), .unset, .unset, .unset, .unset, .unset] [(.ref b1)]))
  refine own_via (fun tq kq => XS.astore X1.here hx rfl (hb hby at_150) rfl rfl (l' := #[.val (.int p1), .val (.int p2), .val (.int p3), .val (.int p4), .val (.int p5), .val (.int p6), .val (.int zi1), .val (.int zi2), .val (.int ztl), .val (.int zwl), .val (.int nw), .val (.int t0), .val (.int t1), .val (.int d0), .val (.int d1), .val (.int w0), .val (.int w1), .val (.ref b1), .unset, .unset, .unset, .unset]) rfl kq) ?_
  show Ogo p e below _ (T1.setTop (mkF m 152 #[.val (.int p1), .val (.int p2), .val (.int p3), .val (.int p4), .val (.int p5), .val (.int p6), .val (.int zi1), .val (.int zi2), .val (.int ztl), .val (.int zwl), .val (.int nw), .val (.int t0), .val (.int t1), .val (.int d0), .val (.int d1), .val (.int w0), .val (.int w1), .val (.ref b1), .unset, .unset, .unset, .unset] []))
  refine own_via (fun tq kq => XS.iload X1.here hx rfl (hb hby at_152) rfl kq) ?_
  show Ogo p e below _ (T1.setTop (mkF m 154 #[.val (.int p1), .val (.int p2), .val (.int p3), .val (.int p4), .val (.int p5), .val (.int p6), .val (.int zi1), .val (.int zi2), .val (.int ztl), .val (.int zwl), .val (.int nw), .val (.int t0), .val (.int t1), .val (.int d0), .val (.int d1), .val (.int w0), .val (.int w1), .val (.ref b1), .unset, .unset, .unset, .unset] [(.int nw)]))
  rcases hnw with rfl | rfl
  · have l1 : (1 : Int32).toInt = 1 := rfl
    have l2 : (2 : Int32).toInt = 2 := rfl
    show Ogo p e below _ (T1.setTop (mkF m 154 #[.val (.int p1), .val (.int p2), .val (.int p3), .val (.int p4), .val (.int p5), .val (.int p6), .val (.int zi1), .val (.int zi2), .val (.int ztl), .val (.int zwl), .val (.int (0 : Int32)), .val (.int t0), .val (.int t1), .val (.int d0), .val (.int d1), .val (.int w0), .val (.int w1), .val (.ref b1), .unset, .unset, .unset, .unset] [(.int (0 : Int32))]))
    refine own_via (fun tq kq => XS.ifYes X1.here hx rfl (pc0 := 154) (pc' := 161) rfl (hb hby at_154) rfl ((if0 _ _).trans (teq (rfl : (0 : Int32) = (0 : Int32))).1) (by decide) (by decide) kq) ?_
    show Ogo p e below _ (T1.setTop (mkF m 161 #[.val (.int p1), .val (.int p2), .val (.int p3), .val (.int p4), .val (.int p5), .val (.int p6), .val (.int zi1), .val (.int zi2), .val (.int ztl), .val (.int zwl), .val (.int (0 : Int32)), .val (.int t0), .val (.int t1), .val (.int d0), .val (.int d1), .val (.int w0), .val (.int w1), .val (.ref b1), .unset, .unset, .unset, .unset] []))
    refine own_via (fun tq kq => XS.iload X1.here hx rfl (hb hby at_161) rfl kq) ?_
    show Ogo p e below _ (T1.setTop (mkF m 163 #[.val (.int p1), .val (.int p2), .val (.int p3), .val (.int p4), .val (.int p5), .val (.int p6), .val (.int zi1), .val (.int zi2), .val (.int ztl), .val (.int zwl), .val (.int (0 : Int32)), .val (.int t0), .val (.int t1), .val (.int d0), .val (.int d1), .val (.int w0), .val (.int w1), .val (.ref b1), .unset, .unset, .unset, .unset] [(.int zwl)]))
    refine own_via (fun tq kq => XS.iload X1.here hx rfl (hb hby at_163) rfl kq) ?_
    show Ogo p e below _ (T1.setTop (mkF m 165 #[.val (.int p1), .val (.int p2), .val (.int p3), .val (.int p4), .val (.int p5), .val (.int p6), .val (.int zi1), .val (.int zi2), .val (.int ztl), .val (.int zwl), .val (.int (0 : Int32)), .val (.int t0), .val (.int t1), .val (.int d0), .val (.int d1), .val (.int w0), .val (.int w1), .val (.ref b1), .unset, .unset, .unset, .unset] [(.int w0), (.int zwl)]))
    refine own_via (fun tq kq => XS.iload X1.here hx rfl (hb hby at_165) rfl kq) ?_
    show Ogo p e below _ (T1.setTop (mkF m 167 #[.val (.int p1), .val (.int p2), .val (.int p3), .val (.int p4), .val (.int p5), .val (.int p6), .val (.int zi1), .val (.int zi2), .val (.int ztl), .val (.int zwl), .val (.int (0 : Int32)), .val (.int t0), .val (.int t1), .val (.int d0), .val (.int d1), .val (.int w0), .val (.int w1), .val (.ref b1), .unset, .unset, .unset, .unset] [(.int w1), (.int w0), (.int zwl)]))
    refine own_callSW X1 hx hZ hown (hw _ (List.mem_of_getElem? (i := 0) rfl)) (hw _ (List.mem_of_getElem? (i := 1) rfl)) (hw _ (List.mem_of_getElem? (i := 2) rfl)) (hw _ (List.mem_of_getElem? (i := 3) rfl)) (by decide) (rm_str hw wl zwl w0 w1 zc T1.heap n0 hEL hwl (by omega) zs SCO hzc O hw0 hw1) rfl rfl (W := 0) (by decide) (by decide) (by decide) (by decide) hEL hS CR.1 (by rw [hml]; rfl) (argsL := [(.int zwl), (.int w0), (.int w1)]) (rest := []) (lenOf pd_8 rfl) rfl (Nat.le_of_eq rfl) (hb hby at_167) ?_
    rintro _ T2 L2 X2 hS hZ hown CRl ⟨Nq, Kc, b2, rfl, hsz, T_b2⟩
    have N := N.app Nq
    have lt_b1_b2 : b1 < b2 := Nat.lt_of_lt_of_le T_b1.lt hsz
    have CR := CR.trans CRl
    have T_b1 := T_b1.ext (own_ext0 Kc)
    have zs := Nat.le_trans zs Kc.1
    have O := O.keep Kc all0
    show Ogo p e below _ (T2.setTop (mkF m 170 #[.val (.int p1), .val (.int p2), .val (.int p3), .val (.int p4), .val (.int p5), .val (.int p6), .val (.int zi1), .val (.int zi2), .val (.int ztl), .val (.int zwl), .val (.int (0 : Int32)), .val (.int t0), .val (.int t1), .val (.int d0), .val (.int d1), .val (.int w0), .val (.int w1), .val (.ref b1), .unset, .unset, .unset, .unset] [(.ref b2)]))
    refine own_via (fun tq kq => XS.astore X2.here hx rfl (hb hby at_170) rfl rfl (l' := #[.val (.int p1), .val (.int p2), .val (.int p3), .val (.int p4), .val (.int p5), .val (.int p6), .val (.int zi1), .val (.int zi2), .val (.int ztl), .val (.int zwl), .val (.int (0 : Int32)), .val (.int t0), .val (.int t1), .val (.int d0), .val (.int d1), .val (.int w0), .val (.int w1), .val (.ref b1), .val (.ref b2), .unset, .unset, .unset]) rfl kq) ?_
    show Ogo p e below _ (T2.setTop (mkF m 172 #[.val (.int p1), .val (.int p2), .val (.int p3), .val (.int p4), .val (.int p5), .val (.int p6), .val (.int zi1), .val (.int zi2), .val (.int ztl), .val (.int zwl), .val (.int (0 : Int32)), .val (.int t0), .val (.int t1), .val (.int d0), .val (.int d1), .val (.int w0), .val (.int w1), .val (.ref b1), .val (.ref b2), .unset, .unset, .unset] []))
    obtain ⟨T3, h3, X3, e3, E3, A3, D3, -, st3⟩ := newO X2 hx hZ hown (hw _ (List.mem_of_getElem? (i := 37) rfl)) (hw _ (List.mem_of_getElem? (i := 38) rfl)) (hw _ (List.mem_of_getElem? (i := 39) rfl)) rfl (g := (mkF m 172 #[.val (.int p1), .val (.int p2), .val (.int p3), .val (.int p4), .val (.int p5), .val (.int p6), .val (.int zi1), .val (.int zi2), .val (.int ztl), .val (.int zwl), .val (.int (0 : Int32)), .val (.int t0), .val (.int t1), .val (.int d0), .val (.int d1), .val (.int w0), .val (.int w1), .val (.ref b1), .val (.ref b2), .unset, .unset, .unset] [])) rfl (hb hby at_172) (by decide) (by decide)
    refine own_via st3 ?_
    obtain ⟨tok, g3⟩ : ∃ z, z = T2.heap.size := ⟨_, rfl⟩
    rw [← g3]
    rw [← g3] at A3 D3
    have lt_b1_tok : b1 < tok := by rw [g3]; exact T_b1.lt
    have lt_b2_tok : b2 < tok := by rw [g3]; exact T_b2.lt
    have g_tok : n0 ≤ tok := by rw [g3]; exact zs
    have CR := CR.trans (CHr.ext E3 CR.1)
    have hS := own_sm hS E3.1
    have T_b1 := T_b1.ext E3
    have T_b2 := T_b2.ext E3
    have zs := Nat.le_trans zs E3.1
    have O := O.ext E3
    have E_tok := A3
    have F_kind_tok : Fld Z h3 tok "com/example/diligent_workflow/diligentworkflow/feel/FeelLexer$Token" "kind" "Lcom/example/diligent_workflow/diligentworkflow/feel/FeelLexer$Kind;" .null := D3 (Or.inr (hw _ (List.mem_of_getElem? (i := 56) rfl))) (ty := (.object "com/example/diligent_workflow/diligentworkflow/feel/FeelLexer$Kind")) (by decide)
    have F_text_tok : Fld Z h3 tok "com/example/diligent_workflow/diligentworkflow/feel/FeelLexer$Token" "text" "Ljava/lang/String;" .null := D3 (Or.inr (hw _ (List.mem_of_getElem? (i := 58) rfl))) (ty := (.object "java/lang/String")) (by decide)
    have F_value_tok : Fld Z h3 tok "com/example/diligent_workflow/diligentworkflow/feel/FeelLexer$Token" "value" "Ljava/lang/Object;" .null := D3 (Or.inr (hw _ (List.mem_of_getElem? (i := 60) rfl))) (ty := (.object "java/lang/Object")) (by decide)
    have F_start_tok : Fld Z h3 tok "com/example/diligent_workflow/diligentworkflow/feel/FeelLexer$Token" "start" "I" (.int (0 : Int32)) := D3 (Or.inr (hw _ (List.mem_of_getElem? (i := 62) rfl))) (ty := .int) (by decide)
    have F_end_tok : Fld Z h3 tok "com/example/diligent_workflow/diligentworkflow/feel/FeelLexer$Token" "end" "I" (.int (0 : Int32)) := D3 (Or.inr (hw _ (List.mem_of_getElem? (i := 64) rfl))) (ty := .int) (by decide)
    show Ogo p e below _ (T3.setTop (mkF m 175 #[.val (.int p1), .val (.int p2), .val (.int p3), .val (.int p4), .val (.int p5), .val (.int p6), .val (.int zi1), .val (.int zi2), .val (.int ztl), .val (.int zwl), .val (.int (0 : Int32)), .val (.int t0), .val (.int t1), .val (.int d0), .val (.int d1), .val (.int w0), .val (.int w1), .val (.ref b1), .val (.ref b2), .unset, .unset, .unset] [(.ref tok)]))
    refine own_via (fun tq kq => XS.dup X3.here hx rfl (hb hby at_175) rfl rfl kq) ?_
    show Ogo p e below _ (T3.setTop (mkF m 176 #[.val (.int p1), .val (.int p2), .val (.int p3), .val (.int p4), .val (.int p5), .val (.int p6), .val (.int zi1), .val (.int zi2), .val (.int ztl), .val (.int zwl), .val (.int (0 : Int32)), .val (.int t0), .val (.int t1), .val (.int d0), .val (.int d1), .val (.int w0), .val (.int w1), .val (.ref b1), .val (.ref b2), .unset, .unset, .unset] [(.ref tok), (.ref tok)]))
    refine own_via (fun tq kq => XS.iload X3.here hx rfl (hb hby at_176) rfl kq) ?_
    show Ogo p e below _ (T3.setTop (mkF m 178 #[.val (.int p1), .val (.int p2), .val (.int p3), .val (.int p4), .val (.int p5), .val (.int p6), .val (.int zi1), .val (.int zi2), .val (.int ztl), .val (.int zwl), .val (.int (0 : Int32)), .val (.int t0), .val (.int t1), .val (.int d0), .val (.int d1), .val (.int w0), .val (.int w1), .val (.ref b1), .val (.ref b2), .unset, .unset, .unset] [(.int zi1), (.ref tok), (.ref tok)]))
    refine own_callS X3 hx hZ hown (hw _ (List.mem_of_getElem? (i := 40) rfl)) (hw _ (List.mem_of_getElem? (i := 41) rfl)) (hw _ (List.mem_of_getElem? (i := 2) rfl)) (hw _ (List.mem_of_getElem? (i := 42) rfl)) (by decide) (rm_ki hw i1 zi1 km h3 n0 hi1 (by omega) S0 S1 S2 S3 S4 S5 S6 O) rfl e3 (W := 2) (by decide) (by decide) (by decide) (by decide) (by rw [hml]; rfl) (argsL := [(.int zi1)]) (rest := [(.ref tok), (.ref tok)]) (lenOf pd_9 rfl) rfl (Nat.le_of_eq rfl) (hb hby at_178) ?_
    rintro _ T4 L4 X4 ⟨rfl, Nq, hk⟩
    have N := N.app Nq
    have hk4 := hk
    show Ogo p e below _ (T4.setTop (mkF m 181 #[.val (.int p1), .val (.int p2), .val (.int p3), .val (.int p4), .val (.int p5), .val (.int p6), .val (.int zi1), .val (.int zi2), .val (.int ztl), .val (.int zwl), .val (.int (0 : Int32)), .val (.int t0), .val (.int t1), .val (.int d0), .val (.int d1), .val (.int w0), .val (.int w1), .val (.ref b1), .val (.ref b2), .unset, .unset, .unset] [(if i1 < 7 then Value.ref (km i1) else .null), (.ref tok), (.ref tok)]))
    rw [if_pos li1]
    show Ogo p e below _ (T4.setTop (mkF m 181 #[.val (.int p1), .val (.int p2), .val (.int p3), .val (.int p4), .val (.int p5), .val (.int p6), .val (.int zi1), .val (.int zi2), .val (.int ztl), .val (.int zwl), .val (.int (0 : Int32)), .val (.int t0), .val (.int t1), .val (.int d0), .val (.int d1), .val (.int w0), .val (.int w1), .val (.ref b1), .val (.ref b2), .unset, .unset, .unset] [(.ref (km i1)), (.ref tok), (.ref tok)]))
    refine own_via (fun tq kq => XS.aload X4.here hx rfl (hb hby at_181) rfl rfl kq) ?_
    show Ogo p e below _ (T4.setTop (mkF m 183 #[.val (.int p1), .val (.int p2), .val (.int p3), .val (.int p4), .val (.int p5), .val (.int p6), .val (.int zi1), .val (.int zi2), .val (.int ztl), .val (.int zwl), .val (.int (0 : Int32)), .val (.int t0), .val (.int t1), .val (.int d0), .val (.int d1), .val (.int w0), .val (.int w1), .val (.ref b1), .val (.ref b2), .unset, .unset, .unset] [(.ref b1), (.ref (km i1)), (.ref tok), (.ref tok)]))
    refine own_via (fun tq kq => XS.aconstNull X4.here hx rfl (hb hby at_183) kq) ?_
    show Ogo p e below _ (T4.setTop (mkF m 184 #[.val (.int p1), .val (.int p2), .val (.int p3), .val (.int p4), .val (.int p5), .val (.int p6), .val (.int zi1), .val (.int zi2), .val (.int ztl), .val (.int zwl), .val (.int (0 : Int32)), .val (.int t0), .val (.int t1), .val (.int d0), .val (.int d1), .val (.int w0), .val (.int w1), .val (.ref b1), .val (.ref b2), .unset, .unset, .unset] [.null, (.ref b1), (.ref (km i1)), (.ref tok), (.ref tok)]))
    refine own_via (fun tq kq => XS.iload X4.here hx rfl (hb hby at_184) rfl kq) ?_
    show Ogo p e below _ (T4.setTop (mkF m 186 #[.val (.int p1), .val (.int p2), .val (.int p3), .val (.int p4), .val (.int p5), .val (.int p6), .val (.int zi1), .val (.int zi2), .val (.int ztl), .val (.int zwl), .val (.int (0 : Int32)), .val (.int t0), .val (.int t1), .val (.int d0), .val (.int d1), .val (.int w0), .val (.int w1), .val (.ref b1), .val (.ref b2), .unset, .unset, .unset] [(.int p5), .null, (.ref b1), (.ref (km i1)), (.ref tok), (.ref tok)]))
    refine own_via (fun tq kq => XS.iload X4.here hx rfl (hb hby at_186) rfl kq) ?_
    show Ogo p e below _ (T4.setTop (mkF m 188 #[.val (.int p1), .val (.int p2), .val (.int p3), .val (.int p4), .val (.int p5), .val (.int p6), .val (.int zi1), .val (.int zi2), .val (.int ztl), .val (.int zwl), .val (.int (0 : Int32)), .val (.int t0), .val (.int t1), .val (.int d0), .val (.int d1), .val (.int w0), .val (.int w1), .val (.ref b1), .val (.ref b2), .unset, .unset, .unset] [(.int p6), (.int p5), .null, (.ref b1), (.ref (km i1)), (.ref tok), (.ref tok)]))
    refine own_callI X4 hx hZ rfl hown (hw _ (List.mem_of_getElem? (i := 46) rfl)) (hw _ (List.mem_of_getElem? (i := 47) rfl)) (hw _ (List.mem_of_getElem? (i := 39) rfl)) (hw _ (List.mem_of_getElem? (i := 48) rfl)) (by decide) (rm_ti hw tok (km i1) b1 p5 p6 h3 n0 E_tok F_kind_tok F_text_tok F_value_tok F_start_tok F_end_tok g_tok) rfl hk4 (W := 1) (by decide) (by decide) (by decide) (by decide) (by rw [hml]; rfl) (a := tok) (argsL := [(.ref (km i1)), (.ref b1), .null, (.int p5), (.int p6)]) (rest := [(.ref tok)]) (lenOf pd_10 rfl) rfl (Nat.le_of_eq rfl) (hb hby at_188) ?_
    rintro _ T5 L5 X5 ⟨rfl, Nq, Kc, F_kind_tok, F_text_tok⟩
    have N := N.app Nq
    have sK : ∀ x ∈ [tok], Safe Z consts_1 T2.vm h3 x := allS (Safe.exa hZ.alike E_tok (by decide) (by decide)) (all0)
    have CR := CR.trans (CHr.keep Kc sK CR.1)
    have hS := own_sm hS Kc.1
    have T_b1 := T_b1.keepT Kc E_tok (by decide) (hw _ (List.mem_of_getElem? (i := 38) rfl))
    have T_b2 := T_b2.keepT Kc E_tok (by decide) (hw _ (List.mem_of_getElem? (i := 38) rfl))
    have E_tok := E_tok.keep Kc
    have zs := Nat.le_trans zs Kc.1
    have O := O.keep Kc (allS g_tok all0)
    show Ogo p e below _ (T5.setTop (mkF m 191 #[.val (.int p1), .val (.int p2), .val (.int p3), .val (.int p4), .val (.int p5), .val (.int p6), .val (.int zi1), .val (.int zi2), .val (.int ztl), .val (.int zwl), .val (.int (0 : Int32)), .val (.int t0), .val (.int t1), .val (.int d0), .val (.int d1), .val (.int w0), .val (.int w1), .val (.ref b1), .val (.ref b2), .unset, .unset, .unset] [(.ref tok)]))
    refine own_via (fun tq kq => XS.astore X5.here hx rfl (hb hby at_191) rfl rfl (l' := #[.val (.int p1), .val (.int p2), .val (.int p3), .val (.int p4), .val (.int p5), .val (.int p6), .val (.int zi1), .val (.int zi2), .val (.int ztl), .val (.int zwl), .val (.int (0 : Int32)), .val (.int t0), .val (.int t1), .val (.int d0), .val (.int d1), .val (.int w0), .val (.int w1), .val (.ref b1), .val (.ref b2), .val (.ref tok), .unset, .unset]) rfl kq) ?_
    show Ogo p e below _ (T5.setTop (mkF m 193 #[.val (.int p1), .val (.int p2), .val (.int p3), .val (.int p4), .val (.int p5), .val (.int p6), .val (.int zi1), .val (.int zi2), .val (.int ztl), .val (.int zwl), .val (.int (0 : Int32)), .val (.int t0), .val (.int t1), .val (.int d0), .val (.int d1), .val (.int w0), .val (.int w1), .val (.ref b1), .val (.ref b2), .val (.ref tok), .unset, .unset] []))
    refine own_via (fun tq kq => XS.aload X5.here hx rfl (hb hby at_193) rfl rfl kq) ?_
    show Ogo p e below _ (T5.setTop (mkF m 195 #[.val (.int p1), .val (.int p2), .val (.int p3), .val (.int p4), .val (.int p5), .val (.int p6), .val (.int zi1), .val (.int zi2), .val (.int ztl), .val (.int zwl), .val (.int (0 : Int32)), .val (.int t0), .val (.int t1), .val (.int d0), .val (.int d1), .val (.int w0), .val (.int w1), .val (.ref b1), .val (.ref b2), .val (.ref tok), .unset, .unset] [(.ref tok)]))
    refine own_via (fun tq kq => XS.iload X5.here hx rfl (hb hby at_195) rfl kq) ?_
    show Ogo p e below _ (T5.setTop (mkF m 197 #[.val (.int p1), .val (.int p2), .val (.int p3), .val (.int p4), .val (.int p5), .val (.int p6), .val (.int zi1), .val (.int zi2), .val (.int ztl), .val (.int zwl), .val (.int (0 : Int32)), .val (.int t0), .val (.int t1), .val (.int d0), .val (.int d1), .val (.int w0), .val (.int w1), .val (.ref b1), .val (.ref b2), .val (.ref tok), .unset, .unset] [(.int zi2), (.ref tok)]))
    refine own_callS X5 hx hZ hown (hw _ (List.mem_of_getElem? (i := 40) rfl)) (hw _ (List.mem_of_getElem? (i := 41) rfl)) (hw _ (List.mem_of_getElem? (i := 2) rfl)) (hw _ (List.mem_of_getElem? (i := 42) rfl)) (by decide) (rm_ki hw i2 zi2 km T5.heap n0 hi2 (by omega) S0 S1 S2 S3 S4 S5 S6 O) rfl rfl (W := 1) (by decide) (by decide) (by decide) (by decide) (by rw [hml]; rfl) (argsL := [(.int zi2)]) (rest := [(.ref tok)]) (lenOf pd_9 rfl) rfl (Nat.le_of_eq rfl) (hb hby at_197) ?_
    rintro _ T6 L6 X6 ⟨rfl, Nq, hk⟩
    have N := N.app Nq
    have hk6 := hk
    show Ogo p e below _ (T6.setTop (mkF m 200 #[.val (.int p1), .val (.int p2), .val (.int p3), .val (.int p4), .val (.int p5), .val (.int p6), .val (.int zi1), .val (.int zi2), .val (.int ztl), .val (.int zwl), .val (.int (0 : Int32)), .val (.int t0), .val (.int t1), .val (.int d0), .val (.int d1), .val (.int w0), .val (.int w1), .val (.ref b1), .val (.ref b2), .val (.ref tok), .unset, .unset] [(if i2 < 7 then Value.ref (km i2) else .null), (.ref tok)]))
    by_cases hi7 : i2 < 7
    · rw [if_pos hi7]
      show Ogo p e below _ (T6.setTop (mkF m 200 #[.val (.int p1), .val (.int p2), .val (.int p3), .val (.int p4), .val (.int p5), .val (.int p6), .val (.int zi1), .val (.int zi2), .val (.int ztl), .val (.int zwl), .val (.int (0 : Int32)), .val (.int t0), .val (.int t1), .val (.int d0), .val (.int d1), .val (.int w0), .val (.int w1), .val (.ref b1), .val (.ref b2), .val (.ref tok), .unset, .unset] [(.ref (km i2)), (.ref tok)]))
      refine own_via (fun tq kq => XS.aload X6.here hx rfl (hb hby at_200) rfl rfl kq) ?_
      show Ogo p e below _ (T6.setTop (mkF m 202 #[.val (.int p1), .val (.int p2), .val (.int p3), .val (.int p4), .val (.int p5), .val (.int p6), .val (.int zi1), .val (.int zi2), .val (.int ztl), .val (.int zwl), .val (.int (0 : Int32)), .val (.int t0), .val (.int t1), .val (.int d0), .val (.int d1), .val (.int w0), .val (.int w1), .val (.ref b1), .val (.ref b2), .val (.ref tok), .unset, .unset] [(.ref b2), (.ref (km i2)), (.ref tok)]))
      refine own_callV X6 hx hZ hown (hw _ (List.mem_of_getElem? (i := 65) rfl)) (hw _ (List.mem_of_getElem? (i := 66) rfl)) (hw _ (List.mem_of_getElem? (i := 68) rfl)) (hw _ (List.mem_of_getElem? (i := 67) rfl)) (hw _ (List.mem_of_getElem? (i := 39) rfl)) (hw _ (List.mem_of_getElem? (i := 69) rfl)) (notFace_of_selects (args := #[]) (mvT hZ (hw _ (List.mem_of_getElem? (i := 68) rfl)))) (by decide) (rm_is hw tok (km i1) b1 (km i2) b2 tl wl t0 t1 w0 w1 zc T5.heap n0 E_tok F_kind_tok F_text_tok T_b1 T_b2 (Nat.ne_of_lt lt_b1_b2) (by omega) (by omega) ht0 ht1 hw0 hw1 SCO hzc O) rfl hk6 E_tok (W := 0) (by decide) (by decide) (by decide) (by decide) (by rw [hml]; rfl) (b := tok) (argsL := [(.ref (km i2)), (.ref b2)]) (rest := []) (lenOf pd_11 rfl) rfl (Nat.le_of_eq rfl) (hb hby at_202) ?_
      rintro _ T7 L7 X7 ⟨r, rfl, hr, Nq, hk⟩
      have N := N.app Nq
      have hk7 := hk
      show Ogo p e below _ (T7.setTop (mkF m 205 #[.val (.int p1), .val (.int p2), .val (.int p3), .val (.int p4), .val (.int p5), .val (.int p6), .val (.int zi1), .val (.int zi2), .val (.int ztl), .val (.int zwl), .val (.int (0 : Int32)), .val (.int t0), .val (.int t1), .val (.int d0), .val (.int d1), .val (.int w0), .val (.int w1), .val (.ref b1), .val (.ref b2), .val (.ref tok), .unset, .unset] [(.int r)]))
      rcases hr with ⟨rfl, hkk, hsm⟩ | ⟨rfl, hns⟩
      · show Ogo p e below _ (T7.setTop (mkF m 205 #[.val (.int p1), .val (.int p2), .val (.int p3), .val (.int p4), .val (.int p5), .val (.int p6), .val (.int zi1), .val (.int zi2), .val (.int ztl), .val (.int zwl), .val (.int (0 : Int32)), .val (.int t0), .val (.int t1), .val (.int d0), .val (.int d1), .val (.int w0), .val (.int w1), .val (.ref b1), .val (.ref b2), .val (.ref tok), .unset, .unset] [(.int (1 : Int32))]))
        refine own_via (fun tq kq => XS.istore X7.here hx rfl (hb hby at_205) rfl (l' := #[.val (.int p1), .val (.int p2), .val (.int p3), .val (.int p4), .val (.int p5), .val (.int p6), .val (.int zi1), .val (.int zi2), .val (.int ztl), .val (.int zwl), .val (.int (0 : Int32)), .val (.int t0), .val (.int t1), .val (.int d0), .val (.int d1), .val (.int w0), .val (.int w1), .val (.ref b1), .val (.ref b2), .val (.ref tok), .val (.int (1 : Int32)), .unset]) rfl kq) ?_
        show Ogo p e below _ (T7.setTop (mkF m 207 #[.val (.int p1), .val (.int p2), .val (.int p3), .val (.int p4), .val (.int p5), .val (.int p6), .val (.int zi1), .val (.int zi2), .val (.int ztl), .val (.int zwl), .val (.int (0 : Int32)), .val (.int t0), .val (.int t1), .val (.int d0), .val (.int d1), .val (.int w0), .val (.int w1), .val (.ref b1), .val (.ref b2), .val (.ref tok), .val (.int (1 : Int32)), .unset] []))
        refine own_via (fun tq kq => XS.iload X7.here hx rfl (hb hby at_207) rfl kq) ?_
        show Ogo p e below _ (T7.setTop (mkF m 209 #[.val (.int p1), .val (.int p2), .val (.int p3), .val (.int p4), .val (.int p5), .val (.int p6), .val (.int zi1), .val (.int zi2), .val (.int ztl), .val (.int zwl), .val (.int (0 : Int32)), .val (.int t0), .val (.int t1), .val (.int d0), .val (.int d1), .val (.int w0), .val (.int w1), .val (.ref b1), .val (.ref b2), .val (.ref tok), .val (.int (1 : Int32)), .unset] [(.int (0 : Int32))]))
        refine own_via (fun tq kq => XS.ifNo X7.here hx rfl (hb hby at_209) rfl ((if0 _ _).trans (teq (rfl : (0 : Int32) = (0 : Int32))).2) kq) ?_
        show Ogo p e below _ (T7.setTop (mkF m 212 #[.val (.int p1), .val (.int p2), .val (.int p3), .val (.int p4), .val (.int p5), .val (.int p6), .val (.int zi1), .val (.int zi2), .val (.int ztl), .val (.int zwl), .val (.int (0 : Int32)), .val (.int t0), .val (.int t1), .val (.int d0), .val (.int d1), .val (.int w0), .val (.int w1), .val (.ref b1), .val (.ref b2), .val (.ref tok), .val (.int (1 : Int32)), .unset] []))
        refine own_via (fun tq kq => XS.iload X7.here hx rfl (hb hby at_212) rfl kq) ?_
        show Ogo p e below _ (T7.setTop (mkF m 214 #[.val (.int p1), .val (.int p2), .val (.int p3), .val (.int p4), .val (.int p5), .val (.int p6), .val (.int zi1), .val (.int zi2), .val (.int ztl), .val (.int zwl), .val (.int (0 : Int32)), .val (.int t0), .val (.int t1), .val (.int d0), .val (.int d1), .val (.int w0), .val (.int w1), .val (.ref b1), .val (.ref b2), .val (.ref tok), .val (.int (1 : Int32)), .unset] [(.int zi1)]))
        refine own_via (fun tq kq => XS.iload X7.here hx rfl (hb hby at_214) rfl kq) ?_
        show Ogo p e below _ (T7.setTop (mkF m 216 #[.val (.int p1), .val (.int p2), .val (.int p3), .val (.int p4), .val (.int p5), .val (.int p6), .val (.int zi1), .val (.int zi2), .val (.int ztl), .val (.int zwl), .val (.int (0 : Int32)), .val (.int t0), .val (.int t1), .val (.int d0), .val (.int d1), .val (.int w0), .val (.int w1), .val (.ref b1), .val (.ref b2), .val (.ref tok), .val (.int (1 : Int32)), .unset] [(.int zi2), (.int zi1)]))
        refine own_via (fun tq kq => XS.icmpNo X7.here hx rfl (hb hby at_216) rfl (teq (i_eq (by have := hkm _ _ li1 hi7 hkk; omega) : zi1 = zi2)).2 kq) ?_
        show Ogo p e below _ (T7.setTop (mkF m 219 #[.val (.int p1), .val (.int p2), .val (.int p3), .val (.int p4), .val (.int p5), .val (.int p6), .val (.int zi1), .val (.int zi2), .val (.int ztl), .val (.int zwl), .val (.int (0 : Int32)), .val (.int t0), .val (.int t1), .val (.int d0), .val (.int d1), .val (.int w0), .val (.int w1), .val (.ref b1), .val (.ref b2), .val (.ref tok), .val (.int (1 : Int32)), .unset] []))
        refine own_via (fun tq kq => XS.iload X7.here hx rfl (hb hby at_219) rfl kq) ?_
        show Ogo p e below _ (T7.setTop (mkF m 221 #[.val (.int p1), .val (.int p2), .val (.int p3), .val (.int p4), .val (.int p5), .val (.int p6), .val (.int zi1), .val (.int zi2), .val (.int ztl), .val (.int zwl), .val (.int (0 : Int32)), .val (.int t0), .val (.int t1), .val (.int d0), .val (.int d1), .val (.int w0), .val (.int w1), .val (.ref b1), .val (.ref b2), .val (.ref tok), .val (.int (1 : Int32)), .unset] [(.int ztl)]))
        refine own_via (fun tq kq => XS.iload X7.here hx rfl (hb hby at_221) rfl kq) ?_
        show Ogo p e below _ (T7.setTop (mkF m 223 #[.val (.int p1), .val (.int p2), .val (.int p3), .val (.int p4), .val (.int p5), .val (.int p6), .val (.int zi1), .val (.int zi2), .val (.int ztl), .val (.int zwl), .val (.int (0 : Int32)), .val (.int t0), .val (.int t1), .val (.int d0), .val (.int d1), .val (.int w0), .val (.int w1), .val (.ref b1), .val (.ref b2), .val (.ref tok), .val (.int (1 : Int32)), .unset] [(.int zwl), (.int ztl)]))
        refine own_via (fun tq kq => XS.icmpNo X7.here hx rfl (hb hby at_223) rfl (teq (i_eq (by have := hsm.1; omega) : ztl = zwl)).2 kq) ?_
        show Ogo p e below _ (T7.setTop (mkF m 226 #[.val (.int p1), .val (.int p2), .val (.int p3), .val (.int p4), .val (.int p5), .val (.int p6), .val (.int zi1), .val (.int zi2), .val (.int ztl), .val (.int zwl), .val (.int (0 : Int32)), .val (.int t0), .val (.int t1), .val (.int d0), .val (.int d1), .val (.int w0), .val (.int w1), .val (.ref b1), .val (.ref b2), .val (.ref tok), .val (.int (1 : Int32)), .unset] []))
        refine own_via (fun tq kq => XS.iload X7.here hx rfl (hb hby at_226) rfl kq) ?_
        show Ogo p e below _ (T7.setTop (mkF m 228 #[.val (.int p1), .val (.int p2), .val (.int p3), .val (.int p4), .val (.int p5), .val (.int p6), .val (.int zi1), .val (.int zi2), .val (.int ztl), .val (.int zwl), .val (.int (0 : Int32)), .val (.int t0), .val (.int t1), .val (.int d0), .val (.int d1), .val (.int w0), .val (.int w1), .val (.ref b1), .val (.ref b2), .val (.ref tok), .val (.int (1 : Int32)), .unset] [(.int ztl)]))
        refine own_via (fun tq kq => XS.iconst X7.here hx rfl (hb hby at_228) kq) ?_
        show Ogo p e below _ (T7.setTop (mkF m 229 #[.val (.int p1), .val (.int p2), .val (.int p3), .val (.int p4), .val (.int p5), .val (.int p6), .val (.int zi1), .val (.int zi2), .val (.int ztl), .val (.int zwl), .val (.int (0 : Int32)), .val (.int t0), .val (.int t1), .val (.int d0), .val (.int d1), .val (.int w0), .val (.int w1), .val (.ref b1), .val (.ref b2), .val (.ref tok), .val (.int (1 : Int32)), .unset] [(.int (1 : Int32)), (.int ztl)]))
        by_cases hc229 : ztl < (1 : Int32)
        · refine own_via (fun tq kq => XS.icmpYes X7.here hx rfl (pc0 := 229) (pc' := 239) rfl (hb hby at_229) rfl (tlt (hc229 : ztl < (1 : Int32))).1 (by decide) (by decide) kq) ?_
          show Ogo p e below _ (T7.setTop (mkF m 239 #[.val (.int p1), .val (.int p2), .val (.int p3), .val (.int p4), .val (.int p5), .val (.int p6), .val (.int zi1), .val (.int zi2), .val (.int ztl), .val (.int zwl), .val (.int (0 : Int32)), .val (.int t0), .val (.int t1), .val (.int d0), .val (.int d1), .val (.int w0), .val (.int w1), .val (.ref b1), .val (.ref b2), .val (.ref tok), .val (.int (1 : Int32)), .unset] []))
          refine own_via (fun tq kq => XS.iload X7.here hx rfl (hb hby at_239) rfl kq) ?_
          show Ogo p e below _ (T7.setTop (mkF m 241 #[.val (.int p1), .val (.int p2), .val (.int p3), .val (.int p4), .val (.int p5), .val (.int p6), .val (.int zi1), .val (.int zi2), .val (.int ztl), .val (.int zwl), .val (.int (0 : Int32)), .val (.int t0), .val (.int t1), .val (.int d0), .val (.int d1), .val (.int w0), .val (.int w1), .val (.ref b1), .val (.ref b2), .val (.ref tok), .val (.int (1 : Int32)), .unset] [(.int ztl)]))
          refine own_via (fun tq kq => XS.iconst X7.here hx rfl (hb hby at_241) kq) ?_
          show Ogo p e below _ (T7.setTop (mkF m 242 #[.val (.int p1), .val (.int p2), .val (.int p3), .val (.int p4), .val (.int p5), .val (.int p6), .val (.int zi1), .val (.int zi2), .val (.int ztl), .val (.int zwl), .val (.int (0 : Int32)), .val (.int t0), .val (.int t1), .val (.int d0), .val (.int d1), .val (.int w0), .val (.int w1), .val (.ref b1), .val (.ref b2), .val (.ref tok), .val (.int (1 : Int32)), .unset] [(.int (2 : Int32)), (.int ztl)]))
          refine own_via (fun tq kq => XS.icmpYes X7.here hx rfl (pc0 := 242) (pc' := 252) rfl (hb hby at_242) rfl (tlt (i_lt (by have := i_lt' hc229; omega) : ztl < (2 : Int32))).1 (by decide) (by decide) kq) ?_
          show Ogo p e below _ (T7.setTop (mkF m 252 #[.val (.int p1), .val (.int p2), .val (.int p3), .val (.int p4), .val (.int p5), .val (.int p6), .val (.int zi1), .val (.int zi2), .val (.int ztl), .val (.int zwl), .val (.int (0 : Int32)), .val (.int t0), .val (.int t1), .val (.int d0), .val (.int d1), .val (.int w0), .val (.int w1), .val (.ref b1), .val (.ref b2), .val (.ref tok), .val (.int (1 : Int32)), .unset] []))
          refine own_via (fun tq kq => XS.iconst X7.here hx rfl (hb hby at_252) kq) ?_
          show Ogo p e below _ (T7.setTop (mkF m 253 #[.val (.int p1), .val (.int p2), .val (.int p3), .val (.int p4), .val (.int p5), .val (.int p6), .val (.int zi1), .val (.int zi2), .val (.int ztl), .val (.int zwl), .val (.int (0 : Int32)), .val (.int t0), .val (.int t1), .val (.int d0), .val (.int d1), .val (.int w0), .val (.int w1), .val (.ref b1), .val (.ref b2), .val (.ref tok), .val (.int (1 : Int32)), .unset] [(.int (1 : Int32))]))
          refine own_via (fun tq kq => XS.goto X7.here hx rfl (pc0 := 253) (pc' := 257) rfl (hb hby at_253) (by decide) (by decide) kq) ?_
          show Ogo p e below _ (T7.setTop (mkF m 257 #[.val (.int p1), .val (.int p2), .val (.int p3), .val (.int p4), .val (.int p5), .val (.int p6), .val (.int zi1), .val (.int zi2), .val (.int ztl), .val (.int zwl), .val (.int (0 : Int32)), .val (.int t0), .val (.int t1), .val (.int d0), .val (.int d1), .val (.int w0), .val (.int w1), .val (.ref b1), .val (.ref b2), .val (.ref tok), .val (.int (1 : Int32)), .unset] [(.int (1 : Int32))]))
          refine own_via (fun tq kq => XS.istore X7.here hx rfl (hb hby at_257) rfl (l' := #[.val (.int p1), .val (.int p2), .val (.int p3), .val (.int p4), .val (.int p5), .val (.int p6), .val (.int zi1), .val (.int zi2), .val (.int ztl), .val (.int zwl), .val (.int (0 : Int32)), .val (.int t0), .val (.int t1), .val (.int d0), .val (.int d1), .val (.int w0), .val (.int w1), .val (.ref b1), .val (.ref b2), .val (.ref tok), .val (.int (1 : Int32)), .val (.int (1 : Int32))]) rfl kq) ?_
          show Ogo p e below _ (T7.setTop (mkF m 259 #[.val (.int p1), .val (.int p2), .val (.int p3), .val (.int p4), .val (.int p5), .val (.int p6), .val (.int zi1), .val (.int zi2), .val (.int ztl), .val (.int zwl), .val (.int (0 : Int32)), .val (.int t0), .val (.int t1), .val (.int d0), .val (.int d1), .val (.int w0), .val (.int w1), .val (.ref b1), .val (.ref b2), .val (.ref tok), .val (.int (1 : Int32)), .val (.int (1 : Int32))] []))
          refine own_via (fun tq kq => XS.iload X7.here hx rfl (hb hby at_259) rfl kq) ?_
          show Ogo p e below _ (T7.setTop (mkF m 261 #[.val (.int p1), .val (.int p2), .val (.int p3), .val (.int p4), .val (.int p5), .val (.int p6), .val (.int zi1), .val (.int zi2), .val (.int ztl), .val (.int zwl), .val (.int (0 : Int32)), .val (.int t0), .val (.int t1), .val (.int d0), .val (.int d1), .val (.int w0), .val (.int w1), .val (.ref b1), .val (.ref b2), .val (.ref tok), .val (.int (1 : Int32)), .val (.int (1 : Int32))] [(.int (1 : Int32))]))
          refine own_via (fun tq kq => XS.iload X7.here hx rfl (hb hby at_261) rfl kq) ?_
          show Ogo p e below _ (T7.setTop (mkF m 263 #[.val (.int p1), .val (.int p2), .val (.int p3), .val (.int p4), .val (.int p5), .val (.int p6), .val (.int zi1), .val (.int zi2), .val (.int ztl), .val (.int zwl), .val (.int (0 : Int32)), .val (.int t0), .val (.int t1), .val (.int d0), .val (.int d1), .val (.int w0), .val (.int w1), .val (.ref b1), .val (.ref b2), .val (.ref tok), .val (.int (1 : Int32)), .val (.int (1 : Int32))] [(.int (1 : Int32)), (.int (1 : Int32))]))
          refine own_via (fun tq kq => XS.icmpNo X7.here hx rfl (hb hby at_263) rfl (teq (rfl : (1 : Int32) = (1 : Int32))).2 kq) ?_
          show Ogo p e below _ (T7.setTop (mkF m 266 #[.val (.int p1), .val (.int p2), .val (.int p3), .val (.int p4), .val (.int p5), .val (.int p6), .val (.int zi1), .val (.int zi2), .val (.int ztl), .val (.int zwl), .val (.int (0 : Int32)), .val (.int t0), .val (.int t1), .val (.int d0), .val (.int d1), .val (.int w0), .val (.int w1), .val (.ref b1), .val (.ref b2), .val (.ref tok), .val (.int (1 : Int32)), .val (.int (1 : Int32))] []))
          refine own_via (fun tq kq => XS.iconst X7.here hx rfl (hb hby at_266) kq) ?_
          show Ogo p e below _ (T7.setTop (mkF m 267 #[.val (.int p1), .val (.int p2), .val (.int p3), .val (.int p4), .val (.int p5), .val (.int p6), .val (.int zi1), .val (.int zi2), .val (.int ztl), .val (.int zwl), .val (.int (0 : Int32)), .val (.int t0), .val (.int t1), .val (.int d0), .val (.int d1), .val (.int w0), .val (.int w1), .val (.ref b1), .val (.ref b2), .val (.ref tok), .val (.int (1 : Int32)), .val (.int (1 : Int32))] [(.int (1 : Int32))]))
          refine own_via (fun tq kq => XS.goto X7.here hx rfl (pc0 := 267) (pc' := 271) rfl (hb hby at_267) (by decide) (by decide) kq) ?_
          show Ogo p e below _ (T7.setTop (mkF m 271 #[.val (.int p1), .val (.int p2), .val (.int p3), .val (.int p4), .val (.int p5), .val (.int p6), .val (.int zi1), .val (.int zi2), .val (.int ztl), .val (.int zwl), .val (.int (0 : Int32)), .val (.int t0), .val (.int t1), .val (.int d0), .val (.int d1), .val (.int w0), .val (.int w1), .val (.ref b1), .val (.ref b2), .val (.ref tok), .val (.int (1 : Int32)), .val (.int (1 : Int32))] [(.int (1 : Int32))]))
          exact own_outW X7 hlk (fun h => by rw [hret] at h; cases h) (by decide) (by decide) hZ hEL hk7 hS CR (by first | exact ⟨rfl, N⟩ | (rw [hk7]; exact ⟨rfl, N⟩)) (fun fs hr => retN X7 hx (t := .boolean) hret (by simp) (hb hby at_271) hr)
        · refine own_via (fun tq kq => XS.icmpNo X7.here hx rfl (hb hby at_229) rfl (flt (hc229 : ¬ (ztl < (1 : Int32)))).1 kq) ?_
          show Ogo p e below _ (T7.setTop (mkF m 232 #[.val (.int p1), .val (.int p2), .val (.int p3), .val (.int p4), .val (.int p5), .val (.int p6), .val (.int zi1), .val (.int zi2), .val (.int ztl), .val (.int zwl), .val (.int (0 : Int32)), .val (.int t0), .val (.int t1), .val (.int d0), .val (.int d1), .val (.int w0), .val (.int w1), .val (.ref b1), .val (.ref b2), .val (.ref tok), .val (.int (1 : Int32)), .unset] []))
          refine own_via (fun tq kq => XS.iload X7.here hx rfl (hb hby at_232) rfl kq) ?_
          show Ogo p e below _ (T7.setTop (mkF m 234 #[.val (.int p1), .val (.int p2), .val (.int p3), .val (.int p4), .val (.int p5), .val (.int p6), .val (.int zi1), .val (.int zi2), .val (.int ztl), .val (.int zwl), .val (.int (0 : Int32)), .val (.int t0), .val (.int t1), .val (.int d0), .val (.int d1), .val (.int w0), .val (.int w1), .val (.ref b1), .val (.ref b2), .val (.ref tok), .val (.int (1 : Int32)), .unset] [(.int t0)]))
          refine own_via (fun tq kq => XS.iload X7.here hx rfl (hb hby at_234) rfl kq) ?_
          show Ogo p e below _ (T7.setTop (mkF m 236 #[.val (.int p1), .val (.int p2), .val (.int p3), .val (.int p4), .val (.int p5), .val (.int p6), .val (.int zi1), .val (.int zi2), .val (.int ztl), .val (.int zwl), .val (.int (0 : Int32)), .val (.int t0), .val (.int t1), .val (.int d0), .val (.int d1), .val (.int w0), .val (.int w1), .val (.ref b1), .val (.ref b2), .val (.ref tok), .val (.int (1 : Int32)), .unset] [(.int w0), (.int t0)]))
          refine own_via (fun tq kq => XS.icmpNo X7.here hx rfl (hb hby at_236) rfl (teq ((hsm.2.1 (by have := i_nlt' hc229; omega)) : t0 = w0)).2 kq) ?_
          show Ogo p e below _ (T7.setTop (mkF m 239 #[.val (.int p1), .val (.int p2), .val (.int p3), .val (.int p4), .val (.int p5), .val (.int p6), .val (.int zi1), .val (.int zi2), .val (.int ztl), .val (.int zwl), .val (.int (0 : Int32)), .val (.int t0), .val (.int t1), .val (.int d0), .val (.int d1), .val (.int w0), .val (.int w1), .val (.ref b1), .val (.ref b2), .val (.ref tok), .val (.int (1 : Int32)), .unset] []))
          refine own_via (fun tq kq => XS.iload X7.here hx rfl (hb hby at_239) rfl kq) ?_
          show Ogo p e below _ (T7.setTop (mkF m 241 #[.val (.int p1), .val (.int p2), .val (.int p3), .val (.int p4), .val (.int p5), .val (.int p6), .val (.int zi1), .val (.int zi2), .val (.int ztl), .val (.int zwl), .val (.int (0 : Int32)), .val (.int t0), .val (.int t1), .val (.int d0), .val (.int d1), .val (.int w0), .val (.int w1), .val (.ref b1), .val (.ref b2), .val (.ref tok), .val (.int (1 : Int32)), .unset] [(.int ztl)]))
          refine own_via (fun tq kq => XS.iconst X7.here hx rfl (hb hby at_241) kq) ?_
          show Ogo p e below _ (T7.setTop (mkF m 242 #[.val (.int p1), .val (.int p2), .val (.int p3), .val (.int p4), .val (.int p5), .val (.int p6), .val (.int zi1), .val (.int zi2), .val (.int ztl), .val (.int zwl), .val (.int (0 : Int32)), .val (.int t0), .val (.int t1), .val (.int d0), .val (.int d1), .val (.int w0), .val (.int w1), .val (.ref b1), .val (.ref b2), .val (.ref tok), .val (.int (1 : Int32)), .unset] [(.int (2 : Int32)), (.int ztl)]))
          by_cases hc242 : ztl < (2 : Int32)
          · refine own_via (fun tq kq => XS.icmpYes X7.here hx rfl (pc0 := 242) (pc' := 252) rfl (hb hby at_242) rfl (tlt (hc242 : ztl < (2 : Int32))).1 (by decide) (by decide) kq) ?_
            show Ogo p e below _ (T7.setTop (mkF m 252 #[.val (.int p1), .val (.int p2), .val (.int p3), .val (.int p4), .val (.int p5), .val (.int p6), .val (.int zi1), .val (.int zi2), .val (.int ztl), .val (.int zwl), .val (.int (0 : Int32)), .val (.int t0), .val (.int t1), .val (.int d0), .val (.int d1), .val (.int w0), .val (.int w1), .val (.ref b1), .val (.ref b2), .val (.ref tok), .val (.int (1 : Int32)), .unset] []))
            refine own_via (fun tq kq => XS.iconst X7.here hx rfl (hb hby at_252) kq) ?_
            show Ogo p e below _ (T7.setTop (mkF m 253 #[.val (.int p1), .val (.int p2), .val (.int p3), .val (.int p4), .val (.int p5), .val (.int p6), .val (.int zi1), .val (.int zi2), .val (.int ztl), .val (.int zwl), .val (.int (0 : Int32)), .val (.int t0), .val (.int t1), .val (.int d0), .val (.int d1), .val (.int w0), .val (.int w1), .val (.ref b1), .val (.ref b2), .val (.ref tok), .val (.int (1 : Int32)), .unset] [(.int (1 : Int32))]))
            refine own_via (fun tq kq => XS.goto X7.here hx rfl (pc0 := 253) (pc' := 257) rfl (hb hby at_253) (by decide) (by decide) kq) ?_
            show Ogo p e below _ (T7.setTop (mkF m 257 #[.val (.int p1), .val (.int p2), .val (.int p3), .val (.int p4), .val (.int p5), .val (.int p6), .val (.int zi1), .val (.int zi2), .val (.int ztl), .val (.int zwl), .val (.int (0 : Int32)), .val (.int t0), .val (.int t1), .val (.int d0), .val (.int d1), .val (.int w0), .val (.int w1), .val (.ref b1), .val (.ref b2), .val (.ref tok), .val (.int (1 : Int32)), .unset] [(.int (1 : Int32))]))
            refine own_via (fun tq kq => XS.istore X7.here hx rfl (hb hby at_257) rfl (l' := #[.val (.int p1), .val (.int p2), .val (.int p3), .val (.int p4), .val (.int p5), .val (.int p6), .val (.int zi1), .val (.int zi2), .val (.int ztl), .val (.int zwl), .val (.int (0 : Int32)), .val (.int t0), .val (.int t1), .val (.int d0), .val (.int d1), .val (.int w0), .val (.int w1), .val (.ref b1), .val (.ref b2), .val (.ref tok), .val (.int (1 : Int32)), .val (.int (1 : Int32))]) rfl kq) ?_
            show Ogo p e below _ (T7.setTop (mkF m 259 #[.val (.int p1), .val (.int p2), .val (.int p3), .val (.int p4), .val (.int p5), .val (.int p6), .val (.int zi1), .val (.int zi2), .val (.int ztl), .val (.int zwl), .val (.int (0 : Int32)), .val (.int t0), .val (.int t1), .val (.int d0), .val (.int d1), .val (.int w0), .val (.int w1), .val (.ref b1), .val (.ref b2), .val (.ref tok), .val (.int (1 : Int32)), .val (.int (1 : Int32))] []))
            refine own_via (fun tq kq => XS.iload X7.here hx rfl (hb hby at_259) rfl kq) ?_
            show Ogo p e below _ (T7.setTop (mkF m 261 #[.val (.int p1), .val (.int p2), .val (.int p3), .val (.int p4), .val (.int p5), .val (.int p6), .val (.int zi1), .val (.int zi2), .val (.int ztl), .val (.int zwl), .val (.int (0 : Int32)), .val (.int t0), .val (.int t1), .val (.int d0), .val (.int d1), .val (.int w0), .val (.int w1), .val (.ref b1), .val (.ref b2), .val (.ref tok), .val (.int (1 : Int32)), .val (.int (1 : Int32))] [(.int (1 : Int32))]))
            refine own_via (fun tq kq => XS.iload X7.here hx rfl (hb hby at_261) rfl kq) ?_
            show Ogo p e below _ (T7.setTop (mkF m 263 #[.val (.int p1), .val (.int p2), .val (.int p3), .val (.int p4), .val (.int p5), .val (.int p6), .val (.int zi1), .val (.int zi2), .val (.int ztl), .val (.int zwl), .val (.int (0 : Int32)), .val (.int t0), .val (.int t1), .val (.int d0), .val (.int d1), .val (.int w0), .val (.int w1), .val (.ref b1), .val (.ref b2), .val (.ref tok), .val (.int (1 : Int32)), .val (.int (1 : Int32))] [(.int (1 : Int32)), (.int (1 : Int32))]))
            refine own_via (fun tq kq => XS.icmpNo X7.here hx rfl (hb hby at_263) rfl (teq (rfl : (1 : Int32) = (1 : Int32))).2 kq) ?_
            show Ogo p e below _ (T7.setTop (mkF m 266 #[.val (.int p1), .val (.int p2), .val (.int p3), .val (.int p4), .val (.int p5), .val (.int p6), .val (.int zi1), .val (.int zi2), .val (.int ztl), .val (.int zwl), .val (.int (0 : Int32)), .val (.int t0), .val (.int t1), .val (.int d0), .val (.int d1), .val (.int w0), .val (.int w1), .val (.ref b1), .val (.ref b2), .val (.ref tok), .val (.int (1 : Int32)), .val (.int (1 : Int32))] []))
            refine own_via (fun tq kq => XS.iconst X7.here hx rfl (hb hby at_266) kq) ?_
            show Ogo p e below _ (T7.setTop (mkF m 267 #[.val (.int p1), .val (.int p2), .val (.int p3), .val (.int p4), .val (.int p5), .val (.int p6), .val (.int zi1), .val (.int zi2), .val (.int ztl), .val (.int zwl), .val (.int (0 : Int32)), .val (.int t0), .val (.int t1), .val (.int d0), .val (.int d1), .val (.int w0), .val (.int w1), .val (.ref b1), .val (.ref b2), .val (.ref tok), .val (.int (1 : Int32)), .val (.int (1 : Int32))] [(.int (1 : Int32))]))
            refine own_via (fun tq kq => XS.goto X7.here hx rfl (pc0 := 267) (pc' := 271) rfl (hb hby at_267) (by decide) (by decide) kq) ?_
            show Ogo p e below _ (T7.setTop (mkF m 271 #[.val (.int p1), .val (.int p2), .val (.int p3), .val (.int p4), .val (.int p5), .val (.int p6), .val (.int zi1), .val (.int zi2), .val (.int ztl), .val (.int zwl), .val (.int (0 : Int32)), .val (.int t0), .val (.int t1), .val (.int d0), .val (.int d1), .val (.int w0), .val (.int w1), .val (.ref b1), .val (.ref b2), .val (.ref tok), .val (.int (1 : Int32)), .val (.int (1 : Int32))] [(.int (1 : Int32))]))
            exact own_outW X7 hlk (fun h => by rw [hret] at h; cases h) (by decide) (by decide) hZ hEL hk7 hS CR (by first | exact ⟨rfl, N⟩ | (rw [hk7]; exact ⟨rfl, N⟩)) (fun fs hr => retN X7 hx (t := .boolean) hret (by simp) (hb hby at_271) hr)
          · refine own_via (fun tq kq => XS.icmpNo X7.here hx rfl (hb hby at_242) rfl (flt (hc242 : ¬ (ztl < (2 : Int32)))).1 kq) ?_
            show Ogo p e below _ (T7.setTop (mkF m 245 #[.val (.int p1), .val (.int p2), .val (.int p3), .val (.int p4), .val (.int p5), .val (.int p6), .val (.int zi1), .val (.int zi2), .val (.int ztl), .val (.int zwl), .val (.int (0 : Int32)), .val (.int t0), .val (.int t1), .val (.int d0), .val (.int d1), .val (.int w0), .val (.int w1), .val (.ref b1), .val (.ref b2), .val (.ref tok), .val (.int (1 : Int32)), .unset] []))
            refine own_via (fun tq kq => XS.iload X7.here hx rfl (hb hby at_245) rfl kq) ?_
            show Ogo p e below _ (T7.setTop (mkF m 247 #[.val (.int p1), .val (.int p2), .val (.int p3), .val (.int p4), .val (.int p5), .val (.int p6), .val (.int zi1), .val (.int zi2), .val (.int ztl), .val (.int zwl), .val (.int (0 : Int32)), .val (.int t0), .val (.int t1), .val (.int d0), .val (.int d1), .val (.int w0), .val (.int w1), .val (.ref b1), .val (.ref b2), .val (.ref tok), .val (.int (1 : Int32)), .unset] [(.int t1)]))
            refine own_via (fun tq kq => XS.iload X7.here hx rfl (hb hby at_247) rfl kq) ?_
            show Ogo p e below _ (T7.setTop (mkF m 249 #[.val (.int p1), .val (.int p2), .val (.int p3), .val (.int p4), .val (.int p5), .val (.int p6), .val (.int zi1), .val (.int zi2), .val (.int ztl), .val (.int zwl), .val (.int (0 : Int32)), .val (.int t0), .val (.int t1), .val (.int d0), .val (.int d1), .val (.int w0), .val (.int w1), .val (.ref b1), .val (.ref b2), .val (.ref tok), .val (.int (1 : Int32)), .unset] [(.int w1), (.int t1)]))
            refine own_via (fun tq kq => XS.icmpNo X7.here hx rfl (hb hby at_249) rfl (teq ((hsm.2.2 (by have := i_nlt' hc242; omega)) : t1 = w1)).2 kq) ?_
            show Ogo p e below _ (T7.setTop (mkF m 252 #[.val (.int p1), .val (.int p2), .val (.int p3), .val (.int p4), .val (.int p5), .val (.int p6), .val (.int zi1), .val (.int zi2), .val (.int ztl), .val (.int zwl), .val (.int (0 : Int32)), .val (.int t0), .val (.int t1), .val (.int d0), .val (.int d1), .val (.int w0), .val (.int w1), .val (.ref b1), .val (.ref b2), .val (.ref tok), .val (.int (1 : Int32)), .unset] []))
            refine own_via (fun tq kq => XS.iconst X7.here hx rfl (hb hby at_252) kq) ?_
            show Ogo p e below _ (T7.setTop (mkF m 253 #[.val (.int p1), .val (.int p2), .val (.int p3), .val (.int p4), .val (.int p5), .val (.int p6), .val (.int zi1), .val (.int zi2), .val (.int ztl), .val (.int zwl), .val (.int (0 : Int32)), .val (.int t0), .val (.int t1), .val (.int d0), .val (.int d1), .val (.int w0), .val (.int w1), .val (.ref b1), .val (.ref b2), .val (.ref tok), .val (.int (1 : Int32)), .unset] [(.int (1 : Int32))]))
            refine own_via (fun tq kq => XS.goto X7.here hx rfl (pc0 := 253) (pc' := 257) rfl (hb hby at_253) (by decide) (by decide) kq) ?_
            show Ogo p e below _ (T7.setTop (mkF m 257 #[.val (.int p1), .val (.int p2), .val (.int p3), .val (.int p4), .val (.int p5), .val (.int p6), .val (.int zi1), .val (.int zi2), .val (.int ztl), .val (.int zwl), .val (.int (0 : Int32)), .val (.int t0), .val (.int t1), .val (.int d0), .val (.int d1), .val (.int w0), .val (.int w1), .val (.ref b1), .val (.ref b2), .val (.ref tok), .val (.int (1 : Int32)), .unset] [(.int (1 : Int32))]))
            refine own_via (fun tq kq => XS.istore X7.here hx rfl (hb hby at_257) rfl (l' := #[.val (.int p1), .val (.int p2), .val (.int p3), .val (.int p4), .val (.int p5), .val (.int p6), .val (.int zi1), .val (.int zi2), .val (.int ztl), .val (.int zwl), .val (.int (0 : Int32)), .val (.int t0), .val (.int t1), .val (.int d0), .val (.int d1), .val (.int w0), .val (.int w1), .val (.ref b1), .val (.ref b2), .val (.ref tok), .val (.int (1 : Int32)), .val (.int (1 : Int32))]) rfl kq) ?_
            show Ogo p e below _ (T7.setTop (mkF m 259 #[.val (.int p1), .val (.int p2), .val (.int p3), .val (.int p4), .val (.int p5), .val (.int p6), .val (.int zi1), .val (.int zi2), .val (.int ztl), .val (.int zwl), .val (.int (0 : Int32)), .val (.int t0), .val (.int t1), .val (.int d0), .val (.int d1), .val (.int w0), .val (.int w1), .val (.ref b1), .val (.ref b2), .val (.ref tok), .val (.int (1 : Int32)), .val (.int (1 : Int32))] []))
            refine own_via (fun tq kq => XS.iload X7.here hx rfl (hb hby at_259) rfl kq) ?_
            show Ogo p e below _ (T7.setTop (mkF m 261 #[.val (.int p1), .val (.int p2), .val (.int p3), .val (.int p4), .val (.int p5), .val (.int p6), .val (.int zi1), .val (.int zi2), .val (.int ztl), .val (.int zwl), .val (.int (0 : Int32)), .val (.int t0), .val (.int t1), .val (.int d0), .val (.int d1), .val (.int w0), .val (.int w1), .val (.ref b1), .val (.ref b2), .val (.ref tok), .val (.int (1 : Int32)), .val (.int (1 : Int32))] [(.int (1 : Int32))]))
            refine own_via (fun tq kq => XS.iload X7.here hx rfl (hb hby at_261) rfl kq) ?_
            show Ogo p e below _ (T7.setTop (mkF m 263 #[.val (.int p1), .val (.int p2), .val (.int p3), .val (.int p4), .val (.int p5), .val (.int p6), .val (.int zi1), .val (.int zi2), .val (.int ztl), .val (.int zwl), .val (.int (0 : Int32)), .val (.int t0), .val (.int t1), .val (.int d0), .val (.int d1), .val (.int w0), .val (.int w1), .val (.ref b1), .val (.ref b2), .val (.ref tok), .val (.int (1 : Int32)), .val (.int (1 : Int32))] [(.int (1 : Int32)), (.int (1 : Int32))]))
            refine own_via (fun tq kq => XS.icmpNo X7.here hx rfl (hb hby at_263) rfl (teq (rfl : (1 : Int32) = (1 : Int32))).2 kq) ?_
            show Ogo p e below _ (T7.setTop (mkF m 266 #[.val (.int p1), .val (.int p2), .val (.int p3), .val (.int p4), .val (.int p5), .val (.int p6), .val (.int zi1), .val (.int zi2), .val (.int ztl), .val (.int zwl), .val (.int (0 : Int32)), .val (.int t0), .val (.int t1), .val (.int d0), .val (.int d1), .val (.int w0), .val (.int w1), .val (.ref b1), .val (.ref b2), .val (.ref tok), .val (.int (1 : Int32)), .val (.int (1 : Int32))] []))
            refine own_via (fun tq kq => XS.iconst X7.here hx rfl (hb hby at_266) kq) ?_
            show Ogo p e below _ (T7.setTop (mkF m 267 #[.val (.int p1), .val (.int p2), .val (.int p3), .val (.int p4), .val (.int p5), .val (.int p6), .val (.int zi1), .val (.int zi2), .val (.int ztl), .val (.int zwl), .val (.int (0 : Int32)), .val (.int t0), .val (.int t1), .val (.int d0), .val (.int d1), .val (.int w0), .val (.int w1), .val (.ref b1), .val (.ref b2), .val (.ref tok), .val (.int (1 : Int32)), .val (.int (1 : Int32))] [(.int (1 : Int32))]))
            refine own_via (fun tq kq => XS.goto X7.here hx rfl (pc0 := 267) (pc' := 271) rfl (hb hby at_267) (by decide) (by decide) kq) ?_
            show Ogo p e below _ (T7.setTop (mkF m 271 #[.val (.int p1), .val (.int p2), .val (.int p3), .val (.int p4), .val (.int p5), .val (.int p6), .val (.int zi1), .val (.int zi2), .val (.int ztl), .val (.int zwl), .val (.int (0 : Int32)), .val (.int t0), .val (.int t1), .val (.int d0), .val (.int d1), .val (.int w0), .val (.int w1), .val (.ref b1), .val (.ref b2), .val (.ref tok), .val (.int (1 : Int32)), .val (.int (1 : Int32))] [(.int (1 : Int32))]))
            exact own_outW X7 hlk (fun h => by rw [hret] at h; cases h) (by decide) (by decide) hZ hEL hk7 hS CR (by first | exact ⟨rfl, N⟩ | (rw [hk7]; exact ⟨rfl, N⟩)) (fun fs hr => retN X7 hx (t := .boolean) hret (by simp) (hb hby at_271) hr)
      · show Ogo p e below _ (T7.setTop (mkF m 205 #[.val (.int p1), .val (.int p2), .val (.int p3), .val (.int p4), .val (.int p5), .val (.int p6), .val (.int zi1), .val (.int zi2), .val (.int ztl), .val (.int zwl), .val (.int (0 : Int32)), .val (.int t0), .val (.int t1), .val (.int d0), .val (.int d1), .val (.int w0), .val (.int w1), .val (.ref b1), .val (.ref b2), .val (.ref tok), .unset, .unset] [(.int (0 : Int32))]))
        refine own_via (fun tq kq => XS.istore X7.here hx rfl (hb hby at_205) rfl (l' := #[.val (.int p1), .val (.int p2), .val (.int p3), .val (.int p4), .val (.int p5), .val (.int p6), .val (.int zi1), .val (.int zi2), .val (.int ztl), .val (.int zwl), .val (.int (0 : Int32)), .val (.int t0), .val (.int t1), .val (.int d0), .val (.int d1), .val (.int w0), .val (.int w1), .val (.ref b1), .val (.ref b2), .val (.ref tok), .val (.int (0 : Int32)), .unset]) rfl kq) ?_
        show Ogo p e below _ (T7.setTop (mkF m 207 #[.val (.int p1), .val (.int p2), .val (.int p3), .val (.int p4), .val (.int p5), .val (.int p6), .val (.int zi1), .val (.int zi2), .val (.int ztl), .val (.int zwl), .val (.int (0 : Int32)), .val (.int t0), .val (.int t1), .val (.int d0), .val (.int d1), .val (.int w0), .val (.int w1), .val (.ref b1), .val (.ref b2), .val (.ref tok), .val (.int (0 : Int32)), .unset] []))
        refine own_via (fun tq kq => XS.iload X7.here hx rfl (hb hby at_207) rfl kq) ?_
        show Ogo p e below _ (T7.setTop (mkF m 209 #[.val (.int p1), .val (.int p2), .val (.int p3), .val (.int p4), .val (.int p5), .val (.int p6), .val (.int zi1), .val (.int zi2), .val (.int ztl), .val (.int zwl), .val (.int (0 : Int32)), .val (.int t0), .val (.int t1), .val (.int d0), .val (.int d1), .val (.int w0), .val (.int w1), .val (.ref b1), .val (.ref b2), .val (.ref tok), .val (.int (0 : Int32)), .unset] [(.int (0 : Int32))]))
        refine own_via (fun tq kq => XS.ifNo X7.here hx rfl (hb hby at_209) rfl ((if0 _ _).trans (teq (rfl : (0 : Int32) = (0 : Int32))).2) kq) ?_
        show Ogo p e below _ (T7.setTop (mkF m 212 #[.val (.int p1), .val (.int p2), .val (.int p3), .val (.int p4), .val (.int p5), .val (.int p6), .val (.int zi1), .val (.int zi2), .val (.int ztl), .val (.int zwl), .val (.int (0 : Int32)), .val (.int t0), .val (.int t1), .val (.int d0), .val (.int d1), .val (.int w0), .val (.int w1), .val (.ref b1), .val (.ref b2), .val (.ref tok), .val (.int (0 : Int32)), .unset] []))
        refine own_via (fun tq kq => XS.iload X7.here hx rfl (hb hby at_212) rfl kq) ?_
        show Ogo p e below _ (T7.setTop (mkF m 214 #[.val (.int p1), .val (.int p2), .val (.int p3), .val (.int p4), .val (.int p5), .val (.int p6), .val (.int zi1), .val (.int zi2), .val (.int ztl), .val (.int zwl), .val (.int (0 : Int32)), .val (.int t0), .val (.int t1), .val (.int d0), .val (.int d1), .val (.int w0), .val (.int w1), .val (.ref b1), .val (.ref b2), .val (.ref tok), .val (.int (0 : Int32)), .unset] [(.int zi1)]))
        refine own_via (fun tq kq => XS.iload X7.here hx rfl (hb hby at_214) rfl kq) ?_
        show Ogo p e below _ (T7.setTop (mkF m 216 #[.val (.int p1), .val (.int p2), .val (.int p3), .val (.int p4), .val (.int p5), .val (.int p6), .val (.int zi1), .val (.int zi2), .val (.int ztl), .val (.int zwl), .val (.int (0 : Int32)), .val (.int t0), .val (.int t1), .val (.int d0), .val (.int d1), .val (.int w0), .val (.int w1), .val (.ref b1), .val (.ref b2), .val (.ref tok), .val (.int (0 : Int32)), .unset] [(.int zi2), (.int zi1)]))
        by_cases hc216 : zi1 = zi2
        · refine own_via (fun tq kq => XS.icmpNo X7.here hx rfl (hb hby at_216) rfl (teq (hc216 : zi1 = zi2)).2 kq) ?_
          show Ogo p e below _ (T7.setTop (mkF m 219 #[.val (.int p1), .val (.int p2), .val (.int p3), .val (.int p4), .val (.int p5), .val (.int p6), .val (.int zi1), .val (.int zi2), .val (.int ztl), .val (.int zwl), .val (.int (0 : Int32)), .val (.int t0), .val (.int t1), .val (.int d0), .val (.int d1), .val (.int w0), .val (.int w1), .val (.ref b1), .val (.ref b2), .val (.ref tok), .val (.int (0 : Int32)), .unset] []))
          refine own_via (fun tq kq => XS.iload X7.here hx rfl (hb hby at_219) rfl kq) ?_
          show Ogo p e below _ (T7.setTop (mkF m 221 #[.val (.int p1), .val (.int p2), .val (.int p3), .val (.int p4), .val (.int p5), .val (.int p6), .val (.int zi1), .val (.int zi2), .val (.int ztl), .val (.int zwl), .val (.int (0 : Int32)), .val (.int t0), .val (.int t1), .val (.int d0), .val (.int d1), .val (.int w0), .val (.int w1), .val (.ref b1), .val (.ref b2), .val (.ref tok), .val (.int (0 : Int32)), .unset] [(.int ztl)]))
          refine own_via (fun tq kq => XS.iload X7.here hx rfl (hb hby at_221) rfl kq) ?_
          show Ogo p e below _ (T7.setTop (mkF m 223 #[.val (.int p1), .val (.int p2), .val (.int p3), .val (.int p4), .val (.int p5), .val (.int p6), .val (.int zi1), .val (.int zi2), .val (.int ztl), .val (.int zwl), .val (.int (0 : Int32)), .val (.int t0), .val (.int t1), .val (.int d0), .val (.int d1), .val (.int w0), .val (.int w1), .val (.ref b1), .val (.ref b2), .val (.ref tok), .val (.int (0 : Int32)), .unset] [(.int zwl), (.int ztl)]))
          by_cases hc223 : ztl = zwl
          · refine own_via (fun tq kq => XS.icmpNo X7.here hx rfl (hb hby at_223) rfl (teq (hc223 : ztl = zwl)).2 kq) ?_
            show Ogo p e below _ (T7.setTop (mkF m 226 #[.val (.int p1), .val (.int p2), .val (.int p3), .val (.int p4), .val (.int p5), .val (.int p6), .val (.int zi1), .val (.int zi2), .val (.int ztl), .val (.int zwl), .val (.int (0 : Int32)), .val (.int t0), .val (.int t1), .val (.int d0), .val (.int d1), .val (.int w0), .val (.int w1), .val (.ref b1), .val (.ref b2), .val (.ref tok), .val (.int (0 : Int32)), .unset] []))
            refine own_via (fun tq kq => XS.iload X7.here hx rfl (hb hby at_226) rfl kq) ?_
            show Ogo p e below _ (T7.setTop (mkF m 228 #[.val (.int p1), .val (.int p2), .val (.int p3), .val (.int p4), .val (.int p5), .val (.int p6), .val (.int zi1), .val (.int zi2), .val (.int ztl), .val (.int zwl), .val (.int (0 : Int32)), .val (.int t0), .val (.int t1), .val (.int d0), .val (.int d1), .val (.int w0), .val (.int w1), .val (.ref b1), .val (.ref b2), .val (.ref tok), .val (.int (0 : Int32)), .unset] [(.int ztl)]))
            refine own_via (fun tq kq => XS.iconst X7.here hx rfl (hb hby at_228) kq) ?_
            show Ogo p e below _ (T7.setTop (mkF m 229 #[.val (.int p1), .val (.int p2), .val (.int p3), .val (.int p4), .val (.int p5), .val (.int p6), .val (.int zi1), .val (.int zi2), .val (.int ztl), .val (.int zwl), .val (.int (0 : Int32)), .val (.int t0), .val (.int t1), .val (.int d0), .val (.int d1), .val (.int w0), .val (.int w1), .val (.ref b1), .val (.ref b2), .val (.ref tok), .val (.int (0 : Int32)), .unset] [(.int (1 : Int32)), (.int ztl)]))
            by_cases hc229 : ztl < (1 : Int32)
            · refine own_via (fun tq kq => XS.icmpYes X7.here hx rfl (pc0 := 229) (pc' := 239) rfl (hb hby at_229) rfl (tlt (hc229 : ztl < (1 : Int32))).1 (by decide) (by decide) kq) ?_
              show Ogo p e below _ (T7.setTop (mkF m 239 #[.val (.int p1), .val (.int p2), .val (.int p3), .val (.int p4), .val (.int p5), .val (.int p6), .val (.int zi1), .val (.int zi2), .val (.int ztl), .val (.int zwl), .val (.int (0 : Int32)), .val (.int t0), .val (.int t1), .val (.int d0), .val (.int d1), .val (.int w0), .val (.int w1), .val (.ref b1), .val (.ref b2), .val (.ref tok), .val (.int (0 : Int32)), .unset] []))
              exact absurd (⟨by have e1 : i1 = i2 := (by have := congrArg Int32.toInt hc216; omega); rw [e1], (by have := congrArg Int32.toInt hc223; omega), fun q => absurd q (by have := i_lt' hc229; omega), fun q => absurd q (by have := i_lt' hc229; omega)⟩) hns
            · refine own_via (fun tq kq => XS.icmpNo X7.here hx rfl (hb hby at_229) rfl (flt (hc229 : ¬ (ztl < (1 : Int32)))).1 kq) ?_
              show Ogo p e below _ (T7.setTop (mkF m 232 #[.val (.int p1), .val (.int p2), .val (.int p3), .val (.int p4), .val (.int p5), .val (.int p6), .val (.int zi1), .val (.int zi2), .val (.int ztl), .val (.int zwl), .val (.int (0 : Int32)), .val (.int t0), .val (.int t1), .val (.int d0), .val (.int d1), .val (.int w0), .val (.int w1), .val (.ref b1), .val (.ref b2), .val (.ref tok), .val (.int (0 : Int32)), .unset] []))
              refine own_via (fun tq kq => XS.iload X7.here hx rfl (hb hby at_232) rfl kq) ?_
              show Ogo p e below _ (T7.setTop (mkF m 234 #[.val (.int p1), .val (.int p2), .val (.int p3), .val (.int p4), .val (.int p5), .val (.int p6), .val (.int zi1), .val (.int zi2), .val (.int ztl), .val (.int zwl), .val (.int (0 : Int32)), .val (.int t0), .val (.int t1), .val (.int d0), .val (.int d1), .val (.int w0), .val (.int w1), .val (.ref b1), .val (.ref b2), .val (.ref tok), .val (.int (0 : Int32)), .unset] [(.int t0)]))
              refine own_via (fun tq kq => XS.iload X7.here hx rfl (hb hby at_234) rfl kq) ?_
              show Ogo p e below _ (T7.setTop (mkF m 236 #[.val (.int p1), .val (.int p2), .val (.int p3), .val (.int p4), .val (.int p5), .val (.int p6), .val (.int zi1), .val (.int zi2), .val (.int ztl), .val (.int zwl), .val (.int (0 : Int32)), .val (.int t0), .val (.int t1), .val (.int d0), .val (.int d1), .val (.int w0), .val (.int w1), .val (.ref b1), .val (.ref b2), .val (.ref tok), .val (.int (0 : Int32)), .unset] [(.int w0), (.int t0)]))
              by_cases hc236 : t0 = w0
              · refine own_via (fun tq kq => XS.icmpNo X7.here hx rfl (hb hby at_236) rfl (teq (hc236 : t0 = w0)).2 kq) ?_
                show Ogo p e below _ (T7.setTop (mkF m 239 #[.val (.int p1), .val (.int p2), .val (.int p3), .val (.int p4), .val (.int p5), .val (.int p6), .val (.int zi1), .val (.int zi2), .val (.int ztl), .val (.int zwl), .val (.int (0 : Int32)), .val (.int t0), .val (.int t1), .val (.int d0), .val (.int d1), .val (.int w0), .val (.int w1), .val (.ref b1), .val (.ref b2), .val (.ref tok), .val (.int (0 : Int32)), .unset] []))
                refine own_via (fun tq kq => XS.iload X7.here hx rfl (hb hby at_239) rfl kq) ?_
                show Ogo p e below _ (T7.setTop (mkF m 241 #[.val (.int p1), .val (.int p2), .val (.int p3), .val (.int p4), .val (.int p5), .val (.int p6), .val (.int zi1), .val (.int zi2), .val (.int ztl), .val (.int zwl), .val (.int (0 : Int32)), .val (.int t0), .val (.int t1), .val (.int d0), .val (.int d1), .val (.int w0), .val (.int w1), .val (.ref b1), .val (.ref b2), .val (.ref tok), .val (.int (0 : Int32)), .unset] [(.int ztl)]))
                refine own_via (fun tq kq => XS.iconst X7.here hx rfl (hb hby at_241) kq) ?_
                show Ogo p e below _ (T7.setTop (mkF m 242 #[.val (.int p1), .val (.int p2), .val (.int p3), .val (.int p4), .val (.int p5), .val (.int p6), .val (.int zi1), .val (.int zi2), .val (.int ztl), .val (.int zwl), .val (.int (0 : Int32)), .val (.int t0), .val (.int t1), .val (.int d0), .val (.int d1), .val (.int w0), .val (.int w1), .val (.ref b1), .val (.ref b2), .val (.ref tok), .val (.int (0 : Int32)), .unset] [(.int (2 : Int32)), (.int ztl)]))
                by_cases hc242 : ztl < (2 : Int32)
                · refine own_via (fun tq kq => XS.icmpYes X7.here hx rfl (pc0 := 242) (pc' := 252) rfl (hb hby at_242) rfl (tlt (hc242 : ztl < (2 : Int32))).1 (by decide) (by decide) kq) ?_
                  show Ogo p e below _ (T7.setTop (mkF m 252 #[.val (.int p1), .val (.int p2), .val (.int p3), .val (.int p4), .val (.int p5), .val (.int p6), .val (.int zi1), .val (.int zi2), .val (.int ztl), .val (.int zwl), .val (.int (0 : Int32)), .val (.int t0), .val (.int t1), .val (.int d0), .val (.int d1), .val (.int w0), .val (.int w1), .val (.ref b1), .val (.ref b2), .val (.ref tok), .val (.int (0 : Int32)), .unset] []))
                  exact absurd (⟨by have e1 : i1 = i2 := (by have := congrArg Int32.toInt hc216; omega); rw [e1], (by have := congrArg Int32.toInt hc223; omega), fun _ => hc236, fun q => absurd q (by have := i_lt' hc242; omega)⟩) hns
                · refine own_via (fun tq kq => XS.icmpNo X7.here hx rfl (hb hby at_242) rfl (flt (hc242 : ¬ (ztl < (2 : Int32)))).1 kq) ?_
                  show Ogo p e below _ (T7.setTop (mkF m 245 #[.val (.int p1), .val (.int p2), .val (.int p3), .val (.int p4), .val (.int p5), .val (.int p6), .val (.int zi1), .val (.int zi2), .val (.int ztl), .val (.int zwl), .val (.int (0 : Int32)), .val (.int t0), .val (.int t1), .val (.int d0), .val (.int d1), .val (.int w0), .val (.int w1), .val (.ref b1), .val (.ref b2), .val (.ref tok), .val (.int (0 : Int32)), .unset] []))
                  refine own_via (fun tq kq => XS.iload X7.here hx rfl (hb hby at_245) rfl kq) ?_
                  show Ogo p e below _ (T7.setTop (mkF m 247 #[.val (.int p1), .val (.int p2), .val (.int p3), .val (.int p4), .val (.int p5), .val (.int p6), .val (.int zi1), .val (.int zi2), .val (.int ztl), .val (.int zwl), .val (.int (0 : Int32)), .val (.int t0), .val (.int t1), .val (.int d0), .val (.int d1), .val (.int w0), .val (.int w1), .val (.ref b1), .val (.ref b2), .val (.ref tok), .val (.int (0 : Int32)), .unset] [(.int t1)]))
                  refine own_via (fun tq kq => XS.iload X7.here hx rfl (hb hby at_247) rfl kq) ?_
                  show Ogo p e below _ (T7.setTop (mkF m 249 #[.val (.int p1), .val (.int p2), .val (.int p3), .val (.int p4), .val (.int p5), .val (.int p6), .val (.int zi1), .val (.int zi2), .val (.int ztl), .val (.int zwl), .val (.int (0 : Int32)), .val (.int t0), .val (.int t1), .val (.int d0), .val (.int d1), .val (.int w0), .val (.int w1), .val (.ref b1), .val (.ref b2), .val (.ref tok), .val (.int (0 : Int32)), .unset] [(.int w1), (.int t1)]))
                  by_cases hc249 : t1 = w1
                  · refine own_via (fun tq kq => XS.icmpNo X7.here hx rfl (hb hby at_249) rfl (teq (hc249 : t1 = w1)).2 kq) ?_
                    show Ogo p e below _ (T7.setTop (mkF m 252 #[.val (.int p1), .val (.int p2), .val (.int p3), .val (.int p4), .val (.int p5), .val (.int p6), .val (.int zi1), .val (.int zi2), .val (.int ztl), .val (.int zwl), .val (.int (0 : Int32)), .val (.int t0), .val (.int t1), .val (.int d0), .val (.int d1), .val (.int w0), .val (.int w1), .val (.ref b1), .val (.ref b2), .val (.ref tok), .val (.int (0 : Int32)), .unset] []))
                    exact absurd (⟨by have e1 : i1 = i2 := (by have := congrArg Int32.toInt hc216; omega); rw [e1], (by have := congrArg Int32.toInt hc223; omega), fun _ => hc236, fun _ => hc249⟩) hns
                  · refine own_via (fun tq kq => XS.icmpYes X7.here hx rfl (pc0 := 249) (pc' := 256) rfl (hb hby at_249) rfl (feq (hc249 : ¬ (t1 = w1))).2 (by decide) (by decide) kq) ?_
                    show Ogo p e below _ (T7.setTop (mkF m 256 #[.val (.int p1), .val (.int p2), .val (.int p3), .val (.int p4), .val (.int p5), .val (.int p6), .val (.int zi1), .val (.int zi2), .val (.int ztl), .val (.int zwl), .val (.int (0 : Int32)), .val (.int t0), .val (.int t1), .val (.int d0), .val (.int d1), .val (.int w0), .val (.int w1), .val (.ref b1), .val (.ref b2), .val (.ref tok), .val (.int (0 : Int32)), .unset] []))
                    refine own_via (fun tq kq => XS.iconst X7.here hx rfl (hb hby at_256) kq) ?_
                    show Ogo p e below _ (T7.setTop (mkF m 257 #[.val (.int p1), .val (.int p2), .val (.int p3), .val (.int p4), .val (.int p5), .val (.int p6), .val (.int zi1), .val (.int zi2), .val (.int ztl), .val (.int zwl), .val (.int (0 : Int32)), .val (.int t0), .val (.int t1), .val (.int d0), .val (.int d1), .val (.int w0), .val (.int w1), .val (.ref b1), .val (.ref b2), .val (.ref tok), .val (.int (0 : Int32)), .unset] [(.int (0 : Int32))]))
                    refine own_via (fun tq kq => XS.istore X7.here hx rfl (hb hby at_257) rfl (l' := #[.val (.int p1), .val (.int p2), .val (.int p3), .val (.int p4), .val (.int p5), .val (.int p6), .val (.int zi1), .val (.int zi2), .val (.int ztl), .val (.int zwl), .val (.int (0 : Int32)), .val (.int t0), .val (.int t1), .val (.int d0), .val (.int d1), .val (.int w0), .val (.int w1), .val (.ref b1), .val (.ref b2), .val (.ref tok), .val (.int (0 : Int32)), .val (.int (0 : Int32))]) rfl kq) ?_
                    show Ogo p e below _ (T7.setTop (mkF m 259 #[.val (.int p1), .val (.int p2), .val (.int p3), .val (.int p4), .val (.int p5), .val (.int p6), .val (.int zi1), .val (.int zi2), .val (.int ztl), .val (.int zwl), .val (.int (0 : Int32)), .val (.int t0), .val (.int t1), .val (.int d0), .val (.int d1), .val (.int w0), .val (.int w1), .val (.ref b1), .val (.ref b2), .val (.ref tok), .val (.int (0 : Int32)), .val (.int (0 : Int32))] []))
                    refine own_via (fun tq kq => XS.iload X7.here hx rfl (hb hby at_259) rfl kq) ?_
                    show Ogo p e below _ (T7.setTop (mkF m 261 #[.val (.int p1), .val (.int p2), .val (.int p3), .val (.int p4), .val (.int p5), .val (.int p6), .val (.int zi1), .val (.int zi2), .val (.int ztl), .val (.int zwl), .val (.int (0 : Int32)), .val (.int t0), .val (.int t1), .val (.int d0), .val (.int d1), .val (.int w0), .val (.int w1), .val (.ref b1), .val (.ref b2), .val (.ref tok), .val (.int (0 : Int32)), .val (.int (0 : Int32))] [(.int (0 : Int32))]))
                    refine own_via (fun tq kq => XS.iload X7.here hx rfl (hb hby at_261) rfl kq) ?_
                    show Ogo p e below _ (T7.setTop (mkF m 263 #[.val (.int p1), .val (.int p2), .val (.int p3), .val (.int p4), .val (.int p5), .val (.int p6), .val (.int zi1), .val (.int zi2), .val (.int ztl), .val (.int zwl), .val (.int (0 : Int32)), .val (.int t0), .val (.int t1), .val (.int d0), .val (.int d1), .val (.int w0), .val (.int w1), .val (.ref b1), .val (.ref b2), .val (.ref tok), .val (.int (0 : Int32)), .val (.int (0 : Int32))] [(.int (0 : Int32)), (.int (0 : Int32))]))
                    refine own_via (fun tq kq => XS.icmpNo X7.here hx rfl (hb hby at_263) rfl (teq (rfl : (0 : Int32) = (0 : Int32))).2 kq) ?_
                    show Ogo p e below _ (T7.setTop (mkF m 266 #[.val (.int p1), .val (.int p2), .val (.int p3), .val (.int p4), .val (.int p5), .val (.int p6), .val (.int zi1), .val (.int zi2), .val (.int ztl), .val (.int zwl), .val (.int (0 : Int32)), .val (.int t0), .val (.int t1), .val (.int d0), .val (.int d1), .val (.int w0), .val (.int w1), .val (.ref b1), .val (.ref b2), .val (.ref tok), .val (.int (0 : Int32)), .val (.int (0 : Int32))] []))
                    refine own_via (fun tq kq => XS.iconst X7.here hx rfl (hb hby at_266) kq) ?_
                    show Ogo p e below _ (T7.setTop (mkF m 267 #[.val (.int p1), .val (.int p2), .val (.int p3), .val (.int p4), .val (.int p5), .val (.int p6), .val (.int zi1), .val (.int zi2), .val (.int ztl), .val (.int zwl), .val (.int (0 : Int32)), .val (.int t0), .val (.int t1), .val (.int d0), .val (.int d1), .val (.int w0), .val (.int w1), .val (.ref b1), .val (.ref b2), .val (.ref tok), .val (.int (0 : Int32)), .val (.int (0 : Int32))] [(.int (1 : Int32))]))
                    refine own_via (fun tq kq => XS.goto X7.here hx rfl (pc0 := 267) (pc' := 271) rfl (hb hby at_267) (by decide) (by decide) kq) ?_
                    show Ogo p e below _ (T7.setTop (mkF m 271 #[.val (.int p1), .val (.int p2), .val (.int p3), .val (.int p4), .val (.int p5), .val (.int p6), .val (.int zi1), .val (.int zi2), .val (.int ztl), .val (.int zwl), .val (.int (0 : Int32)), .val (.int t0), .val (.int t1), .val (.int d0), .val (.int d1), .val (.int w0), .val (.int w1), .val (.ref b1), .val (.ref b2), .val (.ref tok), .val (.int (0 : Int32)), .val (.int (0 : Int32))] [(.int (1 : Int32))]))
                    exact own_outW X7 hlk (fun h => by rw [hret] at h; cases h) (by decide) (by decide) hZ hEL hk7 hS CR (by first | exact ⟨rfl, N⟩ | (rw [hk7]; exact ⟨rfl, N⟩)) (fun fs hr => retN X7 hx (t := .boolean) hret (by simp) (hb hby at_271) hr)
              · refine own_via (fun tq kq => XS.icmpYes X7.here hx rfl (pc0 := 236) (pc' := 256) rfl (hb hby at_236) rfl (feq (hc236 : ¬ (t0 = w0))).2 (by decide) (by decide) kq) ?_
                show Ogo p e below _ (T7.setTop (mkF m 256 #[.val (.int p1), .val (.int p2), .val (.int p3), .val (.int p4), .val (.int p5), .val (.int p6), .val (.int zi1), .val (.int zi2), .val (.int ztl), .val (.int zwl), .val (.int (0 : Int32)), .val (.int t0), .val (.int t1), .val (.int d0), .val (.int d1), .val (.int w0), .val (.int w1), .val (.ref b1), .val (.ref b2), .val (.ref tok), .val (.int (0 : Int32)), .unset] []))
                refine own_via (fun tq kq => XS.iconst X7.here hx rfl (hb hby at_256) kq) ?_
                show Ogo p e below _ (T7.setTop (mkF m 257 #[.val (.int p1), .val (.int p2), .val (.int p3), .val (.int p4), .val (.int p5), .val (.int p6), .val (.int zi1), .val (.int zi2), .val (.int ztl), .val (.int zwl), .val (.int (0 : Int32)), .val (.int t0), .val (.int t1), .val (.int d0), .val (.int d1), .val (.int w0), .val (.int w1), .val (.ref b1), .val (.ref b2), .val (.ref tok), .val (.int (0 : Int32)), .unset] [(.int (0 : Int32))]))
                refine own_via (fun tq kq => XS.istore X7.here hx rfl (hb hby at_257) rfl (l' := #[.val (.int p1), .val (.int p2), .val (.int p3), .val (.int p4), .val (.int p5), .val (.int p6), .val (.int zi1), .val (.int zi2), .val (.int ztl), .val (.int zwl), .val (.int (0 : Int32)), .val (.int t0), .val (.int t1), .val (.int d0), .val (.int d1), .val (.int w0), .val (.int w1), .val (.ref b1), .val (.ref b2), .val (.ref tok), .val (.int (0 : Int32)), .val (.int (0 : Int32))]) rfl kq) ?_
                show Ogo p e below _ (T7.setTop (mkF m 259 #[.val (.int p1), .val (.int p2), .val (.int p3), .val (.int p4), .val (.int p5), .val (.int p6), .val (.int zi1), .val (.int zi2), .val (.int ztl), .val (.int zwl), .val (.int (0 : Int32)), .val (.int t0), .val (.int t1), .val (.int d0), .val (.int d1), .val (.int w0), .val (.int w1), .val (.ref b1), .val (.ref b2), .val (.ref tok), .val (.int (0 : Int32)), .val (.int (0 : Int32))] []))
                refine own_via (fun tq kq => XS.iload X7.here hx rfl (hb hby at_259) rfl kq) ?_
                show Ogo p e below _ (T7.setTop (mkF m 261 #[.val (.int p1), .val (.int p2), .val (.int p3), .val (.int p4), .val (.int p5), .val (.int p6), .val (.int zi1), .val (.int zi2), .val (.int ztl), .val (.int zwl), .val (.int (0 : Int32)), .val (.int t0), .val (.int t1), .val (.int d0), .val (.int d1), .val (.int w0), .val (.int w1), .val (.ref b1), .val (.ref b2), .val (.ref tok), .val (.int (0 : Int32)), .val (.int (0 : Int32))] [(.int (0 : Int32))]))
                refine own_via (fun tq kq => XS.iload X7.here hx rfl (hb hby at_261) rfl kq) ?_
                show Ogo p e below _ (T7.setTop (mkF m 263 #[.val (.int p1), .val (.int p2), .val (.int p3), .val (.int p4), .val (.int p5), .val (.int p6), .val (.int zi1), .val (.int zi2), .val (.int ztl), .val (.int zwl), .val (.int (0 : Int32)), .val (.int t0), .val (.int t1), .val (.int d0), .val (.int d1), .val (.int w0), .val (.int w1), .val (.ref b1), .val (.ref b2), .val (.ref tok), .val (.int (0 : Int32)), .val (.int (0 : Int32))] [(.int (0 : Int32)), (.int (0 : Int32))]))
                refine own_via (fun tq kq => XS.icmpNo X7.here hx rfl (hb hby at_263) rfl (teq (rfl : (0 : Int32) = (0 : Int32))).2 kq) ?_
                show Ogo p e below _ (T7.setTop (mkF m 266 #[.val (.int p1), .val (.int p2), .val (.int p3), .val (.int p4), .val (.int p5), .val (.int p6), .val (.int zi1), .val (.int zi2), .val (.int ztl), .val (.int zwl), .val (.int (0 : Int32)), .val (.int t0), .val (.int t1), .val (.int d0), .val (.int d1), .val (.int w0), .val (.int w1), .val (.ref b1), .val (.ref b2), .val (.ref tok), .val (.int (0 : Int32)), .val (.int (0 : Int32))] []))
                refine own_via (fun tq kq => XS.iconst X7.here hx rfl (hb hby at_266) kq) ?_
                show Ogo p e below _ (T7.setTop (mkF m 267 #[.val (.int p1), .val (.int p2), .val (.int p3), .val (.int p4), .val (.int p5), .val (.int p6), .val (.int zi1), .val (.int zi2), .val (.int ztl), .val (.int zwl), .val (.int (0 : Int32)), .val (.int t0), .val (.int t1), .val (.int d0), .val (.int d1), .val (.int w0), .val (.int w1), .val (.ref b1), .val (.ref b2), .val (.ref tok), .val (.int (0 : Int32)), .val (.int (0 : Int32))] [(.int (1 : Int32))]))
                refine own_via (fun tq kq => XS.goto X7.here hx rfl (pc0 := 267) (pc' := 271) rfl (hb hby at_267) (by decide) (by decide) kq) ?_
                show Ogo p e below _ (T7.setTop (mkF m 271 #[.val (.int p1), .val (.int p2), .val (.int p3), .val (.int p4), .val (.int p5), .val (.int p6), .val (.int zi1), .val (.int zi2), .val (.int ztl), .val (.int zwl), .val (.int (0 : Int32)), .val (.int t0), .val (.int t1), .val (.int d0), .val (.int d1), .val (.int w0), .val (.int w1), .val (.ref b1), .val (.ref b2), .val (.ref tok), .val (.int (0 : Int32)), .val (.int (0 : Int32))] [(.int (1 : Int32))]))
                exact own_outW X7 hlk (fun h => by rw [hret] at h; cases h) (by decide) (by decide) hZ hEL hk7 hS CR (by first | exact ⟨rfl, N⟩ | (rw [hk7]; exact ⟨rfl, N⟩)) (fun fs hr => retN X7 hx (t := .boolean) hret (by simp) (hb hby at_271) hr)
          · refine own_via (fun tq kq => XS.icmpYes X7.here hx rfl (pc0 := 223) (pc' := 256) rfl (hb hby at_223) rfl (feq (hc223 : ¬ (ztl = zwl))).2 (by decide) (by decide) kq) ?_
            show Ogo p e below _ (T7.setTop (mkF m 256 #[.val (.int p1), .val (.int p2), .val (.int p3), .val (.int p4), .val (.int p5), .val (.int p6), .val (.int zi1), .val (.int zi2), .val (.int ztl), .val (.int zwl), .val (.int (0 : Int32)), .val (.int t0), .val (.int t1), .val (.int d0), .val (.int d1), .val (.int w0), .val (.int w1), .val (.ref b1), .val (.ref b2), .val (.ref tok), .val (.int (0 : Int32)), .unset] []))
            refine own_via (fun tq kq => XS.iconst X7.here hx rfl (hb hby at_256) kq) ?_
            show Ogo p e below _ (T7.setTop (mkF m 257 #[.val (.int p1), .val (.int p2), .val (.int p3), .val (.int p4), .val (.int p5), .val (.int p6), .val (.int zi1), .val (.int zi2), .val (.int ztl), .val (.int zwl), .val (.int (0 : Int32)), .val (.int t0), .val (.int t1), .val (.int d0), .val (.int d1), .val (.int w0), .val (.int w1), .val (.ref b1), .val (.ref b2), .val (.ref tok), .val (.int (0 : Int32)), .unset] [(.int (0 : Int32))]))
            refine own_via (fun tq kq => XS.istore X7.here hx rfl (hb hby at_257) rfl (l' := #[.val (.int p1), .val (.int p2), .val (.int p3), .val (.int p4), .val (.int p5), .val (.int p6), .val (.int zi1), .val (.int zi2), .val (.int ztl), .val (.int zwl), .val (.int (0 : Int32)), .val (.int t0), .val (.int t1), .val (.int d0), .val (.int d1), .val (.int w0), .val (.int w1), .val (.ref b1), .val (.ref b2), .val (.ref tok), .val (.int (0 : Int32)), .val (.int (0 : Int32))]) rfl kq) ?_
            show Ogo p e below _ (T7.setTop (mkF m 259 #[.val (.int p1), .val (.int p2), .val (.int p3), .val (.int p4), .val (.int p5), .val (.int p6), .val (.int zi1), .val (.int zi2), .val (.int ztl), .val (.int zwl), .val (.int (0 : Int32)), .val (.int t0), .val (.int t1), .val (.int d0), .val (.int d1), .val (.int w0), .val (.int w1), .val (.ref b1), .val (.ref b2), .val (.ref tok), .val (.int (0 : Int32)), .val (.int (0 : Int32))] []))
            refine own_via (fun tq kq => XS.iload X7.here hx rfl (hb hby at_259) rfl kq) ?_
            show Ogo p e below _ (T7.setTop (mkF m 261 #[.val (.int p1), .val (.int p2), .val (.int p3), .val (.int p4), .val (.int p5), .val (.int p6), .val (.int zi1), .val (.int zi2), .val (.int ztl), .val (.int zwl), .val (.int (0 : Int32)), .val (.int t0), .val (.int t1), .val (.int d0), .val (.int d1), .val (.int w0), .val (.int w1), .val (.ref b1), .val (.ref b2), .val (.ref tok), .val (.int (0 : Int32)), .val (.int (0 : Int32))] [(.int (0 : Int32))]))
            refine own_via (fun tq kq => XS.iload X7.here hx rfl (hb hby at_261) rfl kq) ?_
            show Ogo p e below _ (T7.setTop (mkF m 263 #[.val (.int p1), .val (.int p2), .val (.int p3), .val (.int p4), .val (.int p5), .val (.int p6), .val (.int zi1), .val (.int zi2), .val (.int ztl), .val (.int zwl), .val (.int (0 : Int32)), .val (.int t0), .val (.int t1), .val (.int d0), .val (.int d1), .val (.int w0), .val (.int w1), .val (.ref b1), .val (.ref b2), .val (.ref tok), .val (.int (0 : Int32)), .val (.int (0 : Int32))] [(.int (0 : Int32)), (.int (0 : Int32))]))
            refine own_via (fun tq kq => XS.icmpNo X7.here hx rfl (hb hby at_263) rfl (teq (rfl : (0 : Int32) = (0 : Int32))).2 kq) ?_
            show Ogo p e below _ (T7.setTop (mkF m 266 #[.val (.int p1), .val (.int p2), .val (.int p3), .val (.int p4), .val (.int p5), .val (.int p6), .val (.int zi1), .val (.int zi2), .val (.int ztl), .val (.int zwl), .val (.int (0 : Int32)), .val (.int t0), .val (.int t1), .val (.int d0), .val (.int d1), .val (.int w0), .val (.int w1), .val (.ref b1), .val (.ref b2), .val (.ref tok), .val (.int (0 : Int32)), .val (.int (0 : Int32))] []))
            refine own_via (fun tq kq => XS.iconst X7.here hx rfl (hb hby at_266) kq) ?_
            show Ogo p e below _ (T7.setTop (mkF m 267 #[.val (.int p1), .val (.int p2), .val (.int p3), .val (.int p4), .val (.int p5), .val (.int p6), .val (.int zi1), .val (.int zi2), .val (.int ztl), .val (.int zwl), .val (.int (0 : Int32)), .val (.int t0), .val (.int t1), .val (.int d0), .val (.int d1), .val (.int w0), .val (.int w1), .val (.ref b1), .val (.ref b2), .val (.ref tok), .val (.int (0 : Int32)), .val (.int (0 : Int32))] [(.int (1 : Int32))]))
            refine own_via (fun tq kq => XS.goto X7.here hx rfl (pc0 := 267) (pc' := 271) rfl (hb hby at_267) (by decide) (by decide) kq) ?_
            show Ogo p e below _ (T7.setTop (mkF m 271 #[.val (.int p1), .val (.int p2), .val (.int p3), .val (.int p4), .val (.int p5), .val (.int p6), .val (.int zi1), .val (.int zi2), .val (.int ztl), .val (.int zwl), .val (.int (0 : Int32)), .val (.int t0), .val (.int t1), .val (.int d0), .val (.int d1), .val (.int w0), .val (.int w1), .val (.ref b1), .val (.ref b2), .val (.ref tok), .val (.int (0 : Int32)), .val (.int (0 : Int32))] [(.int (1 : Int32))]))
            exact own_outW X7 hlk (fun h => by rw [hret] at h; cases h) (by decide) (by decide) hZ hEL hk7 hS CR (by first | exact ⟨rfl, N⟩ | (rw [hk7]; exact ⟨rfl, N⟩)) (fun fs hr => retN X7 hx (t := .boolean) hret (by simp) (hb hby at_271) hr)
        · refine own_via (fun tq kq => XS.icmpYes X7.here hx rfl (pc0 := 216) (pc' := 256) rfl (hb hby at_216) rfl (feq (hc216 : ¬ (zi1 = zi2))).2 (by decide) (by decide) kq) ?_
          show Ogo p e below _ (T7.setTop (mkF m 256 #[.val (.int p1), .val (.int p2), .val (.int p3), .val (.int p4), .val (.int p5), .val (.int p6), .val (.int zi1), .val (.int zi2), .val (.int ztl), .val (.int zwl), .val (.int (0 : Int32)), .val (.int t0), .val (.int t1), .val (.int d0), .val (.int d1), .val (.int w0), .val (.int w1), .val (.ref b1), .val (.ref b2), .val (.ref tok), .val (.int (0 : Int32)), .unset] []))
          refine own_via (fun tq kq => XS.iconst X7.here hx rfl (hb hby at_256) kq) ?_
          show Ogo p e below _ (T7.setTop (mkF m 257 #[.val (.int p1), .val (.int p2), .val (.int p3), .val (.int p4), .val (.int p5), .val (.int p6), .val (.int zi1), .val (.int zi2), .val (.int ztl), .val (.int zwl), .val (.int (0 : Int32)), .val (.int t0), .val (.int t1), .val (.int d0), .val (.int d1), .val (.int w0), .val (.int w1), .val (.ref b1), .val (.ref b2), .val (.ref tok), .val (.int (0 : Int32)), .unset] [(.int (0 : Int32))]))
          refine own_via (fun tq kq => XS.istore X7.here hx rfl (hb hby at_257) rfl (l' := #[.val (.int p1), .val (.int p2), .val (.int p3), .val (.int p4), .val (.int p5), .val (.int p6), .val (.int zi1), .val (.int zi2), .val (.int ztl), .val (.int zwl), .val (.int (0 : Int32)), .val (.int t0), .val (.int t1), .val (.int d0), .val (.int d1), .val (.int w0), .val (.int w1), .val (.ref b1), .val (.ref b2), .val (.ref tok), .val (.int (0 : Int32)), .val (.int (0 : Int32))]) rfl kq) ?_
          show Ogo p e below _ (T7.setTop (mkF m 259 #[.val (.int p1), .val (.int p2), .val (.int p3), .val (.int p4), .val (.int p5), .val (.int p6), .val (.int zi1), .val (.int zi2), .val (.int ztl), .val (.int zwl), .val (.int (0 : Int32)), .val (.int t0), .val (.int t1), .val (.int d0), .val (.int d1), .val (.int w0), .val (.int w1), .val (.ref b1), .val (.ref b2), .val (.ref tok), .val (.int (0 : Int32)), .val (.int (0 : Int32))] []))
          refine own_via (fun tq kq => XS.iload X7.here hx rfl (hb hby at_259) rfl kq) ?_
          show Ogo p e below _ (T7.setTop (mkF m 261 #[.val (.int p1), .val (.int p2), .val (.int p3), .val (.int p4), .val (.int p5), .val (.int p6), .val (.int zi1), .val (.int zi2), .val (.int ztl), .val (.int zwl), .val (.int (0 : Int32)), .val (.int t0), .val (.int t1), .val (.int d0), .val (.int d1), .val (.int w0), .val (.int w1), .val (.ref b1), .val (.ref b2), .val (.ref tok), .val (.int (0 : Int32)), .val (.int (0 : Int32))] [(.int (0 : Int32))]))
          refine own_via (fun tq kq => XS.iload X7.here hx rfl (hb hby at_261) rfl kq) ?_
          show Ogo p e below _ (T7.setTop (mkF m 263 #[.val (.int p1), .val (.int p2), .val (.int p3), .val (.int p4), .val (.int p5), .val (.int p6), .val (.int zi1), .val (.int zi2), .val (.int ztl), .val (.int zwl), .val (.int (0 : Int32)), .val (.int t0), .val (.int t1), .val (.int d0), .val (.int d1), .val (.int w0), .val (.int w1), .val (.ref b1), .val (.ref b2), .val (.ref tok), .val (.int (0 : Int32)), .val (.int (0 : Int32))] [(.int (0 : Int32)), (.int (0 : Int32))]))
          refine own_via (fun tq kq => XS.icmpNo X7.here hx rfl (hb hby at_263) rfl (teq (rfl : (0 : Int32) = (0 : Int32))).2 kq) ?_
          show Ogo p e below _ (T7.setTop (mkF m 266 #[.val (.int p1), .val (.int p2), .val (.int p3), .val (.int p4), .val (.int p5), .val (.int p6), .val (.int zi1), .val (.int zi2), .val (.int ztl), .val (.int zwl), .val (.int (0 : Int32)), .val (.int t0), .val (.int t1), .val (.int d0), .val (.int d1), .val (.int w0), .val (.int w1), .val (.ref b1), .val (.ref b2), .val (.ref tok), .val (.int (0 : Int32)), .val (.int (0 : Int32))] []))
          refine own_via (fun tq kq => XS.iconst X7.here hx rfl (hb hby at_266) kq) ?_
          show Ogo p e below _ (T7.setTop (mkF m 267 #[.val (.int p1), .val (.int p2), .val (.int p3), .val (.int p4), .val (.int p5), .val (.int p6), .val (.int zi1), .val (.int zi2), .val (.int ztl), .val (.int zwl), .val (.int (0 : Int32)), .val (.int t0), .val (.int t1), .val (.int d0), .val (.int d1), .val (.int w0), .val (.int w1), .val (.ref b1), .val (.ref b2), .val (.ref tok), .val (.int (0 : Int32)), .val (.int (0 : Int32))] [(.int (1 : Int32))]))
          refine own_via (fun tq kq => XS.goto X7.here hx rfl (pc0 := 267) (pc' := 271) rfl (hb hby at_267) (by decide) (by decide) kq) ?_
          show Ogo p e below _ (T7.setTop (mkF m 271 #[.val (.int p1), .val (.int p2), .val (.int p3), .val (.int p4), .val (.int p5), .val (.int p6), .val (.int zi1), .val (.int zi2), .val (.int ztl), .val (.int zwl), .val (.int (0 : Int32)), .val (.int t0), .val (.int t1), .val (.int d0), .val (.int d1), .val (.int w0), .val (.int w1), .val (.ref b1), .val (.ref b2), .val (.ref tok), .val (.int (0 : Int32)), .val (.int (0 : Int32))] [(.int (1 : Int32))]))
          exact own_outW X7 hlk (fun h => by rw [hret] at h; cases h) (by decide) (by decide) hZ hEL hk7 hS CR (by first | exact ⟨rfl, N⟩ | (rw [hk7]; exact ⟨rfl, N⟩)) (fun fs hr => retN X7 hx (t := .boolean) hret (by simp) (hb hby at_271) hr)
    · rw [if_neg hi7]
      show Ogo p e below _ (T6.setTop (mkF m 200 #[.val (.int p1), .val (.int p2), .val (.int p3), .val (.int p4), .val (.int p5), .val (.int p6), .val (.int zi1), .val (.int zi2), .val (.int ztl), .val (.int zwl), .val (.int (0 : Int32)), .val (.int t0), .val (.int t1), .val (.int d0), .val (.int d1), .val (.int w0), .val (.int w1), .val (.ref b1), .val (.ref b2), .val (.ref tok), .unset, .unset] [.null, (.ref tok)]))
      refine own_via (fun tq kq => XS.aload X6.here hx rfl (hb hby at_200) rfl rfl kq) ?_
      show Ogo p e below _ (T6.setTop (mkF m 202 #[.val (.int p1), .val (.int p2), .val (.int p3), .val (.int p4), .val (.int p5), .val (.int p6), .val (.int zi1), .val (.int zi2), .val (.int ztl), .val (.int zwl), .val (.int (0 : Int32)), .val (.int t0), .val (.int t1), .val (.int d0), .val (.int d1), .val (.int w0), .val (.int w1), .val (.ref b1), .val (.ref b2), .val (.ref tok), .unset, .unset] [(.ref b2), .null, (.ref tok)]))
      refine own_callV X6 hx hZ hown (hw _ (List.mem_of_getElem? (i := 65) rfl)) (hw _ (List.mem_of_getElem? (i := 66) rfl)) (hw _ (List.mem_of_getElem? (i := 68) rfl)) (hw _ (List.mem_of_getElem? (i := 67) rfl)) (hw _ (List.mem_of_getElem? (i := 39) rfl)) (hw _ (List.mem_of_getElem? (i := 69) rfl)) (notFace_of_selects (args := #[]) (mvT hZ (hw _ (List.mem_of_getElem? (i := 68) rfl)))) (by decide) (rm_isZ hw tok (km i1) b1 b2 T5.heap n0 E_tok F_kind_tok F_text_tok) rfl hk6 E_tok (W := 0) (by decide) (by decide) (by decide) (by decide) (by rw [hml]; rfl) (b := tok) (argsL := [.null, (.ref b2)]) (rest := []) (lenOf pd_11 rfl) rfl (Nat.le_of_eq rfl) (hb hby at_202) ?_
      rintro _ T8 L8 X8 ⟨rfl, Nq, hk⟩
      have N := N.app Nq
      have hk8 := hk
      show Ogo p e below _ (T8.setTop (mkF m 205 #[.val (.int p1), .val (.int p2), .val (.int p3), .val (.int p4), .val (.int p5), .val (.int p6), .val (.int zi1), .val (.int zi2), .val (.int ztl), .val (.int zwl), .val (.int (0 : Int32)), .val (.int t0), .val (.int t1), .val (.int d0), .val (.int d1), .val (.int w0), .val (.int w1), .val (.ref b1), .val (.ref b2), .val (.ref tok), .unset, .unset] [(.int (0 : Int32))]))
      refine own_via (fun tq kq => XS.istore X8.here hx rfl (hb hby at_205) rfl (l' := #[.val (.int p1), .val (.int p2), .val (.int p3), .val (.int p4), .val (.int p5), .val (.int p6), .val (.int zi1), .val (.int zi2), .val (.int ztl), .val (.int zwl), .val (.int (0 : Int32)), .val (.int t0), .val (.int t1), .val (.int d0), .val (.int d1), .val (.int w0), .val (.int w1), .val (.ref b1), .val (.ref b2), .val (.ref tok), .val (.int (0 : Int32)), .unset]) rfl kq) ?_
      show Ogo p e below _ (T8.setTop (mkF m 207 #[.val (.int p1), .val (.int p2), .val (.int p3), .val (.int p4), .val (.int p5), .val (.int p6), .val (.int zi1), .val (.int zi2), .val (.int ztl), .val (.int zwl), .val (.int (0 : Int32)), .val (.int t0), .val (.int t1), .val (.int d0), .val (.int d1), .val (.int w0), .val (.int w1), .val (.ref b1), .val (.ref b2), .val (.ref tok), .val (.int (0 : Int32)), .unset] []))
      refine own_via (fun tq kq => XS.iload X8.here hx rfl (hb hby at_207) rfl kq) ?_
      show Ogo p e below _ (T8.setTop (mkF m 209 #[.val (.int p1), .val (.int p2), .val (.int p3), .val (.int p4), .val (.int p5), .val (.int p6), .val (.int zi1), .val (.int zi2), .val (.int ztl), .val (.int zwl), .val (.int (0 : Int32)), .val (.int t0), .val (.int t1), .val (.int d0), .val (.int d1), .val (.int w0), .val (.int w1), .val (.ref b1), .val (.ref b2), .val (.ref tok), .val (.int (0 : Int32)), .unset] [(.int (0 : Int32))]))
      refine own_via (fun tq kq => XS.ifNo X8.here hx rfl (hb hby at_209) rfl ((if0 _ _).trans (teq (rfl : (0 : Int32) = (0 : Int32))).2) kq) ?_
      show Ogo p e below _ (T8.setTop (mkF m 212 #[.val (.int p1), .val (.int p2), .val (.int p3), .val (.int p4), .val (.int p5), .val (.int p6), .val (.int zi1), .val (.int zi2), .val (.int ztl), .val (.int zwl), .val (.int (0 : Int32)), .val (.int t0), .val (.int t1), .val (.int d0), .val (.int d1), .val (.int w0), .val (.int w1), .val (.ref b1), .val (.ref b2), .val (.ref tok), .val (.int (0 : Int32)), .unset] []))
      refine own_via (fun tq kq => XS.iload X8.here hx rfl (hb hby at_212) rfl kq) ?_
      show Ogo p e below _ (T8.setTop (mkF m 214 #[.val (.int p1), .val (.int p2), .val (.int p3), .val (.int p4), .val (.int p5), .val (.int p6), .val (.int zi1), .val (.int zi2), .val (.int ztl), .val (.int zwl), .val (.int (0 : Int32)), .val (.int t0), .val (.int t1), .val (.int d0), .val (.int d1), .val (.int w0), .val (.int w1), .val (.ref b1), .val (.ref b2), .val (.ref tok), .val (.int (0 : Int32)), .unset] [(.int zi1)]))
      refine own_via (fun tq kq => XS.iload X8.here hx rfl (hb hby at_214) rfl kq) ?_
      show Ogo p e below _ (T8.setTop (mkF m 216 #[.val (.int p1), .val (.int p2), .val (.int p3), .val (.int p4), .val (.int p5), .val (.int p6), .val (.int zi1), .val (.int zi2), .val (.int ztl), .val (.int zwl), .val (.int (0 : Int32)), .val (.int t0), .val (.int t1), .val (.int d0), .val (.int d1), .val (.int w0), .val (.int w1), .val (.ref b1), .val (.ref b2), .val (.ref tok), .val (.int (0 : Int32)), .unset] [(.int zi2), (.int zi1)]))
      refine own_via (fun tq kq => XS.icmpYes X8.here hx rfl (pc0 := 216) (pc' := 256) rfl (hb hby at_216) rfl (feq (i_ne (by omega) : ¬ (zi1 = zi2))).2 (by decide) (by decide) kq) ?_
      show Ogo p e below _ (T8.setTop (mkF m 256 #[.val (.int p1), .val (.int p2), .val (.int p3), .val (.int p4), .val (.int p5), .val (.int p6), .val (.int zi1), .val (.int zi2), .val (.int ztl), .val (.int zwl), .val (.int (0 : Int32)), .val (.int t0), .val (.int t1), .val (.int d0), .val (.int d1), .val (.int w0), .val (.int w1), .val (.ref b1), .val (.ref b2), .val (.ref tok), .val (.int (0 : Int32)), .unset] []))
      refine own_via (fun tq kq => XS.iconst X8.here hx rfl (hb hby at_256) kq) ?_
      show Ogo p e below _ (T8.setTop (mkF m 257 #[.val (.int p1), .val (.int p2), .val (.int p3), .val (.int p4), .val (.int p5), .val (.int p6), .val (.int zi1), .val (.int zi2), .val (.int ztl), .val (.int zwl), .val (.int (0 : Int32)), .val (.int t0), .val (.int t1), .val (.int d0), .val (.int d1), .val (.int w0), .val (.int w1), .val (.ref b1), .val (.ref b2), .val (.ref tok), .val (.int (0 : Int32)), .unset] [(.int (0 : Int32))]))
      refine own_via (fun tq kq => XS.istore X8.here hx rfl (hb hby at_257) rfl (l' := #[.val (.int p1), .val (.int p2), .val (.int p3), .val (.int p4), .val (.int p5), .val (.int p6), .val (.int zi1), .val (.int zi2), .val (.int ztl), .val (.int zwl), .val (.int (0 : Int32)), .val (.int t0), .val (.int t1), .val (.int d0), .val (.int d1), .val (.int w0), .val (.int w1), .val (.ref b1), .val (.ref b2), .val (.ref tok), .val (.int (0 : Int32)), .val (.int (0 : Int32))]) rfl kq) ?_
      show Ogo p e below _ (T8.setTop (mkF m 259 #[.val (.int p1), .val (.int p2), .val (.int p3), .val (.int p4), .val (.int p5), .val (.int p6), .val (.int zi1), .val (.int zi2), .val (.int ztl), .val (.int zwl), .val (.int (0 : Int32)), .val (.int t0), .val (.int t1), .val (.int d0), .val (.int d1), .val (.int w0), .val (.int w1), .val (.ref b1), .val (.ref b2), .val (.ref tok), .val (.int (0 : Int32)), .val (.int (0 : Int32))] []))
      refine own_via (fun tq kq => XS.iload X8.here hx rfl (hb hby at_259) rfl kq) ?_
      show Ogo p e below _ (T8.setTop (mkF m 261 #[.val (.int p1), .val (.int p2), .val (.int p3), .val (.int p4), .val (.int p5), .val (.int p6), .val (.int zi1), .val (.int zi2), .val (.int ztl), .val (.int zwl), .val (.int (0 : Int32)), .val (.int t0), .val (.int t1), .val (.int d0), .val (.int d1), .val (.int w0), .val (.int w1), .val (.ref b1), .val (.ref b2), .val (.ref tok), .val (.int (0 : Int32)), .val (.int (0 : Int32))] [(.int (0 : Int32))]))
      refine own_via (fun tq kq => XS.iload X8.here hx rfl (hb hby at_261) rfl kq) ?_
      show Ogo p e below _ (T8.setTop (mkF m 263 #[.val (.int p1), .val (.int p2), .val (.int p3), .val (.int p4), .val (.int p5), .val (.int p6), .val (.int zi1), .val (.int zi2), .val (.int ztl), .val (.int zwl), .val (.int (0 : Int32)), .val (.int t0), .val (.int t1), .val (.int d0), .val (.int d1), .val (.int w0), .val (.int w1), .val (.ref b1), .val (.ref b2), .val (.ref tok), .val (.int (0 : Int32)), .val (.int (0 : Int32))] [(.int (0 : Int32)), (.int (0 : Int32))]))
      refine own_via (fun tq kq => XS.icmpNo X8.here hx rfl (hb hby at_263) rfl (teq (rfl : (0 : Int32) = (0 : Int32))).2 kq) ?_
      show Ogo p e below _ (T8.setTop (mkF m 266 #[.val (.int p1), .val (.int p2), .val (.int p3), .val (.int p4), .val (.int p5), .val (.int p6), .val (.int zi1), .val (.int zi2), .val (.int ztl), .val (.int zwl), .val (.int (0 : Int32)), .val (.int t0), .val (.int t1), .val (.int d0), .val (.int d1), .val (.int w0), .val (.int w1), .val (.ref b1), .val (.ref b2), .val (.ref tok), .val (.int (0 : Int32)), .val (.int (0 : Int32))] []))
      refine own_via (fun tq kq => XS.iconst X8.here hx rfl (hb hby at_266) kq) ?_
      show Ogo p e below _ (T8.setTop (mkF m 267 #[.val (.int p1), .val (.int p2), .val (.int p3), .val (.int p4), .val (.int p5), .val (.int p6), .val (.int zi1), .val (.int zi2), .val (.int ztl), .val (.int zwl), .val (.int (0 : Int32)), .val (.int t0), .val (.int t1), .val (.int d0), .val (.int d1), .val (.int w0), .val (.int w1), .val (.ref b1), .val (.ref b2), .val (.ref tok), .val (.int (0 : Int32)), .val (.int (0 : Int32))] [(.int (1 : Int32))]))
      refine own_via (fun tq kq => XS.goto X8.here hx rfl (pc0 := 267) (pc' := 271) rfl (hb hby at_267) (by decide) (by decide) kq) ?_
      show Ogo p e below _ (T8.setTop (mkF m 271 #[.val (.int p1), .val (.int p2), .val (.int p3), .val (.int p4), .val (.int p5), .val (.int p6), .val (.int zi1), .val (.int zi2), .val (.int ztl), .val (.int zwl), .val (.int (0 : Int32)), .val (.int t0), .val (.int t1), .val (.int d0), .val (.int d1), .val (.int w0), .val (.int w1), .val (.ref b1), .val (.ref b2), .val (.ref tok), .val (.int (0 : Int32)), .val (.int (0 : Int32))] [(.int (1 : Int32))]))
      exact own_outW X8 hlk (fun h => by rw [hret] at h; cases h) (by decide) (by decide) hZ hEL hk8 hS CR (by first | exact ⟨rfl, N⟩ | (rw [hk8]; exact ⟨rfl, N⟩)) (fun fs hr => retN X8 hx (t := .boolean) hret (by simp) (hb hby at_271) hr)
  · have l1 : (1 : Int32).toInt = 1 := rfl
    have l2 : (2 : Int32).toInt = 2 := rfl
    show Ogo p e below _ (T1.setTop (mkF m 154 #[.val (.int p1), .val (.int p2), .val (.int p3), .val (.int p4), .val (.int p5), .val (.int p6), .val (.int zi1), .val (.int zi2), .val (.int ztl), .val (.int zwl), .val (.int (1 : Int32)), .val (.int t0), .val (.int t1), .val (.int d0), .val (.int d1), .val (.int w0), .val (.int w1), .val (.ref b1), .unset, .unset, .unset, .unset] [(.int (1 : Int32))]))
    refine own_via (fun tq kq => XS.ifNo X1.here hx rfl (hb hby at_154) rfl ((if0 _ _).trans (feq ((by decide) : ¬ ((1 : Int32) = (0 : Int32)))).1) kq) ?_
    show Ogo p e below _ (T1.setTop (mkF m 157 #[.val (.int p1), .val (.int p2), .val (.int p3), .val (.int p4), .val (.int p5), .val (.int p6), .val (.int zi1), .val (.int zi2), .val (.int ztl), .val (.int zwl), .val (.int (1 : Int32)), .val (.int t0), .val (.int t1), .val (.int d0), .val (.int d1), .val (.int w0), .val (.int w1), .val (.ref b1), .unset, .unset, .unset, .unset] []))
    refine own_via (fun tq kq => XS.aconstNull X1.here hx rfl (hb hby at_157) kq) ?_
    show Ogo p e below _ (T1.setTop (mkF m 158 #[.val (.int p1), .val (.int p2), .val (.int p3), .val (.int p4), .val (.int p5), .val (.int p6), .val (.int zi1), .val (.int zi2), .val (.int ztl), .val (.int zwl), .val (.int (1 : Int32)), .val (.int t0), .val (.int t1), .val (.int d0), .val (.int d1), .val (.int w0), .val (.int w1), .val (.ref b1), .unset, .unset, .unset, .unset] [.null]))
    refine own_via (fun tq kq => XS.goto X1.here hx rfl (pc0 := 158) (pc' := 170) rfl (hb hby at_158) (by decide) (by decide) kq) ?_
    show Ogo p e below _ (T1.setTop (mkF m 170 #[.val (.int p1), .val (.int p2), .val (.int p3), .val (.int p4), .val (.int p5), .val (.int p6), .val (.int zi1), .val (.int zi2), .val (.int ztl), .val (.int zwl), .val (.int (1 : Int32)), .val (.int t0), .val (.int t1), .val (.int d0), .val (.int d1), .val (.int w0), .val (.int w1), .val (.ref b1), .unset, .unset, .unset, .unset] [.null]))
    refine own_via (fun tq kq => XS.astore X1.here hx rfl (hb hby at_170) rfl rfl (l' := #[.val (.int p1), .val (.int p2), .val (.int p3), .val (.int p4), .val (.int p5), .val (.int p6), .val (.int zi1), .val (.int zi2), .val (.int ztl), .val (.int zwl), .val (.int (1 : Int32)), .val (.int t0), .val (.int t1), .val (.int d0), .val (.int d1), .val (.int w0), .val (.int w1), .val (.ref b1), .val .null, .unset, .unset, .unset]) rfl kq) ?_
    show Ogo p e below _ (T1.setTop (mkF m 172 #[.val (.int p1), .val (.int p2), .val (.int p3), .val (.int p4), .val (.int p5), .val (.int p6), .val (.int zi1), .val (.int zi2), .val (.int ztl), .val (.int zwl), .val (.int (1 : Int32)), .val (.int t0), .val (.int t1), .val (.int d0), .val (.int d1), .val (.int w0), .val (.int w1), .val (.ref b1), .val .null, .unset, .unset, .unset] []))
    obtain ⟨T9, h9, X9, e9, E9, A9, D9, -, st9⟩ := newO X1 hx hZ hown (hw _ (List.mem_of_getElem? (i := 37) rfl)) (hw _ (List.mem_of_getElem? (i := 38) rfl)) (hw _ (List.mem_of_getElem? (i := 39) rfl)) rfl (g := (mkF m 172 #[.val (.int p1), .val (.int p2), .val (.int p3), .val (.int p4), .val (.int p5), .val (.int p6), .val (.int zi1), .val (.int zi2), .val (.int ztl), .val (.int zwl), .val (.int (1 : Int32)), .val (.int t0), .val (.int t1), .val (.int d0), .val (.int d1), .val (.int w0), .val (.int w1), .val (.ref b1), .val .null, .unset, .unset, .unset] [])) rfl (hb hby at_172) (by decide) (by decide)
    refine own_via st9 ?_
    obtain ⟨tok, g9⟩ : ∃ z, z = T1.heap.size := ⟨_, rfl⟩
    rw [← g9]
    rw [← g9] at A9 D9
    have lt_b1_tok : b1 < tok := by rw [g9]; exact T_b1.lt
    have g_tok : n0 ≤ tok := by rw [g9]; exact zs
    have CR := CR.trans (CHr.ext E9 CR.1)
    have hS := own_sm hS E9.1
    have T_b1 := T_b1.ext E9
    have zs := Nat.le_trans zs E9.1
    have O := O.ext E9
    have E_tok := A9
    have F_kind_tok : Fld Z h9 tok "com/example/diligent_workflow/diligentworkflow/feel/FeelLexer$Token" "kind" "Lcom/example/diligent_workflow/diligentworkflow/feel/FeelLexer$Kind;" .null := D9 (Or.inr (hw _ (List.mem_of_getElem? (i := 56) rfl))) (ty := (.object "com/example/diligent_workflow/diligentworkflow/feel/FeelLexer$Kind")) (by decide)
    have F_text_tok : Fld Z h9 tok "com/example/diligent_workflow/diligentworkflow/feel/FeelLexer$Token" "text" "Ljava/lang/String;" .null := D9 (Or.inr (hw _ (List.mem_of_getElem? (i := 58) rfl))) (ty := (.object "java/lang/String")) (by decide)
    have F_value_tok : Fld Z h9 tok "com/example/diligent_workflow/diligentworkflow/feel/FeelLexer$Token" "value" "Ljava/lang/Object;" .null := D9 (Or.inr (hw _ (List.mem_of_getElem? (i := 60) rfl))) (ty := (.object "java/lang/Object")) (by decide)
    have F_start_tok : Fld Z h9 tok "com/example/diligent_workflow/diligentworkflow/feel/FeelLexer$Token" "start" "I" (.int (0 : Int32)) := D9 (Or.inr (hw _ (List.mem_of_getElem? (i := 62) rfl))) (ty := .int) (by decide)
    have F_end_tok : Fld Z h9 tok "com/example/diligent_workflow/diligentworkflow/feel/FeelLexer$Token" "end" "I" (.int (0 : Int32)) := D9 (Or.inr (hw _ (List.mem_of_getElem? (i := 64) rfl))) (ty := .int) (by decide)
    show Ogo p e below _ (T9.setTop (mkF m 175 #[.val (.int p1), .val (.int p2), .val (.int p3), .val (.int p4), .val (.int p5), .val (.int p6), .val (.int zi1), .val (.int zi2), .val (.int ztl), .val (.int zwl), .val (.int (1 : Int32)), .val (.int t0), .val (.int t1), .val (.int d0), .val (.int d1), .val (.int w0), .val (.int w1), .val (.ref b1), .val .null, .unset, .unset, .unset] [(.ref tok)]))
    refine own_via (fun tq kq => XS.dup X9.here hx rfl (hb hby at_175) rfl rfl kq) ?_
    show Ogo p e below _ (T9.setTop (mkF m 176 #[.val (.int p1), .val (.int p2), .val (.int p3), .val (.int p4), .val (.int p5), .val (.int p6), .val (.int zi1), .val (.int zi2), .val (.int ztl), .val (.int zwl), .val (.int (1 : Int32)), .val (.int t0), .val (.int t1), .val (.int d0), .val (.int d1), .val (.int w0), .val (.int w1), .val (.ref b1), .val .null, .unset, .unset, .unset] [(.ref tok), (.ref tok)]))
    refine own_via (fun tq kq => XS.iload X9.here hx rfl (hb hby at_176) rfl kq) ?_
    show Ogo p e below _ (T9.setTop (mkF m 178 #[.val (.int p1), .val (.int p2), .val (.int p3), .val (.int p4), .val (.int p5), .val (.int p6), .val (.int zi1), .val (.int zi2), .val (.int ztl), .val (.int zwl), .val (.int (1 : Int32)), .val (.int t0), .val (.int t1), .val (.int d0), .val (.int d1), .val (.int w0), .val (.int w1), .val (.ref b1), .val .null, .unset, .unset, .unset] [(.int zi1), (.ref tok), (.ref tok)]))
    refine own_callS X9 hx hZ hown (hw _ (List.mem_of_getElem? (i := 40) rfl)) (hw _ (List.mem_of_getElem? (i := 41) rfl)) (hw _ (List.mem_of_getElem? (i := 2) rfl)) (hw _ (List.mem_of_getElem? (i := 42) rfl)) (by decide) (rm_ki hw i1 zi1 km h9 n0 hi1 (by omega) S0 S1 S2 S3 S4 S5 S6 O) rfl e9 (W := 2) (by decide) (by decide) (by decide) (by decide) (by rw [hml]; rfl) (argsL := [(.int zi1)]) (rest := [(.ref tok), (.ref tok)]) (lenOf pd_9 rfl) rfl (Nat.le_of_eq rfl) (hb hby at_178) ?_
    rintro _ T10 L10 X10 ⟨rfl, Nq, hk⟩
    have N := N.app Nq
    have hk10 := hk
    show Ogo p e below _ (T10.setTop (mkF m 181 #[.val (.int p1), .val (.int p2), .val (.int p3), .val (.int p4), .val (.int p5), .val (.int p6), .val (.int zi1), .val (.int zi2), .val (.int ztl), .val (.int zwl), .val (.int (1 : Int32)), .val (.int t0), .val (.int t1), .val (.int d0), .val (.int d1), .val (.int w0), .val (.int w1), .val (.ref b1), .val .null, .unset, .unset, .unset] [(if i1 < 7 then Value.ref (km i1) else .null), (.ref tok), (.ref tok)]))
    rw [if_pos li1]
    show Ogo p e below _ (T10.setTop (mkF m 181 #[.val (.int p1), .val (.int p2), .val (.int p3), .val (.int p4), .val (.int p5), .val (.int p6), .val (.int zi1), .val (.int zi2), .val (.int ztl), .val (.int zwl), .val (.int (1 : Int32)), .val (.int t0), .val (.int t1), .val (.int d0), .val (.int d1), .val (.int w0), .val (.int w1), .val (.ref b1), .val .null, .unset, .unset, .unset] [(.ref (km i1)), (.ref tok), (.ref tok)]))
    refine own_via (fun tq kq => XS.aload X10.here hx rfl (hb hby at_181) rfl rfl kq) ?_
    show Ogo p e below _ (T10.setTop (mkF m 183 #[.val (.int p1), .val (.int p2), .val (.int p3), .val (.int p4), .val (.int p5), .val (.int p6), .val (.int zi1), .val (.int zi2), .val (.int ztl), .val (.int zwl), .val (.int (1 : Int32)), .val (.int t0), .val (.int t1), .val (.int d0), .val (.int d1), .val (.int w0), .val (.int w1), .val (.ref b1), .val .null, .unset, .unset, .unset] [(.ref b1), (.ref (km i1)), (.ref tok), (.ref tok)]))
    refine own_via (fun tq kq => XS.aconstNull X10.here hx rfl (hb hby at_183) kq) ?_
    show Ogo p e below _ (T10.setTop (mkF m 184 #[.val (.int p1), .val (.int p2), .val (.int p3), .val (.int p4), .val (.int p5), .val (.int p6), .val (.int zi1), .val (.int zi2), .val (.int ztl), .val (.int zwl), .val (.int (1 : Int32)), .val (.int t0), .val (.int t1), .val (.int d0), .val (.int d1), .val (.int w0), .val (.int w1), .val (.ref b1), .val .null, .unset, .unset, .unset] [.null, (.ref b1), (.ref (km i1)), (.ref tok), (.ref tok)]))
    refine own_via (fun tq kq => XS.iload X10.here hx rfl (hb hby at_184) rfl kq) ?_
    show Ogo p e below _ (T10.setTop (mkF m 186 #[.val (.int p1), .val (.int p2), .val (.int p3), .val (.int p4), .val (.int p5), .val (.int p6), .val (.int zi1), .val (.int zi2), .val (.int ztl), .val (.int zwl), .val (.int (1 : Int32)), .val (.int t0), .val (.int t1), .val (.int d0), .val (.int d1), .val (.int w0), .val (.int w1), .val (.ref b1), .val .null, .unset, .unset, .unset] [(.int p5), .null, (.ref b1), (.ref (km i1)), (.ref tok), (.ref tok)]))
    refine own_via (fun tq kq => XS.iload X10.here hx rfl (hb hby at_186) rfl kq) ?_
    show Ogo p e below _ (T10.setTop (mkF m 188 #[.val (.int p1), .val (.int p2), .val (.int p3), .val (.int p4), .val (.int p5), .val (.int p6), .val (.int zi1), .val (.int zi2), .val (.int ztl), .val (.int zwl), .val (.int (1 : Int32)), .val (.int t0), .val (.int t1), .val (.int d0), .val (.int d1), .val (.int w0), .val (.int w1), .val (.ref b1), .val .null, .unset, .unset, .unset] [(.int p6), (.int p5), .null, (.ref b1), (.ref (km i1)), (.ref tok), (.ref tok)]))
    refine own_callI X10 hx hZ rfl hown (hw _ (List.mem_of_getElem? (i := 46) rfl)) (hw _ (List.mem_of_getElem? (i := 47) rfl)) (hw _ (List.mem_of_getElem? (i := 39) rfl)) (hw _ (List.mem_of_getElem? (i := 48) rfl)) (by decide) (rm_ti hw tok (km i1) b1 p5 p6 h9 n0 E_tok F_kind_tok F_text_tok F_value_tok F_start_tok F_end_tok g_tok) rfl hk10 (W := 1) (by decide) (by decide) (by decide) (by decide) (by rw [hml]; rfl) (a := tok) (argsL := [(.ref (km i1)), (.ref b1), .null, (.int p5), (.int p6)]) (rest := [(.ref tok)]) (lenOf pd_10 rfl) rfl (Nat.le_of_eq rfl) (hb hby at_188) ?_
    rintro _ T11 L11 X11 ⟨rfl, Nq, Kc, F_kind_tok, F_text_tok⟩
    have N := N.app Nq
    have sK : ∀ x ∈ [tok], Safe Z consts_1 T1.vm h9 x := allS (Safe.exa hZ.alike E_tok (by decide) (by decide)) (all0)
    have CR := CR.trans (CHr.keep Kc sK CR.1)
    have hS := own_sm hS Kc.1
    have T_b1 := T_b1.keepT Kc E_tok (by decide) (hw _ (List.mem_of_getElem? (i := 38) rfl))
    have E_tok := E_tok.keep Kc
    have zs := Nat.le_trans zs Kc.1
    have O := O.keep Kc (allS g_tok all0)
    show Ogo p e below _ (T11.setTop (mkF m 191 #[.val (.int p1), .val (.int p2), .val (.int p3), .val (.int p4), .val (.int p5), .val (.int p6), .val (.int zi1), .val (.int zi2), .val (.int ztl), .val (.int zwl), .val (.int (1 : Int32)), .val (.int t0), .val (.int t1), .val (.int d0), .val (.int d1), .val (.int w0), .val (.int w1), .val (.ref b1), .val .null, .unset, .unset, .unset] [(.ref tok)]))
    refine own_via (fun tq kq => XS.astore X11.here hx rfl (hb hby at_191) rfl rfl (l' := #[.val (.int p1), .val (.int p2), .val (.int p3), .val (.int p4), .val (.int p5), .val (.int p6), .val (.int zi1), .val (.int zi2), .val (.int ztl), .val (.int zwl), .val (.int (1 : Int32)), .val (.int t0), .val (.int t1), .val (.int d0), .val (.int d1), .val (.int w0), .val (.int w1), .val (.ref b1), .val .null, .val (.ref tok), .unset, .unset]) rfl kq) ?_
    show Ogo p e below _ (T11.setTop (mkF m 193 #[.val (.int p1), .val (.int p2), .val (.int p3), .val (.int p4), .val (.int p5), .val (.int p6), .val (.int zi1), .val (.int zi2), .val (.int ztl), .val (.int zwl), .val (.int (1 : Int32)), .val (.int t0), .val (.int t1), .val (.int d0), .val (.int d1), .val (.int w0), .val (.int w1), .val (.ref b1), .val .null, .val (.ref tok), .unset, .unset] []))
    refine own_via (fun tq kq => XS.aload X11.here hx rfl (hb hby at_193) rfl rfl kq) ?_
    show Ogo p e below _ (T11.setTop (mkF m 195 #[.val (.int p1), .val (.int p2), .val (.int p3), .val (.int p4), .val (.int p5), .val (.int p6), .val (.int zi1), .val (.int zi2), .val (.int ztl), .val (.int zwl), .val (.int (1 : Int32)), .val (.int t0), .val (.int t1), .val (.int d0), .val (.int d1), .val (.int w0), .val (.int w1), .val (.ref b1), .val .null, .val (.ref tok), .unset, .unset] [(.ref tok)]))
    refine own_via (fun tq kq => XS.iload X11.here hx rfl (hb hby at_195) rfl kq) ?_
    show Ogo p e below _ (T11.setTop (mkF m 197 #[.val (.int p1), .val (.int p2), .val (.int p3), .val (.int p4), .val (.int p5), .val (.int p6), .val (.int zi1), .val (.int zi2), .val (.int ztl), .val (.int zwl), .val (.int (1 : Int32)), .val (.int t0), .val (.int t1), .val (.int d0), .val (.int d1), .val (.int w0), .val (.int w1), .val (.ref b1), .val .null, .val (.ref tok), .unset, .unset] [(.int zi2), (.ref tok)]))
    refine own_callS X11 hx hZ hown (hw _ (List.mem_of_getElem? (i := 40) rfl)) (hw _ (List.mem_of_getElem? (i := 41) rfl)) (hw _ (List.mem_of_getElem? (i := 2) rfl)) (hw _ (List.mem_of_getElem? (i := 42) rfl)) (by decide) (rm_ki hw i2 zi2 km T11.heap n0 hi2 (by omega) S0 S1 S2 S3 S4 S5 S6 O) rfl rfl (W := 1) (by decide) (by decide) (by decide) (by decide) (by rw [hml]; rfl) (argsL := [(.int zi2)]) (rest := [(.ref tok)]) (lenOf pd_9 rfl) rfl (Nat.le_of_eq rfl) (hb hby at_197) ?_
    rintro _ T12 L12 X12 ⟨rfl, Nq, hk⟩
    have N := N.app Nq
    have hk12 := hk
    show Ogo p e below _ (T12.setTop (mkF m 200 #[.val (.int p1), .val (.int p2), .val (.int p3), .val (.int p4), .val (.int p5), .val (.int p6), .val (.int zi1), .val (.int zi2), .val (.int ztl), .val (.int zwl), .val (.int (1 : Int32)), .val (.int t0), .val (.int t1), .val (.int d0), .val (.int d1), .val (.int w0), .val (.int w1), .val (.ref b1), .val .null, .val (.ref tok), .unset, .unset] [(if i2 < 7 then Value.ref (km i2) else .null), (.ref tok)]))
    by_cases hi7 : i2 < 7
    · rw [if_pos hi7]
      show Ogo p e below _ (T12.setTop (mkF m 200 #[.val (.int p1), .val (.int p2), .val (.int p3), .val (.int p4), .val (.int p5), .val (.int p6), .val (.int zi1), .val (.int zi2), .val (.int ztl), .val (.int zwl), .val (.int (1 : Int32)), .val (.int t0), .val (.int t1), .val (.int d0), .val (.int d1), .val (.int w0), .val (.int w1), .val (.ref b1), .val .null, .val (.ref tok), .unset, .unset] [(.ref (km i2)), (.ref tok)]))
      refine own_via (fun tq kq => XS.aload X12.here hx rfl (hb hby at_200) rfl rfl kq) ?_
      show Ogo p e below _ (T12.setTop (mkF m 202 #[.val (.int p1), .val (.int p2), .val (.int p3), .val (.int p4), .val (.int p5), .val (.int p6), .val (.int zi1), .val (.int zi2), .val (.int ztl), .val (.int zwl), .val (.int (1 : Int32)), .val (.int t0), .val (.int t1), .val (.int d0), .val (.int d1), .val (.int w0), .val (.int w1), .val (.ref b1), .val .null, .val (.ref tok), .unset, .unset] [.null, (.ref (km i2)), (.ref tok)]))
      refine own_callV X12 hx hZ hown (hw _ (List.mem_of_getElem? (i := 65) rfl)) (hw _ (List.mem_of_getElem? (i := 66) rfl)) (hw _ (List.mem_of_getElem? (i := 68) rfl)) (hw _ (List.mem_of_getElem? (i := 67) rfl)) (hw _ (List.mem_of_getElem? (i := 39) rfl)) (hw _ (List.mem_of_getElem? (i := 69) rfl)) (notFace_of_selects (args := #[]) (mvT hZ (hw _ (List.mem_of_getElem? (i := 68) rfl)))) (by decide) (rm_isN hw tok (km i1) b1 (km i2) T11.heap n0 E_tok F_kind_tok F_text_tok T_b1.1) rfl hk12 E_tok (W := 0) (by decide) (by decide) (by decide) (by decide) (by rw [hml]; rfl) (b := tok) (argsL := [(.ref (km i2)), .null]) (rest := []) (lenOf pd_11 rfl) rfl (Nat.le_of_eq rfl) (hb hby at_202) ?_
      rintro _ T13 L13 X13 ⟨rfl, Nq, hk⟩
      have N := N.app Nq
      have hk13 := hk
      show Ogo p e below _ (T13.setTop (mkF m 205 #[.val (.int p1), .val (.int p2), .val (.int p3), .val (.int p4), .val (.int p5), .val (.int p6), .val (.int zi1), .val (.int zi2), .val (.int ztl), .val (.int zwl), .val (.int (1 : Int32)), .val (.int t0), .val (.int t1), .val (.int d0), .val (.int d1), .val (.int w0), .val (.int w1), .val (.ref b1), .val .null, .val (.ref tok), .unset, .unset] [(.int (0 : Int32))]))
      refine own_via (fun tq kq => XS.istore X13.here hx rfl (hb hby at_205) rfl (l' := #[.val (.int p1), .val (.int p2), .val (.int p3), .val (.int p4), .val (.int p5), .val (.int p6), .val (.int zi1), .val (.int zi2), .val (.int ztl), .val (.int zwl), .val (.int (1 : Int32)), .val (.int t0), .val (.int t1), .val (.int d0), .val (.int d1), .val (.int w0), .val (.int w1), .val (.ref b1), .val .null, .val (.ref tok), .val (.int (0 : Int32)), .unset]) rfl kq) ?_
      show Ogo p e below _ (T13.setTop (mkF m 207 #[.val (.int p1), .val (.int p2), .val (.int p3), .val (.int p4), .val (.int p5), .val (.int p6), .val (.int zi1), .val (.int zi2), .val (.int ztl), .val (.int zwl), .val (.int (1 : Int32)), .val (.int t0), .val (.int t1), .val (.int d0), .val (.int d1), .val (.int w0), .val (.int w1), .val (.ref b1), .val .null, .val (.ref tok), .val (.int (0 : Int32)), .unset] []))
      refine own_via (fun tq kq => XS.iload X13.here hx rfl (hb hby at_207) rfl kq) ?_
      show Ogo p e below _ (T13.setTop (mkF m 209 #[.val (.int p1), .val (.int p2), .val (.int p3), .val (.int p4), .val (.int p5), .val (.int p6), .val (.int zi1), .val (.int zi2), .val (.int ztl), .val (.int zwl), .val (.int (1 : Int32)), .val (.int t0), .val (.int t1), .val (.int d0), .val (.int d1), .val (.int w0), .val (.int w1), .val (.ref b1), .val .null, .val (.ref tok), .val (.int (0 : Int32)), .unset] [(.int (1 : Int32))]))
      refine own_via (fun tq kq => XS.ifYes X13.here hx rfl (pc0 := 209) (pc' := 256) rfl (hb hby at_209) rfl ((if0 _ _).trans (feq ((by decide) : ¬ ((1 : Int32) = (0 : Int32)))).2) (by decide) (by decide) kq) ?_
      show Ogo p e below _ (T13.setTop (mkF m 256 #[.val (.int p1), .val (.int p2), .val (.int p3), .val (.int p4), .val (.int p5), .val (.int p6), .val (.int zi1), .val (.int zi2), .val (.int ztl), .val (.int zwl), .val (.int (1 : Int32)), .val (.int t0), .val (.int t1), .val (.int d0), .val (.int d1), .val (.int w0), .val (.int w1), .val (.ref b1), .val .null, .val (.ref tok), .val (.int (0 : Int32)), .unset] []))
      refine own_via (fun tq kq => XS.iconst X13.here hx rfl (hb hby at_256) kq) ?_
      show Ogo p e below _ (T13.setTop (mkF m 257 #[.val (.int p1), .val (.int p2), .val (.int p3), .val (.int p4), .val (.int p5), .val (.int p6), .val (.int zi1), .val (.int zi2), .val (.int ztl), .val (.int zwl), .val (.int (1 : Int32)), .val (.int t0), .val (.int t1), .val (.int d0), .val (.int d1), .val (.int w0), .val (.int w1), .val (.ref b1), .val .null, .val (.ref tok), .val (.int (0 : Int32)), .unset] [(.int (0 : Int32))]))
      refine own_via (fun tq kq => XS.istore X13.here hx rfl (hb hby at_257) rfl (l' := #[.val (.int p1), .val (.int p2), .val (.int p3), .val (.int p4), .val (.int p5), .val (.int p6), .val (.int zi1), .val (.int zi2), .val (.int ztl), .val (.int zwl), .val (.int (1 : Int32)), .val (.int t0), .val (.int t1), .val (.int d0), .val (.int d1), .val (.int w0), .val (.int w1), .val (.ref b1), .val .null, .val (.ref tok), .val (.int (0 : Int32)), .val (.int (0 : Int32))]) rfl kq) ?_
      show Ogo p e below _ (T13.setTop (mkF m 259 #[.val (.int p1), .val (.int p2), .val (.int p3), .val (.int p4), .val (.int p5), .val (.int p6), .val (.int zi1), .val (.int zi2), .val (.int ztl), .val (.int zwl), .val (.int (1 : Int32)), .val (.int t0), .val (.int t1), .val (.int d0), .val (.int d1), .val (.int w0), .val (.int w1), .val (.ref b1), .val .null, .val (.ref tok), .val (.int (0 : Int32)), .val (.int (0 : Int32))] []))
      refine own_via (fun tq kq => XS.iload X13.here hx rfl (hb hby at_259) rfl kq) ?_
      show Ogo p e below _ (T13.setTop (mkF m 261 #[.val (.int p1), .val (.int p2), .val (.int p3), .val (.int p4), .val (.int p5), .val (.int p6), .val (.int zi1), .val (.int zi2), .val (.int ztl), .val (.int zwl), .val (.int (1 : Int32)), .val (.int t0), .val (.int t1), .val (.int d0), .val (.int d1), .val (.int w0), .val (.int w1), .val (.ref b1), .val .null, .val (.ref tok), .val (.int (0 : Int32)), .val (.int (0 : Int32))] [(.int (0 : Int32))]))
      refine own_via (fun tq kq => XS.iload X13.here hx rfl (hb hby at_261) rfl kq) ?_
      show Ogo p e below _ (T13.setTop (mkF m 263 #[.val (.int p1), .val (.int p2), .val (.int p3), .val (.int p4), .val (.int p5), .val (.int p6), .val (.int zi1), .val (.int zi2), .val (.int ztl), .val (.int zwl), .val (.int (1 : Int32)), .val (.int t0), .val (.int t1), .val (.int d0), .val (.int d1), .val (.int w0), .val (.int w1), .val (.ref b1), .val .null, .val (.ref tok), .val (.int (0 : Int32)), .val (.int (0 : Int32))] [(.int (0 : Int32)), (.int (0 : Int32))]))
      refine own_via (fun tq kq => XS.icmpNo X13.here hx rfl (hb hby at_263) rfl (teq (rfl : (0 : Int32) = (0 : Int32))).2 kq) ?_
      show Ogo p e below _ (T13.setTop (mkF m 266 #[.val (.int p1), .val (.int p2), .val (.int p3), .val (.int p4), .val (.int p5), .val (.int p6), .val (.int zi1), .val (.int zi2), .val (.int ztl), .val (.int zwl), .val (.int (1 : Int32)), .val (.int t0), .val (.int t1), .val (.int d0), .val (.int d1), .val (.int w0), .val (.int w1), .val (.ref b1), .val .null, .val (.ref tok), .val (.int (0 : Int32)), .val (.int (0 : Int32))] []))
      refine own_via (fun tq kq => XS.iconst X13.here hx rfl (hb hby at_266) kq) ?_
      show Ogo p e below _ (T13.setTop (mkF m 267 #[.val (.int p1), .val (.int p2), .val (.int p3), .val (.int p4), .val (.int p5), .val (.int p6), .val (.int zi1), .val (.int zi2), .val (.int ztl), .val (.int zwl), .val (.int (1 : Int32)), .val (.int t0), .val (.int t1), .val (.int d0), .val (.int d1), .val (.int w0), .val (.int w1), .val (.ref b1), .val .null, .val (.ref tok), .val (.int (0 : Int32)), .val (.int (0 : Int32))] [(.int (1 : Int32))]))
      refine own_via (fun tq kq => XS.goto X13.here hx rfl (pc0 := 267) (pc' := 271) rfl (hb hby at_267) (by decide) (by decide) kq) ?_
      show Ogo p e below _ (T13.setTop (mkF m 271 #[.val (.int p1), .val (.int p2), .val (.int p3), .val (.int p4), .val (.int p5), .val (.int p6), .val (.int zi1), .val (.int zi2), .val (.int ztl), .val (.int zwl), .val (.int (1 : Int32)), .val (.int t0), .val (.int t1), .val (.int d0), .val (.int d1), .val (.int w0), .val (.int w1), .val (.ref b1), .val .null, .val (.ref tok), .val (.int (0 : Int32)), .val (.int (0 : Int32))] [(.int (1 : Int32))]))
      exact own_outW X13 hlk (fun h => by rw [hret] at h; cases h) (by decide) (by decide) hZ hEL hk13 hS CR (by first | exact ⟨rfl, N⟩ | (rw [hk13]; exact ⟨rfl, N⟩)) (fun fs hr => retN X13 hx (t := .boolean) hret (by simp) (hb hby at_271) hr)
    · rw [if_neg hi7]
      show Ogo p e below _ (T12.setTop (mkF m 200 #[.val (.int p1), .val (.int p2), .val (.int p3), .val (.int p4), .val (.int p5), .val (.int p6), .val (.int zi1), .val (.int zi2), .val (.int ztl), .val (.int zwl), .val (.int (1 : Int32)), .val (.int t0), .val (.int t1), .val (.int d0), .val (.int d1), .val (.int w0), .val (.int w1), .val (.ref b1), .val .null, .val (.ref tok), .unset, .unset] [.null, (.ref tok)]))
      refine own_via (fun tq kq => XS.aload X12.here hx rfl (hb hby at_200) rfl rfl kq) ?_
      show Ogo p e below _ (T12.setTop (mkF m 202 #[.val (.int p1), .val (.int p2), .val (.int p3), .val (.int p4), .val (.int p5), .val (.int p6), .val (.int zi1), .val (.int zi2), .val (.int ztl), .val (.int zwl), .val (.int (1 : Int32)), .val (.int t0), .val (.int t1), .val (.int d0), .val (.int d1), .val (.int w0), .val (.int w1), .val (.ref b1), .val .null, .val (.ref tok), .unset, .unset] [.null, .null, (.ref tok)]))
      refine own_callV X12 hx hZ hown (hw _ (List.mem_of_getElem? (i := 65) rfl)) (hw _ (List.mem_of_getElem? (i := 66) rfl)) (hw _ (List.mem_of_getElem? (i := 68) rfl)) (hw _ (List.mem_of_getElem? (i := 67) rfl)) (hw _ (List.mem_of_getElem? (i := 39) rfl)) (hw _ (List.mem_of_getElem? (i := 69) rfl)) (notFace_of_selects (args := #[]) (mvT hZ (hw _ (List.mem_of_getElem? (i := 68) rfl)))) (by decide) (rm_isZN hw tok (km i1) b1 T11.heap n0 E_tok F_kind_tok F_text_tok) rfl hk12 E_tok (W := 0) (by decide) (by decide) (by decide) (by decide) (by rw [hml]; rfl) (b := tok) (argsL := [.null, .null]) (rest := []) (lenOf pd_11 rfl) rfl (Nat.le_of_eq rfl) (hb hby at_202) ?_
      rintro _ T14 L14 X14 ⟨rfl, Nq, hk⟩
      have N := N.app Nq
      have hk14 := hk
      show Ogo p e below _ (T14.setTop (mkF m 205 #[.val (.int p1), .val (.int p2), .val (.int p3), .val (.int p4), .val (.int p5), .val (.int p6), .val (.int zi1), .val (.int zi2), .val (.int ztl), .val (.int zwl), .val (.int (1 : Int32)), .val (.int t0), .val (.int t1), .val (.int d0), .val (.int d1), .val (.int w0), .val (.int w1), .val (.ref b1), .val .null, .val (.ref tok), .unset, .unset] [(.int (0 : Int32))]))
      refine own_via (fun tq kq => XS.istore X14.here hx rfl (hb hby at_205) rfl (l' := #[.val (.int p1), .val (.int p2), .val (.int p3), .val (.int p4), .val (.int p5), .val (.int p6), .val (.int zi1), .val (.int zi2), .val (.int ztl), .val (.int zwl), .val (.int (1 : Int32)), .val (.int t0), .val (.int t1), .val (.int d0), .val (.int d1), .val (.int w0), .val (.int w1), .val (.ref b1), .val .null, .val (.ref tok), .val (.int (0 : Int32)), .unset]) rfl kq) ?_
      show Ogo p e below _ (T14.setTop (mkF m 207 #[.val (.int p1), .val (.int p2), .val (.int p3), .val (.int p4), .val (.int p5), .val (.int p6), .val (.int zi1), .val (.int zi2), .val (.int ztl), .val (.int zwl), .val (.int (1 : Int32)), .val (.int t0), .val (.int t1), .val (.int d0), .val (.int d1), .val (.int w0), .val (.int w1), .val (.ref b1), .val .null, .val (.ref tok), .val (.int (0 : Int32)), .unset] []))
      refine own_via (fun tq kq => XS.iload X14.here hx rfl (hb hby at_207) rfl kq) ?_
      show Ogo p e below _ (T14.setTop (mkF m 209 #[.val (.int p1), .val (.int p2), .val (.int p3), .val (.int p4), .val (.int p5), .val (.int p6), .val (.int zi1), .val (.int zi2), .val (.int ztl), .val (.int zwl), .val (.int (1 : Int32)), .val (.int t0), .val (.int t1), .val (.int d0), .val (.int d1), .val (.int w0), .val (.int w1), .val (.ref b1), .val .null, .val (.ref tok), .val (.int (0 : Int32)), .unset] [(.int (1 : Int32))]))
      refine own_via (fun tq kq => XS.ifYes X14.here hx rfl (pc0 := 209) (pc' := 256) rfl (hb hby at_209) rfl ((if0 _ _).trans (feq ((by decide) : ¬ ((1 : Int32) = (0 : Int32)))).2) (by decide) (by decide) kq) ?_
      show Ogo p e below _ (T14.setTop (mkF m 256 #[.val (.int p1), .val (.int p2), .val (.int p3), .val (.int p4), .val (.int p5), .val (.int p6), .val (.int zi1), .val (.int zi2), .val (.int ztl), .val (.int zwl), .val (.int (1 : Int32)), .val (.int t0), .val (.int t1), .val (.int d0), .val (.int d1), .val (.int w0), .val (.int w1), .val (.ref b1), .val .null, .val (.ref tok), .val (.int (0 : Int32)), .unset] []))
      refine own_via (fun tq kq => XS.iconst X14.here hx rfl (hb hby at_256) kq) ?_
      show Ogo p e below _ (T14.setTop (mkF m 257 #[.val (.int p1), .val (.int p2), .val (.int p3), .val (.int p4), .val (.int p5), .val (.int p6), .val (.int zi1), .val (.int zi2), .val (.int ztl), .val (.int zwl), .val (.int (1 : Int32)), .val (.int t0), .val (.int t1), .val (.int d0), .val (.int d1), .val (.int w0), .val (.int w1), .val (.ref b1), .val .null, .val (.ref tok), .val (.int (0 : Int32)), .unset] [(.int (0 : Int32))]))
      refine own_via (fun tq kq => XS.istore X14.here hx rfl (hb hby at_257) rfl (l' := #[.val (.int p1), .val (.int p2), .val (.int p3), .val (.int p4), .val (.int p5), .val (.int p6), .val (.int zi1), .val (.int zi2), .val (.int ztl), .val (.int zwl), .val (.int (1 : Int32)), .val (.int t0), .val (.int t1), .val (.int d0), .val (.int d1), .val (.int w0), .val (.int w1), .val (.ref b1), .val .null, .val (.ref tok), .val (.int (0 : Int32)), .val (.int (0 : Int32))]) rfl kq) ?_
      show Ogo p e below _ (T14.setTop (mkF m 259 #[.val (.int p1), .val (.int p2), .val (.int p3), .val (.int p4), .val (.int p5), .val (.int p6), .val (.int zi1), .val (.int zi2), .val (.int ztl), .val (.int zwl), .val (.int (1 : Int32)), .val (.int t0), .val (.int t1), .val (.int d0), .val (.int d1), .val (.int w0), .val (.int w1), .val (.ref b1), .val .null, .val (.ref tok), .val (.int (0 : Int32)), .val (.int (0 : Int32))] []))
      refine own_via (fun tq kq => XS.iload X14.here hx rfl (hb hby at_259) rfl kq) ?_
      show Ogo p e below _ (T14.setTop (mkF m 261 #[.val (.int p1), .val (.int p2), .val (.int p3), .val (.int p4), .val (.int p5), .val (.int p6), .val (.int zi1), .val (.int zi2), .val (.int ztl), .val (.int zwl), .val (.int (1 : Int32)), .val (.int t0), .val (.int t1), .val (.int d0), .val (.int d1), .val (.int w0), .val (.int w1), .val (.ref b1), .val .null, .val (.ref tok), .val (.int (0 : Int32)), .val (.int (0 : Int32))] [(.int (0 : Int32))]))
      refine own_via (fun tq kq => XS.iload X14.here hx rfl (hb hby at_261) rfl kq) ?_
      show Ogo p e below _ (T14.setTop (mkF m 263 #[.val (.int p1), .val (.int p2), .val (.int p3), .val (.int p4), .val (.int p5), .val (.int p6), .val (.int zi1), .val (.int zi2), .val (.int ztl), .val (.int zwl), .val (.int (1 : Int32)), .val (.int t0), .val (.int t1), .val (.int d0), .val (.int d1), .val (.int w0), .val (.int w1), .val (.ref b1), .val .null, .val (.ref tok), .val (.int (0 : Int32)), .val (.int (0 : Int32))] [(.int (0 : Int32)), (.int (0 : Int32))]))
      refine own_via (fun tq kq => XS.icmpNo X14.here hx rfl (hb hby at_263) rfl (teq (rfl : (0 : Int32) = (0 : Int32))).2 kq) ?_
      show Ogo p e below _ (T14.setTop (mkF m 266 #[.val (.int p1), .val (.int p2), .val (.int p3), .val (.int p4), .val (.int p5), .val (.int p6), .val (.int zi1), .val (.int zi2), .val (.int ztl), .val (.int zwl), .val (.int (1 : Int32)), .val (.int t0), .val (.int t1), .val (.int d0), .val (.int d1), .val (.int w0), .val (.int w1), .val (.ref b1), .val .null, .val (.ref tok), .val (.int (0 : Int32)), .val (.int (0 : Int32))] []))
      refine own_via (fun tq kq => XS.iconst X14.here hx rfl (hb hby at_266) kq) ?_
      show Ogo p e below _ (T14.setTop (mkF m 267 #[.val (.int p1), .val (.int p2), .val (.int p3), .val (.int p4), .val (.int p5), .val (.int p6), .val (.int zi1), .val (.int zi2), .val (.int ztl), .val (.int zwl), .val (.int (1 : Int32)), .val (.int t0), .val (.int t1), .val (.int d0), .val (.int d1), .val (.int w0), .val (.int w1), .val (.ref b1), .val .null, .val (.ref tok), .val (.int (0 : Int32)), .val (.int (0 : Int32))] [(.int (1 : Int32))]))
      refine own_via (fun tq kq => XS.goto X14.here hx rfl (pc0 := 267) (pc' := 271) rfl (hb hby at_267) (by decide) (by decide) kq) ?_
      show Ogo p e below _ (T14.setTop (mkF m 271 #[.val (.int p1), .val (.int p2), .val (.int p3), .val (.int p4), .val (.int p5), .val (.int p6), .val (.int zi1), .val (.int zi2), .val (.int ztl), .val (.int zwl), .val (.int (1 : Int32)), .val (.int t0), .val (.int t1), .val (.int d0), .val (.int d1), .val (.int w0), .val (.int w1), .val (.ref b1), .val .null, .val (.ref tok), .val (.int (0 : Int32)), .val (.int (0 : Int32))] [(.int (1 : Int32))]))
      exact own_outW X14 hlk (fun h => by rw [hret] at h; cases h) (by decide) (by decide) hZ hEL hk14 hS CR (by first | exact ⟨rfl, N⟩ | (rw [hk14]; exact ⟨rfl, N⟩)) (fun fs hr => retN X14 hx (t := .boolean) hret (by simp) (hb hby at_271) hr)
set_option maxRecDepth 65536 in
set_option maxHeartbeats 40000000 in
theorem own_comes {Post : Tables → Env → Array Value → State → Outcome → State → Prop} (hpost : ∀ tb e args s v u, (limb_1_1.after args s (.returned v) u = true ∧ limb_1_2.after args s (.returned v) u = true ∧ True) → ReturnedEndW s (.returned v) u (Jvm.fieldLocs frame_1_writes args s ++ Jvm.arrayLocs frame_1_arrays args s ++ Jvm.staticLocs frame_1_statics s) 24 1152 → Post tb e args s (.returned v) u) :
    ArmFor flags0 classFile x code maxLocals ret World_1 tables_1 room_1 Calls_1 rest_1 Pre_1 Post := by
  intro l hfl _ _ p e ha hc hk s m args below hf hA hF happ hP
  obtain ⟨hcalls, hrest, hpre⟩ := hP
  obtain ⟨-, -, -, hnamed, -, -, -, hat⟩ := (Spec.applies_iff hf).mp happ
  obtain ⟨hg, hn⟩ := and_e (Cond.before_iff.mp (show (Jvm.Cond.and given_1 narrow_1).before args s = true from hpre))
  obtain ⟨q0, r0⟩ := and_e hg
  obtain ⟨q1, r1⟩ := and_e r0
  obtain ⟨q2, r2⟩ := and_e r1
  obtain ⟨q3, r3⟩ := and_e r2
  obtain ⟨q4, r4⟩ := and_e r3
  obtain ⟨q5, r5⟩ := and_e r4
  obtain ⟨w0, w1, w2, w3, w4, w5, rfl⟩ : ∃ w0 w1 w2 w3 w4 w5 : Value, args = #[w0, w1, w2, w3, w4, w5] := by
    have hs : args.size = 6 := by simpa [Cond.value, given_1] using q0
    obtain ⟨L⟩ := args
    match L, hs with
    | [w0, w1, w2, w3, w4, w5], _ => exact ⟨w0, w1, w2, w3, w4, w5, rfl⟩
  have hw := fun d (hd : d ∈ tables_1) => atoms_spec (ws := Jvm.Cond.code x code maxLocals ret :: tables_1) hat d (List.mem_cons_of_mem _ hd)
  have hfit : Fit s := fun {y c} hc i hi => by
    obtain ⟨ha, rfl⟩ := Array.getElem?_eq_some_iff.mp hc
    have q := List.all_eq_true.mp ((Array.all_eq_true_iff_forall_mem.mp hF) _ (Array.getElem_mem ha)) i (List.mem_range.mpr hi)
    simpa [Array.getElem?_eq_getElem hi] using q
  obtain ⟨i0, ei0⟩ := is_v q1
  obtain rfl : w0 = (.int i0) := Option.some.inj ei0
  obtain ⟨i1, ei1⟩ := is_v q2
  obtain rfl : w1 = (.int i1) := Option.some.inj ei1
  obtain ⟨i2, ei2⟩ := is_v q3
  obtain rfl : w2 = (.int i2) := Option.some.inj ei2
  obtain ⟨i3, ei3⟩ := is_v q4
  obtain rfl : w3 = (.int i3) := Option.some.inj ei3
  obtain ⟨i4, ei4⟩ := is_v q5
  obtain rfl : w4 = (.int i4) := Option.some.inj ei4
  obtain ⟨i5, ei5⟩ := is_v r5
  obtain rfl : w5 = (.int i5) := Option.some.inj ei5
  obtain ⟨hsets, hown0⟩ := atoms_of _ (rest_1_c_eq ▸ (show rest_1_c.before _ s = true from hrest))
  obtain ⟨n0, m0⟩ := and_e hn
  obtain ⟨n1, m1⟩ := and_e m0
  obtain ⟨n2, m2⟩ := and_e m1
  obtain ⟨n3, m3⟩ := and_e m2
  obtain ⟨n4, m4⟩ := and_e m3
  obtain ⟨n5, m5⟩ := and_e m4
  obtain ⟨n6, m6⟩ := and_e m5
  obtain ⟨n7, m7⟩ := and_e m6
  obtain ⟨n8, m8⟩ := and_e m7
  obtain ⟨n9, m9⟩ := and_e m8
  obtain ⟨n10, m10⟩ := and_e m9
  obtain ⟨n11, m11⟩ := and_e m10
  obtain ⟨n12, m12⟩ := and_e m11
  obtain ⟨c0, ev0⟩ := exa_v n0
  obtain ⟨c1, ev1⟩ := exa_v n12
  obtain ⟨c2, ev2⟩ := exa_v n4
  obtain ⟨c3, ev3⟩ := exa_v n6
  obtain ⟨c4, ev4⟩ := exa_v n1
  obtain ⟨c5, ev5⟩ := exa_v n10
  obtain ⟨c6, ev6⟩ := exa_v n8
  obtain ⟨km, hcm⟩ : ∃ km : Nat → Addr, km 0 = c0 ∧ km 1 = c1 ∧ km 2 = c2 ∧ km 3 = c3 ∧ km 4 = c4 ∧ km 5 = c5 ∧ km 6 = c6 := ⟨fun k => match k with | 0 => c0 | 1 => c1 | 2 => c2 | 3 => c3 | 4 => c4 | 5 => c5 | 6 => c6 | _ => 0, rfl, rfl, rfl, rfl, rfl, rfl, rfl⟩
  obtain ⟨hc0, hc1, hc2, hc3, hc4, hc5, hc6⟩ := hcm
  rw [← hc0] at ev0
  rw [← hc1] at ev1
  rw [← hc2] at ev2
  rw [← hc3] at ev3
  rw [← hc4] at ev4
  rw [← hc5] at ev5
  rw [← hc6] at ev6
  have S0 := Sta.start ev0 (Or.inr ⟨(hw _ (List.mem_of_getElem? (i := 44) rfl)), (hw _ (List.mem_of_getElem? (i := 45) rfl))⟩)
  have S1 := Sta.start ev1 (Or.inr ⟨(hw _ (List.mem_of_getElem? (i := 44) rfl)), (hw _ (List.mem_of_getElem? (i := 91) rfl))⟩)
  have S2 := Sta.start ev2 (Or.inr ⟨(hw _ (List.mem_of_getElem? (i := 44) rfl)), (hw _ (List.mem_of_getElem? (i := 83) rfl))⟩)
  have S3 := Sta.start ev3 (Or.inr ⟨(hw _ (List.mem_of_getElem? (i := 44) rfl)), (hw _ (List.mem_of_getElem? (i := 85) rfl))⟩)
  have S4 := Sta.start ev4 (Or.inr ⟨(hw _ (List.mem_of_getElem? (i := 44) rfl)), (hw _ (List.mem_of_getElem? (i := 81) rfl))⟩)
  have S5 := Sta.start ev5 (Or.inr ⟨(hw _ (List.mem_of_getElem? (i := 44) rfl)), (hw _ (List.mem_of_getElem? (i := 89) rfl))⟩)
  have S6 := Sta.start ev6 (Or.inr ⟨(hw _ (List.mem_of_getElem? (i := 44) rfl)), (hw _ (List.mem_of_getElem? (i := 87) rfl))⟩)
  have F0 := Fld.start ((fld_at ev0).symm.trans (eqv_i (Term.int_eval (0)) n3))
  have F1 := Fld.start ((fld_at ev1).symm.trans (eqv_i (Term.int_eval (1)) m12))
  have F2 := Fld.start ((fld_at ev2).symm.trans (eqv_i (Term.int_eval (2)) n5))
  have F3 := Fld.start ((fld_at ev3).symm.trans (eqv_i (Term.int_eval (3)) n7))
  have F4 := Fld.start ((fld_at ev4).symm.trans (eqv_i (Term.int_eval (4)) n2))
  have F5 := Fld.start ((fld_at ev5).symm.trans (eqv_i (Term.int_eval (5)) n11))
  have F6 := Fld.start ((fld_at ev6).symm.trans (eqv_i (Term.int_eval (6)) n9))
  have FK : ∀ i, i < 7 → Fld s s.heap (km i) "java/lang/Enum" "ordinal" "I" (.int (Int32.ofNat i)) := fun i hi => by
    match i, hi with
    | 0, _ => exact F0
    | 1, _ => exact F1
    | 2, _ => exact F2
    | 3, _ => exact F3
    | 4, _ => exact F4
    | 5, _ => exact F5
    | 6, _ => exact F6
  have hkm : ∀ i j, i < 7 → j < 7 → km i = km j → i = j := fun i j hi hj e => by
    refine Decidable.byContradiction fun ne => (Fld.ne (FK i hi) (FK j hj) (fun q => ne ?_)) e
    have q1 : (Int32.ofNat i).toInt = (Int32.ofNat j).toInt := congrArg Int32.toInt (Value.int.inj q)
    rw [Int32.toInt_ofNat_small (by omega), Int32.toInt_ofNat_small (by omega)] at q1
    omega
  have evc := Cond.before_iff.mp (hsets _ (List.mem_of_getElem? (i := 1) rfl))
  obtain ⟨zc, ezc⟩ := is_v evc
  have SCO := Sta.start ezc (Or.inl (hsets _ (List.mem_of_getElem? (i := 0) rfl)))
  have hzc : ¬ zc = 0 := gotF (Cond.eq_ints ezc (Term.int_eval (0))) (by have := not_v (Cond.before_iff.mp (hsets _ (List.mem_of_getElem? (i := 2) rfl))); simpa using this)
  have hEL : EW s _ consts_1 := EW.cons (hw _ (List.mem_of_getElem? (i := 34) rfl)) (fun c hc => nomatch hc) EW.nil
  have hCH : CHv s consts_1 s.vm s.heap := CHv.start hEL hcalls.1 (hsets _ (List.mem_of_getElem? (i := 2) rfl)) (hw _ (List.mem_of_getElem? (i := 23) rfl)) (hw _ (List.mem_of_getElem? (i := 5) rfl))
  obtain ⟨n, o, h1, h2, h3, _, L, rfl, ⟨rfl, N⟩, -, hq⟩ := rm_law hw i0 i1 i2 i3 i4 i5 km zc s.heap s.heap.size hEL (Nat.le_refl _) S0 S1 S2 S3 S4 S5 S6 SCO hzc (Old.start s) hkm p e ha hc hk s m _ below hf ((Spec.applies_iff_loose hf).mp happ).1 ⟨rfl, State.Warmed39.refl s, rfl, hCH⟩ trivial
  refine ⟨n, _, h1, h2, h3, hpost _ _ _ _ _ _ ⟨Cond.after_iff.mpr rfl, Cond.after_iff.mpr (eq_i res_at (Term.int_eval (1)) rfl), trivial⟩ ⟨hq.1, hq.2.1, hq.2.2.1, (hq.2.2.2.sift fun y hy => Or.inr (N y hy)).mono (by decide) (by decide)⟩⟩
theorem main_1_1 : Claimed_1_1 := own_comes fun _ _ _ _ _ _ h hF => ⟨h.1, hF⟩
theorem main_1_2 : Claimed_1_2 := own_comes fun _ _ _ _ _ _ h hF => ⟨h.2.1, hF⟩
end Jvm.Pilot.@@N@@
namespace Jvm.Pilot.@@N@@
open Jvm Jvm.ClassFile Sem Op Lib Jvm.Free Jvm.Stand Jvm.Pilot.@@N@@.Jvm.D
/-! MADE BY PROGRAM (witnessworld.py) out of the Statement's table words and the real class files: 23 classes; the members and pool entries that the words name. The judged class is class 1, her method 3. -/
namespace start1
open Jvm.ClassFile
def u (s : String) : CpInfo := .utf8 (stringToUtf16 s)
/-- a pool by its gaps: so many unusable entries, then the entry; so many at the end -/
def gap : Nat → List CpInfo → List CpInfo
  | 0, r => r
  | n + 1, r => .unusable :: gap n r
def poolList (es : List (Nat × CpInfo)) (last : Nat) : List CpInfo := es.foldr (fun e r => gap e.1 (e.2 :: r)) (gap last [])
def pool (es : List (Nat × CpInfo)) (last : Nat) : Array CpInfo := ⟨poolList es last⟩
def fileOf (pool : Array CpInfo) (this : Nat) (attrs : Array Attribute := #[]) (ms : Array MethodInfo := #[]) (fl : Nat := 33) (sup : Nat := 0) (ifs : Array Nat := #[]) (fds : Array FieldInfo := #[]) : ClassFile where
  minorVersion := 0
  majorVersion := 65
  constantPool := pool
  accessFlags := fl
  thisClass := this
  superClass := sup
  interfaces := ifs
  fields := fds
  methods := ms
  attributes := attrs
def plain (name : String) (sup : Option ClassId) : Class where
  name := name
  kind := .ordinary
  loader := none
  accessFlags := 33
  super := sup
  interfaces := #[]
  cf := none
  fields := #[]
  methods := #[]
  instanceTypes := #[]
  staticTypes := #[]
  resolved := #[]
  callSites := []
  init := .initialized
  statics := none
  mirror := none

def pool0 : Array CpInfo := pool [(5, u "<init>"), (0, u "()V"), (1, .class_ 10), (1, u "java/lang/Object")] 113

def k0c0 : Code := { maxStack := 0, maxLocals := 1, code := object_method_1_code, exceptionTable := #[], attributes := #[] }
def k0m0 : Method := { name := "<init>", desc := "()V", sig := { parameters := [], returnType := none }, accessFlags := 1, code := some k0c0 }
/-- java/lang/Object -/
def k0 : Class := { plain "java/lang/Object" none with
  accessFlags := 33
  interfaces := #[]
  cf := some (fileOf pool0 8 #[] #[{ accessFlags := 1, nameIndex := 5, descriptorIndex := 6, attributes := #[] }] 33 0 #[] #[])
  fields := #[]
  methods := #[k0m0]
  instanceTypes := #[]
  staticTypes := #[]
  resolved := Array.replicate 124 none
  statics := none }

def pool1 : Array CpInfo := pool [(2, .class_ 4), (1, u "java/lang/Object"), (0, u "<init>"), (0, u "()V"), (0, .fieldref 8 9), (0, .class_ 10), (0, .nameAndType 11 12), (0, u "com/example/diligent_workflow/diligentworkflow/feel/FeelLexer$Kind"), (0, u "NUMBER"), (0, u "Lcom/example/diligent_workflow/diligentworkflow/feel/FeelLexer$Kind;"), (0, .fieldref 8 14), (0, .nameAndType 15 12), (0, u "STRING"), (0, .fieldref 8 17), (0, .nameAndType 18 12), (0, u "TEMPORAL"), (0, .fieldref 8 20), (0, .nameAndType 21 12), (0, u "NAME"), (0, .fieldref 8 23), (0, .nameAndType 24 12), (0, u "KEYWORD"), (0, .fieldref 8 26), (0, .nameAndType 27 12), (0, u "SYMBOL"), (0, .fieldref 8 29), (0, .nameAndType 30 12), (0, u "END"), (0, .class_ 32), (0, u "java/lang/String"), (0, .methodref 31 34), (0, .nameAndType 5 35), (0, u "([C)V"), (0, .methodref 37 38), (0, .class_ 39), (0, .nameAndType 40 41), (0, u "com/example/diligent_workflow/diligentworkflow/feel/TokenIsPinLaw"), (0, u "str"), (0, u "(ICC)Ljava/lang/String;"), (0, .class_ 43), (0, u "com/example/diligent_workflow/diligentworkflow/feel/FeelLexer$Token"), (0, .methodref 37 45), (0, .nameAndType 46 47), (0, u "kind"), (0, u "(I)Lcom/example/diligent_workflow/diligentworkflow/feel/FeelLexer$Kind;"), (0, .methodref 42 49), (0, .nameAndType 5 50), (0, u "(Lcom/example/diligent_workflow/diligentworkflow/feel/FeelLexer$Kind;Ljava/lang/String;Ljava/lang/Object;II)V"), (0, .methodref 42 52), (0, .nameAndType 53 54), (0, u "is"), (0, u "(Lcom/example/diligent_workflow/diligentworkflow/feel/FeelLexer$Kind;Ljava/lang/String;)Z"), (3, u "law"), (0, u "(IIIIII)Z")] 7

def k1m0 : Method := { name := "<init>", desc := "()V", sig := { parameters := [], returnType := none }, accessFlags := 1, code := none }
def k1c1 : Code := { maxStack := 2, maxLocals := 1, code := method_2_code, exceptionTable := #[], attributes := #[] }
def k1m1 : Method := { name := "kind", desc := "(I)Lcom/example/diligent_workflow/diligentworkflow/feel/FeelLexer$Kind;", sig := { parameters := [.int], returnType := some (.object "com/example/diligent_workflow/diligentworkflow/feel/FeelLexer$Kind") }, accessFlags := 10, code := some k1c1 }
def k1c2 : Code := { maxStack := 6, maxLocals := 3, code := method_3_code, exceptionTable := #[], attributes := #[] }
def k1m2 : Method := { name := "str", desc := "(ICC)Ljava/lang/String;", sig := { parameters := [.int, .char, .char], returnType := some (.object "java/lang/String") }, accessFlags := 10, code := some k1c2 }
def k1c3 : Code := { maxStack := 7, maxLocals := 22, code := code, exceptionTable := #[], attributes := #[] }
def k1m3 : Method := { name := "law", desc := "(IIIIII)Z", sig := { parameters := [.int, .int, .int, .int, .int, .int], returnType := some .boolean }, accessFlags := 9, code := some k1c3 }
/-- com/example/diligent_workflow/diligentworkflow/feel/TokenIsPinLaw -/
def k1 : Class := { plain "com/example/diligent_workflow/diligentworkflow/feel/TokenIsPinLaw" (some 0) with
  accessFlags := 49
  interfaces := #[]
  cf := some (fileOf pool1 37 #[] #[{ accessFlags := 1, nameIndex := 5, descriptorIndex := 6, attributes := #[] }, { accessFlags := 10, nameIndex := 46, descriptorIndex := 47, attributes := #[] }, { accessFlags := 10, nameIndex := 40, descriptorIndex := 41, attributes := #[] }, { accessFlags := 9, nameIndex := 58, descriptorIndex := 59, attributes := #[] }] 49 2 #[] #[])
  fields := #[]
  methods := #[k1m0, k1m1, k1m2, k1m3]
  instanceTypes := #[]
  staticTypes := #[]
  resolved := Array.replicate 67 none
  statics := none }

def pool2 : Array CpInfo := pool [(1, .class_ 2), (0, u "java/io/Serializable"), (0, .class_ 4), (0, u "java/lang/Object")] 2

/-- java/io/Serializable -/
def k2 : Class := { plain "java/io/Serializable" (some 0) with
  accessFlags := 1537
  interfaces := #[]
  cf := some (fileOf pool2 1 #[] #[] 1537 3 #[] #[])
  fields := #[]
  methods := #[]
  instanceTypes := #[]
  staticTypes := #[]
  resolved := Array.replicate 7 none
  statics := none }

def pool3 : Array CpInfo := pool [(1, .class_ 2), (0, u "java/lang/Comparable"), (0, .class_ 4), (0, u "java/lang/Object")] 7

/-- java/lang/Comparable -/
def k3 : Class := { plain "java/lang/Comparable" (some 0) with
  accessFlags := 1537
  interfaces := #[]
  cf := some (fileOf pool3 1 #[] #[] 1537 3 #[] #[])
  fields := #[]
  methods := #[]
  instanceTypes := #[]
  staticTypes := #[]
  resolved := Array.replicate 12 none
  statics := none }

def pool4 : Array CpInfo := pool [(2, .class_ 4), (1, u "java/lang/CharSequence"), (42, .class_ 48), (0, u "java/lang/CharSequence$1CodePointIterator"), (10, .class_ 60), (0, u "java/lang/CharSequence$1CharIterator"), (5, .class_ 67), (0, u "java/lang/Object")] 63

/-- java/lang/CharSequence -/
def k4 : Class := { plain "java/lang/CharSequence" (some 0) with
  accessFlags := 1537
  interfaces := #[]
  cf := some (fileOf pool4 2 #[.nestMembers #[47, 59]] #[] 1537 66 #[] #[])
  fields := #[]
  methods := #[]
  instanceTypes := #[]
  staticTypes := #[]
  resolved := Array.replicate 131 none
  statics := none }

def pool5 : Array CpInfo := pool [(1, .class_ 2), (0, u "java/lang/constant/Constable"), (0, .class_ 4), (0, u "java/lang/Object")] 6

/-- java/lang/constant/Constable -/
def k5 : Class := { plain "java/lang/constant/Constable" (some 0) with
  accessFlags := 1537
  interfaces := #[]
  cf := some (fileOf pool5 1 #[] #[] 1537 3 #[] #[])
  fields := #[]
  methods := #[]
  instanceTypes := #[]
  staticTypes := #[]
  resolved := Array.replicate 11 none
  statics := none }

def pool6 : Array CpInfo := pool [(1, .class_ 2), (0, u "java/lang/constant/ConstantDesc"), (0, .class_ 4), (0, u "java/lang/Object")] 32

/-- java/lang/constant/ConstantDesc -/
def k6 : Class := { plain "java/lang/constant/ConstantDesc" (some 0) with
  accessFlags := 1537
  interfaces := #[]
  cf := some (fileOf pool6 1 #[] #[] 1537 3 #[] #[])
  fields := #[]
  methods := #[]
  instanceTypes := #[]
  staticTypes := #[]
  resolved := Array.replicate 37 none
  statics := none }

def pool7 : Array CpInfo := pool [(1, .methodref 2 3), (0, .class_ 4), (0, .nameAndType 5 6), (0, u "java/lang/Object"), (0, u "<init>"), (0, u "()V"), (0, .string 8), (0, u ""), (0, .fieldref 10 11), (0, .class_ 12), (0, .nameAndType 13 14), (0, u "java/lang/String"), (0, u "value"), (0, u "[B"), (0, .fieldref 10 16), (0, .nameAndType 17 18), (0, u "coder"), (0, u "B"), (2, u "hash"), (0, u "I"), (2, u "hashIsZero"), (0, u "Z"), (0, .methodref 10 28), (0, .nameAndType 5 29), (0, u "([CIILjava/lang/Void;)V"), (8, .fieldref 10 39), (0, .nameAndType 40 26), (0, u "COMPACT_STRINGS"), (1, .class_ 44), (1, u "java/lang/StringUTF16"), (0, u "compress"), (1, .methodref 42 48), (0, .nameAndType 49 50), (0, u "coderFromArrayLen"), (0, u "([BI)B"), (56, .class_ 109), (1, u "java/lang/StringLatin1"), (67, .methodref 42 178), (0, .nameAndType 45 179), (0, u "([CII)[B"), (361, .methodref 107 542), (0, .nameAndType 543 544), (0, u "equals"), (0, u "([B[B)Z"), (28, u "(Ljava/lang/Object;)Z"), (1, .class_ 576), (0, u "java/lang/CharSequence"), (22, u "CASE_INSENSITIVE_ORDER"), (0, u "Ljava/util/Comparator;"), (409, u "([C)V"), (90, u "serialPersistentFields"), (0, u "[Ljava/io/ObjectStreamField;"), (0, .class_ 1104), (0, u "java/lang/String$CaseInsensitiveComparator"), (1, .class_ 1107), (0, u "java/io/Serializable"), (0, .class_ 1109), (0, u "java/lang/Comparable"), (0, .class_ 1111), (0, u "java/lang/constant/Constable"), (0, .class_ 1113), (0, u "java/lang/constant/ConstantDesc"), (2, u "serialVersionUID"), (0, u "J"), (3, u "REPL"), (0, u "C"), (2, u "LATIN1"), (1, u "UTF16")] 323

def k7m0 : Method := { name := "<init>", desc := "()V", sig := { parameters := [], returnType := none }, accessFlags := 1, code := none }
def k7c1 : Code := { maxStack := 5, maxLocals := 2, code := jdk_42_method_3_code, exceptionTable := #[], attributes := #[] }
def k7m1 : Method := { name := "<init>", desc := "([C)V", sig := { parameters := [(.array .char)], returnType := none }, accessFlags := 1, code := some k7c1 }
def k7c2 : Code := { maxStack := 2, maxLocals := 3, code := jdk_42_method_66_code, exceptionTable := #[], attributes := #[] }
def k7m2 : Method := { name := "equals", desc := "(Ljava/lang/Object;)Z", sig := { parameters := [(.object "java/lang/Object")], returnType := some .boolean }, accessFlags := 1, code := some k7c2 }
def k7c3 : Code := { maxStack := 4, maxLocals := 6, code := jdk_42_method_149_code, exceptionTable := #[], attributes := #[] }
def k7m3 : Method := { name := "<init>", desc := "([CIILjava/lang/Void;)V", sig := { parameters := [(.array .char), .int, .int, (.object "java/lang/Void")], returnType := none }, accessFlags := 2, code := some k7c3 }
/-- java/lang/String -/
def k7 : Class := { plain "java/lang/String" (some 0) with
  accessFlags := 49
  interfaces := #[2, 3, 4, 5, 6]
  cf := some (fileOf pool7 10 #[.nestMembers #[1103]] #[{ accessFlags := 1, nameIndex := 5, descriptorIndex := 6, attributes := #[] }, { accessFlags := 1, nameIndex := 5, descriptorIndex := 1010, attributes := #[] }, { accessFlags := 1, nameIndex := 543, descriptorIndex := 573, attributes := #[] }, { accessFlags := 2, nameIndex := 5, descriptorIndex := 29, attributes := #[] }] 49 2 #[1106, 1108, 575, 1110, 1112] #[{ accessFlags := 18, nameIndex := 13, descriptorIndex := 14, attributes := #[] }, { accessFlags := 18, nameIndex := 17, descriptorIndex := 18, attributes := #[] }, { accessFlags := 2, nameIndex := 21, descriptorIndex := 22, attributes := #[] }, { accessFlags := 2, nameIndex := 25, descriptorIndex := 26, attributes := #[] }, { accessFlags := 26, nameIndex := 1116, descriptorIndex := 1117, attributes := #[] }, { accessFlags := 24, nameIndex := 40, descriptorIndex := 26, attributes := #[] }, { accessFlags := 26, nameIndex := 1101, descriptorIndex := 1102, attributes := #[] }, { accessFlags := 26, nameIndex := 1121, descriptorIndex := 1122, attributes := #[] }, { accessFlags := 25, nameIndex := 599, descriptorIndex := 600, attributes := #[] }, { accessFlags := 24, nameIndex := 1125, descriptorIndex := 18, attributes := #[] }, { accessFlags := 24, nameIndex := 1127, descriptorIndex := 18, attributes := #[] }])
  fields := #[{ name := "value", type := (.array .byte), accessFlags := 18, slot := 0, constantValue := 0 }, { name := "coder", type := .byte, accessFlags := 18, slot := 1, constantValue := 0 }, { name := "hash", type := .int, accessFlags := 2, slot := 2, constantValue := 0 }, { name := "hashIsZero", type := .boolean, accessFlags := 2, slot := 3, constantValue := 0 }, { name := "serialVersionUID", type := .long, accessFlags := 26, slot := 0, constantValue := 0 }, { name := "COMPACT_STRINGS", type := .boolean, accessFlags := 24, slot := 1, constantValue := 0 }, { name := "serialPersistentFields", type := (.array (.object "java/io/ObjectStreamField")), accessFlags := 26, slot := 2, constantValue := 0 }, { name := "REPL", type := .char, accessFlags := 26, slot := 3, constantValue := 0 }, { name := "CASE_INSENSITIVE_ORDER", type := (.object "java/util/Comparator"), accessFlags := 25, slot := 4, constantValue := 0 }, { name := "LATIN1", type := .byte, accessFlags := 24, slot := 5, constantValue := 0 }, { name := "UTF16", type := .byte, accessFlags := 24, slot := 6, constantValue := 0 }]
  methods := #[k7m0, k7m1, k7m2, k7m3]
  instanceTypes := #[(.array .byte), .byte, .int, .boolean]
  staticTypes := #[.long, .boolean, (.array (.object "java/io/ObjectStreamField")), .char, (.object "java/util/Comparator"), .byte, .byte]
  resolved := Array.replicate 1451 none
  statics := some 0 }

def pool8 : Array CpInfo := pool [(6, .class_ 8), (1, u "java/lang/Object"), (0, u "<init>"), (0, u "()V"), (1, .class_ 14), (1, u "java/lang/StringUTF16"), (31, u "$assertionsDisabled"), (0, u "Z"), (13, u "HI_BYTE_SHIFT"), (0, u "I"), (2, u "LO_BYTE_SHIFT"), (49, .methodref 12 116), (0, .nameAndType 117 118), (0, u "compress"), (0, u "([CI[BII)I"), (3, u "([CII)[B"), (138, u "coderFromArrayLen"), (0, u "([BI)B"), (106, .class_ 371), (1, u "java/lang/StringUTF16$LinesSpliterator"), (58, u "MAX_LENGTH"), (196, .class_ 628), (0, u "java/lang/StringUTF16$CodePointsSpliterator"), (0, .class_ 630), (0, u "java/lang/StringUTF16$CharsSpliterator")] 4

def k8m0 : Method := { name := "<init>", desc := "()V", sig := { parameters := [], returnType := none }, accessFlags := 0, code := none }
def k8c1 : Code := { maxStack := 2, maxLocals := 2, code := jdk_52_method_15_code, exceptionTable := #[], attributes := #[] }
def k8m1 : Method := { name := "coderFromArrayLen", desc := "([BI)B", sig := { parameters := [(.array .byte), .int], returnType := some .byte }, accessFlags := 8, code := some k8c1 }
def k8c2 : Code := { maxStack := 5, maxLocals := 6, code := jdk_52_method_16_code, exceptionTable := #[], attributes := #[] }
def k8m2 : Method := { name := "compress", desc := "([CII)[B", sig := { parameters := [(.array .char), .int, .int], returnType := some (.array .byte) }, accessFlags := 9, code := some k8c2 }
def k8c3 : Code := { maxStack := 3, maxLocals := 7, code := jdk_52_method_21_code, exceptionTable := #[], attributes := #[] }
def k8m3 : Method := { name := "compress", desc := "([CI[BII)I", sig := { parameters := [(.array .char), .int, (.array .byte), .int, .int], returnType := some .int }, accessFlags := 9, code := some k8c3 }
/-- java/lang/StringUTF16 -/
def k8 : Class := { plain "java/lang/StringUTF16" (some 0) with
  accessFlags := 48
  interfaces := #[]
  cf := some (fileOf pool8 12 #[.nestMembers #[627, 629, 369]] #[{ accessFlags := 0, nameIndex := 9, descriptorIndex := 10, attributes := #[] }, { accessFlags := 8, nameIndex := 261, descriptorIndex := 262, attributes := #[] }, { accessFlags := 9, nameIndex := 117, descriptorIndex := 122, attributes := #[] }, { accessFlags := 9, nameIndex := 117, descriptorIndex := 118, attributes := #[] }] 48 6 #[] #[{ accessFlags := 26, nameIndex := 61, descriptorIndex := 62, attributes := #[] }, { accessFlags := 26, nameIndex := 65, descriptorIndex := 62, attributes := #[] }, { accessFlags := 24, nameIndex := 430, descriptorIndex := 62, attributes := #[] }, { accessFlags := 4120, nameIndex := 46, descriptorIndex := 47, attributes := #[] }])
  fields := #[{ name := "HI_BYTE_SHIFT", type := .int, accessFlags := 26, slot := 0, constantValue := 0 }, { name := "LO_BYTE_SHIFT", type := .int, accessFlags := 26, slot := 1, constantValue := 0 }, { name := "MAX_LENGTH", type := .int, accessFlags := 24, slot := 2, constantValue := 0 }, { name := "$assertionsDisabled", type := .boolean, accessFlags := 4120, slot := 3, constantValue := 0 }]
  methods := #[k8m0, k8m1, k8m2, k8m3]
  instanceTypes := #[]
  staticTypes := #[.int, .int, .int, .boolean]
  resolved := Array.replicate 635 none
  statics := none }

def pool9 : Array CpInfo := pool [(1, .methodref 2 3), (0, .class_ 4), (0, .nameAndType 5 6), (0, u "java/lang/Object"), (0, u "<init>"), (0, u "()V"), (0, .class_ 8), (0, u "java/lang/Record")] 13

def k9c0 : Code := { maxStack := 1, maxLocals := 1, code := jdk_30_method_1_code, exceptionTable := #[], attributes := #[] }
def k9m0 : Method := { name := "<init>", desc := "()V", sig := { parameters := [], returnType := none }, accessFlags := 4, code := some k9c0 }
/-- java/lang/Record -/
def k9 : Class := { plain "java/lang/Record" (some 0) with
  accessFlags := 1057
  interfaces := #[]
  cf := some (fileOf pool9 7 #[] #[{ accessFlags := 4, nameIndex := 5, descriptorIndex := 6, attributes := #[] }] 1057 2 #[] #[])
  fields := #[]
  methods := #[k9m0]
  instanceTypes := #[]
  staticTypes := #[]
  resolved := Array.replicate 22 none
  statics := none }

def pool10 : Array CpInfo := pool [(1, .methodref 2 3), (0, .class_ 4), (0, .nameAndType 5 6), (0, u "java/lang/Record"), (0, u "<init>"), (0, u "()V"), (0, .fieldref 8 9), (0, .class_ 10), (0, .nameAndType 11 12), (0, u "com/example/diligent_workflow/diligentworkflow/feel/FeelLexer$Token"), (0, u "kind"), (0, u "Lcom/example/diligent_workflow/diligentworkflow/feel/FeelLexer$Kind;"), (0, .fieldref 8 14), (0, .nameAndType 15 16), (0, u "text"), (0, u "Ljava/lang/String;"), (0, .fieldref 8 18), (0, .nameAndType 19 20), (0, u "value"), (0, u "Ljava/lang/Object;"), (0, .fieldref 8 22), (0, .nameAndType 23 24), (0, u "start"), (0, u "I"), (0, .fieldref 8 26), (0, .nameAndType 27 24), (0, u "end"), (0, .methodref 29 30), (0, .class_ 31), (0, .nameAndType 32 33), (0, u "java/lang/String"), (0, u "equals"), (0, u "(Ljava/lang/Object;)Z"), (11, u "(Lcom/example/diligent_workflow/diligentworkflow/feel/FeelLexer$Kind;Ljava/lang/String;Ljava/lang/Object;II)V"), (3, u "is"), (0, u "(Lcom/example/diligent_workflow/diligentworkflow/feel/FeelLexer$Kind;Ljava/lang/String;)Z"), (8, .class_ 60), (0, u "com/example/diligent_workflow/diligentworkflow/feel/FeelLexer")] 26

def k10c0 : Code := { maxStack := 2, maxLocals := 6, code := prog_67_method_1_code, exceptionTable := #[], attributes := #[] }
def k10m0 : Method := { name := "<init>", desc := "(Lcom/example/diligent_workflow/diligentworkflow/feel/FeelLexer$Kind;Ljava/lang/String;Ljava/lang/Object;II)V", sig := { parameters := [(.object "com/example/diligent_workflow/diligentworkflow/feel/FeelLexer$Kind"), (.object "java/lang/String"), (.object "java/lang/Object"), .int, .int], returnType := none }, accessFlags := 0, code := some k10c0 }
def k10c1 : Code := { maxStack := 2, maxLocals := 3, code := prog_67_method_2_code, exceptionTable := #[], attributes := #[] }
def k10m1 : Method := { name := "is", desc := "(Lcom/example/diligent_workflow/diligentworkflow/feel/FeelLexer$Kind;Ljava/lang/String;)Z", sig := { parameters := [(.object "com/example/diligent_workflow/diligentworkflow/feel/FeelLexer$Kind"), (.object "java/lang/String")], returnType := some .boolean }, accessFlags := 0, code := some k10c1 }
/-- com/example/diligent_workflow/diligentworkflow/feel/FeelLexer$Token -/
def k10 : Class := { plain "com/example/diligent_workflow/diligentworkflow/feel/FeelLexer$Token" (some 9) with
  accessFlags := 48
  interfaces := #[]
  cf := some (fileOf pool10 8 #[.nestHost 59] #[{ accessFlags := 0, nameIndex := 5, descriptorIndex := 45, attributes := #[] }, { accessFlags := 0, nameIndex := 49, descriptorIndex := 50, attributes := #[] }] 48 2 #[] #[{ accessFlags := 18, nameIndex := 11, descriptorIndex := 12, attributes := #[] }, { accessFlags := 18, nameIndex := 15, descriptorIndex := 16, attributes := #[] }, { accessFlags := 18, nameIndex := 19, descriptorIndex := 20, attributes := #[] }, { accessFlags := 18, nameIndex := 23, descriptorIndex := 24, attributes := #[] }, { accessFlags := 18, nameIndex := 27, descriptorIndex := 24, attributes := #[] }])
  fields := #[{ name := "kind", type := (.object "com/example/diligent_workflow/diligentworkflow/feel/FeelLexer$Kind"), accessFlags := 18, slot := 0, constantValue := 0 }, { name := "text", type := (.object "java/lang/String"), accessFlags := 18, slot := 1, constantValue := 0 }, { name := "value", type := (.object "java/lang/Object"), accessFlags := 18, slot := 2, constantValue := 0 }, { name := "start", type := .int, accessFlags := 18, slot := 3, constantValue := 0 }, { name := "end", type := .int, accessFlags := 18, slot := 4, constantValue := 0 }]
  methods := #[k10m0, k10m1]
  instanceTypes := #[(.object "com/example/diligent_workflow/diligentworkflow/feel/FeelLexer$Kind"), (.object "java/lang/String"), (.object "java/lang/Object"), .int, .int]
  staticTypes := #[]
  resolved := Array.replicate 87 none
  statics := none }

def pool11 : Array CpInfo := pool [(2, .class_ 4), (1, u "java/lang/Enum"), (0, u "name"), (0, u "Ljava/lang/String;"), (2, u "ordinal"), (0, u "I"), (1, .class_ 14), (1, u "java/lang/Object"), (4, u "hash"), (86, .class_ 108), (1, u "java/lang/Enum$EnumDesc"), (2, .class_ 112), (0, u "java/lang/constant/Constable"), (0, .class_ 114), (0, u "java/lang/Comparable"), (0, .class_ 116), (0, u "java/io/Serializable")] 87

/-- java/lang/Enum -/
def k11 : Class := { plain "java/lang/Enum" (some 0) with
  accessFlags := 1057
  interfaces := #[5, 3, 2]
  cf := some (fileOf pool11 2 #[.nestMembers #[106]] #[] 1057 12 #[111, 113, 115] #[{ accessFlags := 18, nameIndex := 5, descriptorIndex := 6, attributes := #[] }, { accessFlags := 18, nameIndex := 9, descriptorIndex := 10, attributes := #[] }, { accessFlags := 2, nameIndex := 19, descriptorIndex := 10, attributes := #[] }])
  fields := #[{ name := "name", type := (.object "java/lang/String"), accessFlags := 18, slot := 0, constantValue := 0 }, { name := "ordinal", type := .int, accessFlags := 18, slot := 1, constantValue := 0 }, { name := "hash", type := .int, accessFlags := 2, slot := 2, constantValue := 0 }]
  methods := #[]
  instanceTypes := #[(.object "java/lang/String"), .int, .int]
  staticTypes := #[]
  resolved := Array.replicate 204 none
  statics := none }

def pool12 : Array CpInfo := pool [(1, .class_ 2), (0, u "com/example/diligent_workflow/diligentworkflow/feel/FeelLexer$Kind"), (2, u "NUMBER"), (0, u "Lcom/example/diligent_workflow/diligentworkflow/feel/FeelLexer$Kind;"), (2, u "STRING"), (2, u "TEMPORAL"), (2, u "NAME"), (2, u "KEYWORD"), (2, u "SYMBOL"), (2, u "END"), (2, u "$VALUES"), (0, u "[Lcom/example/diligent_workflow/diligentworkflow/feel/FeelLexer$Kind;"), (6, .class_ 37), (1, u "java/lang/Enum"), (30, .class_ 69), (0, u "com/example/diligent_workflow/diligentworkflow/feel/FeelLexer")] 2

/-- com/example/diligent_workflow/diligentworkflow/feel/FeelLexer$Kind -/
def k12 : Class := { plain "com/example/diligent_workflow/diligentworkflow/feel/FeelLexer$Kind" (some 11) with
  accessFlags := 16432
  interfaces := #[]
  cf := some (fileOf pool12 1 #[.nestHost 68] #[] 16432 35 #[] #[{ accessFlags := 16409, nameIndex := 5, descriptorIndex := 6, attributes := #[] }, { accessFlags := 16409, nameIndex := 9, descriptorIndex := 6, attributes := #[] }, { accessFlags := 16409, nameIndex := 12, descriptorIndex := 6, attributes := #[] }, { accessFlags := 16409, nameIndex := 15, descriptorIndex := 6, attributes := #[] }, { accessFlags := 16409, nameIndex := 18, descriptorIndex := 6, attributes := #[] }, { accessFlags := 16409, nameIndex := 21, descriptorIndex := 6, attributes := #[] }, { accessFlags := 16409, nameIndex := 24, descriptorIndex := 6, attributes := #[] }, { accessFlags := 4122, nameIndex := 27, descriptorIndex := 28, attributes := #[] }])
  fields := #[{ name := "NUMBER", type := (.object "com/example/diligent_workflow/diligentworkflow/feel/FeelLexer$Kind"), accessFlags := 16409, slot := 0, constantValue := 0 }, { name := "STRING", type := (.object "com/example/diligent_workflow/diligentworkflow/feel/FeelLexer$Kind"), accessFlags := 16409, slot := 1, constantValue := 0 }, { name := "TEMPORAL", type := (.object "com/example/diligent_workflow/diligentworkflow/feel/FeelLexer$Kind"), accessFlags := 16409, slot := 2, constantValue := 0 }, { name := "NAME", type := (.object "com/example/diligent_workflow/diligentworkflow/feel/FeelLexer$Kind"), accessFlags := 16409, slot := 3, constantValue := 0 }, { name := "KEYWORD", type := (.object "com/example/diligent_workflow/diligentworkflow/feel/FeelLexer$Kind"), accessFlags := 16409, slot := 4, constantValue := 0 }, { name := "SYMBOL", type := (.object "com/example/diligent_workflow/diligentworkflow/feel/FeelLexer$Kind"), accessFlags := 16409, slot := 5, constantValue := 0 }, { name := "END", type := (.object "com/example/diligent_workflow/diligentworkflow/feel/FeelLexer$Kind"), accessFlags := 16409, slot := 6, constantValue := 0 }, { name := "$VALUES", type := (.array (.object "com/example/diligent_workflow/diligentworkflow/feel/FeelLexer$Kind")), accessFlags := 4122, slot := 7, constantValue := 0 }]
  methods := #[]
  instanceTypes := #[(.object "java/lang/String"), .int, .int]
  staticTypes := #[(.object "com/example/diligent_workflow/diligentworkflow/feel/FeelLexer$Kind"), (.object "com/example/diligent_workflow/diligentworkflow/feel/FeelLexer$Kind"), (.object "com/example/diligent_workflow/diligentworkflow/feel/FeelLexer$Kind"), (.object "com/example/diligent_workflow/diligentworkflow/feel/FeelLexer$Kind"), (.object "com/example/diligent_workflow/diligentworkflow/feel/FeelLexer$Kind"), (.object "com/example/diligent_workflow/diligentworkflow/feel/FeelLexer$Kind"), (.object "com/example/diligent_workflow/diligentworkflow/feel/FeelLexer$Kind"), (.array (.object "com/example/diligent_workflow/diligentworkflow/feel/FeelLexer$Kind"))]
  resolved := Array.replicate 72 none
  statics := some 1 }

def pool13 : Array CpInfo := pool [(4, .class_ 6), (1, u "java/lang/Object"), (0, u "<init>"), (0, u "()V"), (5, .class_ 16), (1, u "java/lang/StringLatin1"), (104, u "$assertionsDisabled"), (0, u "Z"), (98, .class_ 223), (1, u "java/lang/StringLatin1$LinesSpliterator"), (57, u "equals"), (0, u "([B[B)Z"), (107, .class_ 391), (0, u "java/lang/StringLatin1$CharsSpliterator")] 3

def k13m0 : Method := { name := "<init>", desc := "()V", sig := { parameters := [], returnType := none }, accessFlags := 0, code := none }
def k13c1 : Code := { maxStack := 3, maxLocals := 3, code := jdk_43_method_13_code, exceptionTable := #[], attributes := #[] }
def k13m1 : Method := { name := "equals", desc := "([B[B)Z", sig := { parameters := [(.array .byte), (.array .byte)], returnType := some .boolean }, accessFlags := 9, code := some k13c1 }
/-- java/lang/StringLatin1 -/
def k13 : Class := { plain "java/lang/StringLatin1" (some 0) with
  accessFlags := 48
  interfaces := #[]
  cf := some (fileOf pool13 14 #[.nestMembers #[390, 221]] #[{ accessFlags := 0, nameIndex := 7, descriptorIndex := 8, attributes := #[] }, { accessFlags := 9, nameIndex := 281, descriptorIndex := 282, attributes := #[] }] 48 4 #[] #[{ accessFlags := 4120, nameIndex := 121, descriptorIndex := 122, attributes := #[] }])
  fields := #[{ name := "$assertionsDisabled", type := .boolean, accessFlags := 4120, slot := 0, constantValue := 0 }]
  methods := #[k13m0, k13m1]
  instanceTypes := #[]
  staticTypes := #[.boolean]
  resolved := Array.replicate 395 none
  statics := none }

def pool14 : Array CpInfo := pool [(2, .class_ 4), (1, u "java/lang/Object"), (0, u "<init>"), (0, u "()V"), (17, .class_ 26), (1, u "jdk/internal/util/Preconditions"), (28, .class_ 56), (0, u "jdk/internal/util/Preconditions$4"), (57, .class_ 115), (0, u "jdk/internal/util/Preconditions$1"), (7, u "SIOOBE_FORMATTER"), (0, u "Ljava/util/function/BiFunction;"), (0, .class_ 126), (0, u "jdk/internal/util/Preconditions$2"), (3, u "AIOOBE_FORMATTER"), (0, .class_ 132), (0, u "jdk/internal/util/Preconditions$3"), (3, u "IOOBE_FORMATTER")] 57

def k14m0 : Method := { name := "<init>", desc := "()V", sig := { parameters := [], returnType := none }, accessFlags := 1, code := none }
/-- jdk/internal/util/Preconditions -/
def k14 : Class := { plain "jdk/internal/util/Preconditions" (some 0) with
  accessFlags := 33
  interfaces := #[]
  cf := some (fileOf pool14 24 #[.nestMembers #[55, 131, 125, 114]] #[{ accessFlags := 1, nameIndex := 5, descriptorIndex := 6, attributes := #[] }] 33 2 #[] #[{ accessFlags := 25, nameIndex := 123, descriptorIndex := 124, attributes := #[] }, { accessFlags := 25, nameIndex := 130, descriptorIndex := 124, attributes := #[] }, { accessFlags := 25, nameIndex := 136, descriptorIndex := 124, attributes := #[] }])
  fields := #[{ name := "SIOOBE_FORMATTER", type := (.object "java/util/function/BiFunction"), accessFlags := 25, slot := 0, constantValue := 0 }, { name := "AIOOBE_FORMATTER", type := (.object "java/util/function/BiFunction"), accessFlags := 25, slot := 1, constantValue := 0 }, { name := "IOOBE_FORMATTER", type := (.object "java/util/function/BiFunction"), accessFlags := 25, slot := 2, constantValue := 0 }]
  methods := #[k14m0]
  instanceTypes := #[]
  staticTypes := #[(.object "java/util/function/BiFunction"), (.object "java/util/function/BiFunction"), (.object "java/util/function/BiFunction")]
  resolved := Array.replicate 194 none
  statics := some 2 }

def pool15 : Array CpInfo := pool [(9, u "<init>"), (6, .class_ 18), (1, u "java/lang/Object"), (0, u "()V"), (1, .class_ 23), (1, u "jdk/internal/util/ArraysSupport"), (0, u "LOG2_ARRAY_LONG_INDEX_SCALE"), (0, u "I"), (2, u "U"), (0, u "Ljdk/internal/misc/Unsafe;"), (8, u "BIG_ENDIAN"), (0, u "Z"), (8, u "LOG2_BYTE_BIT_SIZE"), (4, u "LOG2_ARRAY_INT_INDEX_SCALE"), (54, u "JLA"), (0, u "Ljdk/internal/access/JavaLangAccess;"), (11, u "LOG2_ARRAY_BOOLEAN_INDEX_SCALE"), (9, u "LOG2_ARRAY_BYTE_INDEX_SCALE"), (5, u "LOG2_ARRAY_CHAR_INDEX_SCALE"), (5, u "LOG2_ARRAY_SHORT_INDEX_SCALE"), (18, u "LOG2_ARRAY_FLOAT_INDEX_SCALE"), (24, u "LOG2_ARRAY_DOUBLE_INDEX_SCALE"), (89, u "T_BOOLEAN"), (2, u "T_CHAR"), (1, u "T_FLOAT"), (1, u "T_DOUBLE"), (1, u "T_BYTE"), (1, u "T_SHORT"), (1, u "T_INT"), (1, u "T_LONG"), (1, u "SOFT_MAX_ARRAY_LENGTH")] 83

def k15m0 : Method := { name := "<init>", desc := "()V", sig := { parameters := [], returnType := none }, accessFlags := 2, code := none }
/-- jdk/internal/util/ArraysSupport -/
def k15 : Class := { plain "jdk/internal/util/ArraysSupport" (some 0) with
  accessFlags := 33
  interfaces := #[]
  cf := some (fileOf pool15 21 #[] #[{ accessFlags := 2, nameIndex := 9, descriptorIndex := 19, attributes := #[] }] 33 16 #[] #[{ accessFlags := 24, nameIndex := 28, descriptorIndex := 29, attributes := #[] }, { accessFlags := 26, nameIndex := 38, descriptorIndex := 39, attributes := #[] }, { accessFlags := 25, nameIndex := 121, descriptorIndex := 25, attributes := #[] }, { accessFlags := 25, nameIndex := 131, descriptorIndex := 25, attributes := #[] }, { accessFlags := 25, nameIndex := 137, descriptorIndex := 25, attributes := #[] }, { accessFlags := 25, nameIndex := 143, descriptorIndex := 25, attributes := #[] }, { accessFlags := 25, nameIndex := 53, descriptorIndex := 25, attributes := #[] }, { accessFlags := 25, nameIndex := 24, descriptorIndex := 25, attributes := #[] }, { accessFlags := 25, nameIndex := 162, descriptorIndex := 25, attributes := #[] }, { accessFlags := 25, nameIndex := 187, descriptorIndex := 25, attributes := #[] }, { accessFlags := 26, nameIndex := 48, descriptorIndex := 25, attributes := #[] }, { accessFlags := 25, nameIndex := 277, descriptorIndex := 25, attributes := #[] }, { accessFlags := 25, nameIndex := 280, descriptorIndex := 25, attributes := #[] }, { accessFlags := 25, nameIndex := 282, descriptorIndex := 25, attributes := #[] }, { accessFlags := 25, nameIndex := 284, descriptorIndex := 25, attributes := #[] }, { accessFlags := 25, nameIndex := 286, descriptorIndex := 25, attributes := #[] }, { accessFlags := 25, nameIndex := 288, descriptorIndex := 25, attributes := #[] }, { accessFlags := 25, nameIndex := 290, descriptorIndex := 25, attributes := #[] }, { accessFlags := 25, nameIndex := 292, descriptorIndex := 25, attributes := #[] }, { accessFlags := 26, nameIndex := 108, descriptorIndex := 109, attributes := #[] }, { accessFlags := 25, nameIndex := 294, descriptorIndex := 25, attributes := #[] }])
  fields := #[{ name := "U", type := (.object "jdk/internal/misc/Unsafe"), accessFlags := 24, slot := 0, constantValue := 0 }, { name := "BIG_ENDIAN", type := .boolean, accessFlags := 26, slot := 1, constantValue := 0 }, { name := "LOG2_ARRAY_BOOLEAN_INDEX_SCALE", type := .int, accessFlags := 25, slot := 2, constantValue := 0 }, { name := "LOG2_ARRAY_BYTE_INDEX_SCALE", type := .int, accessFlags := 25, slot := 3, constantValue := 0 }, { name := "LOG2_ARRAY_CHAR_INDEX_SCALE", type := .int, accessFlags := 25, slot := 4, constantValue := 0 }, { name := "LOG2_ARRAY_SHORT_INDEX_SCALE", type := .int, accessFlags := 25, slot := 5, constantValue := 0 }, { name := "LOG2_ARRAY_INT_INDEX_SCALE", type := .int, accessFlags := 25, slot := 6, constantValue := 0 }, { name := "LOG2_ARRAY_LONG_INDEX_SCALE", type := .int, accessFlags := 25, slot := 7, constantValue := 0 }, { name := "LOG2_ARRAY_FLOAT_INDEX_SCALE", type := .int, accessFlags := 25, slot := 8, constantValue := 0 }, { name := "LOG2_ARRAY_DOUBLE_INDEX_SCALE", type := .int, accessFlags := 25, slot := 9, constantValue := 0 }, { name := "LOG2_BYTE_BIT_SIZE", type := .int, accessFlags := 26, slot := 10, constantValue := 0 }, { name := "T_BOOLEAN", type := .int, accessFlags := 25, slot := 11, constantValue := 0 }, { name := "T_CHAR", type := .int, accessFlags := 25, slot := 12, constantValue := 0 }, { name := "T_FLOAT", type := .int, accessFlags := 25, slot := 13, constantValue := 0 }, { name := "T_DOUBLE", type := .int, accessFlags := 25, slot := 14, constantValue := 0 }, { name := "T_BYTE", type := .int, accessFlags := 25, slot := 15, constantValue := 0 }, { name := "T_SHORT", type := .int, accessFlags := 25, slot := 16, constantValue := 0 }, { name := "T_INT", type := .int, accessFlags := 25, slot := 17, constantValue := 0 }, { name := "T_LONG", type := .int, accessFlags := 25, slot := 18, constantValue := 0 }, { name := "JLA", type := (.object "jdk/internal/access/JavaLangAccess"), accessFlags := 26, slot := 19, constantValue := 0 }, { name := "SOFT_MAX_ARRAY_LENGTH", type := .int, accessFlags := 25, slot := 20, constantValue := 0 }]
  methods := #[k15m0]
  instanceTypes := #[]
  staticTypes := #[(.object "jdk/internal/misc/Unsafe"), .boolean, .int, .int, .int, .int, .int, .int, .int, .int, .int, .int, .int, .int, .int, .int, .int, .int, .int, (.object "jdk/internal/access/JavaLangAccess"), .int]
  resolved := Array.replicate 378 none
  statics := none }

def pool16 : Array CpInfo := pool [(1, u "java/lang/Cloneable"), (0, .class_ 1), (0, u "java/lang/Object"), (0, .class_ 3)] 3

/-- java/lang/Cloneable -/
def k16 : Class := { plain "java/lang/Cloneable" (some 0) with
  accessFlags := 1537
  interfaces := #[]
  cf := some (fileOf pool16 2 #[] #[] 1537 4 #[] #[])
  fields := #[]
  methods := #[]
  instanceTypes := #[]
  staticTypes := #[]
  resolved := Array.replicate 8 none
  statics := none }

/-- the primitive byte -/
def k17 : Class := { plain "byte" none with kind := .primitive 'B', accessFlags := 0x411 }
/-- [B -/
def k18 : Class := { plain "[B" (some 0) with kind := .array 17 .byte, interfaces := #[16, 2], accessFlags := 1041 }

/-- the primitive char -/
def k19 : Class := { plain "char" none with kind := .primitive 'C', accessFlags := 0x411 }
/-- [C -/
def k20 : Class := { plain "[C" (some 0) with kind := .array 19 .char, interfaces := #[16, 2], accessFlags := 1041 }

/-- the primitive int -/
def k21 : Class := { plain "int" none with kind := .primitive 'I', accessFlags := 0x411 }
/-- [I -/
def k22 : Class := { plain "[I" (some 0) with kind := .array 21 .int, interfaces := #[16, 2], accessFlags := 1041 }

def heap : Heap := #[{ cls := 7, slots := #[.long 0, .int 1, .null, .int 0, .null, .int 0, .int 0], vm := .statics 7 },
  { cls := 12, slots := #[.ref 3, .ref 4, .ref 5, .ref 6, .ref 7, .ref 8, .ref 9, .null], vm := .statics 12 },
  { cls := 14, slots := #[.ref 3, .null, .null], vm := .statics 14 },
  { cls := 12, slots := #[.null, .int 0, .int 0], vm := .none },
  { cls := 12, slots := #[.null, .int 1, .int 0], vm := .none },
  { cls := 12, slots := #[.null, .int 2, .int 0], vm := .none },
  { cls := 12, slots := #[.null, .int 3, .int 0], vm := .none },
  { cls := 12, slots := #[.null, .int 4, .int 0], vm := .none },
  { cls := 12, slots := #[.null, .int 5, .int 0], vm := .none },
  { cls := 12, slots := #[.null, .int 6, .int 0], vm := .none }]
def classes : Array Class := #[k0, k1, k2, k3, k4, k5, k6, k7, k8, k9, k10, k11, k12, k13, k14, k15, k16, k17, k18, k19, k20, k21, k22]
def interned : List (Array UInt16 × Addr) := []
def slotsUsed : Nat := 39
def theMethod : MethodId := ⟨1, 3⟩
def args0 : Array Value := #[.int 3, .int 5, .int 1, .int 0, .int 0, .int 0]
def aboutOver (below : List Frame) : State where
  vm := { classes := classes, interned := interned.toArray }
  heap := heap
  slotsUsed := slotsUsed
  threads := #[{ frames := .invoking theMethod args0 :: below }]
def below0 : List Frame := [.native { method := ⟨0, 0⟩, args := #[] }]
def about1 : State := aboutOver below0
def p0 : Program := .bare "" "" ""
def e0 : Env := launch0.env 0 0 0
theorem w_frames : about1.frames = Frame.invoking theMethod args0 :: below0 := rfl
set_option maxRecDepth 65536 in
theorem w_args : argsFit about1.vm theMethod args0 = true := by decide +kernel
set_option maxRecDepth 65536 in
theorem w_heap : heapFits about1 = true := by decide +kernel
set_option maxRecDepth 65536 in
theorem w_runnable : about1.curStatus? = some .runnable := by decide +kernel
set_option maxRecDepth 65536 in
theorem w_alone : about1.alone = true := by decide +kernel
set_option maxRecDepth 65536 in
theorem w_named : about1.methodNamed? x = some theMethod := by decide +kernel
set_option maxRecDepth 65536 in
theorem w_hears : about1.hears theMethod below0 = true := by decide +kernel
set_option maxRecDepth 65536 in
theorem w_ripe : about1.ripe theMethod args0 below0 = true := by decide +kernel
theorem w_running : about1.status = .running := rfl
set_option maxRecDepth 65536 in
theorem w_room : about1.hasRoom e0.platform room_1 = true :=
  launch0.hasRoom_least _ room_1 (by decide +kernel) (by decide +kernel) (by decide +kernel) (by decide +kernel) (by decide +kernel) (by decide +kernel)
theorem allAtoms_all (ts : List Jvm.Cond) (a : Array Jvm.Value) (st : Jvm.State) : (allAtoms ts).before a st = ts.all (fun c => c.before a st) := by
  induction ts with
  | nil => rfl
  | cons c t ih =>
    show (Jvm.Cond.and c (allAtoms t)).before a st = _
    rw [Jvm.Cond.before_and, ih, List.all_cons]
def words1 : List Jvm.Cond := Jvm.Cond.code x code maxLocals ret :: tables_1
/-- a 'code' word, met by the world's own term for the bytes: nothing is compared byte by byte -/
theorem code_word {y : MethodName} {bytes : ByteArray} {mx : Nat} {rt : Option FieldType} {a : Array Value} {s : State} {m : MethodId} {meth : Method} {c : Code} (h1 : s.methodNamed? y = some m) (h2 : s.vm.method? m = some meth) (h3 : meth.code = some c) (h4 : c.code = bytes)
    (h5 : (c.maxLocals == mx && c.exceptionTable.isEmpty && decide (c.maxStack ≤ mostOperands) && decide (meth.sig.returnType = rt) && !meth.locks && decide (parseMethodDescriptor y.desc = some meth.sig)) = true) : (Jvm.Cond.code y bytes mx rt).before a s = true := by
  simp only [Bool.and_eq_true, beq_iff_eq, Bool.not_eq_true', decide_eq_true_eq] at h5
  obtain ⟨⟨⟨⟨⟨g1, g2⟩, g3⟩, g4⟩, g5⟩, g6⟩ := h5
  simp [Cond.before, Cond.holds, Cond.value, h1, h2, h3, h4, g1, g2, g3, g4, g5, g6]
def isCode : Jvm.Cond → Bool
  | .code _ _ _ _ => true
  | _ => false
theorem all_split {L : List Jvm.Cond} {P : Jvm.Cond → Bool} (h1 : L.all (fun c => isCode c || P c) = true) (h2 : ∀ c ∈ L.filter isCode, P c = true) : L.all P = true := by
  refine List.all_eq_true.mpr fun c hc => ?_
  have h := List.all_eq_true.mp h1 c hc
  rcases Bool.eq_false_or_eq_true (isCode c) with hi | hi
  · exact h2 c (List.mem_filter.mpr ⟨hc, hi⟩)
  · simpa [hi] using h
set_option maxRecDepth 65536 in
theorem w_c0 : (Jvm.Cond.code x code maxLocals ret).before args0 about1 = true := code_word (m := ⟨1, 3⟩) (meth := k1m3) (c := k1c3) (by decide +kernel) rfl rfl rfl (by decide +kernel)
set_option maxRecDepth 65536 in
theorem w_c1 : (Jvm.Cond.code ({ cls := "com/example/diligent_workflow/diligentworkflow/feel/TokenIsPinLaw", name := "str", desc := "(ICC)Ljava/lang/String;" } : Jvm.MethodName) method_3_code (3 : Nat) (Option.some (Jvm.ClassFile.FieldType.object "java/lang/String"))).before args0 about1 = true := code_word (m := ⟨1, 2⟩) (meth := k1m2) (c := k1c2) (by decide +kernel) rfl rfl rfl (by decide +kernel)
set_option maxRecDepth 65536 in
theorem w_c2 : (Jvm.Cond.code ({ cls := "java/lang/String", name := "<init>", desc := "([C)V" } : Jvm.MethodName) jdk_42_method_3_code (2 : Nat) (Option.none : Option Jvm.ClassFile.FieldType)).before args0 about1 = true := code_word (m := ⟨7, 1⟩) (meth := k7m1) (c := k7c1) (by decide +kernel) rfl rfl rfl (by decide +kernel)
set_option maxRecDepth 65536 in
theorem w_c3 : (Jvm.Cond.code ({ cls := "java/lang/String", name := "<init>", desc := "([CIILjava/lang/Void;)V" } : Jvm.MethodName) jdk_42_method_149_code (6 : Nat) (Option.none : Option Jvm.ClassFile.FieldType)).before args0 about1 = true := code_word (m := ⟨7, 3⟩) (meth := k7m3) (c := k7c3) (by decide +kernel) rfl rfl rfl (by decide +kernel)
set_option maxRecDepth 65536 in
theorem w_c4 : (Jvm.Cond.code ({ cls := "java/lang/Object", name := "<init>", desc := "()V" } : Jvm.MethodName) object_method_1_code (1 : Nat) (Option.none : Option Jvm.ClassFile.FieldType)).before args0 about1 = true := code_word (m := ⟨0, 0⟩) (meth := k0m0) (c := k0c0) (by decide +kernel) rfl rfl rfl (by decide +kernel)
set_option maxRecDepth 65536 in
theorem w_c5 : (Jvm.Cond.code ({ cls := "java/lang/StringUTF16", name := "compress", desc := "([CII)[B" } : Jvm.MethodName) jdk_52_method_16_code (6 : Nat) (Option.some (Jvm.ClassFile.FieldType.array Jvm.ClassFile.FieldType.byte))).before args0 about1 = true := code_word (m := ⟨8, 2⟩) (meth := k8m2) (c := k8c2) (by decide +kernel) rfl rfl rfl (by decide +kernel)
set_option maxRecDepth 65536 in
theorem w_c6 : (Jvm.Cond.code ({ cls := "java/lang/StringUTF16", name := "compress", desc := "([CI[BII)I" } : Jvm.MethodName) jdk_52_method_21_code (7 : Nat) (Option.some Jvm.ClassFile.FieldType.int)).before args0 about1 = true := code_word (m := ⟨8, 3⟩) (meth := k8m3) (c := k8c3) (by decide +kernel) rfl rfl rfl (by decide +kernel)
set_option maxRecDepth 65536 in
theorem w_c7 : (Jvm.Cond.code ({ cls := "java/lang/StringUTF16", name := "coderFromArrayLen", desc := "([BI)B" } : Jvm.MethodName) jdk_52_method_15_code (2 : Nat) (Option.some Jvm.ClassFile.FieldType.byte)).before args0 about1 = true := code_word (m := ⟨8, 1⟩) (meth := k8m1) (c := k8c1) (by decide +kernel) rfl rfl rfl (by decide +kernel)
set_option maxRecDepth 65536 in
theorem w_c8 : (Jvm.Cond.code ({ cls := "com/example/diligent_workflow/diligentworkflow/feel/TokenIsPinLaw", name := "kind", desc := "(I)Lcom/example/diligent_workflow/diligentworkflow/feel/FeelLexer$Kind;" } : Jvm.MethodName) method_2_code (1 : Nat) (Option.some (Jvm.ClassFile.FieldType.object "com/example/diligent_workflow/diligentworkflow/feel/FeelLexer$Kind"))).before args0 about1 = true := code_word (m := ⟨1, 1⟩) (meth := k1m1) (c := k1c1) (by decide +kernel) rfl rfl rfl (by decide +kernel)
set_option maxRecDepth 65536 in
theorem w_c9 : (Jvm.Cond.code ({ cls := "com/example/diligent_workflow/diligentworkflow/feel/FeelLexer$Token", name := "<init>", desc := "(Lcom/example/diligent_workflow/diligentworkflow/feel/FeelLexer$Kind;Ljava/lang/String;Ljava/lang/Object;II)V" } : Jvm.MethodName) prog_67_method_1_code (6 : Nat) (Option.none : Option Jvm.ClassFile.FieldType)).before args0 about1 = true := code_word (m := ⟨10, 0⟩) (meth := k10m0) (c := k10c0) (by decide +kernel) rfl rfl rfl (by decide +kernel)
set_option maxRecDepth 65536 in
theorem w_c10 : (Jvm.Cond.code ({ cls := "java/lang/Record", name := "<init>", desc := "()V" } : Jvm.MethodName) jdk_30_method_1_code (1 : Nat) (Option.none : Option Jvm.ClassFile.FieldType)).before args0 about1 = true := code_word (m := ⟨9, 0⟩) (meth := k9m0) (c := k9c0) (by decide +kernel) rfl rfl rfl (by decide +kernel)
set_option maxRecDepth 65536 in
theorem w_c11 : (Jvm.Cond.code ({ cls := "com/example/diligent_workflow/diligentworkflow/feel/FeelLexer$Token", name := "is", desc := "(Lcom/example/diligent_workflow/diligentworkflow/feel/FeelLexer$Kind;Ljava/lang/String;)Z" } : Jvm.MethodName) prog_67_method_2_code (3 : Nat) (Option.some Jvm.ClassFile.FieldType.boolean)).before args0 about1 = true := code_word (m := ⟨10, 1⟩) (meth := k10m1) (c := k10c1) (by decide +kernel) rfl rfl rfl (by decide +kernel)
set_option maxRecDepth 65536 in
theorem w_c12 : (Jvm.Cond.code ({ cls := "java/lang/String", name := "equals", desc := "(Ljava/lang/Object;)Z" } : Jvm.MethodName) jdk_42_method_66_code (3 : Nat) (Option.some Jvm.ClassFile.FieldType.boolean)).before args0 about1 = true := code_word (m := ⟨7, 2⟩) (meth := k7m2) (c := k7c2) (by decide +kernel) rfl rfl rfl (by decide +kernel)
set_option maxRecDepth 65536 in
theorem w_c13 : (Jvm.Cond.code ({ cls := "java/lang/StringLatin1", name := "equals", desc := "([B[B)Z" } : Jvm.MethodName) jdk_43_method_13_code (3 : Nat) (Option.some Jvm.ClassFile.FieldType.boolean)).before args0 about1 = true := code_word (m := ⟨13, 1⟩) (meth := k13m1) (c := k13c1) (by decide +kernel) rfl rfl rfl (by decide +kernel)
def codes1 : List Jvm.Cond := [Jvm.Cond.code x code maxLocals ret, Jvm.Cond.code ({ cls := "com/example/diligent_workflow/diligentworkflow/feel/TokenIsPinLaw", name := "str", desc := "(ICC)Ljava/lang/String;" } : Jvm.MethodName) method_3_code (3 : Nat) (Option.some (Jvm.ClassFile.FieldType.object "java/lang/String")), Jvm.Cond.code ({ cls := "java/lang/String", name := "<init>", desc := "([C)V" } : Jvm.MethodName) jdk_42_method_3_code (2 : Nat) (Option.none : Option Jvm.ClassFile.FieldType), Jvm.Cond.code ({ cls := "java/lang/String", name := "<init>", desc := "([CIILjava/lang/Void;)V" } : Jvm.MethodName) jdk_42_method_149_code (6 : Nat) (Option.none : Option Jvm.ClassFile.FieldType), Jvm.Cond.code ({ cls := "java/lang/Object", name := "<init>", desc := "()V" } : Jvm.MethodName) object_method_1_code (1 : Nat) (Option.none : Option Jvm.ClassFile.FieldType), Jvm.Cond.code ({ cls := "java/lang/StringUTF16", name := "compress", desc := "([CII)[B" } : Jvm.MethodName) jdk_52_method_16_code (6 : Nat) (Option.some (Jvm.ClassFile.FieldType.array Jvm.ClassFile.FieldType.byte)), Jvm.Cond.code ({ cls := "java/lang/StringUTF16", name := "compress", desc := "([CI[BII)I" } : Jvm.MethodName) jdk_52_method_21_code (7 : Nat) (Option.some Jvm.ClassFile.FieldType.int), Jvm.Cond.code ({ cls := "java/lang/StringUTF16", name := "coderFromArrayLen", desc := "([BI)B" } : Jvm.MethodName) jdk_52_method_15_code (2 : Nat) (Option.some Jvm.ClassFile.FieldType.byte), Jvm.Cond.code ({ cls := "com/example/diligent_workflow/diligentworkflow/feel/TokenIsPinLaw", name := "kind", desc := "(I)Lcom/example/diligent_workflow/diligentworkflow/feel/FeelLexer$Kind;" } : Jvm.MethodName) method_2_code (1 : Nat) (Option.some (Jvm.ClassFile.FieldType.object "com/example/diligent_workflow/diligentworkflow/feel/FeelLexer$Kind")), Jvm.Cond.code ({ cls := "com/example/diligent_workflow/diligentworkflow/feel/FeelLexer$Token", name := "<init>", desc := "(Lcom/example/diligent_workflow/diligentworkflow/feel/FeelLexer$Kind;Ljava/lang/String;Ljava/lang/Object;II)V" } : Jvm.MethodName) prog_67_method_1_code (6 : Nat) (Option.none : Option Jvm.ClassFile.FieldType), Jvm.Cond.code ({ cls := "java/lang/Record", name := "<init>", desc := "()V" } : Jvm.MethodName) jdk_30_method_1_code (1 : Nat) (Option.none : Option Jvm.ClassFile.FieldType), Jvm.Cond.code ({ cls := "com/example/diligent_workflow/diligentworkflow/feel/FeelLexer$Token", name := "is", desc := "(Lcom/example/diligent_workflow/diligentworkflow/feel/FeelLexer$Kind;Ljava/lang/String;)Z" } : Jvm.MethodName) prog_67_method_2_code (3 : Nat) (Option.some Jvm.ClassFile.FieldType.boolean), Jvm.Cond.code ({ cls := "java/lang/String", name := "equals", desc := "(Ljava/lang/Object;)Z" } : Jvm.MethodName) jdk_42_method_66_code (3 : Nat) (Option.some Jvm.ClassFile.FieldType.boolean), Jvm.Cond.code ({ cls := "java/lang/StringLatin1", name := "equals", desc := "([B[B)Z" } : Jvm.MethodName) jdk_43_method_13_code (3 : Nat) (Option.some Jvm.ClassFile.FieldType.boolean)]
set_option maxRecDepth 65536 in
theorem codes_eq : words1.filter isCode = codes1 := rfl
theorem w_codes : ∀ c ∈ words1.filter isCode, c.before args0 about1 = true := by
  rw [codes_eq]
  intro c hc
  simp only [codes1, List.mem_cons, List.not_mem_nil, or_false] at hc
  rcases hc with rfl | rfl | rfl | rfl | rfl | rfl | rfl | rfl | rfl | rfl | rfl | rfl | rfl | rfl
  · exact w_c0
  · exact w_c1
  · exact w_c2
  · exact w_c3
  · exact w_c4
  · exact w_c5
  · exact w_c6
  · exact w_c7
  · exact w_c8
  · exact w_c9
  · exact w_c10
  · exact w_c11
  · exact w_c12
  · exact w_c13
set_option maxRecDepth 65536 in
theorem w_t1 : (words1.take 24).all (fun c => isCode c || c.before args0 about1) = true := by decide +kernel
set_option maxRecDepth 65536 in
theorem w_t2 : ((words1.drop 24).take 24).all (fun c => isCode c || c.before args0 about1) = true := by decide +kernel
set_option maxRecDepth 65536 in
theorem w_t3 : (((words1.drop 24).drop 24).take 24).all (fun c => isCode c || c.before args0 about1) = true := by decide +kernel
set_option maxRecDepth 65536 in
theorem w_t4 : (((words1.drop 24).drop 24).drop 24).all (fun c => isCode c || c.before args0 about1) = true := by decide +kernel
theorem w_tables : (allAtoms (Jvm.Cond.code x code maxLocals ret :: tables_1)).before args0 about1 = true := by
  rw [allAtoms_all]
  show words1.all (fun c => c.before args0 about1) = true
  refine all_split ?_ w_codes
  rw [← List.take_append_drop 24 words1, List.all_append, w_t1, ← List.take_append_drop 24 (words1.drop 24), List.all_append, w_t2, ← List.take_append_drop 24 ((words1.drop 24).drop 24), List.all_append, w_t3, w_t4]
  rfl
set_option maxRecDepth 65536 in
theorem w_rest : rest_1_c.before args0 about1 = true := by decide +kernel
set_option maxRecDepth 65536 in
theorem w_case : (Jvm.Cond.and given_1 narrow_1).before args0 about1 = true := by decide +kernel
set_option maxRecDepth 65536 in
theorem w_consts : constsHeld consts_1 about1 := Jvm.Lit.constsHeldB_iff.mp (by decide +kernel)
theorem w_applies : (headSpec (Jvm.Cond.code x code maxLocals ret :: tables_1) room_1).applies x e0.platform about1 = true :=
  (Spec.applies_iff w_frames).mpr ⟨w_running, w_runnable, w_alone, w_named, w_hears, w_ripe, w_room, w_tables⟩
theorem atStart : AtStart classFile x code maxLocals ret World_1 tables_1 room_1 Calls_1 rest_1 Pre_1 launch0 p0 e0 about1 theMethod args0 below0 :=
  ⟨lists_1, trivial, launch0.admits_env _ _ _, launch0.least_env, fairChoices_fair.cas, fairChoices_fair.clock, w_frames, w_args, w_heap, w_applies, ⟨w_consts, trivial⟩, w_rest, w_case⟩
end start1
theorem witness_1 : WitnessClaimed_1 := ⟨start1.p0, start1.e0, start1.about1, start1.theMethod, start1.args0, start1.below0, start1.atStart⟩
end Jvm.Pilot.@@N@@
