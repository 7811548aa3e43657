import JvmDerived
import JvmDerived.Pilot.@@N@@Statement
import JvmDerived.Pilot.@@N@@Code
set_option linter.unusedVariables false
set_option linter.unusedSimpArgs false
namespace Jvm.RoadKit
open Sem ClassFile Op Lib Jvm.Stand Jvm.Free Jvm.LawKit
section New
variable {p : Program} {l : Launch} {e : Env} {R : Room} {s : State} {m : MethodId} {args : Array Value} {below : List Frame} {meth : Method} {c : Code} {T : State} {locs : List Loc} {cells slots : Nat}
theorem retI (X : Stand p l e R s m args below meth c T locs cells slots) (hx : p.tables.exec = Jvm.exec) {pc : Nat} {Ls : Array Slot} {z : Int32} {rest : List Value} (hret : meth.sig.returnType = some .int) (hd : decode c.code pc = .ok (.ireturn, 1)) {fs : List Frame}
    (hl : ∀ (f : JFrame) (acts : List Action), f.method = m → f.locked = none → f.entered = [] → (doReturn e (T.setTop f) acts (some (.int z))).1 = T.setFrames fs) : Steps p.tables e below (T.setTop (mkF m pc Ls (.int z :: rest))) (T.setFrames fs) := by
  have hm' : T.vm.method? m = some meth := X.method'
  have hn : narrow .int (.int z) = .int z := rfl
  show Steps p.tables e below (T.setTop { method := m, pc := pc, locals := Ls, stack := _ :: rest, locked := none }) _
  jvm_step X.here [X.here.top, hx, hd, hm', hret, hn]
  first | (intro acts; rw [hl _ acts rfl rfl rfl]) | rw [hl _ _ rfl rfl rfl]
  exact Steps.refl _
end New
end Jvm.RoadKit
namespace Jvm.Pilot.@@N@@
open Jvm Jvm.ClassFile Sem Op Lib Jvm.Free Jvm.Stand Jvm.LawKit Jvm.RoadKit Bundle Jvm.Pilot.@@N@@.Jvm.D
/-! ## The walk in continuation-passing form: what is left to run returns, and Q says of what it returns, of the heap and of the places written -/
def Ogo (p : Program) (e : Env) (below : List Frame) (P : Outcome → State → Prop) (A : State) : Prop :=
  ∃ s₂ o, Steps p.tables e below A s₂ ∧ s₂.status = .running ∧ Ended s₂ below o ∧ P o s₂
/-- it returned v, Q says of v, of the heap and of the places written; nothing else was done since s -/
def Onar (s : State) (R : Room) (Q : Option Value → Heap → List Loc → Prop) (o : Outcome) (t : State) : Prop := ∃ v L, o = .returned v ∧ Q v t.heap L ∧ FrameEnd s o t L R.cells R.slots
abbrev Opays (l : Launch) (y : MethodName) (bytes : ByteArray) (maxL : Nat) (rt : Option FieldType) (rm : Room) (ws : List Jvm.Cond) (Z : State) (h0 : Heap) (as : Array Value) (Q : Option Value → Heap → List Loc → Prop) : Prop :=
  MetFree l y (head1 (Jvm.Cond.code y bytes maxL rt :: ws) rm) (fun a U => a = as ∧ Z.Warmed39 U.vm ∧ U.heap = h0) (fun _ _ _ _ _ => True) (fun _ U o U' => ∃ v L, o = .returned v ∧ Q v U'.heap L ∧ FrameEnd U o U' L rm.cells rm.slots)
section Own
variable {p : Program} {l : Launch} {e : Env} {R : Room} {s : State} {m : MethodId} {args : Array Value} {below : List Frame} {meth : Method} {c : Code} {T : State} {locs : List Loc} {cells slots : Nat} {Z : State} {a0 : Array Value} {h : Heap} {Q : Option Value → Heap → List Loc → Prop} {A B : State} {P : Outcome → State → Prop}
theorem own_via (st : ∀ t, Steps p.tables e below B t → Steps p.tables e below A t) (k : Ogo p e below P B) : Ogo p e below P A := by
  obtain ⟨s₂, o, h1, h2⟩ := k
  exact ⟨s₂, o, st _ h1, h2⟩
theorem own_enter {y : MethodName} {bytes : ByteArray} {maxL : Nat} {rt : Option FieldType} {rm : Room} {ws : List Jvm.Cond} {h0 : Heap} {as : Array Value} (hp : plainFor y = true)
    (body : ∀ p e s m below meth c s₁, p.tables.exec = Jvm.exec → c.code = bytes → c.maxLocals = maxL → s.vm.findClass y.cls = some m.cls → meth.name = y.name → meth.sig.returnType = rt → meth.locks = false → Z.Warmed39 s.vm → s₁.heap = h0 →
      Stand p l e rm s m as below meth c s₁ [] 0 0 → Ogo p e below (Onar s rm Q) (s₁.setTop (entryFrame m as maxL))) : Opays l y bytes maxL rt rm ws Z h0 as Q := by
  refine MetFree.of_bodySF hp hisR ?_
  intro p e s m args below meth c s₁ Bd hml0 hP hK
  obtain ⟨rfl, hZ, hh⟩ := hP
  have X0 : Stand p l e rm s m args below meth c s₁ [] 0 0 := Stand.of_body Bd
  have e0 : s₁.heap = h0 := by rw [← hh, Bd.state]; rfl
  exact body p e s m below meth c s₁ Bd.exec Bd.bytes hml0 (findClass_of_methodNamed Bd.named) (name_of_methodNamed Bd.named Bd.method).1 Bd.returns Bd.notSynchronized hZ e0 X0
theorem own_out (X : Stand p l e R s m args below meth c T locs cells slots) (hlk : meth.locks = false) {v : Option Value} (hv : meth.sig.returnType = none → v = none) (hc : cells ≤ R.cells) (hs : slots ≤ R.slots) (hQ : Q v T.heap locs)
    (k : ∀ fs, (∀ (f : JFrame) (acts : List Action), f.method = m → f.locked = none → f.entered = [] → (doReturn e (T.setTop f) acts v).1 = T.setFrames fs) → Steps p.tables e below A (T.setFrames fs)) : Ogo p e below (Onar s R Q) A := by
  obtain ⟨fs, hr, hrun, hended, hW, hsame⟩ := X.leave (v := v) hv hlk
  exact ⟨_, _, k fs hr, hrun, hended, _, _, rfl, hQ, ⟨_, rfl⟩, hW, hsame.mono hc hs⟩
theorem own_retL (X : Stand p l e R s m args below meth c T locs cells slots) (hx : p.tables.exec = Jvm.exec) {pc : Nat} {Ls : Array Slot} {z : Int64} {rest : List Value} (hret : meth.sig.returnType = some .long) (hd : decode c.code pc = .ok (.lreturn, 1)) {fs : List Frame}
    (hl : ∀ (f : JFrame) (acts : List Action), f.method = m → f.locked = none → f.entered = [] → (doReturn e (T.setTop f) acts (some (.long z))).1 = T.setFrames fs) : Steps p.tables e below (T.setTop (mkF m pc Ls (.long z :: rest))) (T.setFrames fs) :=
  retOut X hx hret rfl (Or.inr (Or.inl ⟨rfl, rfl, _, rfl⟩)) hd hl
theorem own_retD (X : Stand p l e R s m args below meth c T locs cells slots) (hx : p.tables.exec = Jvm.exec) {pc : Nat} {Ls : Array Slot} {z : UInt64} {rest : List Value} (hret : meth.sig.returnType = some .double) (hd : decode c.code pc = .ok (.dreturn, 1)) {fs : List Frame}
    (hl : ∀ (f : JFrame) (acts : List Action), f.method = m → f.locked = none → f.entered = [] → (doReturn e (T.setTop f) acts (some (.double z))).1 = T.setFrames fs) : Steps p.tables e below (T.setTop (mkF m pc Ls (.double z :: rest))) (T.setFrames fs) :=
  retOut X hx hret rfl (Or.inr (Or.inr (Or.inl ⟨rfl, rfl, _, rfl⟩))) hd hl
theorem own_retA (X : Stand p l e R s m args below meth c T locs cells slots) (hx : p.tables.exec = Jvm.exec) {pc : Nat} {Ls : Array Slot} {w : Value} {t : FieldType} {rest : List Value} (hret : meth.sig.returnType = some t) (ht : t.isReference = true) (hv : w.isRef = true) (hd : decode c.code pc = .ok (.areturn, 1)) {fs : List Frame}
    (hl : ∀ (f : JFrame) (acts : List Action), f.method = m → f.locked = none → f.entered = [] → (doReturn e (T.setTop f) acts (some w)).1 = T.setFrames fs) : Steps p.tables e below (T.setTop (mkF m pc Ls (w :: rest))) (T.setFrames fs) :=
  retOut X hx hret (by cases t <;> first | rfl | cases ht) (Or.inr (Or.inr (Or.inr (Or.inr ⟨rfl, ht, hv⟩)))) hd hl
theorem own_lrem {g : JFrame} {target : State} (X : Stand p l e R s m args below meth c T locs cells slots) (hx : p.tables.exec = Jvm.exec) (hg : g.method = m) {x y : Int64} {rest : List Value} (hd : decode c.code g.pc = .ok (.lrem, 1)) (hs : g.stack = .long y :: .long x :: rest) (hy : y ≠ 0)
    (hr : Steps p.tables e below (T.setTop { g with pc := g.pc + 1, stack := .long (x % y) :: rest }) target) : Steps p.tables e below (T.setTop g) target :=
  XS.lrem X.here hx hg hd hs hy (by rw [lrem_mod]; exact hr)
/-! calls: the callee's contract pays -/
theorem own_callS (X : Stand p l e R s m args below meth c T locs cells slots) (hx : p.tables.exec = Jvm.exec) (hZ : Z.Warmed39 s.vm) {own : String} {index : Nat} {y : MethodName} {bytes : ByteArray} {maxL : Nat} {rt : Option FieldType}
    (hown : s.vm.findClass own = some m.cls) (wl : (Jvm.Cond.methodLink own index y).before a0 Z = true) (wst : (Jvm.Cond.static y).before a0 Z = true) (wi : (Jvm.Cond.initialized y.cls).before a0 Z = true) (wc : (Jvm.Cond.code y bytes maxL rt).before a0 Z = true)
    (hy : y.cls ≠ "java/lang/invoke/MethodHandle" ∧ y.cls ≠ "java/lang/invoke/VarHandle") {rm : Room} {as : Array Value} {Qc : Option Value → Heap → List Loc → Prop} (hM : Opays l y bytes maxL rt rm [] Z h as Qc) {argsL rest : List Value} (ha : argsL.toArray = as) (eT : T.heap = h) {W : Nat} (hf : rm.frames + 1 ≤ R.frames) (hl : W + (maxL + 11) + rm.locals ≤ R.locals) (hc : cells + rm.cells ≤ R.cells) (hs : slots + rm.slots ≤ R.slots)
    {pc : Nat} {Ls : Array Slot} {st : List Value} (hsize : Ls.size = c.maxLocals) (hlen : ∀ sig, parseMethodDescriptor y.desc = some sig → argsL.length = sig.parameters.length) (hst : st = argsL.reverse ++ rest) (hW : (rest.map fun v => v.category).sum ≤ W) (hd : decode c.code pc = .ok (.invokestatic index, 3))
    (k : ∀ v T' L, Stand p l e R s m args below meth c T' (locs ++ L) (cells + rm.cells) (slots + rm.slots) → Qc v T'.heap L → Ogo p e below P (T'.setTop (mkF m (pc + 3) Ls (v.toList ++ rest)))) : Ogo p e below P (T.setTop (mkF m pc Ls st)) := by
  obtain ⟨v, _, ⟨T', L', k', n'⟩, -, X', ⟨Lc, hQ, l1, y1, z1⟩, step⟩ := Jvm.LawKit.callS X hx (y := y) hown (mvT hZ wl) (mvT hZ wst) (mvT hZ wi) (mvT hZ wc) hy (backOf (W := W) hM hZ wc wi hf hl) (g := mkF m pc Ls st) rfl hsize (argsL := argsL) (rest := rest) hlen hst (by show 2 * 0 + _ ≤ _; omega) hd (fun _ _ => ⟨ha, eT, hc, hs⟩)
  dsimp only [Pt.U, Pt.locs, Pt.cells, Pt.slots] at X' l1 y1 z1 step hQ
  subst l1 y1 z1
  exact own_via step (k v T' Lc X' hQ)
theorem own_callI (X : Stand p l e R s m args below meth c T locs cells slots) (hx : p.tables.exec = Jvm.exec) (hZ : Z.Warmed39 s.vm) {own : String} {index : Nat} {y : MethodName} {bytes : ByteArray} {maxL : Nat} (hy1 : y.name = "<init>")
    (hown : s.vm.findClass own = some m.cls) (wl : (Jvm.Cond.methodLink own index y).before a0 Z = true) (wst : (Jvm.Cond.instanceMethod y).before a0 Z = true) (wi : (Jvm.Cond.initialized y.cls).before a0 Z = true) (wc : (Jvm.Cond.code y bytes maxL none).before a0 Z = true)
    (hy : y.cls ≠ "java/lang/invoke/MethodHandle" ∧ y.cls ≠ "java/lang/invoke/VarHandle") {rm : Room} {as : Array Value} {Qc : Option Value → Heap → List Loc → Prop} (hM : Opays l y bytes maxL none rm [] Z h as Qc) {a : Addr} {argsL rest : List Value} (ha : (.ref a :: argsL).toArray = as) (eT : T.heap = h) {W : Nat} (hf : rm.frames + 1 ≤ R.frames) (hl : W + (maxL + 11) + rm.locals ≤ R.locals) (hc : cells + rm.cells ≤ R.cells) (hs : slots + rm.slots ≤ R.slots)
    {pc : Nat} {Ls : Array Slot} {st : List Value} (hsize : Ls.size = c.maxLocals) (hlen : ∀ sig, parseMethodDescriptor y.desc = some sig → argsL.length = sig.parameters.length) (hst : st = argsL.reverse ++ .ref a :: rest) (hW : (rest.map fun v => v.category).sum ≤ W) (hd : decode c.code pc = .ok (.invokespecial index, 3))
    (k : ∀ v T' L, Stand p l e R s m args below meth c T' (locs ++ L) (cells + rm.cells) (slots + rm.slots) → Qc v T'.heap L → Ogo p e below P (T'.setTop (mkF m (pc + 3) Ls (v.toList ++ rest)))) : Ogo p e below P (T.setTop (mkF m pc Ls st)) := by
  obtain ⟨v, _, ⟨T', L', k', n'⟩, -, X', ⟨Lc, hQ, l1, y1, z1⟩, step⟩ := X.specialBack hx (y := y) hy1 hown (mvT hZ wl) (mvT hZ wst) (mvT hZ wc) hy (backOf (W := W) hM hZ wc wi hf hl) (g := mkF m pc Ls st) rfl hsize (Steps.refl _) (a := a) (argsL := argsL) (rest := rest) hlen hst (by show 2 * 0 + _ ≤ _; omega) hd (fun _ _ => ⟨ha, eT, hc, hs⟩)
  dsimp only [Pt.U, Pt.locs, Pt.cells, Pt.slots] at X' l1 y1 z1 step hQ
  subst l1 y1 z1
  exact own_via (fun _ q => step.trans q) (k v T' Lc X' hQ)
theorem own_callV (X : Stand p l e R s m args below meth c T locs cells slots) (hx : p.tables.exec = Jvm.exec) (hZ : Z.Warmed39 s.vm) {own C : String} {index : Nat} {y z : MethodName} {bytes : ByteArray} {maxL : Nat} {rt : Option FieldType}
    (hown : s.vm.findClass own = some m.cls) (wl : (Jvm.Cond.methodLink own index y).before a0 Z = true) (wd : (Jvm.Cond.declares y).before a0 Z = true) (ws : (Jvm.Cond.selects C y z).before a0 Z = true) (wst : (Jvm.Cond.instanceMethod z).before a0 Z = true) (wi : (Jvm.Cond.initialized z.cls).before a0 Z = true) (wc : (Jvm.Cond.code z bytes maxL rt).before a0 Z = true) (hyz : NotFace s y)
    (hy : y.cls ≠ "java/lang/invoke/MethodHandle" ∧ y.cls ≠ "java/lang/invoke/VarHandle") {rm : Room} {as : Array Value} {Qc : Option Value → Heap → List Loc → Prop} (hM : Opays l z bytes maxL rt rm [] Z h as Qc) {b : Addr} {argsL rest : List Value} (ha : (.ref b :: argsL).toArray = as) (eT : T.heap = h) (F : Exa Z h b C) {W : Nat} (hf : rm.frames + 1 ≤ R.frames) (hl : W + (maxL + 11) + rm.locals ≤ R.locals) (hc : cells + rm.cells ≤ R.cells) (hs : slots + rm.slots ≤ R.slots)
    {pc : Nat} {Ls : Array Slot} {st : List Value} (hsize : Ls.size = c.maxLocals) (hlen : ∀ sig, parseMethodDescriptor y.desc = some sig → argsL.length = sig.parameters.length) (hst : st = argsL.reverse ++ .ref b :: rest) (hW : (rest.map fun v => v.category).sum ≤ W) (hd : decode c.code pc = .ok (.invokevirtual index, 3))
    (k : ∀ v T' L, Stand p l e R s m args below meth c T' (locs ++ L) (cells + rm.cells) (slots + rm.slots) → Qc v T'.heap L → Ogo p e below P (T'.setTop (mkF m (pc + 3) Ls (v.toList ++ rest)))) : Ogo p e below P (T.setTop (mkF m pc Ls st)) := by
  obtain ⟨cq, kq, qa, qb, qc⟩ := isOf hZ eT F
  obtain ⟨v, _, ⟨T', L', k', n'⟩, -, X', ⟨Lc, hQ, l1, y1, z1⟩, step⟩ := X.virtualBack hx (y := y) (z := z) hown (mvT hZ wl) (mvT hZ wd) hyz (mvT hZ ws) (mvT hZ wst) hy (backOf (W := W) hM hZ wc wi hf hl) qa qc (g := mkF m pc Ls st) rfl hsize (Steps.refl _) (argsL := argsL) (rest := rest) hlen hst (by show 2 * 0 + _ ≤ _; omega) hd (fun _ _ => ⟨ha, eT, hc, hs⟩)
  dsimp only [Pt.U, Pt.locs, Pt.cells, Pt.slots] at X' l1 y1 z1 step hQ
  subst l1 y1 z1
  exact own_via (fun _ q => step.trans q) (k v T' Lc X' hQ)
/-- a private method of a class that is no interface -/
theorem own_callP (X : Stand p l e R s m args below meth c T locs cells slots) (hx : p.tables.exec = Jvm.exec) (hZ : Z.Warmed39 s.vm) {own C : String} {index kk : Nat} {y : MethodName} {bytes : ByteArray} {maxL : Nat} {rt : Option FieldType}
    (hown : s.vm.findClass own = some m.cls) (wl : (Jvm.Cond.methodLink own index y).before a0 Z = true) (wst : (Jvm.Cond.instanceMethod y).before a0 Z = true) (wp : (Jvm.Cond.privateMethod y).before a0 Z = true) (wi : (Jvm.Cond.initialized y.cls).before a0 Z = true) (wn : (Jvm.Cond.instantiable y.cls kk).before a0 Z = true) (wc : (Jvm.Cond.code y bytes maxL rt).before a0 Z = true)
    (hy : y.cls ≠ "java/lang/invoke/MethodHandle" ∧ y.cls ≠ "java/lang/invoke/VarHandle") {rm : Room} {as : Array Value} {Qc : Option Value → Heap → List Loc → Prop} (hM : Opays l y bytes maxL rt rm [] Z h as Qc) {b : Addr} {argsL rest : List Value} (ha : (.ref b :: argsL).toArray = as) (eT : T.heap = h) (F : Exa Z h b C) {W : Nat} (hf : rm.frames + 1 ≤ R.frames) (hl : W + (maxL + 11) + rm.locals ≤ R.locals) (hc : cells + rm.cells ≤ R.cells) (hs : slots + rm.slots ≤ R.slots)
    {pc : Nat} {Ls : Array Slot} {st : List Value} (hsize : Ls.size = c.maxLocals) (hlen : ∀ sig, parseMethodDescriptor y.desc = some sig → argsL.length = sig.parameters.length) (hst : st = argsL.reverse ++ .ref b :: rest) (hW : (rest.map fun v => v.category).sum ≤ W) (hd : decode c.code pc = .ok (.invokevirtual index, 3))
    (k : ∀ v T' L, Stand p l e R s m args below meth c T' (locs ++ L) (cells + rm.cells) (slots + rm.slots) → Qc v T'.heap L → Ogo p e below P (T'.setTop (mkF m (pc + 3) Ls (v.toList ++ rest)))) : Ogo p e below P (T.setTop (mkF m pc Ls st)) := by
  obtain ⟨cq, q1, q2⟩ := F.cell
  have hpriv : s.PrivateAt y := Cond.privateMethod_at (mvP hZ wp (args := #[]))
  obtain ⟨c2, k2, i1, i2, i3, i4, -⟩ := Cond.instantiable_spec (mv (s := s) (args := args) hZ wn)
  have hni : k2.isInterface = false := (Bool.or_eq_false_iff.mp i4).1
  obtain ⟨v, _, ⟨T', L', k', n'⟩, -, X', ⟨Lc, hQ, l1, y1, z1⟩, step⟩ := X.privateBack hx (y := y) hown (mvT hZ wl) (mvT hZ wst) (selects_self_of_private i1 i2 hni hpriv (mvT hZ wst) hy) hpriv (mvT hZ wc) hy (backOf (W := W) hM hZ wc wi hf hl) (g := mkF m pc Ls st) rfl hsize (Steps.refl _) (a := b) (by rw [eT]; exact q1) q2 (argsL := argsL) (rest := rest) hlen hst (by show 2 * 0 + _ ≤ _; omega) hd (fun _ _ => ⟨ha, eT, hc, hs⟩)
  dsimp only [Pt.U, Pt.locs, Pt.cells, Pt.slots] at X' l1 y1 z1 step hQ
  subst l1 y1 z1
  exact own_via (fun _ q => step.trans q) (k v T' Lc X' hQ)
/-- a method of an interface -/
theorem own_callF (X : Stand p l e R s m args below meth c T locs cells slots) (hx : p.tables.exec = Jvm.exec) (hZ : Z.Warmed39 s.vm) {own C : String} {index count : Nat} {y z : MethodName} {bytes : ByteArray} {maxL : Nat} {rt : Option FieldType}
    (hown : s.vm.findClass own = some m.cls) (wl : (Jvm.Cond.methodLink own index y).before a0 Z = true) (wd : (Jvm.Cond.declares y).before a0 Z = true) (wf : (Jvm.Cond.interfaceMethod y.cls y.cls y.name y.desc).before args s = true) (ws : (Jvm.Cond.selects C y z).before a0 Z = true) (wst : (Jvm.Cond.instanceMethod z).before a0 Z = true) (wp : (Jvm.Cond.publicMethod z).before a0 Z = true) (wu : (Jvm.Cond.unhidden C y.name y.desc).before a0 Z = true) (wk : (Jvm.Cond.castable C y.cls).before a0 Z = true) (wi : (Jvm.Cond.initialized z.cls).before a0 Z = true) (wc : (Jvm.Cond.code z bytes maxL rt).before a0 Z = true)
    (hy : y.cls ≠ "java/lang/invoke/MethodHandle" ∧ y.cls ≠ "java/lang/invoke/VarHandle") {rm : Room} {as : Array Value} {Qc : Option Value → Heap → List Loc → Prop} (hM : Opays l z bytes maxL rt rm [] Z h as Qc) {b : Addr} {argsL rest : List Value} (ha : (.ref b :: argsL).toArray = as) (eT : T.heap = h) (F : Exa Z h b C) {W : Nat} (hf : rm.frames + 1 ≤ R.frames) (hl : W + (maxL + 11) + rm.locals ≤ R.locals) (hc : cells + rm.cells ≤ R.cells) (hs : slots + rm.slots ≤ R.slots)
    {pc : Nat} {Ls : Array Slot} {st : List Value} (hsize : Ls.size = c.maxLocals) (hlen : ∀ sig, parseMethodDescriptor y.desc = some sig → argsL.length = sig.parameters.length) (hst : st = argsL.reverse ++ .ref b :: rest) (hW : (rest.map fun v => v.category).sum ≤ W) (hd : decode c.code pc = .ok (.invokeinterface index count, 5))
    (k : ∀ v T' L, Stand p l e R s m args below meth c T' (locs ++ L) (cells + rm.cells) (slots + rm.slots) → Qc v T'.heap L → Ogo p e below P (T'.setTop (mkF m (pc + 5) Ls (v.toList ++ rest)))) : Ogo p e below P (T.setTop (mkF m pc Ls st)) := by
  obtain ⟨cq, kq, qa, qb, qc⟩ := isOf hZ eT F
  obtain ⟨v, _, ⟨T', L', k', n'⟩, -, X', ⟨Lc, hQ, l1, y1, z1⟩, step⟩ := X.interfaceBack hx (xi := y) (y := z) hown (mvT hZ wl) (mvT hZ wd) wf (mvT hZ ws) (mvT hZ wst) (mvT hZ wp) (mvT hZ wu) (mvT hZ wk) hy (backOf (W := W) hM hZ wc wi hf hl) qa qb qc (g := mkF m pc Ls st) rfl hsize (Steps.refl _) (argsL := argsL) (rest := rest) hlen hst (by show 2 * 0 + _ ≤ _; omega) hd (fun _ _ => ⟨ha, eT, hc, hs⟩)
  dsimp only [Pt.U, Pt.locs, Pt.cells, Pt.slots] at X' l1 y1 z1 step hQ
  subst l1 y1 z1
  exact own_via (fun _ q => step.trans q) (k v T' Lc X' hQ)
end Own
/-! ## An array by its values: n places, place j holds f j -/
/-- the array at a has n places of kind ty; place j holds f j -/
def Oar (Z : State) (h : Heap) (a : Addr) (ty : FieldType) (n : Nat) (f : Nat → Value) : Prop := n < 2 ^ 31 ∧ ∃ cl : Cell, Arr Z h a cl ty ∧ cl.slots.size = n ∧ ∀ j, j < n → cl.slots[j]? = some (f j)
section Own2
variable {p : Program} {l : Launch} {e : Env} {R : Room} {s : State} {m : MethodId} {args : Array Value} {below : List Frame} {meth : Method} {c : Code} {T : State} {locs : List Loc} {cells slots : Nat} {Z : State} {a0 : Array Value} {h h' : Heap} {P : Outcome → State → Prop} {a b : Addr} {ty : FieldType} {n i sl : Nat} {f : Nat → Value} {v : Value} {ws : List Addr} {j z : Int32}
theorem Oar.lt (A : Oar Z h a ty n f) : a < h.size := by obtain ⟨_, cl, A, _⟩ := A; exact A.lt
theorem Oar.ext (A : Oar Z h a ty n f) (E : Ext h h') : Oar Z h' a ty n f := by obtain ⟨q, cl, A, r⟩ := A; exact ⟨q, cl, A.ext E, r⟩
theorem Oar.other (A : Oar Z h b ty n f) (W : Wr h h' a sl v) (q : b ≠ a) : Oar Z h' b ty n f := by obtain ⟨z, cl, A, r⟩ := A; exact ⟨z, cl, A.other W q, r⟩
theorem Oar.keep (A : Oar Z h a ty n f) (K : Keep h h' ws) (q : a ∉ ws) : Oar Z h' a ty n f := by obtain ⟨z, cl, A, r⟩ := A; exact ⟨z, cl, ⟨K.2.1 a cl A.1 q, A.2⟩, r⟩
theorem Oar.cast {f' : Nat → Value} (A : Oar Z h a ty n f) (q : ∀ j, j < n → f j = f' j) : Oar Z h a ty n f' := by obtain ⟨z, cl, A, S, r⟩ := A; exact ⟨z, cl, A, S, fun j hj => by rw [← q j hj]; exact r j hj⟩
theorem Oar.new {k : ClassId} (A : Arr Z h a (newA k ty z) ty) (hz : ¬ z < 0) (hn : z.toNatClampNeg = n) : Oar Z h a ty n (fun _ => defaultValue ty) := by
  subst hn
  refine ⟨(back32 hz).2, _, A, sz_new _ _ _, fun j hj => ?_⟩
  simp [newA, hj]
theorem Oar.set (A : Oar Z h a ty n f) (W : Wr h h' a i v) : Oar Z h' a ty n (fun j => if j = i then v else f j) := by
  obtain ⟨q, cl, A, S, H⟩ := A
  obtain ⟨cell, e1, -, e3, -⟩ := id W
  cases A.1.symm.trans e1
  refine ⟨q, _, A.same W, by rw [sz_set]; exact S, fun j hj => ?_⟩
  by_cases u : i = j
  · subst u; simp [Cell.setSlot, e3]
  · have u' : ¬ j = i := fun x => u x.symm
    simp only [if_neg u', Cell.setSlot]; rw [Array.getElem?_setIfInBounds_ne u]; exact H j hj
theorem own_cl (hj : j.toInt = (i : Int)) : ¬ j < 0 ∧ j.toNatClampNeg = i := by
  refine ⟨fun q => ?_, ?_⟩
  · rw [Int32.lt_iff_toInt_lt] at q; have : (0 : Int32).toInt = 0 := rfl; omega
  · simp only [Int32.toNatClampNeg, hj]; rfl
theorem Oar.at (A : Oar Z h a ty n f) (hj : j.toInt = (i : Int)) (hi : i < n) : ∃ cl : Cell, Arr Z h a cl ty ∧ ¬ (j < 0 ∨ cl.slots.size ≤ j.toNatClampNeg) ∧ cl.slots[j.toNatClampNeg]? = some (f i) := by
  obtain ⟨q, cl, A, S, H⟩ := A
  obtain ⟨q1, q2⟩ := own_cl hj
  exact ⟨cl, A, fun q => q.elim q1 fun u => by rw [q2, S] at u; omega, by rw [q2]; exact H i hi⟩
/-- arraylength -/
theorem own_alen (X : Stand p l e R s m args below meth c T locs cells slots) (hx : p.tables.exec = Jvm.exec) (hZ : Z.Warmed39 s.vm) (eT : T.heap = h) (A : Oar Z h a ty n f) (hz : z.toInt = (n : Int)) {pc : Nat} {Ls : Array Slot} {rest : List Value} (hd : decode c.code pc = .ok (.arraylength, 1))
    (k : Ogo p e below P (T.setTop (mkF m (pc + 1) Ls (.int z :: rest)))) : Ogo p e below P (T.setTop (mkF m pc Ls (.ref a :: rest))) := by
  obtain ⟨q, cl, A, S, H⟩ := A
  have e1 : cl.slots.size.toInt32 = z := Int32.toInt_inj.mp (by rw [S, len_toInt q, hz])
  refine own_via (fun t k => X.arraylength hx (by rw [eT]; exact A.1) (State.isArrayOf_alike hZ.alike A.2.1) (g := mkF m pc Ls (.ref a :: rest)) rfl rfl hd _ k) ?_
  rw [e1]; exact k
theorem own_iald (X : Stand p l e R s m args below meth c T locs cells slots) (hx : p.tables.exec = Jvm.exec) (hZ : Z.Warmed39 s.vm) (eT : T.heap = h) (A : Oar Z h a .int n f) (hj : j.toInt = (i : Int)) (hi : i < n) (hv : f i = v) {pc : Nat} {Ls : Array Slot} {rest : List Value} (hd : decode c.code pc = .ok (.iaload, 1))
    (k : Ogo p e below P (T.setTop (mkF m (pc + 1) Ls (v :: rest)))) : Ogo p e below P (T.setTop (mkF m pc Ls (.int j :: .ref a :: rest))) := by
  obtain ⟨cl, A, h1, h2⟩ := A.at hj hi
  rw [hv] at h2
  exact own_via (fun t k => X.iaload hx (j := j) (v := v) (by rw [eT]; exact A.1) (State.isArrayOf_alike hZ.alike A.2.1) A.2.2 h1 h2 (g := mkF m pc Ls (.int j :: .ref a :: rest)) rfl rfl hd _ k) k
theorem own_bald (X : Stand p l e R s m args below meth c T locs cells slots) (hx : p.tables.exec = Jvm.exec) (hZ : Z.Warmed39 s.vm) (eT : T.heap = h) (A : Oar Z h a .byte n f) (hj : j.toInt = (i : Int)) (hi : i < n) (hv : f i = v) {pc : Nat} {Ls : Array Slot} {rest : List Value} (hd : decode c.code pc = .ok (.baload, 1))
    (k : Ogo p e below P (T.setTop (mkF m (pc + 1) Ls (v :: rest)))) : Ogo p e below P (T.setTop (mkF m pc Ls (.int j :: .ref a :: rest))) := by
  obtain ⟨cl, A, h1, h2⟩ := A.at hj hi
  rw [hv] at h2
  exact own_via (fun t k => X.baloadBytes hx (j := j) (v := v) (by rw [eT]; exact A.1) (State.isArrayOf_alike hZ.alike A.2.1) A.2.2 h1 h2 (g := mkF m pc Ls (.int j :: .ref a :: rest)) rfl rfl hd _ k) k
theorem own_zald (X : Stand p l e R s m args below meth c T locs cells slots) (hx : p.tables.exec = Jvm.exec) (hZ : Z.Warmed39 s.vm) (eT : T.heap = h) (A : Oar Z h a .boolean n f) (hj : j.toInt = (i : Int)) (hi : i < n) (hv : f i = v) {pc : Nat} {Ls : Array Slot} {rest : List Value} (hd : decode c.code pc = .ok (.baload, 1))
    (k : Ogo p e below P (T.setTop (mkF m (pc + 1) Ls (v :: rest)))) : Ogo p e below P (T.setTop (mkF m pc Ls (.int j :: .ref a :: rest))) := by
  obtain ⟨cl, A, h1, h2⟩ := A.at hj hi
  rw [hv] at h2
  exact own_via (fun t k => X.baloadBooleans hx (j := j) (v := v) (by rw [eT]; exact A.1) (State.isArrayOf_alike hZ.alike A.2.1) A.2.2 h1 h2 (g := mkF m pc Ls (.int j :: .ref a :: rest)) rfl rfl hd _ k) k
theorem own_dald (X : Stand p l e R s m args below meth c T locs cells slots) (hx : p.tables.exec = Jvm.exec) (hZ : Z.Warmed39 s.vm) (eT : T.heap = h) (A : Oar Z h a .double n f) (hj : j.toInt = (i : Int)) (hi : i < n) (hv : f i = v) {pc : Nat} {Ls : Array Slot} {rest : List Value} (hd : decode c.code pc = .ok (.daload, 1))
    (k : Ogo p e below P (T.setTop (mkF m (pc + 1) Ls (v :: rest)))) : Ogo p e below P (T.setTop (mkF m pc Ls (.int j :: .ref a :: rest))) := by
  obtain ⟨cl, A, h1, h2⟩ := A.at hj hi
  rw [hv] at h2
  exact own_via (fun t k => X.daload hx (j := j) (v := v) (by rw [eT]; exact A.1) (State.isArrayOf_alike hZ.alike A.2.1) A.2.2 h1 h2 (g := mkF m pc Ls (.int j :: .ref a :: rest)) rfl rfl hd _ k) k
theorem own_aald (X : Stand p l e R s m args below meth c T locs cells slots) (hx : p.tables.exec = Jvm.exec) (hZ : Z.Warmed39 s.vm) (eT : T.heap = h) (A : Oar Z h a ty n f) (ht : ty.isReference = true) (hj : j.toInt = (i : Int)) (hi : i < n) (hv : f i = v) {pc : Nat} {Ls : Array Slot} {rest : List Value} (hd : decode c.code pc = .ok (.aaload, 1))
    (k : Ogo p e below P (T.setTop (mkF m (pc + 1) Ls (v :: rest)))) : Ogo p e below P (T.setTop (mkF m pc Ls (.int j :: .ref a :: rest))) := by
  obtain ⟨cl, A, h1, h2⟩ := A.at hj hi
  rw [hv] at h2
  exact own_via (fun t k => X.aaload hx (j := j) (v := v) (by rw [eT]; exact A.1) (State.isArrayOf_alike hZ.alike A.2.1) ht A.2.2 h1 h2 (g := mkF m pc Ls (.int j :: .ref a :: rest)) rfl rfl hd _ k) k
theorem own_iast (X : Stand p l e R s m args below meth c T locs cells slots) (hx : p.tables.exec = Jvm.exec) (hZ : Z.Warmed39 s.vm) (eT : T.heap = h) (A : Oar Z h a .int n f) {x : Int32} (hj : j.toInt = (i : Int)) (hi : i < n) {pc : Nat} {Ls : Array Slot} {rest : List Value} (hd : decode c.code pc = .ok (.iastore, 1)) :
    ∃ T' h', Stand p l e R s m args below meth c T' (locs ++ [⟨a, i⟩]) cells slots ∧ T'.heap = h' ∧ Wr h h' a i (.int x) ∧ Oar Z h' a .int n (fun q => if q = i then .int x else f q) ∧ ∀ t, Steps p.tables e below (T'.setTop (mkF m (pc + 1) Ls rest)) t → Steps p.tables e below (T.setTop (mkF m pc Ls (.int x :: .int j :: .ref a :: rest))) t := by
  obtain ⟨cl, A', h1, h2⟩ := A.at hj hi
  obtain ⟨T', h', X', e', W, st⟩ := stI X hx hZ eT A' (j := j) (x := x) h1 (g := mkF m pc Ls (.int x :: .int j :: .ref a :: rest)) rfl rfl hd
  rw [(own_cl hj).2] at X' W
  exact ⟨T', h', X', e', W, A.set W, st⟩
theorem own_bast (X : Stand p l e R s m args below meth c T locs cells slots) (hx : p.tables.exec = Jvm.exec) (hZ : Z.Warmed39 s.vm) (eT : T.heap = h) (A : Oar Z h a .byte n f) {x : Int32} (hj : j.toInt = (i : Int)) (hi : i < n) {pc : Nat} {Ls : Array Slot} {rest : List Value} (hd : decode c.code pc = .ok (.bastore, 1)) :
    ∃ T' h', Stand p l e R s m args below meth c T' (locs ++ [⟨a, i⟩]) cells slots ∧ T'.heap = h' ∧ Wr h h' a i (.int (nar .byte x)) ∧ Oar Z h' a .byte n (fun q => if q = i then .int (nar .byte x) else f q) ∧ ∀ t, Steps p.tables e below (T'.setTop (mkF m (pc + 1) Ls rest)) t → Steps p.tables e below (T.setTop (mkF m pc Ls (.int x :: .int j :: .ref a :: rest))) t := by
  obtain ⟨cl, A', h1, h2⟩ := A.at hj hi
  obtain ⟨T', h', X', e', W, st⟩ := stB X hx hZ eT A' (j := j) (x := x) h1 (g := mkF m pc Ls (.int x :: .int j :: .ref a :: rest)) rfl rfl hd
  rw [(own_cl hj).2] at X' W
  exact ⟨T', h', X', e', W, A.set W, st⟩
theorem own_zast (X : Stand p l e R s m args below meth c T locs cells slots) (hx : p.tables.exec = Jvm.exec) (hZ : Z.Warmed39 s.vm) (eT : T.heap = h) (A : Oar Z h a .boolean n f) {x : Int32} (hj : j.toInt = (i : Int)) (hi : i < n) {pc : Nat} {Ls : Array Slot} {rest : List Value} (hd : decode c.code pc = .ok (.bastore, 1)) :
    ∃ T' h', Stand p l e R s m args below meth c T' (locs ++ [⟨a, i⟩]) cells slots ∧ T'.heap = h' ∧ Wr h h' a i (.int (nar .boolean x)) ∧ Oar Z h' a .boolean n (fun q => if q = i then .int (nar .boolean x) else f q) ∧ ∀ t, Steps p.tables e below (T'.setTop (mkF m (pc + 1) Ls rest)) t → Steps p.tables e below (T.setTop (mkF m pc Ls (.int x :: .int j :: .ref a :: rest))) t := by
  obtain ⟨cl, A', h1, h2⟩ := A.at hj hi
  obtain ⟨T', h', X', e', W, st⟩ := stZ X hx hZ eT A' (j := j) (x := x) h1 (g := mkF m pc Ls (.int x :: .int j :: .ref a :: rest)) rfl rfl hd
  rw [(own_cl hj).2] at X' W
  exact ⟨T', h', X', e', W, A.set W, st⟩
theorem own_dast (X : Stand p l e R s m args below meth c T locs cells slots) (hx : p.tables.exec = Jvm.exec) (hZ : Z.Warmed39 s.vm) (eT : T.heap = h) (A : Oar Z h a .double n f) {x : UInt64} (hj : j.toInt = (i : Int)) (hi : i < n) {pc : Nat} {Ls : Array Slot} {rest : List Value} (hd : decode c.code pc = .ok (.dastore, 1)) :
    ∃ T' h', Stand p l e R s m args below meth c T' (locs ++ [⟨a, i⟩]) cells slots ∧ T'.heap = h' ∧ Wr h h' a i (.double x) ∧ Oar Z h' a .double n (fun q => if q = i then .double x else f q) ∧ ∀ t, Steps p.tables e below (T'.setTop (mkF m (pc + 1) Ls rest)) t → Steps p.tables e below (T.setTop (mkF m pc Ls (.double x :: .int j :: .ref a :: rest))) t := by
  obtain ⟨cl, A', h1, h2⟩ := A.at hj hi
  obtain ⟨T', h', X', e', W, st⟩ := stD X hx hZ eT A' (j := j) (x := x) h1 (g := mkF m pc Ls (.double x :: .int j :: .ref a :: rest)) rfl rfl hd
  rw [(own_cl hj).2] at X' W
  exact ⟨T', h', X', e', W, A.set W, st⟩
theorem own_aast (X : Stand p l e R s m args below meth c T locs cells slots) (hx : p.tables.exec = Jvm.exec) (hZ : Z.Warmed39 s.vm) (eT : T.heap = h) (A : Oar Z h a ty n f) (ht : ty.isReference = true) (F : Sto Z h a v) (hj : j.toInt = (i : Int)) (hi : i < n) {pc : Nat} {Ls : Array Slot} {rest : List Value} (hd : decode c.code pc = .ok (.aastore, 1)) :
    ∃ T' h', Stand p l e R s m args below meth c T' (locs ++ [⟨a, i⟩]) cells slots ∧ T'.heap = h' ∧ Wr h h' a i v ∧ Oar Z h' a ty n (fun q => if q = i then v else f q) ∧ ∀ t, Steps p.tables e below (T'.setTop (mkF m (pc + 1) Ls rest)) t → Steps p.tables e below (T.setTop (mkF m pc Ls (v :: .int j :: .ref a :: rest))) t := by
  obtain ⟨cl, A', h1, h2⟩ := A.at hj hi
  obtain ⟨T', h', X', e', W, st⟩ := stR X hx hZ eT A' (j := j) h1 ht F (g := mkF m pc Ls (v :: .int j :: .ref a :: rest)) rfl rfl hd
  rw [(own_cl hj).2] at X' W
  exact ⟨T', h', X', e', W, A.set W, st⟩
theorem own_pref {F : Nat → Value} {d : Value} {i j : Nat} : (if j = i then F i else if j < i then F j else d) = if j < i + 1 then F j else d := by
  by_cases u : j = i
  · subst u; simp
  · rw [if_neg u]
    by_cases w : j < i
    · rw [if_pos w, if_pos (by omega)]
    · rw [if_neg w, if_neg (by omega)]
/-! numbers: comparisons by their values -/
theorem o_lt {x y : Int64} (q : x.toInt < y.toInt) : lcmpW x y < (0 : Int32) := (lw_lt _ _).mpr (Int64.lt_iff_toInt_lt.mpr q)
theorem o_nlt {x y : Int64} (q : y.toInt ≤ x.toInt) : ¬ (lcmpW x y < (0 : Int32)) := fun u => by have := Int64.lt_iff_toInt_lt.mp ((lw_lt _ _).mp u); omega
theorem o_gt {x y : Int64} (q : y.toInt < x.toInt) : (0 : Int32) < lcmpW x y := (lw_gt _ _).mpr (Int64.lt_iff_toInt_lt.mpr q)
theorem o_ngt {x y : Int64} (q : x.toInt ≤ y.toInt) : ¬ ((0 : Int32) < lcmpW x y) := fun u => by have := Int64.lt_iff_toInt_lt.mp ((lw_gt _ _).mp u); omega
theorem o_eq {x y : Int64} (q : x.toInt = y.toInt) : lcmpW x y = (0 : Int32) := (lw_eq _ _).mpr (Int64.toInt_inj.mp q)
theorem o_ne {x y : Int64} (q : x.toInt ≠ y.toInt) : ¬ (lcmpW x y = (0 : Int32)) := fun u => q (congrArg Int64.toInt ((lw_eq _ _).mp u))
theorem i_lt {x y : Int32} (q : x.toInt < y.toInt) : x < y := Int32.lt_iff_toInt_lt.mpr q
theorem i_nlt {x y : Int32} (q : y.toInt ≤ x.toInt) : ¬ (x < y) := fun u => by have := Int32.lt_iff_toInt_lt.mp u; omega
theorem i_eq {x y : Int32} (q : x.toInt = y.toInt) : x = y := Int32.toInt_inj.mp q
theorem i_ne {x y : Int32} (q : x.toInt ≠ y.toInt) : ¬ (x = y) := fun u => q (congrArg Int32.toInt u)
theorem i_lt' {x y : Int32} (q : x < y) : x.toInt < y.toInt := Int32.lt_iff_toInt_lt.mp q
theorem i_nlt' {x y : Int32} (q : ¬ (x < y)) : y.toInt ≤ x.toInt := by rw [Int32.lt_iff_toInt_lt] at q; omega
end Own2
theorem pd_0 : parseMethodDescriptor "(JJ)J" = some ⟨[.long, .long], some .long⟩ := by decide +kernel
theorem pd_1 : parseMethodDescriptor "(J)V" = some ⟨[.long], none⟩ := by decide +kernel
theorem pn_0 : plainName "com/example/diligent_workflow/diligentworkflow/feel/BudgetSpendPinLaw" = true := by first | (simp [plainName, overriddenIn]; done) | decide +kernel
theorem pn_1 : plainName "com/example/diligent_workflow/diligentworkflow/feel/Budget" = true := by first | (simp [plainName, overriddenIn]; done) | decide +kernel

/-! ## The plain law -/
def own_up (x b : Int64) : Int64 := if b = 9223372036854775807 then x &&& 9223372036854775807 else (x &&& 9223372036854775807) % (b + 1)
theorem own_mask (x : Int64) : 0 ≤ (x &&& 9223372036854775807).toInt := by
  have h := c_maskL x 9223372036854775807 63 (by decide) (by decide)
  have : (0 : Int) < ((2 ^ 63 : Nat) : Int) := by decide
  rw [h]; omega
theorem own_lge {x : Int64} (h : 0 ≤ x.toInt) : ¬ (lcmpW x (0 : Int64)) < (0 : Int32) := fun q => by
  have q' := (lw_lt _ _).mp q
  rw [Int64.lt_iff_toInt_lt] at q'
  have : (0 : Int64).toInt = 0 := rfl
  omega
theorem own_succ {b : Int64} (hb : 0 ≤ b.toInt) (hm : ¬ b = 9223372036854775807) : (b + 1).toInt = b.toInt + 1 := by
  have h1 := c_ladd b 1
  have h2 := rng64 (b + 1)
  have h3 := rng64 b
  have h4 : (1 : Int64).toInt = 1 := rfl
  have h5 : b.toInt ≠ 9223372036854775807 := fun q => hm (Int64.toInt_inj.mp q)
  omega
theorem own_up_b {x b : Int64} (hb : 0 ≤ b.toInt) : 0 ≤ (own_up x b).toInt ∧ (own_up x b).toInt ≤ b.toInt := by
  unfold own_up
  have hm := own_mask x
  split
  · rename_i h; subst h
    have h2 := rng64 (x &&& 9223372036854775807)
    have h3 : (9223372036854775807 : Int64).toInt = 9223372036854775807 := rfl
    omega
  · rename_i h
    have h1 := (c_lrem (x &&& 9223372036854775807) (b + 1) _ (own_succ hb h)).1 hm
    rw [lrem_mod] at h1
    rw [h1]
    have h2 : 0 < b.toInt + 1 := by omega
    have h3 := Int.emod_nonneg (x &&& 9223372036854775807).toInt (show b.toInt + 1 ≠ 0 by omega)
    have h4 := Int.emod_lt_of_pos (x &&& 9223372036854775807).toInt h2
    omega
theorem own_lsub {x y : Int64} (h1 : 0 ≤ y.toInt) (h2 : y.toInt ≤ x.toInt) : (x - y).toInt = x.toInt - y.toInt := by
  have h3 := c_lsub x y
  have h4 := rng64 (x - y)
  have h5 := rng64 x
  have h6 := rng64 y
  omega
theorem own_sum {s a b : Int64} : a + b + (s - a - b) = s := by
  apply Int64.toInt_inj.mp
  have h1 := c_ladd a b
  have h2 := c_ladd (a + b) (s - a - b)
  have h3 := c_lsub s a
  have h4 := c_lsub (s - a) b
  have h5 := rng64 s
  have h6 := rng64 (a + b + (s - a - b))
  omega
theorem d1_0 : decode method_2_code 0 = .ok (.lload_n 0, 1) := by decide +kernel
theorem d1_1 : decode method_2_code 1 = .ok (.ldc2_w 9, 3) := by decide +kernel
theorem d1_4 : decode method_2_code 4 = .ok (.land, 1) := by decide +kernel
theorem d1_5 : decode method_2_code 5 = .ok (.lstore 4, 2) := by decide +kernel
theorem d1_7 : decode method_2_code 7 = .ok (.lload_n 2, 1) := by decide +kernel
theorem d1_8 : decode method_2_code 8 = .ok (.ldc2_w 9, 3) := by decide +kernel
theorem d1_11 : decode method_2_code 11 = .ok (.lcmp, 1) := by decide +kernel
theorem d1_12 : decode method_2_code 12 = .ok (.ifCond .ne 6, 3) := by decide +kernel
theorem d1_15 : decode method_2_code 15 = .ok (.lload 4, 2) := by decide +kernel
theorem d1_17 : decode method_2_code 17 = .ok (.lreturn, 1) := by decide +kernel
theorem d1_18 : decode method_2_code 18 = .ok (.lload 4, 2) := by decide +kernel
theorem d1_20 : decode method_2_code 20 = .ok (.lload_n 2, 1) := by decide +kernel
theorem d1_21 : decode method_2_code 21 = .ok (.lconst 1, 1) := by decide +kernel
theorem d1_22 : decode method_2_code 22 = .ok (.ladd, 1) := by decide +kernel
theorem d1_23 : decode method_2_code 23 = .ok (.lrem, 1) := by decide +kernel
theorem d1_24 : decode method_2_code 24 = .ok (.lreturn, 1) := by decide +kernel
set_option maxRecDepth 65536 in
set_option maxHeartbeats 40000000 in
theorem rm_up {l : Launch} {Z : State} {a0 : Array Value} (hw : ∀ d ∈ tables_1, d.before a0 Z = true) (q1 q2 : Int64) (h0 : Heap) (n0 : Nat) (hq : 0 ≤ q2.toInt) :
    Opays l (⟨"com/example/diligent_workflow/diligentworkflow/feel/BudgetSpendPinLaw", "upTo", "(JJ)J"⟩ : MethodName) method_2_code 6 (some .long) ({ frames := 0, cells := 0, slots := 0, locals := 0 } : Room) [] Z h0 #[(.long q1), (.long q2)] (fun v h L => v = some (.long (own_up q1 q2)) ∧ Fr n0 L ∧ h = h0) := by
  refine own_enter (plainFor_of_name pn_0) ?_
  intro p e s m below meth c s₁ hx hby hml0 hown hnm hret hlk hZ e0 X0
  have hml : c.maxLocals = 6 := hml0
  replace hown : s.vm.findClass "com/example/diligent_workflow/diligentworkflow/feel/BudgetSpendPinLaw" = some m.cls := hown
  have N := Fr.nil n0
  have hef : entryFrame m #[(.long q1), (.long q2)] 6 = mkF m 0 #[.val (.long q1), .second, .val (.long q2), .second, .unset, .unset] [] := by first | (simp [entryFrame, mkF, argsToLocals, Value.category]; done) | rfl
  rw [hef]
  show Ogo p e below _ (s₁.setTop (mkF m 0 #[.val (.long q1), .second, .val (.long q2), .second, .unset, .unset] []))
  refine own_via (fun t k => XS.lloadN X0.here hx rfl (hb hby d1_0) rfl k) ?_
  show Ogo p e below _ (s₁.setTop (mkF m 1 #[.val (.long q1), .second, .val (.long q2), .second, .unset, .unset] [(.long q1)]))
  refine own_via (fun t k => X0.ldc2Long hx hown (mvT hZ (hw _ (List.mem_of_getElem? (i := 0) rfl))) (g := (mkF m 1 #[.val (.long q1), .second, .val (.long q2), .second, .unset, .unset] [(.long q1)])) rfl (hb hby d1_1) _ k) ?_
  show Ogo p e below _ (s₁.setTop (mkF m 4 #[.val (.long q1), .second, .val (.long q2), .second, .unset, .unset] [(.long (9223372036854775807 : Int64)), (.long q1)]))
  refine own_via (fun t k => XS.land X0.here hx rfl (hb hby d1_4) rfl k) ?_
  show Ogo p e below _ (s₁.setTop (mkF m 5 #[.val (.long q1), .second, .val (.long q2), .second, .unset, .unset] [(.long (q1 &&& (9223372036854775807 : Int64)))]))
  refine own_via (fun t k => XS.lstore X0.here hx rfl (hb hby d1_5) rfl (l' := #[.val (.long q1), .second, .val (.long q2), .second, .val (.long (q1 &&& (9223372036854775807 : Int64))), .second]) rfl k) ?_
  show Ogo p e below _ (s₁.setTop (mkF m 7 #[.val (.long q1), .second, .val (.long q2), .second, .val (.long (q1 &&& (9223372036854775807 : Int64))), .second] []))
  refine own_via (fun t k => XS.lloadN X0.here hx rfl (hb hby d1_7) rfl k) ?_
  show Ogo p e below _ (s₁.setTop (mkF m 8 #[.val (.long q1), .second, .val (.long q2), .second, .val (.long (q1 &&& (9223372036854775807 : Int64))), .second] [(.long q2)]))
  refine own_via (fun t k => X0.ldc2Long hx hown (mvT hZ (hw _ (List.mem_of_getElem? (i := 0) rfl))) (g := (mkF m 8 #[.val (.long q1), .second, .val (.long q2), .second, .val (.long (q1 &&& (9223372036854775807 : Int64))), .second] [(.long q2)])) rfl (hb hby d1_8) _ k) ?_
  show Ogo p e below _ (s₁.setTop (mkF m 11 #[.val (.long q1), .second, .val (.long q2), .second, .val (.long (q1 &&& (9223372036854775807 : Int64))), .second] [(.long (9223372036854775807 : Int64)), (.long q2)]))
  refine own_via (fun t k => XS.lcmp X0.here hx rfl (hb hby d1_11) rfl k) ?_
  show Ogo p e below _ (s₁.setTop (mkF m 12 #[.val (.long q1), .second, .val (.long q2), .second, .val (.long (q1 &&& (9223372036854775807 : Int64))), .second] [(.int (lcmpW q2 (9223372036854775807 : Int64)))]))
  by_cases hc12 : (lcmpW q2 (9223372036854775807 : Int64)) = (0 : Int32)
  · refine own_via (fun t k => XS.ifNo X0.here hx rfl (hb hby d1_12) rfl ((if0 _ _).trans (teq (hc12 : (lcmpW q2 (9223372036854775807 : Int64)) = (0 : Int32))).2) k) ?_
    show Ogo p e below _ (s₁.setTop (mkF m 15 #[.val (.long q1), .second, .val (.long q2), .second, .val (.long (q1 &&& (9223372036854775807 : Int64))), .second] []))
    refine own_via (fun t k => XS.lload X0.here hx rfl (hb hby d1_15) rfl k) ?_
    show Ogo p e below _ (s₁.setTop (mkF m 17 #[.val (.long q1), .second, .val (.long q2), .second, .val (.long (q1 &&& (9223372036854775807 : Int64))), .second] [(.long (q1 &&& (9223372036854775807 : Int64)))]))
    exact own_out X0 hlk (fun h => by rw [hret] at h; cases h) (by decide) (by decide) (by rw [e0]; exact ⟨by rw [own_up, if_pos ((lw_eq _ _).mp hc12)], N, rfl⟩) (fun fs hr => own_retL X0 hx hret (hb hby d1_17) hr)
  · refine own_via (fun t k => XS.ifYes X0.here hx rfl (pc0 := 12) (pc' := 18) rfl (hb hby d1_12) rfl ((if0 _ _).trans (feq (hc12 : ¬ ((lcmpW q2 (9223372036854775807 : Int64)) = (0 : Int32)))).2) (by decide) (by decide) k) ?_
    show Ogo p e below _ (s₁.setTop (mkF m 18 #[.val (.long q1), .second, .val (.long q2), .second, .val (.long (q1 &&& (9223372036854775807 : Int64))), .second] []))
    refine own_via (fun t k => XS.lload X0.here hx rfl (hb hby d1_18) rfl k) ?_
    show Ogo p e below _ (s₁.setTop (mkF m 20 #[.val (.long q1), .second, .val (.long q2), .second, .val (.long (q1 &&& (9223372036854775807 : Int64))), .second] [(.long (q1 &&& (9223372036854775807 : Int64)))]))
    refine own_via (fun t k => XS.lloadN X0.here hx rfl (hb hby d1_20) rfl k) ?_
    show Ogo p e below _ (s₁.setTop (mkF m 21 #[.val (.long q1), .second, .val (.long q2), .second, .val (.long (q1 &&& (9223372036854775807 : Int64))), .second] [(.long q2), (.long (q1 &&& (9223372036854775807 : Int64)))]))
    refine own_via (fun t k => XS.lconst X0.here hx rfl (hb hby d1_21) k) ?_
    show Ogo p e below _ (s₁.setTop (mkF m 22 #[.val (.long q1), .second, .val (.long q2), .second, .val (.long (q1 &&& (9223372036854775807 : Int64))), .second] [(.long (1 : Int64)), (.long q2), (.long (q1 &&& (9223372036854775807 : Int64)))]))
    refine own_via (fun t k => XS.ladd X0.here hx rfl (hb hby d1_22) rfl k) ?_
    show Ogo p e below _ (s₁.setTop (mkF m 23 #[.val (.long q1), .second, .val (.long q2), .second, .val (.long (q1 &&& (9223372036854775807 : Int64))), .second] [(.long (q2 + (1 : Int64))), (.long (q1 &&& (9223372036854775807 : Int64)))]))
    refine own_via (fun t k => own_lrem X0 hx rfl (hb hby d1_23) rfl (fun q => by have := own_succ hq (fun z => hc12 ((lw_eq _ _).mpr z)); rw [q] at this; have z : (0 : Int64).toInt = 0 := rfl; omega) k) ?_
    show Ogo p e below _ (s₁.setTop (mkF m 24 #[.val (.long q1), .second, .val (.long q2), .second, .val (.long (q1 &&& (9223372036854775807 : Int64))), .second] [(.long ((q1 &&& (9223372036854775807 : Int64)) % (q2 + (1 : Int64))))]))
    exact own_out X0 hlk (fun h => by rw [hret] at h; cases h) (by decide) (by decide) (by rw [e0]; exact ⟨by rw [own_up, if_neg (fun z => hc12 ((lw_eq _ _).mpr z))], N, rfl⟩) (fun fs hr => own_retL X0 hx hret (hb hby d1_24) hr)
theorem d2_0 : decode prog_40_method_1_code 0 = .ok (.aload_n 0, 1) := by decide +kernel
theorem d2_1 : decode prog_40_method_1_code 1 = .ok (.invokespecial 1, 3) := by decide +kernel
theorem d2_4 : decode prog_40_method_1_code 4 = .ok (.aload_n 0, 1) := by decide +kernel
theorem d2_5 : decode prog_40_method_1_code 5 = .ok (.lload_n 1, 1) := by decide +kernel
theorem d2_6 : decode prog_40_method_1_code 6 = .ok (.putfield 7, 3) := by decide +kernel
theorem d2_9 : decode prog_40_method_1_code 9 = .ok (.aload_n 0, 1) := by decide +kernel
theorem d2_10 : decode prog_40_method_1_code 10 = .ok (.lload_n 1, 1) := by decide +kernel
theorem d2_11 : decode prog_40_method_1_code 11 = .ok (.putfield 13, 3) := by decide +kernel
theorem d2_14 : decode prog_40_method_1_code 14 = .ok (.return_, 1) := by decide +kernel
set_option maxRecDepth 65536 in
set_option maxHeartbeats 40000000 in
theorem rm_ini {l : Launch} {Z : State} {a0 : Array Value} (hw : ∀ d ∈ tables_1, d.before a0 Z = true) (a : Addr) (q : Int64) (u1 u2 : Int64) (h0 : Heap) (n0 : Nat) (E_a : Exa Z h0 a "com/example/diligent_workflow/diligentworkflow/feel/Budget") (F_steps_a : Fld Z h0 a "com/example/diligent_workflow/diligentworkflow/feel/Budget" "steps" "J" (.long u1)) (F_left_a : Fld Z h0 a "com/example/diligent_workflow/diligentworkflow/feel/Budget" "left" "J" (.long u2)) (g_a : n0 ≤ a) :
    Opays l (⟨"com/example/diligent_workflow/diligentworkflow/feel/Budget", "<init>", "(J)V"⟩ : MethodName) prog_40_method_1_code 3 none ({ frames := 1, cells := 0, slots := 0, locals := 12 } : Room) [] Z h0 #[(.ref a), (.long q)] (fun v h L => v = none ∧ Fr n0 L ∧ Keep h0 h [a] ∧ Fld Z h a "com/example/diligent_workflow/diligentworkflow/feel/Budget" "left" "J" (.long q)) := by
  refine own_enter (plainFor_of_name pn_1) ?_
  intro p e s m below meth c s₁ hx hby hml0 hown hnm hret hlk hZ e0 X0
  have hml : c.maxLocals = 3 := hml0
  replace hown : s.vm.findClass "com/example/diligent_workflow/diligentworkflow/feel/Budget" = some m.cls := hown
  have N := Fr.nil n0
  have hef : entryFrame m #[(.ref a), (.long q)] 3 = mkF m 0 #[.val (.ref a), .val (.long q), .second] [] := by first | (simp [entryFrame, mkF, argsToLocals, Value.category]; done) | rfl
  rw [hef]
  show Ogo p e below _ (s₁.setTop (mkF m 0 #[.val (.ref a), .val (.long q), .second] []))
  have K := Keep.refl h0 [a]
  refine own_via (fun t k => XS.aloadN X0.here hx rfl (hb hby d2_0) rfl rfl k) ?_
  show Ogo p e below _ (s₁.setTop (mkF m 1 #[.val (.ref a), .val (.long q), .second] [(.ref a)]))
  obtain ⟨T1, X1, e1, st1⟩ := initO X0 hx hZ hown (hw _ (List.mem_of_getElem? (i := 11) rfl)) (hw _ (List.mem_of_getElem? (i := 12) rfl)) (hw _ (List.mem_of_getElem? (i := 13) rfl)) e0 (g := (mkF m 1 #[.val (.ref a), .val (.long q), .second] [(.ref a)])) rfl (by rw [hml]; rfl) rfl (hb hby d2_1) (by decide) (W := 0) (by show 2 * 0 + _ ≤ _; exact Nat.le_of_eq rfl) (by decide)
  refine own_via st1 ?_
  show Ogo p e below _ (T1.setTop (mkF m 4 #[.val (.ref a), .val (.long q), .second] []))
  refine own_via (fun t k => XS.aloadN X1.here hx rfl (hb hby d2_4) rfl rfl k) ?_
  show Ogo p e below _ (T1.setTop (mkF m 5 #[.val (.ref a), .val (.long q), .second] [(.ref a)]))
  refine own_via (fun t k => XS.lloadN X1.here hx rfl (hb hby d2_5) rfl k) ?_
  show Ogo p e below _ (T1.setTop (mkF m 6 #[.val (.ref a), .val (.long q), .second] [(.long q), (.ref a)]))
  obtain ⟨T2, h2, X2, e2, W2, st2⟩ := putF X1 hx hZ hown (host := "") (Or.inl (hw _ (List.mem_of_getElem? (i := 14) rfl))) Via.refl e1 F_steps_a E_a (Or.inr ⟨(hw _ (List.mem_of_getElem? (i := 15) rfl)), rfl, hnm⟩) (hw _ (List.mem_of_getElem? (i := 6) rfl)) (ty := .long) (by decide) rfl rfl (g := (mkF m 6 #[.val (.ref a), .val (.long q), .second] [(.long q), (.ref a)])) rfl rfl (hb hby d2_6)
  refine own_via st2 ?_
  have E_a := E_a.wr W2
  have F_steps_a := F_steps_a.same W2
  have F_left_a := F_left_a.other W2 (Or.inr (slot_ne (Or.inl (hw _ (List.mem_of_getElem? (i := 17) rfl))) (Or.inr (hw _ (List.mem_of_getElem? (i := 15) rfl))) (by decide) (t := .long) (t' := .long) (by decide) (by decide)))
  have K := K.wr W2 (Or.inl (List.mem_of_getElem? (i := 0) rfl))
  have N := Fr.snoc X2 N g_a
  show Ogo p e below _ (T2.setTop (mkF m 9 #[.val (.ref a), .val (.long q), .second] []))
  refine own_via (fun t k => XS.aloadN X2.here hx rfl (hb hby d2_9) rfl rfl k) ?_
  show Ogo p e below _ (T2.setTop (mkF m 10 #[.val (.ref a), .val (.long q), .second] [(.ref a)]))
  refine own_via (fun t k => XS.lloadN X2.here hx rfl (hb hby d2_10) rfl k) ?_
  show Ogo p e below _ (T2.setTop (mkF m 11 #[.val (.ref a), .val (.long q), .second] [(.long q), (.ref a)]))
  obtain ⟨T3, h3, X3, e3, W3, st3⟩ := putF X2 hx hZ hown (host := "") (Or.inl (hw _ (List.mem_of_getElem? (i := 16) rfl))) Via.refl e2 F_left_a E_a (Or.inl (hw _ (List.mem_of_getElem? (i := 17) rfl))) (hw _ (List.mem_of_getElem? (i := 6) rfl)) (ty := .long) (by decide) rfl rfl (g := (mkF m 11 #[.val (.ref a), .val (.long q), .second] [(.long q), (.ref a)])) rfl rfl (hb hby d2_11)
  refine own_via st3 ?_
  have E_a := E_a.wr W3
  have F_steps_a := F_steps_a.other W3 (Or.inr (slot_ne (Or.inr (hw _ (List.mem_of_getElem? (i := 15) rfl))) (Or.inl (hw _ (List.mem_of_getElem? (i := 17) rfl))) (by decide) (t := .long) (t' := .long) (by decide) (by decide)))
  have F_left_a := F_left_a.same W3
  have K := K.wr W3 (Or.inl (List.mem_of_getElem? (i := 0) rfl))
  have N := Fr.snoc X3 N g_a
  show Ogo p e below _ (T3.setTop (mkF m 14 #[.val (.ref a), .val (.long q), .second] []))
  exact own_out X3 hlk (fun _ => rfl) (by decide) (by decide) (by rw [e3]; exact ⟨rfl, N, K, F_left_a⟩) (fun fs hr => X3.returnOut hx hret (hb hby d2_14) hr)
theorem d4_0 : decode prog_40_method_2_code 0 = .ok (.aload_n 0, 1) := by decide +kernel
theorem d4_1 : decode prog_40_method_2_code 1 = .ok (.dup, 1) := by decide +kernel
theorem d4_2 : decode prog_40_method_2_code 2 = .ok (.getfield 13, 3) := by decide +kernel
theorem d4_5 : decode prog_40_method_2_code 5 = .ok (.lload_n 1, 1) := by decide +kernel
theorem d4_6 : decode prog_40_method_2_code 6 = .ok (.lsub, 1) := by decide +kernel
theorem d4_7 : decode prog_40_method_2_code 7 = .ok (.putfield 13, 3) := by decide +kernel
theorem d4_10 : decode prog_40_method_2_code 10 = .ok (.aload_n 0, 1) := by decide +kernel
theorem d4_11 : decode prog_40_method_2_code 11 = .ok (.getfield 13, 3) := by decide +kernel
theorem d4_14 : decode prog_40_method_2_code 14 = .ok (.lconst 0, 1) := by decide +kernel
theorem d4_15 : decode prog_40_method_2_code 15 = .ok (.lcmp, 1) := by decide +kernel
theorem d4_16 : decode prog_40_method_2_code 16 = .ok (.ifCond .ge 20, 3) := by decide +kernel
theorem d4_36 : decode prog_40_method_2_code 36 = .ok (.return_, 1) := by decide +kernel
set_option maxRecDepth 65536 in
set_option maxHeartbeats 40000000 in
theorem rm_sp {l : Launch} {Z : State} {a0 : Array Value} (hw : ∀ d ∈ tables_1, d.before a0 Z = true) (a : Addr) (q u : Int64) (h0 : Heap) (n0 : Nat) (E_a : Exa Z h0 a "com/example/diligent_workflow/diligentworkflow/feel/Budget") (F_left_a : Fld Z h0 a "com/example/diligent_workflow/diligentworkflow/feel/Budget" "left" "J" (.long u)) (g_a : n0 ≤ a) (hn : 0 ≤ (u - q).toInt) :
    Opays l (⟨"com/example/diligent_workflow/diligentworkflow/feel/Budget", "spend", "(J)V"⟩ : MethodName) prog_40_method_2_code 3 none ({ frames := 0, cells := 0, slots := 0, locals := 0 } : Room) [] Z h0 #[(.ref a), (.long q)] (fun v h L => v = none ∧ Fr n0 L ∧ Keep h0 h [a] ∧ Fld Z h a "com/example/diligent_workflow/diligentworkflow/feel/Budget" "left" "J" (.long (u - q))) := by
  refine own_enter (plainFor_of_name pn_1) ?_
  intro p e s m below meth c s₁ hx hby hml0 hown hnm hret hlk hZ e0 X0
  have hml : c.maxLocals = 3 := hml0
  replace hown : s.vm.findClass "com/example/diligent_workflow/diligentworkflow/feel/Budget" = some m.cls := hown
  have N := Fr.nil n0
  have hef : entryFrame m #[(.ref a), (.long q)] 3 = mkF m 0 #[.val (.ref a), .val (.long q), .second] [] := by first | (simp [entryFrame, mkF, argsToLocals, Value.category]; done) | rfl
  rw [hef]
  show Ogo p e below _ (s₁.setTop (mkF m 0 #[.val (.ref a), .val (.long q), .second] []))
  have K := Keep.refl h0 [a]
  refine own_via (fun t k => XS.aloadN X0.here hx rfl (hb hby d4_0) rfl rfl k) ?_
  show Ogo p e below _ (s₁.setTop (mkF m 1 #[.val (.ref a), .val (.long q), .second] [(.ref a)]))
  refine own_via (fun t k => XS.dup X0.here hx rfl (hb hby d4_1) rfl rfl k) ?_
  show Ogo p e below _ (s₁.setTop (mkF m 2 #[.val (.ref a), .val (.long q), .second] [(.ref a), (.ref a)]))
  obtain ⟨T1, X1, e1, st1⟩ := getF X0 hx hZ hown (host := "") (Or.inl (hw _ (List.mem_of_getElem? (i := 16) rfl))) Via.refl e0 F_left_a (g := (mkF m 2 #[.val (.ref a), .val (.long q), .second] [(.ref a), (.ref a)])) rfl rfl (hb hby d4_2)
  refine own_via st1 ?_
  show Ogo p e below _ (T1.setTop (mkF m 5 #[.val (.ref a), .val (.long q), .second] [(.long u), (.ref a)]))
  refine own_via (fun t k => XS.lloadN X1.here hx rfl (hb hby d4_5) rfl k) ?_
  show Ogo p e below _ (T1.setTop (mkF m 6 #[.val (.ref a), .val (.long q), .second] [(.long q), (.long u), (.ref a)]))
  refine own_via (fun t k => XS.lsub X1.here hx rfl (hb hby d4_6) rfl k) ?_
  show Ogo p e below _ (T1.setTop (mkF m 7 #[.val (.ref a), .val (.long q), .second] [(.long (u - q)), (.ref a)]))
  obtain ⟨T2, h2, X2, e2, W2, st2⟩ := putF X1 hx hZ hown (host := "") (Or.inl (hw _ (List.mem_of_getElem? (i := 16) rfl))) Via.refl e1 F_left_a E_a (Or.inl (hw _ (List.mem_of_getElem? (i := 17) rfl))) (hw _ (List.mem_of_getElem? (i := 6) rfl)) (ty := .long) (by decide) rfl rfl (g := (mkF m 7 #[.val (.ref a), .val (.long q), .second] [(.long (u - q)), (.ref a)])) rfl rfl (hb hby d4_7)
  refine own_via st2 ?_
  have E_a := E_a.wr W2
  have F_left_a := F_left_a.same W2
  have K := K.wr W2 (Or.inl (List.mem_of_getElem? (i := 0) rfl))
  have N := Fr.snoc X2 N g_a
  show Ogo p e below _ (T2.setTop (mkF m 10 #[.val (.ref a), .val (.long q), .second] []))
  refine own_via (fun t k => XS.aloadN X2.here hx rfl (hb hby d4_10) rfl rfl k) ?_
  show Ogo p e below _ (T2.setTop (mkF m 11 #[.val (.ref a), .val (.long q), .second] [(.ref a)]))
  obtain ⟨T3, X3, e3, st3⟩ := getF X2 hx hZ hown (host := "") (Or.inl (hw _ (List.mem_of_getElem? (i := 16) rfl))) Via.refl e2 F_left_a (g := (mkF m 11 #[.val (.ref a), .val (.long q), .second] [(.ref a)])) rfl rfl (hb hby d4_11)
  refine own_via st3 ?_
  show Ogo p e below _ (T3.setTop (mkF m 14 #[.val (.ref a), .val (.long q), .second] [(.long (u - q))]))
  refine own_via (fun t k => XS.lconst X3.here hx rfl (hb hby d4_14) k) ?_
  show Ogo p e below _ (T3.setTop (mkF m 15 #[.val (.ref a), .val (.long q), .second] [(.long (0 : Int64)), (.long (u - q))]))
  refine own_via (fun t k => XS.lcmp X3.here hx rfl (hb hby d4_15) rfl k) ?_
  show Ogo p e below _ (T3.setTop (mkF m 16 #[.val (.ref a), .val (.long q), .second] [(.int (lcmpW (u - q) (0 : Int64)))]))
  refine own_via (fun t k => XS.ifYes X3.here hx rfl (pc0 := 16) (pc' := 36) rfl (hb hby d4_16) rfl ((if0 _ _).trans (flt (own_lge hn : ¬ ((lcmpW (u - q) (0 : Int64)) < (0 : Int32)))).2.1) (by decide) (by decide) k) ?_
  show Ogo p e below _ (T3.setTop (mkF m 36 #[.val (.ref a), .val (.long q), .second] []))
  exact own_out X3 hlk (fun _ => rfl) (by decide) (by decide) (by rw [e3]; exact ⟨rfl, N, K, F_left_a⟩) (fun fs hr => X3.returnOut hx hret (hb hby d4_36) hr)
set_option maxRecDepth 65536 in
set_option maxHeartbeats 40000000 in
theorem rm_law {l : Launch} {Z : State} {a0 : Array Value} (hw : ∀ d ∈ tables_1, d.before a0 Z = true) (q1 q2 q3 : Int64) (p4 : Int32) (h0 : Heap) (n0 : Nat) (zs : n0 ≤ h0.size) :
    Opays l x code maxLocals ret room_1 tables_1 Z h0 #[(.long q1), (.long q2), (.long q3), (.int p4)] (fun v h L => v = some (.int 1) ∧ Fr n0 L) := by
  refine own_enter (plainFor_of_name pn_0) ?_
  intro p e s m below meth c s₁ hx hby hml0 hown hnm hret hlk hZ e0 X0
  have hml : c.maxLocals = 16 := hml0
  replace hown : s.vm.findClass "com/example/diligent_workflow/diligentworkflow/feel/BudgetSpendPinLaw" = some m.cls := hown
  have N := Fr.nil n0
  have hef : entryFrame m #[(.long q1), (.long q2), (.long q3), (.int p4)] maxLocals = mkF m 0 #[.val (.long q1), .second, .val (.long q2), .second, .val (.long q3), .second, .val (.int p4), .unset, .unset, .unset, .unset, .unset, .unset, .unset, .unset, .unset] [] := by first | (simp [entryFrame, mkF, argsToLocals, Value.category, maxLocals]; done) | rfl
  rw [hef]
  show Ogo p e below _ (s₁.setTop (mkF m 0 #[.val (.long q1), .second, .val (.long q2), .second, .val (.long q3), .second, .val (.int p4), .unset, .unset, .unset, .unset, .unset, .unset, .unset, .unset, .unset] []))
  refine own_via (fun t k => XS.lloadN X0.here hx rfl (hb hby at_0) rfl k) ?_
  show Ogo p e below _ (s₁.setTop (mkF m 1 #[.val (.long q1), .second, .val (.long q2), .second, .val (.long q3), .second, .val (.int p4), .unset, .unset, .unset, .unset, .unset, .unset, .unset, .unset, .unset] [(.long q1)]))
  refine own_via (fun t k => X0.ldc2Long hx hown (mvT hZ (hw _ (List.mem_of_getElem? (i := 0) rfl))) (g := (mkF m 1 #[.val (.long q1), .second, .val (.long q2), .second, .val (.long q3), .second, .val (.int p4), .unset, .unset, .unset, .unset, .unset, .unset, .unset, .unset, .unset] [(.long q1)])) rfl (hb hby at_1) _ k) ?_
  show Ogo p e below _ (s₁.setTop (mkF m 4 #[.val (.long q1), .second, .val (.long q2), .second, .val (.long q3), .second, .val (.int p4), .unset, .unset, .unset, .unset, .unset, .unset, .unset, .unset, .unset] [(.long (9223372036854775807 : Int64)), (.long q1)]))
  refine own_via (fun t k => XS.land X0.here hx rfl (hb hby at_4) rfl k) ?_
  show Ogo p e below _ (s₁.setTop (mkF m 5 #[.val (.long q1), .second, .val (.long q2), .second, .val (.long q3), .second, .val (.int p4), .unset, .unset, .unset, .unset, .unset, .unset, .unset, .unset, .unset] [(.long (q1 &&& (9223372036854775807 : Int64)))]))
  refine own_via (fun t k => XS.lstore X0.here hx rfl (hb hby at_5) rfl (l' := #[.val (.long q1), .second, .val (.long q2), .second, .val (.long q3), .second, .val (.int p4), .val (.long (q1 &&& (9223372036854775807 : Int64))), .second, .unset, .unset, .unset, .unset, .unset, .unset, .unset]) rfl k) ?_
  show Ogo p e below _ (s₁.setTop (mkF m 7 #[.val (.long q1), .second, .val (.long q2), .second, .val (.long q3), .second, .val (.int p4), .val (.long (q1 &&& (9223372036854775807 : Int64))), .second, .unset, .unset, .unset, .unset, .unset, .unset, .unset] []))
  obtain ⟨sv, hsv⟩ : ∃ z, z = (q1 &&& (9223372036854775807 : Int64)) := ⟨_, rfl⟩
  rw [← hsv]
  show Ogo p e below _ (s₁.setTop (mkF m 7 #[.val (.long q1), .second, .val (.long q2), .second, .val (.long q3), .second, .val (.int p4), .val (.long sv), .second, .unset, .unset, .unset, .unset, .unset, .unset, .unset] []))
  have hs0 : 0 ≤ sv.toInt := by rw [hsv]; exact own_mask q1
  refine own_via (fun t k => XS.lloadN X0.here hx rfl (hb hby at_7) rfl k) ?_
  show Ogo p e below _ (s₁.setTop (mkF m 8 #[.val (.long q1), .second, .val (.long q2), .second, .val (.long q3), .second, .val (.int p4), .val (.long sv), .second, .unset, .unset, .unset, .unset, .unset, .unset, .unset] [(.long q2)]))
  refine own_via (fun t k => XS.lload X0.here hx rfl (hb hby at_8) rfl k) ?_
  show Ogo p e below _ (s₁.setTop (mkF m 10 #[.val (.long q1), .second, .val (.long q2), .second, .val (.long q3), .second, .val (.int p4), .val (.long sv), .second, .unset, .unset, .unset, .unset, .unset, .unset, .unset] [(.long sv), (.long q2)]))
  refine own_callS X0 hx hZ hown (hw _ (List.mem_of_getElem? (i := 1) rfl)) (hw _ (List.mem_of_getElem? (i := 2) rfl)) (hw _ (List.mem_of_getElem? (i := 3) rfl)) (hw _ (List.mem_of_getElem? (i := 4) rfl)) (by decide) (rm_up hw q2 sv h0 n0 hs0) rfl e0 (W := 0) (by decide) (by decide) (by decide) (by decide) (by rw [hml]; rfl) (argsL := [(.long q2), (.long sv)]) (rest := []) (lenOf pd_0 rfl) rfl (Nat.le_of_eq rfl) (hb hby at_10) ?_
  rintro _ T1 L1 X1 ⟨rfl, Nq, hk⟩
  have N := N.app Nq
  have hk1 := hk
  show Ogo p e below _ (T1.setTop (mkF m 13 #[.val (.long q1), .second, .val (.long q2), .second, .val (.long q3), .second, .val (.int p4), .val (.long sv), .second, .unset, .unset, .unset, .unset, .unset, .unset, .unset] [(.long (own_up q2 sv))]))
  obtain ⟨c1, hc1⟩ : ∃ z, z = (own_up q2 sv) := ⟨_, rfl⟩
  rw [← hc1]
  show Ogo p e below _ (T1.setTop (mkF m 13 #[.val (.long q1), .second, .val (.long q2), .second, .val (.long q3), .second, .val (.int p4), .val (.long sv), .second, .unset, .unset, .unset, .unset, .unset, .unset, .unset] [(.long c1)]))
  obtain ⟨h10, h11⟩ : 0 ≤ c1.toInt ∧ c1.toInt ≤ sv.toInt := by rw [hc1]; exact own_up_b hs0
  have h12 := own_lsub h10 h11
  refine own_via (fun t k => XS.lstore X1.here hx rfl (hb hby at_13) rfl (l' := #[.val (.long q1), .second, .val (.long q2), .second, .val (.long q3), .second, .val (.int p4), .val (.long sv), .second, .val (.long c1), .second, .unset, .unset, .unset, .unset, .unset]) rfl k) ?_
  show Ogo p e below _ (T1.setTop (mkF m 15 #[.val (.long q1), .second, .val (.long q2), .second, .val (.long q3), .second, .val (.int p4), .val (.long sv), .second, .val (.long c1), .second, .unset, .unset, .unset, .unset, .unset] []))
  refine own_via (fun t k => XS.lload X1.here hx rfl (hb hby at_15) rfl k) ?_
  show Ogo p e below _ (T1.setTop (mkF m 17 #[.val (.long q1), .second, .val (.long q2), .second, .val (.long q3), .second, .val (.int p4), .val (.long sv), .second, .val (.long c1), .second, .unset, .unset, .unset, .unset, .unset] [(.long q3)]))
  refine own_via (fun t k => XS.lload X1.here hx rfl (hb hby at_17) rfl k) ?_
  show Ogo p e below _ (T1.setTop (mkF m 19 #[.val (.long q1), .second, .val (.long q2), .second, .val (.long q3), .second, .val (.int p4), .val (.long sv), .second, .val (.long c1), .second, .unset, .unset, .unset, .unset, .unset] [(.long sv), (.long q3)]))
  refine own_via (fun t k => XS.lload X1.here hx rfl (hb hby at_19) rfl k) ?_
  show Ogo p e below _ (T1.setTop (mkF m 21 #[.val (.long q1), .second, .val (.long q2), .second, .val (.long q3), .second, .val (.int p4), .val (.long sv), .second, .val (.long c1), .second, .unset, .unset, .unset, .unset, .unset] [(.long c1), (.long sv), (.long q3)]))
  refine own_via (fun t k => XS.lsub X1.here hx rfl (hb hby at_21) rfl k) ?_
  show Ogo p e below _ (T1.setTop (mkF m 22 #[.val (.long q1), .second, .val (.long q2), .second, .val (.long q3), .second, .val (.int p4), .val (.long sv), .second, .val (.long c1), .second, .unset, .unset, .unset, .unset, .unset] [(.long (sv - c1)), (.long q3)]))
  refine own_callS X1 hx hZ hown (hw _ (List.mem_of_getElem? (i := 1) rfl)) (hw _ (List.mem_of_getElem? (i := 2) rfl)) (hw _ (List.mem_of_getElem? (i := 3) rfl)) (hw _ (List.mem_of_getElem? (i := 4) rfl)) (by decide) (rm_up hw q3 (sv - c1) h0 n0 (by omega)) rfl hk1 (W := 0) (by decide) (by decide) (by decide) (by decide) (by rw [hml]; rfl) (argsL := [(.long q3), (.long (sv - c1))]) (rest := []) (lenOf pd_0 rfl) rfl (Nat.le_of_eq rfl) (hb hby at_22) ?_
  rintro _ T2 L2 X2 ⟨rfl, Nq, hk⟩
  have N := N.app Nq
  have hk2 := hk
  show Ogo p e below _ (T2.setTop (mkF m 25 #[.val (.long q1), .second, .val (.long q2), .second, .val (.long q3), .second, .val (.int p4), .val (.long sv), .second, .val (.long c1), .second, .unset, .unset, .unset, .unset, .unset] [(.long (own_up q3 (sv - c1)))]))
  obtain ⟨c2, hc2⟩ : ∃ z, z = (own_up q3 (sv - c1)) := ⟨_, rfl⟩
  rw [← hc2]
  show Ogo p e below _ (T2.setTop (mkF m 25 #[.val (.long q1), .second, .val (.long q2), .second, .val (.long q3), .second, .val (.int p4), .val (.long sv), .second, .val (.long c1), .second, .unset, .unset, .unset, .unset, .unset] [(.long c2)]))
  obtain ⟨h20, h21⟩ : 0 ≤ c2.toInt ∧ c2.toInt ≤ (sv - c1).toInt := by rw [hc2]; exact own_up_b (by omega)
  have h22 := own_lsub h20 h21
  refine own_via (fun t k => XS.lstore X2.here hx rfl (hb hby at_25) rfl (l' := #[.val (.long q1), .second, .val (.long q2), .second, .val (.long q3), .second, .val (.int p4), .val (.long sv), .second, .val (.long c1), .second, .val (.long c2), .second, .unset, .unset, .unset]) rfl k) ?_
  show Ogo p e below _ (T2.setTop (mkF m 27 #[.val (.long q1), .second, .val (.long q2), .second, .val (.long q3), .second, .val (.int p4), .val (.long sv), .second, .val (.long c1), .second, .val (.long c2), .second, .unset, .unset, .unset] []))
  refine own_via (fun t k => XS.lload X2.here hx rfl (hb hby at_27) rfl k) ?_
  show Ogo p e below _ (T2.setTop (mkF m 29 #[.val (.long q1), .second, .val (.long q2), .second, .val (.long q3), .second, .val (.int p4), .val (.long sv), .second, .val (.long c1), .second, .val (.long c2), .second, .unset, .unset, .unset] [(.long sv)]))
  refine own_via (fun t k => XS.lload X2.here hx rfl (hb hby at_29) rfl k) ?_
  show Ogo p e below _ (T2.setTop (mkF m 31 #[.val (.long q1), .second, .val (.long q2), .second, .val (.long q3), .second, .val (.int p4), .val (.long sv), .second, .val (.long c1), .second, .val (.long c2), .second, .unset, .unset, .unset] [(.long c1), (.long sv)]))
  refine own_via (fun t k => XS.lsub X2.here hx rfl (hb hby at_31) rfl k) ?_
  show Ogo p e below _ (T2.setTop (mkF m 32 #[.val (.long q1), .second, .val (.long q2), .second, .val (.long q3), .second, .val (.int p4), .val (.long sv), .second, .val (.long c1), .second, .val (.long c2), .second, .unset, .unset, .unset] [(.long (sv - c1))]))
  refine own_via (fun t k => XS.lload X2.here hx rfl (hb hby at_32) rfl k) ?_
  show Ogo p e below _ (T2.setTop (mkF m 34 #[.val (.long q1), .second, .val (.long q2), .second, .val (.long q3), .second, .val (.int p4), .val (.long sv), .second, .val (.long c1), .second, .val (.long c2), .second, .unset, .unset, .unset] [(.long c2), (.long (sv - c1))]))
  refine own_via (fun t k => XS.lsub X2.here hx rfl (hb hby at_34) rfl k) ?_
  show Ogo p e below _ (T2.setTop (mkF m 35 #[.val (.long q1), .second, .val (.long q2), .second, .val (.long q3), .second, .val (.int p4), .val (.long sv), .second, .val (.long c1), .second, .val (.long c2), .second, .unset, .unset, .unset] [(.long ((sv - c1) - c2))]))
  refine own_via (fun t k => XS.lstore X2.here hx rfl (hb hby at_35) rfl (l' := #[.val (.long q1), .second, .val (.long q2), .second, .val (.long q3), .second, .val (.int p4), .val (.long sv), .second, .val (.long c1), .second, .val (.long c2), .second, .val (.long ((sv - c1) - c2)), .second, .unset]) rfl k) ?_
  show Ogo p e below _ (T2.setTop (mkF m 37 #[.val (.long q1), .second, .val (.long q2), .second, .val (.long q3), .second, .val (.int p4), .val (.long sv), .second, .val (.long c1), .second, .val (.long c2), .second, .val (.long ((sv - c1) - c2)), .second, .unset] []))
  obtain ⟨T3, h3, X3, e3, E3, A3, D3, -, st3⟩ := newO X2 hx hZ hown (hw _ (List.mem_of_getElem? (i := 5) rfl)) (hw _ (List.mem_of_getElem? (i := 6) rfl)) (hw _ (List.mem_of_getElem? (i := 7) rfl)) hk2 (g := (mkF m 37 #[.val (.long q1), .second, .val (.long q2), .second, .val (.long q3), .second, .val (.int p4), .val (.long sv), .second, .val (.long c1), .second, .val (.long c2), .second, .val (.long ((sv - c1) - c2)), .second, .unset] [])) rfl (hb hby at_37) (by decide) (by decide)
  refine own_via st3 ?_
  obtain ⟨b, g3⟩ : ∃ z, z = h0.size := ⟨_, rfl⟩
  rw [← g3]
  rw [← g3] at A3 D3
  have g_b : n0 ≤ b := by rw [g3]; exact zs
  have zs := Nat.le_trans zs E3.1
  have E_b := A3
  have F_steps_b : Fld Z h3 b "com/example/diligent_workflow/diligentworkflow/feel/Budget" "steps" "J" (.long (0 : Int64)) := D3 (Or.inr (hw _ (List.mem_of_getElem? (i := 15) rfl))) (ty := .long) (by decide)
  have F_left_b : Fld Z h3 b "com/example/diligent_workflow/diligentworkflow/feel/Budget" "left" "J" (.long (0 : Int64)) := D3 (Or.inl (hw _ (List.mem_of_getElem? (i := 17) rfl))) (ty := .long) (by decide)
  show Ogo p e below _ (T3.setTop (mkF m 40 #[.val (.long q1), .second, .val (.long q2), .second, .val (.long q3), .second, .val (.int p4), .val (.long sv), .second, .val (.long c1), .second, .val (.long c2), .second, .val (.long ((sv - c1) - c2)), .second, .unset] [(.ref b)]))
  refine own_via (fun t k => XS.dup X3.here hx rfl (hb hby at_40) rfl rfl k) ?_
  show Ogo p e below _ (T3.setTop (mkF m 41 #[.val (.long q1), .second, .val (.long q2), .second, .val (.long q3), .second, .val (.int p4), .val (.long sv), .second, .val (.long c1), .second, .val (.long c2), .second, .val (.long ((sv - c1) - c2)), .second, .unset] [(.ref b), (.ref b)]))
  refine own_via (fun t k => XS.lload X3.here hx rfl (hb hby at_41) rfl k) ?_
  show Ogo p e below _ (T3.setTop (mkF m 43 #[.val (.long q1), .second, .val (.long q2), .second, .val (.long q3), .second, .val (.int p4), .val (.long sv), .second, .val (.long c1), .second, .val (.long c2), .second, .val (.long ((sv - c1) - c2)), .second, .unset] [(.long sv), (.ref b), (.ref b)]))
  refine own_callI X3 hx hZ rfl hown (hw _ (List.mem_of_getElem? (i := 8) rfl)) (hw _ (List.mem_of_getElem? (i := 9) rfl)) (hw _ (List.mem_of_getElem? (i := 7) rfl)) (hw _ (List.mem_of_getElem? (i := 10) rfl)) (by decide) (rm_ini hw b sv 0 0 h3 n0 E_b F_steps_b F_left_b g_b) rfl e3 (W := 1) (by decide) (by decide) (by decide) (by decide) (by rw [hml]; rfl) (a := b) (argsL := [(.long sv)]) (rest := [(.ref b)]) (lenOf pd_1 rfl) rfl (Nat.le_of_eq rfl) (hb hby at_43) ?_
  rintro _ T4 L4 X4 ⟨rfl, Nq, Kc, F_left_b⟩
  have N := N.app Nq
  have E_b := E_b.keep Kc
  have zs := Nat.le_trans zs Kc.1
  show Ogo p e below _ (T4.setTop (mkF m 46 #[.val (.long q1), .second, .val (.long q2), .second, .val (.long q3), .second, .val (.int p4), .val (.long sv), .second, .val (.long c1), .second, .val (.long c2), .second, .val (.long ((sv - c1) - c2)), .second, .unset] [(.ref b)]))
  refine own_via (fun t k => XS.astore X4.here hx rfl (hb hby at_46) rfl rfl (l' := #[.val (.long q1), .second, .val (.long q2), .second, .val (.long q3), .second, .val (.int p4), .val (.long sv), .second, .val (.long c1), .second, .val (.long c2), .second, .val (.long ((sv - c1) - c2)), .second, .val (.ref b)]) rfl k) ?_
  show Ogo p e below _ (T4.setTop (mkF m 48 #[.val (.long q1), .second, .val (.long q2), .second, .val (.long q3), .second, .val (.int p4), .val (.long sv), .second, .val (.long c1), .second, .val (.long c2), .second, .val (.long ((sv - c1) - c2)), .second, .val (.ref b)] []))
  refine own_via (fun t k => XS.aload X4.here hx rfl (hb hby at_48) rfl rfl k) ?_
  show Ogo p e below _ (T4.setTop (mkF m 50 #[.val (.long q1), .second, .val (.long q2), .second, .val (.long q3), .second, .val (.int p4), .val (.long sv), .second, .val (.long c1), .second, .val (.long c2), .second, .val (.long ((sv - c1) - c2)), .second, .val (.ref b)] [(.ref b)]))
  refine own_via (fun t k => XS.lload X4.here hx rfl (hb hby at_50) rfl k) ?_
  show Ogo p e below _ (T4.setTop (mkF m 52 #[.val (.long q1), .second, .val (.long q2), .second, .val (.long q3), .second, .val (.int p4), .val (.long sv), .second, .val (.long c1), .second, .val (.long c2), .second, .val (.long ((sv - c1) - c2)), .second, .val (.ref b)] [(.long c1), (.ref b)]))
  refine own_callV X4 hx hZ hown (hw _ (List.mem_of_getElem? (i := 18) rfl)) (hw _ (List.mem_of_getElem? (i := 19) rfl)) (hw _ (List.mem_of_getElem? (i := 21) rfl)) (hw _ (List.mem_of_getElem? (i := 20) rfl)) (hw _ (List.mem_of_getElem? (i := 7) rfl)) (hw _ (List.mem_of_getElem? (i := 22) rfl)) (notFace_of_selects (args := #[]) (mvT hZ (hw _ (List.mem_of_getElem? (i := 21) rfl)))) (by decide) (rm_sp hw b c1 sv T4.heap n0 E_b F_left_b g_b (by omega)) rfl rfl E_b (W := 0) (by decide) (by decide) (by decide) (by decide) (by rw [hml]; rfl) (b := b) (argsL := [(.long c1)]) (rest := []) (lenOf pd_1 rfl) rfl (Nat.le_of_eq rfl) (hb hby at_52) ?_
  rintro _ T5 L5 X5 ⟨rfl, Nq, Kc, F_left_b⟩
  have N := N.app Nq
  have E_b := E_b.keep Kc
  have zs := Nat.le_trans zs Kc.1
  show Ogo p e below _ (T5.setTop (mkF m 55 #[.val (.long q1), .second, .val (.long q2), .second, .val (.long q3), .second, .val (.int p4), .val (.long sv), .second, .val (.long c1), .second, .val (.long c2), .second, .val (.long ((sv - c1) - c2)), .second, .val (.ref b)] []))
  refine own_via (fun t k => XS.aload X5.here hx rfl (hb hby at_55) rfl rfl k) ?_
  show Ogo p e below _ (T5.setTop (mkF m 57 #[.val (.long q1), .second, .val (.long q2), .second, .val (.long q3), .second, .val (.int p4), .val (.long sv), .second, .val (.long c1), .second, .val (.long c2), .second, .val (.long ((sv - c1) - c2)), .second, .val (.ref b)] [(.ref b)]))
  refine own_via (fun t k => XS.lload X5.here hx rfl (hb hby at_57) rfl k) ?_
  show Ogo p e below _ (T5.setTop (mkF m 59 #[.val (.long q1), .second, .val (.long q2), .second, .val (.long q3), .second, .val (.int p4), .val (.long sv), .second, .val (.long c1), .second, .val (.long c2), .second, .val (.long ((sv - c1) - c2)), .second, .val (.ref b)] [(.long c2), (.ref b)]))
  refine own_callV X5 hx hZ hown (hw _ (List.mem_of_getElem? (i := 18) rfl)) (hw _ (List.mem_of_getElem? (i := 19) rfl)) (hw _ (List.mem_of_getElem? (i := 21) rfl)) (hw _ (List.mem_of_getElem? (i := 20) rfl)) (hw _ (List.mem_of_getElem? (i := 7) rfl)) (hw _ (List.mem_of_getElem? (i := 22) rfl)) (notFace_of_selects (args := #[]) (mvT hZ (hw _ (List.mem_of_getElem? (i := 21) rfl)))) (by decide) (rm_sp hw b c2 (sv - c1) T5.heap n0 E_b F_left_b g_b (by omega)) rfl rfl E_b (W := 0) (by decide) (by decide) (by decide) (by decide) (by rw [hml]; rfl) (b := b) (argsL := [(.long c2)]) (rest := []) (lenOf pd_1 rfl) rfl (Nat.le_of_eq rfl) (hb hby at_59) ?_
  rintro _ T6 L6 X6 ⟨rfl, Nq, Kc, F_left_b⟩
  have N := N.app Nq
  have E_b := E_b.keep Kc
  have zs := Nat.le_trans zs Kc.1
  show Ogo p e below _ (T6.setTop (mkF m 62 #[.val (.long q1), .second, .val (.long q2), .second, .val (.long q3), .second, .val (.int p4), .val (.long sv), .second, .val (.long c1), .second, .val (.long c2), .second, .val (.long ((sv - c1) - c2)), .second, .val (.ref b)] []))
  refine own_via (fun t k => XS.aload X6.here hx rfl (hb hby at_62) rfl rfl k) ?_
  show Ogo p e below _ (T6.setTop (mkF m 64 #[.val (.long q1), .second, .val (.long q2), .second, .val (.long q3), .second, .val (.int p4), .val (.long sv), .second, .val (.long c1), .second, .val (.long c2), .second, .val (.long ((sv - c1) - c2)), .second, .val (.ref b)] [(.ref b)]))
  refine own_via (fun t k => XS.lload X6.here hx rfl (hb hby at_64) rfl k) ?_
  show Ogo p e below _ (T6.setTop (mkF m 66 #[.val (.long q1), .second, .val (.long q2), .second, .val (.long q3), .second, .val (.int p4), .val (.long sv), .second, .val (.long c1), .second, .val (.long c2), .second, .val (.long ((sv - c1) - c2)), .second, .val (.ref b)] [(.long ((sv - c1) - c2)), (.ref b)]))
  refine own_callV X6 hx hZ hown (hw _ (List.mem_of_getElem? (i := 18) rfl)) (hw _ (List.mem_of_getElem? (i := 19) rfl)) (hw _ (List.mem_of_getElem? (i := 21) rfl)) (hw _ (List.mem_of_getElem? (i := 20) rfl)) (hw _ (List.mem_of_getElem? (i := 7) rfl)) (hw _ (List.mem_of_getElem? (i := 22) rfl)) (notFace_of_selects (args := #[]) (mvT hZ (hw _ (List.mem_of_getElem? (i := 21) rfl)))) (by decide) (rm_sp hw b (sv - c1 - c2) (sv - c1 - c2) T6.heap n0 E_b F_left_b g_b (by rw [Int64.sub_self]; decide)) rfl rfl E_b (W := 0) (by decide) (by decide) (by decide) (by decide) (by rw [hml]; rfl) (b := b) (argsL := [(.long ((sv - c1) - c2))]) (rest := []) (lenOf pd_1 rfl) rfl (Nat.le_of_eq rfl) (hb hby at_66) ?_
  rintro _ T7 L7 X7 ⟨rfl, Nq, Kc, F_left_b⟩
  have N := N.app Nq
  have E_b := E_b.keep Kc
  have zs := Nat.le_trans zs Kc.1
  show Ogo p e below _ (T7.setTop (mkF m 69 #[.val (.long q1), .second, .val (.long q2), .second, .val (.long q3), .second, .val (.int p4), .val (.long sv), .second, .val (.long c1), .second, .val (.long c2), .second, .val (.long ((sv - c1) - c2)), .second, .val (.ref b)] []))
  refine own_via (fun t k => XS.iload X7.here hx rfl (hb hby at_69) rfl k) ?_
  show Ogo p e below _ (T7.setTop (mkF m 71 #[.val (.long q1), .second, .val (.long q2), .second, .val (.long q3), .second, .val (.int p4), .val (.long sv), .second, .val (.long c1), .second, .val (.long c2), .second, .val (.long ((sv - c1) - c2)), .second, .val (.ref b)] [(.int p4)]))
  refine own_via (fun t k => XS.iconst X7.here hx rfl (hb hby at_71) k) ?_
  show Ogo p e below _ (T7.setTop (mkF m 72 #[.val (.long q1), .second, .val (.long q2), .second, .val (.long q3), .second, .val (.int p4), .val (.long sv), .second, .val (.long c1), .second, .val (.long c2), .second, .val (.long ((sv - c1) - c2)), .second, .val (.ref b)] [(.int (1 : Int32)), (.int p4)]))
  refine own_via (fun t k => XS.iand X7.here hx rfl (hb hby at_72) rfl k) ?_
  show Ogo p e below _ (T7.setTop (mkF m 73 #[.val (.long q1), .second, .val (.long q2), .second, .val (.long q3), .second, .val (.int p4), .val (.long sv), .second, .val (.long c1), .second, .val (.long c2), .second, .val (.long ((sv - c1) - c2)), .second, .val (.ref b)] [(.int (p4 &&& (1 : Int32)))]))
  by_cases hc73 : (p4 &&& (1 : Int32)) = (0 : Int32)
  · refine own_via (fun t k => XS.ifYes X7.here hx rfl (pc0 := 73) (pc' := 82) rfl (hb hby at_73) rfl ((if0 _ _).trans (teq (hc73 : (p4 &&& (1 : Int32)) = (0 : Int32))).1) (by decide) (by decide) k) ?_
    show Ogo p e below _ (T7.setTop (mkF m 82 #[.val (.long q1), .second, .val (.long q2), .second, .val (.long q3), .second, .val (.int p4), .val (.long sv), .second, .val (.long c1), .second, .val (.long c2), .second, .val (.long ((sv - c1) - c2)), .second, .val (.ref b)] []))
    refine own_via (fun t k => XS.lload X7.here hx rfl (hb hby at_82) rfl k) ?_
    show Ogo p e below _ (T7.setTop (mkF m 84 #[.val (.long q1), .second, .val (.long q2), .second, .val (.long q3), .second, .val (.int p4), .val (.long sv), .second, .val (.long c1), .second, .val (.long c2), .second, .val (.long ((sv - c1) - c2)), .second, .val (.ref b)] [(.long c1)]))
    refine own_via (fun t k => XS.lconst X7.here hx rfl (hb hby at_84) k) ?_
    show Ogo p e below _ (T7.setTop (mkF m 85 #[.val (.long q1), .second, .val (.long q2), .second, .val (.long q3), .second, .val (.int p4), .val (.long sv), .second, .val (.long c1), .second, .val (.long c2), .second, .val (.long ((sv - c1) - c2)), .second, .val (.ref b)] [(.long (0 : Int64)), (.long c1)]))
    refine own_via (fun t k => XS.lcmp X7.here hx rfl (hb hby at_85) rfl k) ?_
    show Ogo p e below _ (T7.setTop (mkF m 86 #[.val (.long q1), .second, .val (.long q2), .second, .val (.long q3), .second, .val (.int p4), .val (.long sv), .second, .val (.long c1), .second, .val (.long c2), .second, .val (.long ((sv - c1) - c2)), .second, .val (.ref b)] [(.int (lcmpW c1 (0 : Int64)))]))
    refine own_via (fun t k => XS.ifNo X7.here hx rfl (hb hby at_86) rfl ((if0 _ _).trans (flt (own_lge h10 : ¬ ((lcmpW c1 (0 : Int64)) < (0 : Int32)))).1) k) ?_
    show Ogo p e below _ (T7.setTop (mkF m 89 #[.val (.long q1), .second, .val (.long q2), .second, .val (.long q3), .second, .val (.int p4), .val (.long sv), .second, .val (.long c1), .second, .val (.long c2), .second, .val (.long ((sv - c1) - c2)), .second, .val (.ref b)] []))
    refine own_via (fun t k => XS.lload X7.here hx rfl (hb hby at_89) rfl k) ?_
    show Ogo p e below _ (T7.setTop (mkF m 91 #[.val (.long q1), .second, .val (.long q2), .second, .val (.long q3), .second, .val (.int p4), .val (.long sv), .second, .val (.long c1), .second, .val (.long c2), .second, .val (.long ((sv - c1) - c2)), .second, .val (.ref b)] [(.long c2)]))
    refine own_via (fun t k => XS.lconst X7.here hx rfl (hb hby at_91) k) ?_
    show Ogo p e below _ (T7.setTop (mkF m 92 #[.val (.long q1), .second, .val (.long q2), .second, .val (.long q3), .second, .val (.int p4), .val (.long sv), .second, .val (.long c1), .second, .val (.long c2), .second, .val (.long ((sv - c1) - c2)), .second, .val (.ref b)] [(.long (0 : Int64)), (.long c2)]))
    refine own_via (fun t k => XS.lcmp X7.here hx rfl (hb hby at_92) rfl k) ?_
    show Ogo p e below _ (T7.setTop (mkF m 93 #[.val (.long q1), .second, .val (.long q2), .second, .val (.long q3), .second, .val (.int p4), .val (.long sv), .second, .val (.long c1), .second, .val (.long c2), .second, .val (.long ((sv - c1) - c2)), .second, .val (.ref b)] [(.int (lcmpW c2 (0 : Int64)))]))
    refine own_via (fun t k => XS.ifNo X7.here hx rfl (hb hby at_93) rfl ((if0 _ _).trans (flt (own_lge h20 : ¬ ((lcmpW c2 (0 : Int64)) < (0 : Int32)))).1) k) ?_
    show Ogo p e below _ (T7.setTop (mkF m 96 #[.val (.long q1), .second, .val (.long q2), .second, .val (.long q3), .second, .val (.int p4), .val (.long sv), .second, .val (.long c1), .second, .val (.long c2), .second, .val (.long ((sv - c1) - c2)), .second, .val (.ref b)] []))
    refine own_via (fun t k => XS.lload X7.here hx rfl (hb hby at_96) rfl k) ?_
    show Ogo p e below _ (T7.setTop (mkF m 98 #[.val (.long q1), .second, .val (.long q2), .second, .val (.long q3), .second, .val (.int p4), .val (.long sv), .second, .val (.long c1), .second, .val (.long c2), .second, .val (.long ((sv - c1) - c2)), .second, .val (.ref b)] [(.long ((sv - c1) - c2))]))
    refine own_via (fun t k => XS.lconst X7.here hx rfl (hb hby at_98) k) ?_
    show Ogo p e below _ (T7.setTop (mkF m 99 #[.val (.long q1), .second, .val (.long q2), .second, .val (.long q3), .second, .val (.int p4), .val (.long sv), .second, .val (.long c1), .second, .val (.long c2), .second, .val (.long ((sv - c1) - c2)), .second, .val (.ref b)] [(.long (0 : Int64)), (.long ((sv - c1) - c2))]))
    refine own_via (fun t k => XS.lcmp X7.here hx rfl (hb hby at_99) rfl k) ?_
    show Ogo p e below _ (T7.setTop (mkF m 100 #[.val (.long q1), .second, .val (.long q2), .second, .val (.long q3), .second, .val (.int p4), .val (.long sv), .second, .val (.long c1), .second, .val (.long c2), .second, .val (.long ((sv - c1) - c2)), .second, .val (.ref b)] [(.int (lcmpW ((sv - c1) - c2) (0 : Int64)))]))
    refine own_via (fun t k => XS.ifNo X7.here hx rfl (hb hby at_100) rfl ((if0 _ _).trans (flt (own_lge (by omega) : ¬ ((lcmpW ((sv - c1) - c2) (0 : Int64)) < (0 : Int32)))).1) k) ?_
    show Ogo p e below _ (T7.setTop (mkF m 103 #[.val (.long q1), .second, .val (.long q2), .second, .val (.long q3), .second, .val (.int p4), .val (.long sv), .second, .val (.long c1), .second, .val (.long c2), .second, .val (.long ((sv - c1) - c2)), .second, .val (.ref b)] []))
    refine own_via (fun t k => XS.lload X7.here hx rfl (hb hby at_103) rfl k) ?_
    show Ogo p e below _ (T7.setTop (mkF m 105 #[.val (.long q1), .second, .val (.long q2), .second, .val (.long q3), .second, .val (.int p4), .val (.long sv), .second, .val (.long c1), .second, .val (.long c2), .second, .val (.long ((sv - c1) - c2)), .second, .val (.ref b)] [(.long c1)]))
    refine own_via (fun t k => XS.lload X7.here hx rfl (hb hby at_105) rfl k) ?_
    show Ogo p e below _ (T7.setTop (mkF m 107 #[.val (.long q1), .second, .val (.long q2), .second, .val (.long q3), .second, .val (.int p4), .val (.long sv), .second, .val (.long c1), .second, .val (.long c2), .second, .val (.long ((sv - c1) - c2)), .second, .val (.ref b)] [(.long c2), (.long c1)]))
    refine own_via (fun t k => XS.ladd X7.here hx rfl (hb hby at_107) rfl k) ?_
    show Ogo p e below _ (T7.setTop (mkF m 108 #[.val (.long q1), .second, .val (.long q2), .second, .val (.long q3), .second, .val (.int p4), .val (.long sv), .second, .val (.long c1), .second, .val (.long c2), .second, .val (.long ((sv - c1) - c2)), .second, .val (.ref b)] [(.long (c1 + c2))]))
    refine own_via (fun t k => XS.lload X7.here hx rfl (hb hby at_108) rfl k) ?_
    show Ogo p e below _ (T7.setTop (mkF m 110 #[.val (.long q1), .second, .val (.long q2), .second, .val (.long q3), .second, .val (.int p4), .val (.long sv), .second, .val (.long c1), .second, .val (.long c2), .second, .val (.long ((sv - c1) - c2)), .second, .val (.ref b)] [(.long ((sv - c1) - c2)), (.long (c1 + c2))]))
    refine own_via (fun t k => XS.ladd X7.here hx rfl (hb hby at_110) rfl k) ?_
    show Ogo p e below _ (T7.setTop (mkF m 111 #[.val (.long q1), .second, .val (.long q2), .second, .val (.long q3), .second, .val (.int p4), .val (.long sv), .second, .val (.long c1), .second, .val (.long c2), .second, .val (.long ((sv - c1) - c2)), .second, .val (.ref b)] [(.long ((c1 + c2) + ((sv - c1) - c2)))]))
    refine own_via (fun t k => XS.lload X7.here hx rfl (hb hby at_111) rfl k) ?_
    show Ogo p e below _ (T7.setTop (mkF m 113 #[.val (.long q1), .second, .val (.long q2), .second, .val (.long q3), .second, .val (.int p4), .val (.long sv), .second, .val (.long c1), .second, .val (.long c2), .second, .val (.long ((sv - c1) - c2)), .second, .val (.ref b)] [(.long sv), (.long ((c1 + c2) + ((sv - c1) - c2)))]))
    refine own_via (fun t k => XS.lcmp X7.here hx rfl (hb hby at_113) rfl k) ?_
    show Ogo p e below _ (T7.setTop (mkF m 114 #[.val (.long q1), .second, .val (.long q2), .second, .val (.long q3), .second, .val (.int p4), .val (.long sv), .second, .val (.long c1), .second, .val (.long c2), .second, .val (.long ((sv - c1) - c2)), .second, .val (.ref b)] [(.int (lcmpW ((c1 + c2) + ((sv - c1) - c2)) sv))]))
    refine own_via (fun t k => XS.ifNo X7.here hx rfl (hb hby at_114) rfl ((if0 _ _).trans (teq ((lw_eq _ _).mpr own_sum : (lcmpW ((c1 + c2) + ((sv - c1) - c2)) sv) = (0 : Int32))).2) k) ?_
    show Ogo p e below _ (T7.setTop (mkF m 117 #[.val (.long q1), .second, .val (.long q2), .second, .val (.long q3), .second, .val (.int p4), .val (.long sv), .second, .val (.long c1), .second, .val (.long c2), .second, .val (.long ((sv - c1) - c2)), .second, .val (.ref b)] []))
    refine own_via (fun t k => XS.iconst X7.here hx rfl (hb hby at_117) k) ?_
    show Ogo p e below _ (T7.setTop (mkF m 118 #[.val (.long q1), .second, .val (.long q2), .second, .val (.long q3), .second, .val (.int p4), .val (.long sv), .second, .val (.long c1), .second, .val (.long c2), .second, .val (.long ((sv - c1) - c2)), .second, .val (.ref b)] [(.int (1 : Int32))]))
    refine own_via (fun t k => XS.goto X7.here hx rfl (pc0 := 118) (pc' := 122) rfl (hb hby at_118) (by decide) (by decide) k) ?_
    show Ogo p e below _ (T7.setTop (mkF m 122 #[.val (.long q1), .second, .val (.long q2), .second, .val (.long q3), .second, .val (.int p4), .val (.long sv), .second, .val (.long c1), .second, .val (.long c2), .second, .val (.long ((sv - c1) - c2)), .second, .val (.ref b)] [(.int (1 : Int32))]))
    exact own_out X7 hlk (fun h => by rw [hret] at h; cases h) (by decide) (by decide) (⟨rfl, N⟩) (fun fs hr => retN X7 hx (t := .boolean) hret (by simp) (hb hby at_122) hr)
  · refine own_via (fun t k => XS.ifNo X7.here hx rfl (hb hby at_73) rfl ((if0 _ _).trans (feq (hc73 : ¬ ((p4 &&& (1 : Int32)) = (0 : Int32)))).1) k) ?_
    show Ogo p e below _ (T7.setTop (mkF m 76 #[.val (.long q1), .second, .val (.long q2), .second, .val (.long q3), .second, .val (.int p4), .val (.long sv), .second, .val (.long c1), .second, .val (.long c2), .second, .val (.long ((sv - c1) - c2)), .second, .val (.ref b)] []))
    refine own_via (fun t k => XS.aload X7.here hx rfl (hb hby at_76) rfl rfl k) ?_
    show Ogo p e below _ (T7.setTop (mkF m 78 #[.val (.long q1), .second, .val (.long q2), .second, .val (.long q3), .second, .val (.int p4), .val (.long sv), .second, .val (.long c1), .second, .val (.long c2), .second, .val (.long ((sv - c1) - c2)), .second, .val (.ref b)] [(.ref b)]))
    refine own_via (fun t k => XS.lconst X7.here hx rfl (hb hby at_78) k) ?_
    show Ogo p e below _ (T7.setTop (mkF m 79 #[.val (.long q1), .second, .val (.long q2), .second, .val (.long q3), .second, .val (.int p4), .val (.long sv), .second, .val (.long c1), .second, .val (.long c2), .second, .val (.long ((sv - c1) - c2)), .second, .val (.ref b)] [(.long (0 : Int64)), (.ref b)]))
    refine own_callV X7 hx hZ hown (hw _ (List.mem_of_getElem? (i := 18) rfl)) (hw _ (List.mem_of_getElem? (i := 19) rfl)) (hw _ (List.mem_of_getElem? (i := 21) rfl)) (hw _ (List.mem_of_getElem? (i := 20) rfl)) (hw _ (List.mem_of_getElem? (i := 7) rfl)) (hw _ (List.mem_of_getElem? (i := 22) rfl)) (notFace_of_selects (args := #[]) (mvT hZ (hw _ (List.mem_of_getElem? (i := 21) rfl)))) (by decide) (rm_sp hw b 0 ((sv - c1 - c2) - (sv - c1 - c2)) T7.heap n0 E_b F_left_b g_b (by rw [Int64.sub_self]; decide)) rfl rfl E_b (W := 0) (by decide) (by decide) (by decide) (by decide) (by rw [hml]; rfl) (b := b) (argsL := [(.long (0 : Int64))]) (rest := []) (lenOf pd_1 rfl) rfl (Nat.le_of_eq rfl) (hb hby at_79) ?_
    rintro _ T8 L8 X8 ⟨rfl, Nq, Kc, F_left_b⟩
    have N := N.app Nq
    have E_b := E_b.keep Kc
    have zs := Nat.le_trans zs Kc.1
    show Ogo p e below _ (T8.setTop (mkF m 82 #[.val (.long q1), .second, .val (.long q2), .second, .val (.long q3), .second, .val (.int p4), .val (.long sv), .second, .val (.long c1), .second, .val (.long c2), .second, .val (.long ((sv - c1) - c2)), .second, .val (.ref b)] []))
    refine own_via (fun t k => XS.lload X8.here hx rfl (hb hby at_82) rfl k) ?_
    show Ogo p e below _ (T8.setTop (mkF m 84 #[.val (.long q1), .second, .val (.long q2), .second, .val (.long q3), .second, .val (.int p4), .val (.long sv), .second, .val (.long c1), .second, .val (.long c2), .second, .val (.long ((sv - c1) - c2)), .second, .val (.ref b)] [(.long c1)]))
    refine own_via (fun t k => XS.lconst X8.here hx rfl (hb hby at_84) k) ?_
    show Ogo p e below _ (T8.setTop (mkF m 85 #[.val (.long q1), .second, .val (.long q2), .second, .val (.long q3), .second, .val (.int p4), .val (.long sv), .second, .val (.long c1), .second, .val (.long c2), .second, .val (.long ((sv - c1) - c2)), .second, .val (.ref b)] [(.long (0 : Int64)), (.long c1)]))
    refine own_via (fun t k => XS.lcmp X8.here hx rfl (hb hby at_85) rfl k) ?_
    show Ogo p e below _ (T8.setTop (mkF m 86 #[.val (.long q1), .second, .val (.long q2), .second, .val (.long q3), .second, .val (.int p4), .val (.long sv), .second, .val (.long c1), .second, .val (.long c2), .second, .val (.long ((sv - c1) - c2)), .second, .val (.ref b)] [(.int (lcmpW c1 (0 : Int64)))]))
    refine own_via (fun t k => XS.ifNo X8.here hx rfl (hb hby at_86) rfl ((if0 _ _).trans (flt (own_lge h10 : ¬ ((lcmpW c1 (0 : Int64)) < (0 : Int32)))).1) k) ?_
    show Ogo p e below _ (T8.setTop (mkF m 89 #[.val (.long q1), .second, .val (.long q2), .second, .val (.long q3), .second, .val (.int p4), .val (.long sv), .second, .val (.long c1), .second, .val (.long c2), .second, .val (.long ((sv - c1) - c2)), .second, .val (.ref b)] []))
    refine own_via (fun t k => XS.lload X8.here hx rfl (hb hby at_89) rfl k) ?_
    show Ogo p e below _ (T8.setTop (mkF m 91 #[.val (.long q1), .second, .val (.long q2), .second, .val (.long q3), .second, .val (.int p4), .val (.long sv), .second, .val (.long c1), .second, .val (.long c2), .second, .val (.long ((sv - c1) - c2)), .second, .val (.ref b)] [(.long c2)]))
    refine own_via (fun t k => XS.lconst X8.here hx rfl (hb hby at_91) k) ?_
    show Ogo p e below _ (T8.setTop (mkF m 92 #[.val (.long q1), .second, .val (.long q2), .second, .val (.long q3), .second, .val (.int p4), .val (.long sv), .second, .val (.long c1), .second, .val (.long c2), .second, .val (.long ((sv - c1) - c2)), .second, .val (.ref b)] [(.long (0 : Int64)), (.long c2)]))
    refine own_via (fun t k => XS.lcmp X8.here hx rfl (hb hby at_92) rfl k) ?_
    show Ogo p e below _ (T8.setTop (mkF m 93 #[.val (.long q1), .second, .val (.long q2), .second, .val (.long q3), .second, .val (.int p4), .val (.long sv), .second, .val (.long c1), .second, .val (.long c2), .second, .val (.long ((sv - c1) - c2)), .second, .val (.ref b)] [(.int (lcmpW c2 (0 : Int64)))]))
    refine own_via (fun t k => XS.ifNo X8.here hx rfl (hb hby at_93) rfl ((if0 _ _).trans (flt (own_lge h20 : ¬ ((lcmpW c2 (0 : Int64)) < (0 : Int32)))).1) k) ?_
    show Ogo p e below _ (T8.setTop (mkF m 96 #[.val (.long q1), .second, .val (.long q2), .second, .val (.long q3), .second, .val (.int p4), .val (.long sv), .second, .val (.long c1), .second, .val (.long c2), .second, .val (.long ((sv - c1) - c2)), .second, .val (.ref b)] []))
    refine own_via (fun t k => XS.lload X8.here hx rfl (hb hby at_96) rfl k) ?_
    show Ogo p e below _ (T8.setTop (mkF m 98 #[.val (.long q1), .second, .val (.long q2), .second, .val (.long q3), .second, .val (.int p4), .val (.long sv), .second, .val (.long c1), .second, .val (.long c2), .second, .val (.long ((sv - c1) - c2)), .second, .val (.ref b)] [(.long ((sv - c1) - c2))]))
    refine own_via (fun t k => XS.lconst X8.here hx rfl (hb hby at_98) k) ?_
    show Ogo p e below _ (T8.setTop (mkF m 99 #[.val (.long q1), .second, .val (.long q2), .second, .val (.long q3), .second, .val (.int p4), .val (.long sv), .second, .val (.long c1), .second, .val (.long c2), .second, .val (.long ((sv - c1) - c2)), .second, .val (.ref b)] [(.long (0 : Int64)), (.long ((sv - c1) - c2))]))
    refine own_via (fun t k => XS.lcmp X8.here hx rfl (hb hby at_99) rfl k) ?_
    show Ogo p e below _ (T8.setTop (mkF m 100 #[.val (.long q1), .second, .val (.long q2), .second, .val (.long q3), .second, .val (.int p4), .val (.long sv), .second, .val (.long c1), .second, .val (.long c2), .second, .val (.long ((sv - c1) - c2)), .second, .val (.ref b)] [(.int (lcmpW ((sv - c1) - c2) (0 : Int64)))]))
    refine own_via (fun t k => XS.ifNo X8.here hx rfl (hb hby at_100) rfl ((if0 _ _).trans (flt (own_lge (by omega) : ¬ ((lcmpW ((sv - c1) - c2) (0 : Int64)) < (0 : Int32)))).1) k) ?_
    show Ogo p e below _ (T8.setTop (mkF m 103 #[.val (.long q1), .second, .val (.long q2), .second, .val (.long q3), .second, .val (.int p4), .val (.long sv), .second, .val (.long c1), .second, .val (.long c2), .second, .val (.long ((sv - c1) - c2)), .second, .val (.ref b)] []))
    refine own_via (fun t k => XS.lload X8.here hx rfl (hb hby at_103) rfl k) ?_
    show Ogo p e below _ (T8.setTop (mkF m 105 #[.val (.long q1), .second, .val (.long q2), .second, .val (.long q3), .second, .val (.int p4), .val (.long sv), .second, .val (.long c1), .second, .val (.long c2), .second, .val (.long ((sv - c1) - c2)), .second, .val (.ref b)] [(.long c1)]))
    refine own_via (fun t k => XS.lload X8.here hx rfl (hb hby at_105) rfl k) ?_
    show Ogo p e below _ (T8.setTop (mkF m 107 #[.val (.long q1), .second, .val (.long q2), .second, .val (.long q3), .second, .val (.int p4), .val (.long sv), .second, .val (.long c1), .second, .val (.long c2), .second, .val (.long ((sv - c1) - c2)), .second, .val (.ref b)] [(.long c2), (.long c1)]))
    refine own_via (fun t k => XS.ladd X8.here hx rfl (hb hby at_107) rfl k) ?_
    show Ogo p e below _ (T8.setTop (mkF m 108 #[.val (.long q1), .second, .val (.long q2), .second, .val (.long q3), .second, .val (.int p4), .val (.long sv), .second, .val (.long c1), .second, .val (.long c2), .second, .val (.long ((sv - c1) - c2)), .second, .val (.ref b)] [(.long (c1 + c2))]))
    refine own_via (fun t k => XS.lload X8.here hx rfl (hb hby at_108) rfl k) ?_
    show Ogo p e below _ (T8.setTop (mkF m 110 #[.val (.long q1), .second, .val (.long q2), .second, .val (.long q3), .second, .val (.int p4), .val (.long sv), .second, .val (.long c1), .second, .val (.long c2), .second, .val (.long ((sv - c1) - c2)), .second, .val (.ref b)] [(.long ((sv - c1) - c2)), (.long (c1 + c2))]))
    refine own_via (fun t k => XS.ladd X8.here hx rfl (hb hby at_110) rfl k) ?_
    show Ogo p e below _ (T8.setTop (mkF m 111 #[.val (.long q1), .second, .val (.long q2), .second, .val (.long q3), .second, .val (.int p4), .val (.long sv), .second, .val (.long c1), .second, .val (.long c2), .second, .val (.long ((sv - c1) - c2)), .second, .val (.ref b)] [(.long ((c1 + c2) + ((sv - c1) - c2)))]))
    refine own_via (fun t k => XS.lload X8.here hx rfl (hb hby at_111) rfl k) ?_
    show Ogo p e below _ (T8.setTop (mkF m 113 #[.val (.long q1), .second, .val (.long q2), .second, .val (.long q3), .second, .val (.int p4), .val (.long sv), .second, .val (.long c1), .second, .val (.long c2), .second, .val (.long ((sv - c1) - c2)), .second, .val (.ref b)] [(.long sv), (.long ((c1 + c2) + ((sv - c1) - c2)))]))
    refine own_via (fun t k => XS.lcmp X8.here hx rfl (hb hby at_113) rfl k) ?_
    show Ogo p e below _ (T8.setTop (mkF m 114 #[.val (.long q1), .second, .val (.long q2), .second, .val (.long q3), .second, .val (.int p4), .val (.long sv), .second, .val (.long c1), .second, .val (.long c2), .second, .val (.long ((sv - c1) - c2)), .second, .val (.ref b)] [(.int (lcmpW ((c1 + c2) + ((sv - c1) - c2)) sv))]))
    refine own_via (fun t k => XS.ifNo X8.here hx rfl (hb hby at_114) rfl ((if0 _ _).trans (teq ((lw_eq _ _).mpr own_sum : (lcmpW ((c1 + c2) + ((sv - c1) - c2)) sv) = (0 : Int32))).2) k) ?_
    show Ogo p e below _ (T8.setTop (mkF m 117 #[.val (.long q1), .second, .val (.long q2), .second, .val (.long q3), .second, .val (.int p4), .val (.long sv), .second, .val (.long c1), .second, .val (.long c2), .second, .val (.long ((sv - c1) - c2)), .second, .val (.ref b)] []))
    refine own_via (fun t k => XS.iconst X8.here hx rfl (hb hby at_117) k) ?_
    show Ogo p e below _ (T8.setTop (mkF m 118 #[.val (.long q1), .second, .val (.long q2), .second, .val (.long q3), .second, .val (.int p4), .val (.long sv), .second, .val (.long c1), .second, .val (.long c2), .second, .val (.long ((sv - c1) - c2)), .second, .val (.ref b)] [(.int (1 : Int32))]))
    refine own_via (fun t k => XS.goto X8.here hx rfl (pc0 := 118) (pc' := 122) rfl (hb hby at_118) (by decide) (by decide) k) ?_
    show Ogo p e below _ (T8.setTop (mkF m 122 #[.val (.long q1), .second, .val (.long q2), .second, .val (.long q3), .second, .val (.int p4), .val (.long sv), .second, .val (.long c1), .second, .val (.long c2), .second, .val (.long ((sv - c1) - c2)), .second, .val (.ref b)] [(.int (1 : Int32))]))
    exact own_out X8 hlk (fun h => by rw [hret] at h; cases h) (by decide) (by decide) (⟨rfl, N⟩) (fun fs hr => retN X8 hx (t := .boolean) hret (by simp) (hb hby at_122) hr)
set_option maxRecDepth 65536 in
set_option maxHeartbeats 40000000 in
theorem own_comes {Post : Tables → Env → Array Value → State → Outcome → State → Prop} (hpost : ∀ tb e args s v u, (limb_1_1.after args s (.returned v) u = true ∧ limb_1_2.after args s (.returned v) u = true ∧ True) → FrameEnd s (.returned v) u (Jvm.fieldLocs frame_1_writes args s ++ Jvm.arrayLocs frame_1_arrays args s ++ Jvm.staticLocs frame_1_statics s) 16 128 → Post tb e args s (.returned v) u) :
    ArmFor flags0 classFile x code maxLocals ret World_1 tables_1 room_1 Calls_1 rest_1 Pre_1 Post := by
  intro l hfl _ _ p e ha hc hk s m args below hf hA hF happ hP
  obtain ⟨hcalls, hrest, hpre⟩ := hP
  obtain ⟨-, -, -, hnamed, -, -, -, hat⟩ := (Spec.applies_iff hf).mp happ
  obtain ⟨hg, hn⟩ := and_e (Cond.before_iff.mp (show (Jvm.Cond.and given_1 narrow_1).before args s = true from hpre))
  obtain ⟨q0, r0⟩ := and_e hg
  obtain ⟨q1, r1⟩ := and_e r0
  obtain ⟨q2, r2⟩ := and_e r1
  obtain ⟨q3, r3⟩ := and_e r2
  obtain ⟨w0, w1, w2, w3, rfl⟩ : ∃ w0 w1 w2 w3 : Value, args = #[w0, w1, w2, w3] := by
    have hs : args.size = 4 := by simpa [Cond.value, given_1] using q0
    obtain ⟨L⟩ := args
    match L, hs with
    | [w0, w1, w2, w3], _ => exact ⟨w0, w1, w2, w3, rfl⟩
  have hw := fun d (hd : d ∈ tables_1) => atoms_spec (ws := Jvm.Cond.code x code maxLocals ret :: tables_1) hat d (List.mem_cons_of_mem _ hd)
  have hfit : Fit s := fun {y c} hc i hi => by
    obtain ⟨ha, rfl⟩ := Array.getElem?_eq_some_iff.mp hc
    have q := List.all_eq_true.mp ((Array.all_eq_true_iff_forall_mem.mp hF) _ (Array.getElem_mem ha)) i (List.mem_range.mpr hi)
    simpa [Array.getElem?_eq_getElem hi] using q
  obtain ⟨i0, ei0⟩ := isL_v q1
  obtain rfl : w0 = (.long i0) := Option.some.inj ei0
  obtain ⟨i1, ei1⟩ := isL_v q2
  obtain rfl : w1 = (.long i1) := Option.some.inj ei1
  obtain ⟨i2, ei2⟩ := isL_v q3
  obtain rfl : w2 = (.long i2) := Option.some.inj ei2
  obtain ⟨i3, ei3⟩ := is_v r3
  obtain rfl : w3 = (.int i3) := Option.some.inj ei3
  obtain ⟨n, o, h1, h2, h3, _, L, rfl, ⟨rfl, N⟩, hq⟩ := rm_law hw i0 i1 i2 i3 s.heap s.heap.size (Nat.le_refl _) p e ha hc hk s m _ below hf ((Spec.applies_iff_loose hf).mp happ).1 ⟨rfl, State.Warmed39.refl s, rfl⟩ trivial
  refine ⟨n, _, h1, h2, h3, hpost _ _ _ _ _ _ ⟨Cond.after_iff.mpr rfl, Cond.after_iff.mpr (eq_i res_at (Term.int_eval (1)) rfl), trivial⟩ ⟨hq.1, hq.2.1, (hq.2.2.sift fun y hy => Or.inr (N y hy)).mono (by decide) (by decide)⟩⟩
theorem main_1_1 : Claimed_1_1 := own_comes fun _ _ _ _ _ _ h hF => ⟨h.1, hF⟩
theorem main_1_2 : Claimed_1_2 := own_comes fun _ _ _ _ _ _ h hF => ⟨h.2.1, hF⟩
end Jvm.Pilot.@@N@@
namespace Jvm.Pilot.@@N@@
open Jvm Jvm.ClassFile Sem Op Lib Jvm.Free Jvm.Stand Jvm.Pilot.@@N@@.Jvm.D
/-! MADE BY PROGRAM (witnessworld.py) out of the Statement's table words and the real class files: 9 classes; the members and pool entries that the words name. The judged class is class 1, her method 2. -/
namespace start1
open Jvm.ClassFile
def u (s : String) : CpInfo := .utf8 (stringToUtf16 s)
/-- a pool by its gaps: so many unusable entries, then the entry; so many at the end -/
def gap : Nat → List CpInfo → List CpInfo
  | 0, r => r
  | n + 1, r => .unusable :: gap n r
def poolList (es : List (Nat × CpInfo)) (last : Nat) : List CpInfo := es.foldr (fun e r => gap e.1 (e.2 :: r)) (gap last [])
def pool (es : List (Nat × CpInfo)) (last : Nat) : Array CpInfo := ⟨poolList es last⟩
def fileOf (pool : Array CpInfo) (this : Nat) (attrs : Array Attribute := #[]) (ms : Array MethodInfo := #[]) (fl : Nat := 33) (sup : Nat := 0) (ifs : Array Nat := #[]) (fds : Array FieldInfo := #[]) : ClassFile where
  minorVersion := 0
  majorVersion := 65
  constantPool := pool
  accessFlags := fl
  thisClass := this
  superClass := sup
  interfaces := ifs
  fields := fds
  methods := ms
  attributes := attrs
def plain (name : String) (sup : Option ClassId) : Class where
  name := name
  kind := .ordinary
  loader := none
  accessFlags := 33
  super := sup
  interfaces := #[]
  cf := none
  fields := #[]
  methods := #[]
  instanceTypes := #[]
  staticTypes := #[]
  resolved := #[]
  callSites := []
  init := .initialized
  statics := none
  mirror := none

def pool0 : Array CpInfo := pool [(5, u "<init>"), (0, u "()V"), (1, .class_ 10), (1, u "java/lang/Object")] 113

def k0c0 : Code := { maxStack := 0, maxLocals := 1, code := object_method_1_code, exceptionTable := #[], attributes := #[] }
def k0m0 : Method := { name := "<init>", desc := "()V", sig := { parameters := [], returnType := none }, accessFlags := 1, code := some k0c0 }
/-- java/lang/Object -/
def k0 : Class := { plain "java/lang/Object" none with
  accessFlags := 33
  interfaces := #[]
  cf := some (fileOf pool0 8 #[] #[{ accessFlags := 1, nameIndex := 5, descriptorIndex := 6, attributes := #[] }] 33 0 #[] #[])
  fields := #[]
  methods := #[k0m0]
  instanceTypes := #[]
  staticTypes := #[]
  resolved := Array.replicate 124 none
  statics := none }

def pool1 : Array CpInfo := pool [(2, .class_ 4), (1, u "java/lang/Object"), (0, u "<init>"), (0, u "()V"), (2, .long 9223372036854775807), (1, .methodref 12 13), (0, .class_ 14), (0, .nameAndType 15 16), (0, u "com/example/diligent_workflow/diligentworkflow/feel/BudgetSpendPinLaw"), (0, u "upTo"), (0, u "(JJ)J"), (0, .class_ 18), (0, u "com/example/diligent_workflow/diligentworkflow/feel/Budget"), (0, .methodref 17 20), (0, .nameAndType 5 21), (0, u "(J)V"), (0, .methodref 17 23), (0, .nameAndType 24 21), (0, u "spend"), (3, u "law"), (0, u "(JJJI)Z")] 2

def k1m0 : Method := { name := "<init>", desc := "()V", sig := { parameters := [], returnType := none }, accessFlags := 1, code := none }
def k1c1 : Code := { maxStack := 6, maxLocals := 6, code := method_2_code, exceptionTable := #[], attributes := #[] }
def k1m1 : Method := { name := "upTo", desc := "(JJ)J", sig := { parameters := [.long, .long], returnType := some .long }, accessFlags := 10, code := some k1c1 }
def k1c2 : Code := { maxStack := 6, maxLocals := 16, code := code, exceptionTable := #[], attributes := #[] }
def k1m2 : Method := { name := "law", desc := "(JJJI)Z", sig := { parameters := [.long, .long, .long, .int], returnType := some .boolean }, accessFlags := 9, code := some k1c2 }
/-- com/example/diligent_workflow/diligentworkflow/feel/BudgetSpendPinLaw -/
def k1 : Class := { plain "com/example/diligent_workflow/diligentworkflow/feel/BudgetSpendPinLaw" (some 0) with
  accessFlags := 49
  interfaces := #[]
  cf := some (fileOf pool1 12 #[] #[{ accessFlags := 1, nameIndex := 5, descriptorIndex := 6, attributes := #[] }, { accessFlags := 10, nameIndex := 15, descriptorIndex := 16, attributes := #[] }, { accessFlags := 9, nameIndex := 28, descriptorIndex := 29, attributes := #[] }] 49 2 #[] #[])
  fields := #[]
  methods := #[k1m0, k1m1, k1m2]
  instanceTypes := #[]
  staticTypes := #[]
  resolved := Array.replicate 32 none
  statics := none }

def pool2 : Array CpInfo := pool [(1, .methodref 2 3), (0, .class_ 4), (0, .nameAndType 5 6), (0, u "java/lang/Object"), (0, u "<init>"), (0, u "()V"), (0, .fieldref 8 9), (0, .class_ 10), (0, .nameAndType 11 12), (0, u "com/example/diligent_workflow/diligentworkflow/feel/Budget"), (0, u "steps"), (0, u "J"), (0, .fieldref 8 14), (0, .nameAndType 15 12), (0, u "left"), (11, u "depth"), (0, u "I"), (8, u "MAX_DEPTH"), (2, u "(J)V"), (2, u "spend")] 22

def k2c0 : Code := { maxStack := 3, maxLocals := 3, code := prog_40_method_1_code, exceptionTable := #[], attributes := #[] }
def k2m0 : Method := { name := "<init>", desc := "(J)V", sig := { parameters := [.long], returnType := none }, accessFlags := 1, code := some k2c0 }
def k2c1 : Code := { maxStack := 5, maxLocals := 3, code := prog_40_method_2_code, exceptionTable := #[], attributes := #[] }
def k2m1 : Method := { name := "spend", desc := "(J)V", sig := { parameters := [.long], returnType := none }, accessFlags := 0, code := some k2c1 }
/-- com/example/diligent_workflow/diligentworkflow/feel/Budget -/
def k2 : Class := { plain "com/example/diligent_workflow/diligentworkflow/feel/Budget" (some 0) with
  accessFlags := 49
  interfaces := #[]
  cf := some (fileOf pool2 8 #[] #[{ accessFlags := 1, nameIndex := 5, descriptorIndex := 40, attributes := #[] }, { accessFlags := 0, nameIndex := 43, descriptorIndex := 40, attributes := #[] }] 49 2 #[] #[{ accessFlags := 25, nameIndex := 37, descriptorIndex := 28, attributes := #[] }, { accessFlags := 18, nameIndex := 11, descriptorIndex := 12, attributes := #[] }, { accessFlags := 2, nameIndex := 15, descriptorIndex := 12, attributes := #[] }, { accessFlags := 2, nameIndex := 27, descriptorIndex := 28, attributes := #[] }])
  fields := #[{ name := "MAX_DEPTH", type := .int, accessFlags := 25, slot := 0, constantValue := 0 }, { name := "steps", type := .long, accessFlags := 18, slot := 0, constantValue := 0 }, { name := "left", type := .long, accessFlags := 2, slot := 1, constantValue := 0 }, { name := "depth", type := .int, accessFlags := 2, slot := 2, constantValue := 0 }]
  methods := #[k2m0, k2m1]
  instanceTypes := #[.long, .long, .int]
  staticTypes := #[.int]
  resolved := Array.replicate 66 none
  statics := none }

def pool3 : Array CpInfo := pool [(1, u "java/lang/Cloneable"), (0, .class_ 1), (0, u "java/lang/Object"), (0, .class_ 3)] 3

/-- java/lang/Cloneable -/
def k3 : Class := { plain "java/lang/Cloneable" (some 0) with
  accessFlags := 1537
  interfaces := #[]
  cf := some (fileOf pool3 2 #[] #[] 1537 4 #[] #[])
  fields := #[]
  methods := #[]
  instanceTypes := #[]
  staticTypes := #[]
  resolved := Array.replicate 8 none
  statics := none }

def pool4 : Array CpInfo := pool [(1, u "java/io/Serializable"), (0, .class_ 1), (0, u "java/lang/Object"), (0, .class_ 3)] 3

/-- java/io/Serializable -/
def k4 : Class := { plain "java/io/Serializable" (some 0) with
  accessFlags := 1537
  interfaces := #[]
  cf := some (fileOf pool4 2 #[] #[] 1537 4 #[] #[])
  fields := #[]
  methods := #[]
  instanceTypes := #[]
  staticTypes := #[]
  resolved := Array.replicate 8 none
  statics := none }

/-- the primitive byte -/
def k5 : Class := { plain "byte" none with kind := .primitive 'B', accessFlags := 0x411 }
/-- [B -/
def k6 : Class := { plain "[B" (some 0) with kind := .array 5 .byte, interfaces := #[3, 4], accessFlags := 1041 }

/-- the primitive int -/
def k7 : Class := { plain "int" none with kind := .primitive 'I', accessFlags := 0x411 }
/-- [I -/
def k8 : Class := { plain "[I" (some 0) with kind := .array 7 .int, interfaces := #[3, 4], accessFlags := 1041 }

def heap : Heap := #[]
def classes : Array Class := #[k0, k1, k2, k3, k4, k5, k6, k7, k8]
def interned : List (Array UInt16 × Addr) := []
def slotsUsed : Nat := 0
def theMethod : MethodId := ⟨1, 2⟩
def args0 : Array Value := #[.long 7, .long 3, .long 2, .int 1]
def aboutOver (below : List Frame) : State where
  vm := { classes := classes, interned := interned.toArray }
  heap := heap
  slotsUsed := slotsUsed
  threads := #[{ frames := .invoking theMethod args0 :: below }]
def below0 : List Frame := [.native { method := ⟨0, 0⟩, args := #[] }]
def about1 : State := aboutOver below0
def p0 : Program := .bare "" "" ""
def e0 : Env := launch0.env 0 0 0
theorem w_frames : about1.frames = Frame.invoking theMethod args0 :: below0 := rfl
set_option maxRecDepth 65536 in
theorem w_args : argsFit about1.vm theMethod args0 = true := by decide +kernel
set_option maxRecDepth 65536 in
theorem w_heap : heapFits about1 = true := by decide +kernel
set_option maxRecDepth 65536 in
theorem w_runnable : about1.curStatus? = some .runnable := by decide +kernel
set_option maxRecDepth 65536 in
theorem w_alone : about1.alone = true := by decide +kernel
set_option maxRecDepth 65536 in
theorem w_named : about1.methodNamed? x = some theMethod := by decide +kernel
set_option maxRecDepth 65536 in
theorem w_hears : about1.hears theMethod below0 = true := by decide +kernel
set_option maxRecDepth 65536 in
theorem w_ripe : about1.ripe theMethod args0 below0 = true := by decide +kernel
theorem w_running : about1.status = .running := rfl
set_option maxRecDepth 65536 in
theorem w_room : about1.hasRoom e0.platform room_1 = true :=
  launch0.hasRoom_least _ room_1 (by decide +kernel) (by decide +kernel) (by decide +kernel) (by decide +kernel) (by decide +kernel) (by decide +kernel)
theorem allAtoms_all (ts : List Jvm.Cond) (a : Array Jvm.Value) (st : Jvm.State) : (allAtoms ts).before a st = ts.all (fun c => c.before a st) := by
  induction ts with
  | nil => rfl
  | cons c t ih =>
    show (Jvm.Cond.and c (allAtoms t)).before a st = _
    rw [Jvm.Cond.before_and, ih, List.all_cons]
def words1 : List Jvm.Cond := Jvm.Cond.code x code maxLocals ret :: tables_1
/-- a 'code' word, met by the world's own term for the bytes: nothing is compared byte by byte -/
theorem code_word {y : MethodName} {bytes : ByteArray} {mx : Nat} {rt : Option FieldType} {a : Array Value} {s : State} {m : MethodId} {meth : Method} {c : Code} (h1 : s.methodNamed? y = some m) (h2 : s.vm.method? m = some meth) (h3 : meth.code = some c) (h4 : c.code = bytes)
    (h5 : (c.maxLocals == mx && c.exceptionTable.isEmpty && decide (c.maxStack ≤ mostOperands) && decide (meth.sig.returnType = rt) && !meth.locks && decide (parseMethodDescriptor y.desc = some meth.sig)) = true) : (Jvm.Cond.code y bytes mx rt).before a s = true := by
  simp only [Bool.and_eq_true, beq_iff_eq, Bool.not_eq_true', decide_eq_true_eq] at h5
  obtain ⟨⟨⟨⟨⟨g1, g2⟩, g3⟩, g4⟩, g5⟩, g6⟩ := h5
  simp [Cond.before, Cond.holds, Cond.value, h1, h2, h3, h4, g1, g2, g3, g4, g5, g6]
def isCode : Jvm.Cond → Bool
  | .code _ _ _ _ => true
  | _ => false
theorem all_split {L : List Jvm.Cond} {P : Jvm.Cond → Bool} (h1 : L.all (fun c => isCode c || P c) = true) (h2 : ∀ c ∈ L.filter isCode, P c = true) : L.all P = true := by
  refine List.all_eq_true.mpr fun c hc => ?_
  have h := List.all_eq_true.mp h1 c hc
  rcases Bool.eq_false_or_eq_true (isCode c) with hi | hi
  · exact h2 c (List.mem_filter.mpr ⟨hc, hi⟩)
  · simpa [hi] using h
set_option maxRecDepth 65536 in
theorem w_c0 : (Jvm.Cond.code x code maxLocals ret).before args0 about1 = true := code_word (m := ⟨1, 2⟩) (meth := k1m2) (c := k1c2) (by decide +kernel) rfl rfl rfl (by decide +kernel)
set_option maxRecDepth 65536 in
theorem w_c1 : (Jvm.Cond.code ({ cls := "com/example/diligent_workflow/diligentworkflow/feel/BudgetSpendPinLaw", name := "upTo", desc := "(JJ)J" } : Jvm.MethodName) method_2_code (6 : Nat) (Option.some Jvm.ClassFile.FieldType.long)).before args0 about1 = true := code_word (m := ⟨1, 1⟩) (meth := k1m1) (c := k1c1) (by decide +kernel) rfl rfl rfl (by decide +kernel)
set_option maxRecDepth 65536 in
theorem w_c2 : (Jvm.Cond.code ({ cls := "com/example/diligent_workflow/diligentworkflow/feel/Budget", name := "<init>", desc := "(J)V" } : Jvm.MethodName) prog_40_method_1_code (3 : Nat) (Option.none : Option Jvm.ClassFile.FieldType)).before args0 about1 = true := code_word (m := ⟨2, 0⟩) (meth := k2m0) (c := k2c0) (by decide +kernel) rfl rfl rfl (by decide +kernel)
set_option maxRecDepth 65536 in
theorem w_c3 : (Jvm.Cond.code ({ cls := "java/lang/Object", name := "<init>", desc := "()V" } : Jvm.MethodName) object_method_1_code (1 : Nat) (Option.none : Option Jvm.ClassFile.FieldType)).before args0 about1 = true := code_word (m := ⟨0, 0⟩) (meth := k0m0) (c := k0c0) (by decide +kernel) rfl rfl rfl (by decide +kernel)
set_option maxRecDepth 65536 in
theorem w_c4 : (Jvm.Cond.code ({ cls := "com/example/diligent_workflow/diligentworkflow/feel/Budget", name := "spend", desc := "(J)V" } : Jvm.MethodName) prog_40_method_2_code (3 : Nat) (Option.none : Option Jvm.ClassFile.FieldType)).before args0 about1 = true := code_word (m := ⟨2, 1⟩) (meth := k2m1) (c := k2c1) (by decide +kernel) rfl rfl rfl (by decide +kernel)
def codes1 : List Jvm.Cond := [Jvm.Cond.code x code maxLocals ret, Jvm.Cond.code ({ cls := "com/example/diligent_workflow/diligentworkflow/feel/BudgetSpendPinLaw", name := "upTo", desc := "(JJ)J" } : Jvm.MethodName) method_2_code (6 : Nat) (Option.some Jvm.ClassFile.FieldType.long), Jvm.Cond.code ({ cls := "com/example/diligent_workflow/diligentworkflow/feel/Budget", name := "<init>", desc := "(J)V" } : Jvm.MethodName) prog_40_method_1_code (3 : Nat) (Option.none : Option Jvm.ClassFile.FieldType), Jvm.Cond.code ({ cls := "java/lang/Object", name := "<init>", desc := "()V" } : Jvm.MethodName) object_method_1_code (1 : Nat) (Option.none : Option Jvm.ClassFile.FieldType), Jvm.Cond.code ({ cls := "com/example/diligent_workflow/diligentworkflow/feel/Budget", name := "spend", desc := "(J)V" } : Jvm.MethodName) prog_40_method_2_code (3 : Nat) (Option.none : Option Jvm.ClassFile.FieldType)]
set_option maxRecDepth 65536 in
theorem codes_eq : words1.filter isCode = codes1 := rfl
theorem w_codes : ∀ c ∈ words1.filter isCode, c.before args0 about1 = true := by
  rw [codes_eq]
  intro c hc
  simp only [codes1, List.mem_cons, List.not_mem_nil, or_false] at hc
  rcases hc with rfl | rfl | rfl | rfl | rfl
  · exact w_c0
  · exact w_c1
  · exact w_c2
  · exact w_c3
  · exact w_c4
set_option maxRecDepth 65536 in
theorem w_t1 : words1.all (fun c => isCode c || c.before args0 about1) = true := by decide +kernel
theorem w_tables : (allAtoms (Jvm.Cond.code x code maxLocals ret :: tables_1)).before args0 about1 = true := by
  rw [allAtoms_all]
  show words1.all (fun c => c.before args0 about1) = true
  refine all_split ?_ w_codes
  rw [w_t1]
set_option maxRecDepth 65536 in
theorem w_case : (Jvm.Cond.and given_1 narrow_1).before args0 about1 = true := by decide +kernel
theorem w_applies : (headSpec (Jvm.Cond.code x code maxLocals ret :: tables_1) room_1).applies x e0.platform about1 = true :=
  (Spec.applies_iff w_frames).mpr ⟨w_running, w_runnable, w_alone, w_named, w_hears, w_ripe, w_room, w_tables⟩
theorem atStart : AtStart classFile x code maxLocals ret World_1 tables_1 room_1 Calls_1 rest_1 Pre_1 launch0 p0 e0 about1 theMethod args0 below0 :=
  ⟨lists_1, trivial, launch0.admits_env _ _ _, launch0.least_env, fairChoices_fair.cas, fairChoices_fair.clock, w_frames, w_args, w_heap, w_applies, trivial, trivial, w_case⟩
end start1
theorem witness_1 : WitnessClaimed_1 := ⟨start1.p0, start1.e0, start1.about1, start1.theMethod, start1.args0, start1.below0, start1.atStart⟩
end Jvm.Pilot.@@N@@
