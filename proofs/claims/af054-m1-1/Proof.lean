import JvmDerived
import JvmDerived.Pilot.@@N@@Statement
import JvmDerived.Pilot.@@N@@Code
set_option linter.unusedVariables false
set_option linter.unusedSimpArgs false
namespace Jvm.RoadKit
open Sem ClassFile Op Lib Jvm.Stand Jvm.Free Jvm.LawKit
section New
variable {p : Program} {l : Launch} {e : Env} {R : Room} {s : State} {m : MethodId} {args : Array Value} {below : List Frame} {meth : Method} {c : Code} {T : State} {locs : List Loc} {cells slots : Nat}
theorem retI (X : Stand p l e R s m args below meth c T locs cells slots) (hx : p.tables.exec = Jvm.exec) {pc : Nat} {Ls : Array Slot} {z : Int32} {rest : List Value} (hret : meth.sig.returnType = some .int) (hd : decode c.code pc = .ok (.ireturn, 1)) {fs : List Frame}
    (hl : ∀ (f : JFrame) (acts : List Action), f.method = m → f.locked = none → f.entered = [] → (doReturn e (T.setTop f) acts (some (.int z))).1 = T.setFrames fs) : Steps p.tables e below (T.setTop (mkF m pc Ls (.int z :: rest))) (T.setFrames fs) := by
  have hm' : T.vm.method? m = some meth := X.method'
  have hn : narrow .int (.int z) = .int z := rfl
  show Steps p.tables e below (T.setTop { method := m, pc := pc, locals := Ls, stack := _ :: rest, locked := none }) _
  jvm_step X.here [X.here.top, hx, hd, hm', hret, hn]
  first | (intro acts; rw [hl _ acts rfl rfl rfl]) | rw [hl _ _ rfl rfl rfl]
  exact Steps.refl _
end New
end Jvm.RoadKit
namespace Jvm.Pilot.@@N@@
open Jvm Jvm.ClassFile Sem Op Lib Jvm.Free Jvm.Stand Jvm.LawKit Jvm.RoadKit Bundle Jvm.Pilot.@@N@@.Jvm.D
/-! ## The walk in continuation-passing form: what is left to run returns, and Q says of what it returns, of the heap and of the places written -/
def Ogo (p : Program) (e : Env) (below : List Frame) (P : Outcome → State → Prop) (A : State) : Prop :=
  ∃ s₂ o, Steps p.tables e below A s₂ ∧ s₂.status = .running ∧ Ended s₂ below o ∧ P o s₂
/-- it returned v, Q says of v, of the heap and of the places written; nothing else was done since s -/
def Onar (s : State) (R : Room) (Q : Option Value → Heap → List Loc → Prop) (o : Outcome) (t : State) : Prop := ∃ v L, o = .returned v ∧ Q v t.heap L ∧ FrameEnd s o t L R.cells R.slots
abbrev Opays (l : Launch) (y : MethodName) (bytes : ByteArray) (maxL : Nat) (rt : Option FieldType) (rm : Room) (ws : List Jvm.Cond) (Z : State) (h0 : Heap) (as : Array Value) (Q : Option Value → Heap → List Loc → Prop) : Prop :=
  MetFree l y (head1 (Jvm.Cond.code y bytes maxL rt :: ws) rm) (fun a U => a = as ∧ Z.Warmed39 U.vm ∧ U.heap = h0) (fun _ _ _ _ _ => True) (fun _ U o U' => ∃ v L, o = .returned v ∧ Q v U'.heap L ∧ FrameEnd U o U' L rm.cells rm.slots)
section Own
variable {p : Program} {l : Launch} {e : Env} {R : Room} {s : State} {m : MethodId} {args : Array Value} {below : List Frame} {meth : Method} {c : Code} {T : State} {locs : List Loc} {cells slots : Nat} {Z : State} {a0 : Array Value} {h : Heap} {Q : Option Value → Heap → List Loc → Prop} {A B : State} {P : Outcome → State → Prop}
theorem own_via (st : ∀ t, Steps p.tables e below B t → Steps p.tables e below A t) (k : Ogo p e below P B) : Ogo p e below P A := by
  obtain ⟨s₂, o, h1, h2⟩ := k
  exact ⟨s₂, o, st _ h1, h2⟩
theorem own_enter {y : MethodName} {bytes : ByteArray} {maxL : Nat} {rt : Option FieldType} {rm : Room} {ws : List Jvm.Cond} {h0 : Heap} {as : Array Value} (hp : plainFor y = true)
    (body : ∀ p e s m below meth c s₁, p.tables.exec = Jvm.exec → c.code = bytes → c.maxLocals = maxL → s.vm.findClass y.cls = some m.cls → meth.name = y.name → meth.sig.returnType = rt → meth.locks = false → Z.Warmed39 s.vm → s₁.heap = h0 →
      Stand p l e rm s m as below meth c s₁ [] 0 0 → Ogo p e below (Onar s rm Q) (s₁.setTop (entryFrame m as maxL))) : Opays l y bytes maxL rt rm ws Z h0 as Q := by
  refine MetFree.of_bodySF hp hisR ?_
  intro p e s m args below meth c s₁ Bd hml0 hP hK
  obtain ⟨rfl, hZ, hh⟩ := hP
  have X0 : Stand p l e rm s m args below meth c s₁ [] 0 0 := Stand.of_body Bd
  have e0 : s₁.heap = h0 := by rw [← hh, Bd.state]; rfl
  exact body p e s m below meth c s₁ Bd.exec Bd.bytes hml0 (findClass_of_methodNamed Bd.named) (name_of_methodNamed Bd.named Bd.method).1 Bd.returns Bd.notSynchronized hZ e0 X0
theorem own_out (X : Stand p l e R s m args below meth c T locs cells slots) (hlk : meth.locks = false) {v : Option Value} (hv : meth.sig.returnType = none → v = none) (hc : cells ≤ R.cells) (hs : slots ≤ R.slots) (hQ : Q v T.heap locs)
    (k : ∀ fs, (∀ (f : JFrame) (acts : List Action), f.method = m → f.locked = none → f.entered = [] → (doReturn e (T.setTop f) acts v).1 = T.setFrames fs) → Steps p.tables e below A (T.setFrames fs)) : Ogo p e below (Onar s R Q) A := by
  obtain ⟨fs, hr, hrun, hended, hW, hsame⟩ := X.leave (v := v) hv hlk
  exact ⟨_, _, k fs hr, hrun, hended, _, _, rfl, hQ, ⟨_, rfl⟩, hW, hsame.mono hc hs⟩
theorem own_retL (X : Stand p l e R s m args below meth c T locs cells slots) (hx : p.tables.exec = Jvm.exec) {pc : Nat} {Ls : Array Slot} {z : Int64} {rest : List Value} (hret : meth.sig.returnType = some .long) (hd : decode c.code pc = .ok (.lreturn, 1)) {fs : List Frame}
    (hl : ∀ (f : JFrame) (acts : List Action), f.method = m → f.locked = none → f.entered = [] → (doReturn e (T.setTop f) acts (some (.long z))).1 = T.setFrames fs) : Steps p.tables e below (T.setTop (mkF m pc Ls (.long z :: rest))) (T.setFrames fs) :=
  retOut X hx hret rfl (Or.inr (Or.inl ⟨rfl, rfl, _, rfl⟩)) hd hl
theorem own_retD (X : Stand p l e R s m args below meth c T locs cells slots) (hx : p.tables.exec = Jvm.exec) {pc : Nat} {Ls : Array Slot} {z : UInt64} {rest : List Value} (hret : meth.sig.returnType = some .double) (hd : decode c.code pc = .ok (.dreturn, 1)) {fs : List Frame}
    (hl : ∀ (f : JFrame) (acts : List Action), f.method = m → f.locked = none → f.entered = [] → (doReturn e (T.setTop f) acts (some (.double z))).1 = T.setFrames fs) : Steps p.tables e below (T.setTop (mkF m pc Ls (.double z :: rest))) (T.setFrames fs) :=
  retOut X hx hret rfl (Or.inr (Or.inr (Or.inl ⟨rfl, rfl, _, rfl⟩))) hd hl
theorem own_retA (X : Stand p l e R s m args below meth c T locs cells slots) (hx : p.tables.exec = Jvm.exec) {pc : Nat} {Ls : Array Slot} {w : Value} {t : FieldType} {rest : List Value} (hret : meth.sig.returnType = some t) (ht : t.isReference = true) (hv : w.isRef = true) (hd : decode c.code pc = .ok (.areturn, 1)) {fs : List Frame}
    (hl : ∀ (f : JFrame) (acts : List Action), f.method = m → f.locked = none → f.entered = [] → (doReturn e (T.setTop f) acts (some w)).1 = T.setFrames fs) : Steps p.tables e below (T.setTop (mkF m pc Ls (w :: rest))) (T.setFrames fs) :=
  retOut X hx hret (by cases t <;> first | rfl | cases ht) (Or.inr (Or.inr (Or.inr (Or.inr ⟨rfl, ht, hv⟩)))) hd hl
theorem own_lrem {g : JFrame} {target : State} (X : Stand p l e R s m args below meth c T locs cells slots) (hx : p.tables.exec = Jvm.exec) (hg : g.method = m) {x y : Int64} {rest : List Value} (hd : decode c.code g.pc = .ok (.lrem, 1)) (hs : g.stack = .long y :: .long x :: rest) (hy : y ≠ 0)
    (hr : Steps p.tables e below (T.setTop { g with pc := g.pc + 1, stack := .long (x % y) :: rest }) target) : Steps p.tables e below (T.setTop g) target :=
  XS.lrem X.here hx hg hd hs hy (by rw [lrem_mod]; exact hr)
/-! calls: the callee's contract pays -/
theorem own_callS (X : Stand p l e R s m args below meth c T locs cells slots) (hx : p.tables.exec = Jvm.exec) (hZ : Z.Warmed39 s.vm) {own : String} {index : Nat} {y : MethodName} {bytes : ByteArray} {maxL : Nat} {rt : Option FieldType}
    (hown : s.vm.findClass own = some m.cls) (wl : (Jvm.Cond.methodLink own index y).before a0 Z = true) (wst : (Jvm.Cond.static y).before a0 Z = true) (wi : (Jvm.Cond.initialized y.cls).before a0 Z = true) (wc : (Jvm.Cond.code y bytes maxL rt).before a0 Z = true)
    (hy : y.cls ≠ "java/lang/invoke/MethodHandle" ∧ y.cls ≠ "java/lang/invoke/VarHandle") {rm : Room} {as : Array Value} {Qc : Option Value → Heap → List Loc → Prop} (hM : Opays l y bytes maxL rt rm [] Z h as Qc) {argsL rest : List Value} (ha : argsL.toArray = as) (eT : T.heap = h) {W : Nat} (hf : rm.frames + 1 ≤ R.frames) (hl : W + (maxL + 11) + rm.locals ≤ R.locals) (hc : cells + rm.cells ≤ R.cells) (hs : slots + rm.slots ≤ R.slots)
    {pc : Nat} {Ls : Array Slot} {st : List Value} (hsize : Ls.size = c.maxLocals) (hlen : ∀ sig, parseMethodDescriptor y.desc = some sig → argsL.length = sig.parameters.length) (hst : st = argsL.reverse ++ rest) (hW : (rest.map fun v => v.category).sum ≤ W) (hd : decode c.code pc = .ok (.invokestatic index, 3))
    (k : ∀ v T' L, Stand p l e R s m args below meth c T' (locs ++ L) (cells + rm.cells) (slots + rm.slots) → Qc v T'.heap L → Ogo p e below P (T'.setTop (mkF m (pc + 3) Ls (v.toList ++ rest)))) : Ogo p e below P (T.setTop (mkF m pc Ls st)) := by
  obtain ⟨v, _, ⟨T', L', k', n'⟩, -, X', ⟨Lc, hQ, l1, y1, z1⟩, step⟩ := Jvm.LawKit.callS X hx (y := y) hown (mvT hZ wl) (mvT hZ wst) (mvT hZ wi) (mvT hZ wc) hy (backOf (W := W) hM hZ wc wi hf hl) (g := mkF m pc Ls st) rfl hsize (argsL := argsL) (rest := rest) hlen hst (by show 2 * 0 + _ ≤ _; omega) hd (fun _ _ => ⟨ha, eT, hc, hs⟩)
  dsimp only [Pt.U, Pt.locs, Pt.cells, Pt.slots] at X' l1 y1 z1 step hQ
  subst l1 y1 z1
  exact own_via step (k v T' Lc X' hQ)
theorem own_callI (X : Stand p l e R s m args below meth c T locs cells slots) (hx : p.tables.exec = Jvm.exec) (hZ : Z.Warmed39 s.vm) {own : String} {index : Nat} {y : MethodName} {bytes : ByteArray} {maxL : Nat} (hy1 : y.name = "<init>")
    (hown : s.vm.findClass own = some m.cls) (wl : (Jvm.Cond.methodLink own index y).before a0 Z = true) (wst : (Jvm.Cond.instanceMethod y).before a0 Z = true) (wi : (Jvm.Cond.initialized y.cls).before a0 Z = true) (wc : (Jvm.Cond.code y bytes maxL none).before a0 Z = true)
    (hy : y.cls ≠ "java/lang/invoke/MethodHandle" ∧ y.cls ≠ "java/lang/invoke/VarHandle") {rm : Room} {as : Array Value} {Qc : Option Value → Heap → List Loc → Prop} (hM : Opays l y bytes maxL none rm [] Z h as Qc) {a : Addr} {argsL rest : List Value} (ha : (.ref a :: argsL).toArray = as) (eT : T.heap = h) {W : Nat} (hf : rm.frames + 1 ≤ R.frames) (hl : W + (maxL + 11) + rm.locals ≤ R.locals) (hc : cells + rm.cells ≤ R.cells) (hs : slots + rm.slots ≤ R.slots)
    {pc : Nat} {Ls : Array Slot} {st : List Value} (hsize : Ls.size = c.maxLocals) (hlen : ∀ sig, parseMethodDescriptor y.desc = some sig → argsL.length = sig.parameters.length) (hst : st = argsL.reverse ++ .ref a :: rest) (hW : (rest.map fun v => v.category).sum ≤ W) (hd : decode c.code pc = .ok (.invokespecial index, 3))
    (k : ∀ v T' L, Stand p l e R s m args below meth c T' (locs ++ L) (cells + rm.cells) (slots + rm.slots) → Qc v T'.heap L → Ogo p e below P (T'.setTop (mkF m (pc + 3) Ls (v.toList ++ rest)))) : Ogo p e below P (T.setTop (mkF m pc Ls st)) := by
  obtain ⟨v, _, ⟨T', L', k', n'⟩, -, X', ⟨Lc, hQ, l1, y1, z1⟩, step⟩ := X.specialBack hx (y := y) hy1 hown (mvT hZ wl) (mvT hZ wst) (mvT hZ wc) hy (backOf (W := W) hM hZ wc wi hf hl) (g := mkF m pc Ls st) rfl hsize (Steps.refl _) (a := a) (argsL := argsL) (rest := rest) hlen hst (by show 2 * 0 + _ ≤ _; omega) hd (fun _ _ => ⟨ha, eT, hc, hs⟩)
  dsimp only [Pt.U, Pt.locs, Pt.cells, Pt.slots] at X' l1 y1 z1 step hQ
  subst l1 y1 z1
  exact own_via (fun _ q => step.trans q) (k v T' Lc X' hQ)
theorem own_callV (X : Stand p l e R s m args below meth c T locs cells slots) (hx : p.tables.exec = Jvm.exec) (hZ : Z.Warmed39 s.vm) {own C : String} {index : Nat} {y z : MethodName} {bytes : ByteArray} {maxL : Nat} {rt : Option FieldType}
    (hown : s.vm.findClass own = some m.cls) (wl : (Jvm.Cond.methodLink own index y).before a0 Z = true) (wd : (Jvm.Cond.declares y).before a0 Z = true) (ws : (Jvm.Cond.selects C y z).before a0 Z = true) (wst : (Jvm.Cond.instanceMethod z).before a0 Z = true) (wi : (Jvm.Cond.initialized z.cls).before a0 Z = true) (wc : (Jvm.Cond.code z bytes maxL rt).before a0 Z = true) (hyz : NotFace s y)
    (hy : y.cls ≠ "java/lang/invoke/MethodHandle" ∧ y.cls ≠ "java/lang/invoke/VarHandle") {rm : Room} {as : Array Value} {Qc : Option Value → Heap → List Loc → Prop} (hM : Opays l z bytes maxL rt rm [] Z h as Qc) {b : Addr} {argsL rest : List Value} (ha : (.ref b :: argsL).toArray = as) (eT : T.heap = h) (F : Exa Z h b C) {W : Nat} (hf : rm.frames + 1 ≤ R.frames) (hl : W + (maxL + 11) + rm.locals ≤ R.locals) (hc : cells + rm.cells ≤ R.cells) (hs : slots + rm.slots ≤ R.slots)
    {pc : Nat} {Ls : Array Slot} {st : List Value} (hsize : Ls.size = c.maxLocals) (hlen : ∀ sig, parseMethodDescriptor y.desc = some sig → argsL.length = sig.parameters.length) (hst : st = argsL.reverse ++ .ref b :: rest) (hW : (rest.map fun v => v.category).sum ≤ W) (hd : decode c.code pc = .ok (.invokevirtual index, 3))
    (k : ∀ v T' L, Stand p l e R s m args below meth c T' (locs ++ L) (cells + rm.cells) (slots + rm.slots) → Qc v T'.heap L → Ogo p e below P (T'.setTop (mkF m (pc + 3) Ls (v.toList ++ rest)))) : Ogo p e below P (T.setTop (mkF m pc Ls st)) := by
  obtain ⟨cq, kq, qa, qb, qc⟩ := isOf hZ eT F
  obtain ⟨v, _, ⟨T', L', k', n'⟩, -, X', ⟨Lc, hQ, l1, y1, z1⟩, step⟩ := X.virtualBack hx (y := y) (z := z) hown (mvT hZ wl) (mvT hZ wd) hyz (mvT hZ ws) (mvT hZ wst) hy (backOf (W := W) hM hZ wc wi hf hl) qa qc (g := mkF m pc Ls st) rfl hsize (Steps.refl _) (argsL := argsL) (rest := rest) hlen hst (by show 2 * 0 + _ ≤ _; omega) hd (fun _ _ => ⟨ha, eT, hc, hs⟩)
  dsimp only [Pt.U, Pt.locs, Pt.cells, Pt.slots] at X' l1 y1 z1 step hQ
  subst l1 y1 z1
  exact own_via (fun _ q => step.trans q) (k v T' Lc X' hQ)
/-- a private method of a class that is no interface -/
theorem own_callP (X : Stand p l e R s m args below meth c T locs cells slots) (hx : p.tables.exec = Jvm.exec) (hZ : Z.Warmed39 s.vm) {own C : String} {index kk : Nat} {y : MethodName} {bytes : ByteArray} {maxL : Nat} {rt : Option FieldType}
    (hown : s.vm.findClass own = some m.cls) (wl : (Jvm.Cond.methodLink own index y).before a0 Z = true) (wst : (Jvm.Cond.instanceMethod y).before a0 Z = true) (wp : (Jvm.Cond.privateMethod y).before a0 Z = true) (wi : (Jvm.Cond.initialized y.cls).before a0 Z = true) (wn : (Jvm.Cond.instantiable y.cls kk).before a0 Z = true) (wc : (Jvm.Cond.code y bytes maxL rt).before a0 Z = true)
    (hy : y.cls ≠ "java/lang/invoke/MethodHandle" ∧ y.cls ≠ "java/lang/invoke/VarHandle") {rm : Room} {as : Array Value} {Qc : Option Value → Heap → List Loc → Prop} (hM : Opays l y bytes maxL rt rm [] Z h as Qc) {b : Addr} {argsL rest : List Value} (ha : (.ref b :: argsL).toArray = as) (eT : T.heap = h) (F : Exa Z h b C) {W : Nat} (hf : rm.frames + 1 ≤ R.frames) (hl : W + (maxL + 11) + rm.locals ≤ R.locals) (hc : cells + rm.cells ≤ R.cells) (hs : slots + rm.slots ≤ R.slots)
    {pc : Nat} {Ls : Array Slot} {st : List Value} (hsize : Ls.size = c.maxLocals) (hlen : ∀ sig, parseMethodDescriptor y.desc = some sig → argsL.length = sig.parameters.length) (hst : st = argsL.reverse ++ .ref b :: rest) (hW : (rest.map fun v => v.category).sum ≤ W) (hd : decode c.code pc = .ok (.invokevirtual index, 3))
    (k : ∀ v T' L, Stand p l e R s m args below meth c T' (locs ++ L) (cells + rm.cells) (slots + rm.slots) → Qc v T'.heap L → Ogo p e below P (T'.setTop (mkF m (pc + 3) Ls (v.toList ++ rest)))) : Ogo p e below P (T.setTop (mkF m pc Ls st)) := by
  obtain ⟨cq, q1, q2⟩ := F.cell
  have hpriv : s.PrivateAt y := Cond.privateMethod_at (mvP hZ wp (args := #[]))
  obtain ⟨c2, k2, i1, i2, i3, i4, -⟩ := Cond.instantiable_spec (mv (s := s) (args := args) hZ wn)
  have hni : k2.isInterface = false := (Bool.or_eq_false_iff.mp i4).1
  obtain ⟨v, _, ⟨T', L', k', n'⟩, -, X', ⟨Lc, hQ, l1, y1, z1⟩, step⟩ := X.privateBack hx (y := y) hown (mvT hZ wl) (mvT hZ wst) (selects_self_of_private i1 i2 hni hpriv (mvT hZ wst) hy) hpriv (mvT hZ wc) hy (backOf (W := W) hM hZ wc wi hf hl) (g := mkF m pc Ls st) rfl hsize (Steps.refl _) (a := b) (by rw [eT]; exact q1) q2 (argsL := argsL) (rest := rest) hlen hst (by show 2 * 0 + _ ≤ _; omega) hd (fun _ _ => ⟨ha, eT, hc, hs⟩)
  dsimp only [Pt.U, Pt.locs, Pt.cells, Pt.slots] at X' l1 y1 z1 step hQ
  subst l1 y1 z1
  exact own_via (fun _ q => step.trans q) (k v T' Lc X' hQ)
/-- a method of an interface -/
theorem own_callF (X : Stand p l e R s m args below meth c T locs cells slots) (hx : p.tables.exec = Jvm.exec) (hZ : Z.Warmed39 s.vm) {own C : String} {index count : Nat} {y z : MethodName} {bytes : ByteArray} {maxL : Nat} {rt : Option FieldType}
    (hown : s.vm.findClass own = some m.cls) (wl : (Jvm.Cond.methodLink own index y).before a0 Z = true) (wd : (Jvm.Cond.declares y).before a0 Z = true) (wf : (Jvm.Cond.interfaceMethod y.cls y.cls y.name y.desc).before args s = true) (ws : (Jvm.Cond.selects C y z).before a0 Z = true) (wst : (Jvm.Cond.instanceMethod z).before a0 Z = true) (wp : (Jvm.Cond.publicMethod z).before a0 Z = true) (wu : (Jvm.Cond.unhidden C y.name y.desc).before a0 Z = true) (wk : (Jvm.Cond.castable C y.cls).before a0 Z = true) (wi : (Jvm.Cond.initialized z.cls).before a0 Z = true) (wc : (Jvm.Cond.code z bytes maxL rt).before a0 Z = true)
    (hy : y.cls ≠ "java/lang/invoke/MethodHandle" ∧ y.cls ≠ "java/lang/invoke/VarHandle") {rm : Room} {as : Array Value} {Qc : Option Value → Heap → List Loc → Prop} (hM : Opays l z bytes maxL rt rm [] Z h as Qc) {b : Addr} {argsL rest : List Value} (ha : (.ref b :: argsL).toArray = as) (eT : T.heap = h) (F : Exa Z h b C) {W : Nat} (hf : rm.frames + 1 ≤ R.frames) (hl : W + (maxL + 11) + rm.locals ≤ R.locals) (hc : cells + rm.cells ≤ R.cells) (hs : slots + rm.slots ≤ R.slots)
    {pc : Nat} {Ls : Array Slot} {st : List Value} (hsize : Ls.size = c.maxLocals) (hlen : ∀ sig, parseMethodDescriptor y.desc = some sig → argsL.length = sig.parameters.length) (hst : st = argsL.reverse ++ .ref b :: rest) (hW : (rest.map fun v => v.category).sum ≤ W) (hd : decode c.code pc = .ok (.invokeinterface index count, 5))
    (k : ∀ v T' L, Stand p l e R s m args below meth c T' (locs ++ L) (cells + rm.cells) (slots + rm.slots) → Qc v T'.heap L → Ogo p e below P (T'.setTop (mkF m (pc + 5) Ls (v.toList ++ rest)))) : Ogo p e below P (T.setTop (mkF m pc Ls st)) := by
  obtain ⟨cq, kq, qa, qb, qc⟩ := isOf hZ eT F
  obtain ⟨v, _, ⟨T', L', k', n'⟩, -, X', ⟨Lc, hQ, l1, y1, z1⟩, step⟩ := X.interfaceBack hx (xi := y) (y := z) hown (mvT hZ wl) (mvT hZ wd) wf (mvT hZ ws) (mvT hZ wst) (mvT hZ wp) (mvT hZ wu) (mvT hZ wk) hy (backOf (W := W) hM hZ wc wi hf hl) qa qb qc (g := mkF m pc Ls st) rfl hsize (Steps.refl _) (argsL := argsL) (rest := rest) hlen hst (by show 2 * 0 + _ ≤ _; omega) hd (fun _ _ => ⟨ha, eT, hc, hs⟩)
  dsimp only [Pt.U, Pt.locs, Pt.cells, Pt.slots] at X' l1 y1 z1 step hQ
  subst l1 y1 z1
  exact own_via (fun _ q => step.trans q) (k v T' Lc X' hQ)
end Own
/-! ## An array by its values: n places, place j holds f j -/
/-- the array at a has n places of kind ty; place j holds f j -/
def Oar (Z : State) (h : Heap) (a : Addr) (ty : FieldType) (n : Nat) (f : Nat → Value) : Prop := n < 2 ^ 31 ∧ ∃ cl : Cell, Arr Z h a cl ty ∧ cl.slots.size = n ∧ ∀ j, j < n → cl.slots[j]? = some (f j)
section Own2
variable {p : Program} {l : Launch} {e : Env} {R : Room} {s : State} {m : MethodId} {args : Array Value} {below : List Frame} {meth : Method} {c : Code} {T : State} {locs : List Loc} {cells slots : Nat} {Z : State} {a0 : Array Value} {h h' : Heap} {P : Outcome → State → Prop} {a b : Addr} {ty : FieldType} {n i sl : Nat} {f : Nat → Value} {v : Value} {ws : List Addr} {j z : Int32}
theorem Oar.lt (A : Oar Z h a ty n f) : a < h.size := by obtain ⟨_, cl, A, _⟩ := A; exact A.lt
theorem Oar.ext (A : Oar Z h a ty n f) (E : Ext h h') : Oar Z h' a ty n f := by obtain ⟨q, cl, A, r⟩ := A; exact ⟨q, cl, A.ext E, r⟩
theorem Oar.other (A : Oar Z h b ty n f) (W : Wr h h' a sl v) (q : b ≠ a) : Oar Z h' b ty n f := by obtain ⟨z, cl, A, r⟩ := A; exact ⟨z, cl, A.other W q, r⟩
theorem Oar.keep (A : Oar Z h a ty n f) (K : Keep h h' ws) (q : a ∉ ws) : Oar Z h' a ty n f := by obtain ⟨z, cl, A, r⟩ := A; exact ⟨z, cl, ⟨K.2.1 a cl A.1 q, A.2⟩, r⟩
theorem Oar.cast {f' : Nat → Value} (A : Oar Z h a ty n f) (q : ∀ j, j < n → f j = f' j) : Oar Z h a ty n f' := by obtain ⟨z, cl, A, S, r⟩ := A; exact ⟨z, cl, A, S, fun j hj => by rw [← q j hj]; exact r j hj⟩
theorem Oar.new {k : ClassId} (A : Arr Z h a (newA k ty z) ty) (hz : ¬ z < 0) (hn : z.toNatClampNeg = n) : Oar Z h a ty n (fun _ => defaultValue ty) := by
  subst hn
  refine ⟨(back32 hz).2, _, A, sz_new _ _ _, fun j hj => ?_⟩
  simp [newA, hj]
theorem Oar.set (A : Oar Z h a ty n f) (W : Wr h h' a i v) : Oar Z h' a ty n (fun j => if j = i then v else f j) := by
  obtain ⟨q, cl, A, S, H⟩ := A
  obtain ⟨cell, e1, -, e3, -⟩ := id W
  cases A.1.symm.trans e1
  refine ⟨q, _, A.same W, by rw [sz_set]; exact S, fun j hj => ?_⟩
  by_cases u : i = j
  · subst u; simp [Cell.setSlot, e3]
  · have u' : ¬ j = i := fun x => u x.symm
    simp only [if_neg u', Cell.setSlot]; rw [Array.getElem?_setIfInBounds_ne u]; exact H j hj
theorem own_cl (hj : j.toInt = (i : Int)) : ¬ j < 0 ∧ j.toNatClampNeg = i := by
  refine ⟨fun q => ?_, ?_⟩
  · rw [Int32.lt_iff_toInt_lt] at q; have : (0 : Int32).toInt = 0 := rfl; omega
  · simp only [Int32.toNatClampNeg, hj]; rfl
theorem Oar.at (A : Oar Z h a ty n f) (hj : j.toInt = (i : Int)) (hi : i < n) : ∃ cl : Cell, Arr Z h a cl ty ∧ ¬ (j < 0 ∨ cl.slots.size ≤ j.toNatClampNeg) ∧ cl.slots[j.toNatClampNeg]? = some (f i) := by
  obtain ⟨q, cl, A, S, H⟩ := A
  obtain ⟨q1, q2⟩ := own_cl hj
  exact ⟨cl, A, fun q => q.elim q1 fun u => by rw [q2, S] at u; omega, by rw [q2]; exact H i hi⟩
/-- arraylength -/
theorem own_alen (X : Stand p l e R s m args below meth c T locs cells slots) (hx : p.tables.exec = Jvm.exec) (hZ : Z.Warmed39 s.vm) (eT : T.heap = h) (A : Oar Z h a ty n f) (hz : z.toInt = (n : Int)) {pc : Nat} {Ls : Array Slot} {rest : List Value} (hd : decode c.code pc = .ok (.arraylength, 1))
    (k : Ogo p e below P (T.setTop (mkF m (pc + 1) Ls (.int z :: rest)))) : Ogo p e below P (T.setTop (mkF m pc Ls (.ref a :: rest))) := by
  obtain ⟨q, cl, A, S, H⟩ := A
  have e1 : cl.slots.size.toInt32 = z := Int32.toInt_inj.mp (by rw [S, len_toInt q, hz])
  refine own_via (fun t k => X.arraylength hx (by rw [eT]; exact A.1) (State.isArrayOf_alike hZ.alike A.2.1) (g := mkF m pc Ls (.ref a :: rest)) rfl rfl hd _ k) ?_
  rw [e1]; exact k
theorem own_iald (X : Stand p l e R s m args below meth c T locs cells slots) (hx : p.tables.exec = Jvm.exec) (hZ : Z.Warmed39 s.vm) (eT : T.heap = h) (A : Oar Z h a .int n f) (hj : j.toInt = (i : Int)) (hi : i < n) (hv : f i = v) {pc : Nat} {Ls : Array Slot} {rest : List Value} (hd : decode c.code pc = .ok (.iaload, 1))
    (k : Ogo p e below P (T.setTop (mkF m (pc + 1) Ls (v :: rest)))) : Ogo p e below P (T.setTop (mkF m pc Ls (.int j :: .ref a :: rest))) := by
  obtain ⟨cl, A, h1, h2⟩ := A.at hj hi
  rw [hv] at h2
  exact own_via (fun t k => X.iaload hx (j := j) (v := v) (by rw [eT]; exact A.1) (State.isArrayOf_alike hZ.alike A.2.1) A.2.2 h1 h2 (g := mkF m pc Ls (.int j :: .ref a :: rest)) rfl rfl hd _ k) k
theorem own_bald (X : Stand p l e R s m args below meth c T locs cells slots) (hx : p.tables.exec = Jvm.exec) (hZ : Z.Warmed39 s.vm) (eT : T.heap = h) (A : Oar Z h a .byte n f) (hj : j.toInt = (i : Int)) (hi : i < n) (hv : f i = v) {pc : Nat} {Ls : Array Slot} {rest : List Value} (hd : decode c.code pc = .ok (.baload, 1))
    (k : Ogo p e below P (T.setTop (mkF m (pc + 1) Ls (v :: rest)))) : Ogo p e below P (T.setTop (mkF m pc Ls (.int j :: .ref a :: rest))) := by
  obtain ⟨cl, A, h1, h2⟩ := A.at hj hi
  rw [hv] at h2
  exact own_via (fun t k => X.baloadBytes hx (j := j) (v := v) (by rw [eT]; exact A.1) (State.isArrayOf_alike hZ.alike A.2.1) A.2.2 h1 h2 (g := mkF m pc Ls (.int j :: .ref a :: rest)) rfl rfl hd _ k) k
theorem own_zald (X : Stand p l e R s m args below meth c T locs cells slots) (hx : p.tables.exec = Jvm.exec) (hZ : Z.Warmed39 s.vm) (eT : T.heap = h) (A : Oar Z h a .boolean n f) (hj : j.toInt = (i : Int)) (hi : i < n) (hv : f i = v) {pc : Nat} {Ls : Array Slot} {rest : List Value} (hd : decode c.code pc = .ok (.baload, 1))
    (k : Ogo p e below P (T.setTop (mkF m (pc + 1) Ls (v :: rest)))) : Ogo p e below P (T.setTop (mkF m pc Ls (.int j :: .ref a :: rest))) := by
  obtain ⟨cl, A, h1, h2⟩ := A.at hj hi
  rw [hv] at h2
  exact own_via (fun t k => X.baloadBooleans hx (j := j) (v := v) (by rw [eT]; exact A.1) (State.isArrayOf_alike hZ.alike A.2.1) A.2.2 h1 h2 (g := mkF m pc Ls (.int j :: .ref a :: rest)) rfl rfl hd _ k) k
theorem own_dald (X : Stand p l e R s m args below meth c T locs cells slots) (hx : p.tables.exec = Jvm.exec) (hZ : Z.Warmed39 s.vm) (eT : T.heap = h) (A : Oar Z h a .double n f) (hj : j.toInt = (i : Int)) (hi : i < n) (hv : f i = v) {pc : Nat} {Ls : Array Slot} {rest : List Value} (hd : decode c.code pc = .ok (.daload, 1))
    (k : Ogo p e below P (T.setTop (mkF m (pc + 1) Ls (v :: rest)))) : Ogo p e below P (T.setTop (mkF m pc Ls (.int j :: .ref a :: rest))) := by
  obtain ⟨cl, A, h1, h2⟩ := A.at hj hi
  rw [hv] at h2
  exact own_via (fun t k => X.daload hx (j := j) (v := v) (by rw [eT]; exact A.1) (State.isArrayOf_alike hZ.alike A.2.1) A.2.2 h1 h2 (g := mkF m pc Ls (.int j :: .ref a :: rest)) rfl rfl hd _ k) k
theorem own_aald (X : Stand p l e R s m args below meth c T locs cells slots) (hx : p.tables.exec = Jvm.exec) (hZ : Z.Warmed39 s.vm) (eT : T.heap = h) (A : Oar Z h a ty n f) (ht : ty.isReference = true) (hj : j.toInt = (i : Int)) (hi : i < n) (hv : f i = v) {pc : Nat} {Ls : Array Slot} {rest : List Value} (hd : decode c.code pc = .ok (.aaload, 1))
    (k : Ogo p e below P (T.setTop (mkF m (pc + 1) Ls (v :: rest)))) : Ogo p e below P (T.setTop (mkF m pc Ls (.int j :: .ref a :: rest))) := by
  obtain ⟨cl, A, h1, h2⟩ := A.at hj hi
  rw [hv] at h2
  exact own_via (fun t k => X.aaload hx (j := j) (v := v) (by rw [eT]; exact A.1) (State.isArrayOf_alike hZ.alike A.2.1) ht A.2.2 h1 h2 (g := mkF m pc Ls (.int j :: .ref a :: rest)) rfl rfl hd _ k) k
theorem own_iast (X : Stand p l e R s m args below meth c T locs cells slots) (hx : p.tables.exec = Jvm.exec) (hZ : Z.Warmed39 s.vm) (eT : T.heap = h) (A : Oar Z h a .int n f) {x : Int32} (hj : j.toInt = (i : Int)) (hi : i < n) {pc : Nat} {Ls : Array Slot} {rest : List Value} (hd : decode c.code pc = .ok (.iastore, 1)) :
    ∃ T' h', Stand p l e R s m args below meth c T' (locs ++ [⟨a, i⟩]) cells slots ∧ T'.heap = h' ∧ Wr h h' a i (.int x) ∧ Oar Z h' a .int n (fun q => if q = i then .int x else f q) ∧ ∀ t, Steps p.tables e below (T'.setTop (mkF m (pc + 1) Ls rest)) t → Steps p.tables e below (T.setTop (mkF m pc Ls (.int x :: .int j :: .ref a :: rest))) t := by
  obtain ⟨cl, A', h1, h2⟩ := A.at hj hi
  obtain ⟨T', h', X', e', W, st⟩ := stI X hx hZ eT A' (j := j) (x := x) h1 (g := mkF m pc Ls (.int x :: .int j :: .ref a :: rest)) rfl rfl hd
  rw [(own_cl hj).2] at X' W
  exact ⟨T', h', X', e', W, A.set W, st⟩
theorem own_bast (X : Stand p l e R s m args below meth c T locs cells slots) (hx : p.tables.exec = Jvm.exec) (hZ : Z.Warmed39 s.vm) (eT : T.heap = h) (A : Oar Z h a .byte n f) {x : Int32} (hj : j.toInt = (i : Int)) (hi : i < n) {pc : Nat} {Ls : Array Slot} {rest : List Value} (hd : decode c.code pc = .ok (.bastore, 1)) :
    ∃ T' h', Stand p l e R s m args below meth c T' (locs ++ [⟨a, i⟩]) cells slots ∧ T'.heap = h' ∧ Wr h h' a i (.int (nar .byte x)) ∧ Oar Z h' a .byte n (fun q => if q = i then .int (nar .byte x) else f q) ∧ ∀ t, Steps p.tables e below (T'.setTop (mkF m (pc + 1) Ls rest)) t → Steps p.tables e below (T.setTop (mkF m pc Ls (.int x :: .int j :: .ref a :: rest))) t := by
  obtain ⟨cl, A', h1, h2⟩ := A.at hj hi
  obtain ⟨T', h', X', e', W, st⟩ := stB X hx hZ eT A' (j := j) (x := x) h1 (g := mkF m pc Ls (.int x :: .int j :: .ref a :: rest)) rfl rfl hd
  rw [(own_cl hj).2] at X' W
  exact ⟨T', h', X', e', W, A.set W, st⟩
theorem own_zast (X : Stand p l e R s m args below meth c T locs cells slots) (hx : p.tables.exec = Jvm.exec) (hZ : Z.Warmed39 s.vm) (eT : T.heap = h) (A : Oar Z h a .boolean n f) {x : Int32} (hj : j.toInt = (i : Int)) (hi : i < n) {pc : Nat} {Ls : Array Slot} {rest : List Value} (hd : decode c.code pc = .ok (.bastore, 1)) :
    ∃ T' h', Stand p l e R s m args below meth c T' (locs ++ [⟨a, i⟩]) cells slots ∧ T'.heap = h' ∧ Wr h h' a i (.int (nar .boolean x)) ∧ Oar Z h' a .boolean n (fun q => if q = i then .int (nar .boolean x) else f q) ∧ ∀ t, Steps p.tables e below (T'.setTop (mkF m (pc + 1) Ls rest)) t → Steps p.tables e below (T.setTop (mkF m pc Ls (.int x :: .int j :: .ref a :: rest))) t := by
  obtain ⟨cl, A', h1, h2⟩ := A.at hj hi
  obtain ⟨T', h', X', e', W, st⟩ := stZ X hx hZ eT A' (j := j) (x := x) h1 (g := mkF m pc Ls (.int x :: .int j :: .ref a :: rest)) rfl rfl hd
  rw [(own_cl hj).2] at X' W
  exact ⟨T', h', X', e', W, A.set W, st⟩
theorem own_dast (X : Stand p l e R s m args below meth c T locs cells slots) (hx : p.tables.exec = Jvm.exec) (hZ : Z.Warmed39 s.vm) (eT : T.heap = h) (A : Oar Z h a .double n f) {x : UInt64} (hj : j.toInt = (i : Int)) (hi : i < n) {pc : Nat} {Ls : Array Slot} {rest : List Value} (hd : decode c.code pc = .ok (.dastore, 1)) :
    ∃ T' h', Stand p l e R s m args below meth c T' (locs ++ [⟨a, i⟩]) cells slots ∧ T'.heap = h' ∧ Wr h h' a i (.double x) ∧ Oar Z h' a .double n (fun q => if q = i then .double x else f q) ∧ ∀ t, Steps p.tables e below (T'.setTop (mkF m (pc + 1) Ls rest)) t → Steps p.tables e below (T.setTop (mkF m pc Ls (.double x :: .int j :: .ref a :: rest))) t := by
  obtain ⟨cl, A', h1, h2⟩ := A.at hj hi
  obtain ⟨T', h', X', e', W, st⟩ := stD X hx hZ eT A' (j := j) (x := x) h1 (g := mkF m pc Ls (.double x :: .int j :: .ref a :: rest)) rfl rfl hd
  rw [(own_cl hj).2] at X' W
  exact ⟨T', h', X', e', W, A.set W, st⟩
theorem own_aast (X : Stand p l e R s m args below meth c T locs cells slots) (hx : p.tables.exec = Jvm.exec) (hZ : Z.Warmed39 s.vm) (eT : T.heap = h) (A : Oar Z h a ty n f) (ht : ty.isReference = true) (F : Sto Z h a v) (hj : j.toInt = (i : Int)) (hi : i < n) {pc : Nat} {Ls : Array Slot} {rest : List Value} (hd : decode c.code pc = .ok (.aastore, 1)) :
    ∃ T' h', Stand p l e R s m args below meth c T' (locs ++ [⟨a, i⟩]) cells slots ∧ T'.heap = h' ∧ Wr h h' a i v ∧ Oar Z h' a ty n (fun q => if q = i then v else f q) ∧ ∀ t, Steps p.tables e below (T'.setTop (mkF m (pc + 1) Ls rest)) t → Steps p.tables e below (T.setTop (mkF m pc Ls (v :: .int j :: .ref a :: rest))) t := by
  obtain ⟨cl, A', h1, h2⟩ := A.at hj hi
  obtain ⟨T', h', X', e', W, st⟩ := stR X hx hZ eT A' (j := j) h1 ht F (g := mkF m pc Ls (v :: .int j :: .ref a :: rest)) rfl rfl hd
  rw [(own_cl hj).2] at X' W
  exact ⟨T', h', X', e', W, A.set W, st⟩
theorem own_pref {F : Nat → Value} {d : Value} {i j : Nat} : (if j = i then F i else if j < i then F j else d) = if j < i + 1 then F j else d := by
  by_cases u : j = i
  · subst u; simp
  · rw [if_neg u]
    by_cases w : j < i
    · rw [if_pos w, if_pos (by omega)]
    · rw [if_neg w, if_neg (by omega)]
/-! numbers: comparisons by their values -/
theorem o_lt {x y : Int64} (q : x.toInt < y.toInt) : lcmpW x y < (0 : Int32) := (lw_lt _ _).mpr (Int64.lt_iff_toInt_lt.mpr q)
theorem o_nlt {x y : Int64} (q : y.toInt ≤ x.toInt) : ¬ (lcmpW x y < (0 : Int32)) := fun u => by have := Int64.lt_iff_toInt_lt.mp ((lw_lt _ _).mp u); omega
theorem o_gt {x y : Int64} (q : y.toInt < x.toInt) : (0 : Int32) < lcmpW x y := (lw_gt _ _).mpr (Int64.lt_iff_toInt_lt.mpr q)
theorem o_ngt {x y : Int64} (q : x.toInt ≤ y.toInt) : ¬ ((0 : Int32) < lcmpW x y) := fun u => by have := Int64.lt_iff_toInt_lt.mp ((lw_gt _ _).mp u); omega
theorem o_eq {x y : Int64} (q : x.toInt = y.toInt) : lcmpW x y = (0 : Int32) := (lw_eq _ _).mpr (Int64.toInt_inj.mp q)
theorem o_ne {x y : Int64} (q : x.toInt ≠ y.toInt) : ¬ (lcmpW x y = (0 : Int32)) := fun u => q (congrArg Int64.toInt ((lw_eq _ _).mp u))
theorem i_lt {x y : Int32} (q : x.toInt < y.toInt) : x < y := Int32.lt_iff_toInt_lt.mpr q
theorem i_nlt {x y : Int32} (q : y.toInt ≤ x.toInt) : ¬ (x < y) := fun u => by have := Int32.lt_iff_toInt_lt.mp u; omega
theorem i_eq {x y : Int32} (q : x.toInt = y.toInt) : x = y := Int32.toInt_inj.mp q
theorem i_ne {x y : Int32} (q : x.toInt ≠ y.toInt) : ¬ (x = y) := fun u => q (congrArg Int32.toInt u)
theorem i_lt' {x y : Int32} (q : x < y) : x.toInt < y.toInt := Int32.lt_iff_toInt_lt.mp q
theorem i_nlt' {x y : Int32} (q : ¬ (x < y)) : y.toInt ≤ x.toInt := by rw [Int32.lt_iff_toInt_lt] at q; omega
end Own2
theorem pd_0 : parseMethodDescriptor "([I[II)V" = some ⟨[(.array .int), (.array .int), .int], none⟩ := by decide +kernel
theorem pd_1 : parseMethodDescriptor "(I[III)I" = some ⟨[.int, (.array .int), .int, .int], some .int⟩ := by decide +kernel
theorem pd_2 : parseMethodDescriptor "([I)I" = some ⟨[(.array .int)], some .int⟩ := by decide +kernel
theorem pd_3 : parseMethodDescriptor "(I)I" = some ⟨[.int], some .int⟩ := by decide +kernel
theorem pn_0 : plainName "com/example/surety/surety/lts/StateTableHashPinLaw" = true := by first | (simp [plainName, overriddenIn]; done) | decide +kernel
theorem pn_1 : plainName "com/example/surety/surety/lts/StateTable" = true := by first | (simp [plainName, overriddenIn]; done) | decide +kernel

/-! ## The plain law: Horner's rule, four at a time -/
def own_h (g : Nat → Int32) : Nat → Int32
  | 0 => 0
  | k + 1 => own_h g k * (-1640531535 : Int32) + g k
def own_A (g : Nat → Int32) (r : Nat) : Nat → Int32
  | 0 => 0
  | k + 1 => own_A g r k * (527875265 : Int32) + g (4 * k + r)
theorem own_four (g : Nat → Int32) (k : Nat) : own_h g (4 * k) = own_A g 0 k * (-872142831 : Int32) + own_A g 1 k * (-1651615 : Int32) + own_A g 2 k * (-1640531535 : Int32) + own_A g 3 k := by
  induction k with
  | zero => simp [own_h, own_A]
  | succ k ih =>
    have e : own_h g (4 * (k + 1)) = (((own_h g (4 * k) * (-1640531535 : Int32) + g (4 * k)) * (-1640531535 : Int32) + g (4 * k + 1)) * (-1640531535 : Int32) + g (4 * k + 2)) * (-1640531535 : Int32) + g (4 * k + 3) := rfl
    rw [e, ih]
    have e0 : own_A g 0 (k + 1) = own_A g 0 k * (527875265 : Int32) + g (4 * k) := rfl
    have e1 : own_A g 1 (k + 1) = own_A g 1 k * (527875265 : Int32) + g (4 * k + 1) := rfl
    have e2 : own_A g 2 (k + 1) = own_A g 2 k * (527875265 : Int32) + g (4 * k + 2) := rfl
    have e3 : own_A g 3 (k + 1) = own_A g 3 k * (527875265 : Int32) + g (4 * k + 3) := rfl
    rw [e0, e1, e2, e3]
    generalize own_A g 0 k = a0
    generalize own_A g 1 k = a1
    generalize own_A g 2 k = a2
    generalize own_A g 3 k = a3
    generalize g (4 * k) = x0
    generalize g (4 * k + 1) = x1
    generalize g (4 * k + 2) = x2
    generalize g (4 * k + 3) = x3
    grind
theorem own_hc {g g' : Nat → Int32} {n : Nat} (q : ∀ j, j < n → g j = g' j) : own_h g n = own_h g' n := by
  induction n with
  | zero => rfl
  | succ n ih => show own_h g n * _ + g n = own_h g' n * _ + g' n; rw [ih (fun j hj => q j (by omega)), q n (by omega)]
theorem own_min {g : Nat → Int32} {i n : Nat} : own_h g (min (i + 1) n) = if i < n then own_h g (min i n) * (-1640531535 : Int32) + g i else own_h g (min i n) := by
  split
  · rename_i h
    rw [show min (i + 1) n = i + 1 by omega, show min i n = i by omega]; rfl
  · rename_i h
    rw [show min (i + 1) n = n by omega, show min i n = n by omega]
def own_m1 (x : Int32) : Int32 := x ^^^ ((x.toUInt32 >>> ((16 : Int32) &&& 31).toUInt32).toInt32)
def own_m2 (x : Int32) : Int32 := x ^^^ ((x.toUInt32 >>> ((13 : Int32) &&& 31).toUInt32).toInt32)
def own_mx (x : Int32) : Int32 := own_m1 (own_m2 (own_m1 x * (-2048144789 : Int32)) * (-1028477387 : Int32))
theorem own_ist {Z : State} {h : Heap} {a : Addr} {n i : Nat} {x : Int32} {g : Nat → Int32} (A : Oar Z h a .int n (fun q => if q = i then .int x else .int (g q))) : ∃ g' : Nat → Int32, Oar Z h a .int n (fun q => .int (g' q)) ∧ g' i = x ∧ ∀ q, q ≠ i → g' q = g q :=
  ⟨fun q => if q = i then x else g q, A.cast (fun j _ => by by_cases u : j = i <;> simp [u]), by simp, fun q u => by simp [u]⟩
theorem own_add {p q : Int32} (h1 : -2147483648 ≤ p.toInt + q.toInt) (h2 : p.toInt + q.toInt < 2147483648) : (p + q).toInt = p.toInt + q.toInt := by
  have := c_iadd p q; have := rng32 (p + q); omega
theorem own_len (x : Int32) : ∃ n : Nat, ((x &&& 2147483647) % 11).toInt = (n : Int) ∧ n ≤ 10 := by
  have h := c_mask x 2147483647 31 (by decide) (by decide)
  have h0 : 0 ≤ (x &&& 2147483647).toInt := by
    have : (0 : Int) < ((2 ^ 31 : Nat) : Int) := by decide
    rw [h]; omega
  have h1 := (c_irem (x &&& 2147483647) 11 11 rfl).1 h0
  exact ⟨((x &&& 2147483647) % 11).toInt.toNat, by omega, by omega⟩
theorem d4_0 : decode method_5_code 0 = .ok (.iload_n 0, 1) := by decide +kernel
theorem d4_1 : decode method_5_code 1 = .ok (.istore_n 1, 1) := by decide +kernel
theorem d4_2 : decode method_5_code 2 = .ok (.iload_n 1, 1) := by decide +kernel
theorem d4_3 : decode method_5_code 3 = .ok (.iload_n 1, 1) := by decide +kernel
theorem d4_4 : decode method_5_code 4 = .ok (.bipush 16, 2) := by decide +kernel
theorem d4_6 : decode method_5_code 6 = .ok (.iushr, 1) := by decide +kernel
theorem d4_7 : decode method_5_code 7 = .ok (.ixor, 1) := by decide +kernel
theorem d4_8 : decode method_5_code 8 = .ok (.istore_n 1, 1) := by decide +kernel
theorem d4_9 : decode method_5_code 9 = .ok (.iload_n 1, 1) := by decide +kernel
theorem d4_10 : decode method_5_code 10 = .ok (.ldc 29, 2) := by decide +kernel
theorem d4_12 : decode method_5_code 12 = .ok (.imul, 1) := by decide +kernel
theorem d4_13 : decode method_5_code 13 = .ok (.istore_n 1, 1) := by decide +kernel
theorem d4_14 : decode method_5_code 14 = .ok (.iload_n 1, 1) := by decide +kernel
theorem d4_15 : decode method_5_code 15 = .ok (.iload_n 1, 1) := by decide +kernel
theorem d4_16 : decode method_5_code 16 = .ok (.bipush 13, 2) := by decide +kernel
theorem d4_18 : decode method_5_code 18 = .ok (.iushr, 1) := by decide +kernel
theorem d4_19 : decode method_5_code 19 = .ok (.ixor, 1) := by decide +kernel
theorem d4_20 : decode method_5_code 20 = .ok (.istore_n 1, 1) := by decide +kernel
theorem d4_21 : decode method_5_code 21 = .ok (.iload_n 1, 1) := by decide +kernel
theorem d4_22 : decode method_5_code 22 = .ok (.ldc 30, 2) := by decide +kernel
theorem d4_24 : decode method_5_code 24 = .ok (.imul, 1) := by decide +kernel
theorem d4_25 : decode method_5_code 25 = .ok (.istore_n 1, 1) := by decide +kernel
theorem d4_26 : decode method_5_code 26 = .ok (.iload_n 1, 1) := by decide +kernel
theorem d4_27 : decode method_5_code 27 = .ok (.iload_n 1, 1) := by decide +kernel
theorem d4_28 : decode method_5_code 28 = .ok (.bipush 16, 2) := by decide +kernel
theorem d4_30 : decode method_5_code 30 = .ok (.iushr, 1) := by decide +kernel
theorem d4_31 : decode method_5_code 31 = .ok (.ixor, 1) := by decide +kernel
theorem d4_32 : decode method_5_code 32 = .ok (.ireturn, 1) := by decide +kernel
set_option maxRecDepth 65536 in
set_option maxHeartbeats 40000000 in
theorem rm_mx {l : Launch} {Z : State} {a0 : Array Value} (hw : ∀ d ∈ tables_1, d.before a0 Z = true) (y : Int32) (h0 : Heap) (n0 : Nat)  :
    Opays l (⟨"com/example/surety/surety/lts/StateTableHashPinLaw", "mix", "(I)I"⟩ : MethodName) method_5_code 2 (some .int) ({ frames := 0, cells := 0, slots := 0, locals := 0 } : Room) [] Z h0 #[(.int y)] (fun v h L => v = some (.int (own_mx y)) ∧ Fr n0 L ∧ h = h0) := by
  refine own_enter (plainFor_of_name pn_0) ?_
  intro p e s m below meth c s₁ hx hby hml0 hown hnm hret hlk hZ e0 X0
  have hml : c.maxLocals = 2 := hml0
  replace hown : s.vm.findClass "com/example/surety/surety/lts/StateTableHashPinLaw" = some m.cls := hown
  have N := Fr.nil n0
  have hef : entryFrame m #[(.int y)] 2 = mkF m 0 #[.val (.int y), .unset] [] := by first | (simp [entryFrame, mkF, argsToLocals, Value.category]; done) | rfl
  rw [hef]
  show Ogo p e below _ (s₁.setTop (mkF m 0 #[.val (.int y), .unset] []))
  refine own_via (fun tq kq => XS.iloadN X0.here hx rfl (hb hby d4_0) rfl kq) ?_
  show Ogo p e below _ (s₁.setTop (mkF m 1 #[.val (.int y), .unset] [(.int y)]))
  refine own_via (fun tq kq => XS.istoreN X0.here hx rfl (hb hby d4_1) rfl (l' := #[.val (.int y), .val (.int y)]) rfl kq) ?_
  show Ogo p e below _ (s₁.setTop (mkF m 2 #[.val (.int y), .val (.int y)] []))
  refine own_via (fun tq kq => XS.iloadN X0.here hx rfl (hb hby d4_2) rfl kq) ?_
  show Ogo p e below _ (s₁.setTop (mkF m 3 #[.val (.int y), .val (.int y)] [(.int y)]))
  refine own_via (fun tq kq => XS.iloadN X0.here hx rfl (hb hby d4_3) rfl kq) ?_
  show Ogo p e below _ (s₁.setTop (mkF m 4 #[.val (.int y), .val (.int y)] [(.int y), (.int y)]))
  refine own_via (fun tq kq => XS.bipush X0.here hx rfl (hb hby d4_4) kq) ?_
  show Ogo p e below _ (s₁.setTop (mkF m 6 #[.val (.int y), .val (.int y)] [(.int (16 : Int32)), (.int y), (.int y)]))
  refine own_via (fun tq kq => XS.iushr X0.here hx rfl (hb hby d4_6) rfl kq) ?_
  show Ogo p e below _ (s₁.setTop (mkF m 7 #[.val (.int y), .val (.int y)] [(.int ((y.toUInt32 >>> ((16 : Int32) &&& 31).toUInt32).toInt32)), (.int y)]))
  refine own_via (fun tq kq => XS.ixor X0.here hx rfl (hb hby d4_7) rfl kq) ?_
  show Ogo p e below _ (s₁.setTop (mkF m 8 #[.val (.int y), .val (.int y)] [(.int (y ^^^ ((y.toUInt32 >>> ((16 : Int32) &&& 31).toUInt32).toInt32)))]))
  refine own_via (fun tq kq => XS.istoreN X0.here hx rfl (hb hby d4_8) rfl (l' := #[.val (.int y), .val (.int (y ^^^ ((y.toUInt32 >>> ((16 : Int32) &&& 31).toUInt32).toInt32)))]) rfl kq) ?_
  show Ogo p e below _ (s₁.setTop (mkF m 9 #[.val (.int y), .val (.int (y ^^^ ((y.toUInt32 >>> ((16 : Int32) &&& 31).toUInt32).toInt32)))] []))
  refine own_via (fun tq kq => XS.iloadN X0.here hx rfl (hb hby d4_9) rfl kq) ?_
  show Ogo p e below _ (s₁.setTop (mkF m 10 #[.val (.int y), .val (.int (y ^^^ ((y.toUInt32 >>> ((16 : Int32) &&& 31).toUInt32).toInt32)))] [(.int (y ^^^ ((y.toUInt32 >>> ((16 : Int32) &&& 31).toUInt32).toInt32)))]))
  refine own_via (fun tq kq => X0.ldcInt hx hown (mvT hZ (hw _ (List.mem_of_getElem? (i := 21) rfl))) (g := (mkF m 10 #[.val (.int y), .val (.int (y ^^^ ((y.toUInt32 >>> ((16 : Int32) &&& 31).toUInt32).toInt32)))] [(.int (y ^^^ ((y.toUInt32 >>> ((16 : Int32) &&& 31).toUInt32).toInt32)))])) rfl (hb hby d4_10) _ kq) ?_
  show Ogo p e below _ (s₁.setTop (mkF m 12 #[.val (.int y), .val (.int (y ^^^ ((y.toUInt32 >>> ((16 : Int32) &&& 31).toUInt32).toInt32)))] [(.int (-2048144789 : Int32)), (.int (y ^^^ ((y.toUInt32 >>> ((16 : Int32) &&& 31).toUInt32).toInt32)))]))
  refine own_via (fun tq kq => XS.imul X0.here hx rfl (hb hby d4_12) rfl kq) ?_
  show Ogo p e below _ (s₁.setTop (mkF m 13 #[.val (.int y), .val (.int (y ^^^ ((y.toUInt32 >>> ((16 : Int32) &&& 31).toUInt32).toInt32)))] [(.int ((y ^^^ ((y.toUInt32 >>> ((16 : Int32) &&& 31).toUInt32).toInt32)) * (-2048144789 : Int32)))]))
  refine own_via (fun tq kq => XS.istoreN X0.here hx rfl (hb hby d4_13) rfl (l' := #[.val (.int y), .val (.int ((y ^^^ ((y.toUInt32 >>> ((16 : Int32) &&& 31).toUInt32).toInt32)) * (-2048144789 : Int32)))]) rfl kq) ?_
  show Ogo p e below _ (s₁.setTop (mkF m 14 #[.val (.int y), .val (.int ((y ^^^ ((y.toUInt32 >>> ((16 : Int32) &&& 31).toUInt32).toInt32)) * (-2048144789 : Int32)))] []))
  obtain ⟨y1, hy1⟩ : ∃ z, z = ((y ^^^ ((y.toUInt32 >>> ((16 : Int32) &&& 31).toUInt32).toInt32)) * (-2048144789 : Int32)) := ⟨_, rfl⟩
  rw [← hy1]
  show Ogo p e below _ (s₁.setTop (mkF m 14 #[.val (.int y), .val (.int y1)] []))
  refine own_via (fun tq kq => XS.iloadN X0.here hx rfl (hb hby d4_14) rfl kq) ?_
  show Ogo p e below _ (s₁.setTop (mkF m 15 #[.val (.int y), .val (.int y1)] [(.int y1)]))
  refine own_via (fun tq kq => XS.iloadN X0.here hx rfl (hb hby d4_15) rfl kq) ?_
  show Ogo p e below _ (s₁.setTop (mkF m 16 #[.val (.int y), .val (.int y1)] [(.int y1), (.int y1)]))
  refine own_via (fun tq kq => XS.bipush X0.here hx rfl (hb hby d4_16) kq) ?_
  show Ogo p e below _ (s₁.setTop (mkF m 18 #[.val (.int y), .val (.int y1)] [(.int (13 : Int32)), (.int y1), (.int y1)]))
  refine own_via (fun tq kq => XS.iushr X0.here hx rfl (hb hby d4_18) rfl kq) ?_
  show Ogo p e below _ (s₁.setTop (mkF m 19 #[.val (.int y), .val (.int y1)] [(.int ((y1.toUInt32 >>> ((13 : Int32) &&& 31).toUInt32).toInt32)), (.int y1)]))
  refine own_via (fun tq kq => XS.ixor X0.here hx rfl (hb hby d4_19) rfl kq) ?_
  show Ogo p e below _ (s₁.setTop (mkF m 20 #[.val (.int y), .val (.int y1)] [(.int (y1 ^^^ ((y1.toUInt32 >>> ((13 : Int32) &&& 31).toUInt32).toInt32)))]))
  refine own_via (fun tq kq => XS.istoreN X0.here hx rfl (hb hby d4_20) rfl (l' := #[.val (.int y), .val (.int (y1 ^^^ ((y1.toUInt32 >>> ((13 : Int32) &&& 31).toUInt32).toInt32)))]) rfl kq) ?_
  show Ogo p e below _ (s₁.setTop (mkF m 21 #[.val (.int y), .val (.int (y1 ^^^ ((y1.toUInt32 >>> ((13 : Int32) &&& 31).toUInt32).toInt32)))] []))
  refine own_via (fun tq kq => XS.iloadN X0.here hx rfl (hb hby d4_21) rfl kq) ?_
  show Ogo p e below _ (s₁.setTop (mkF m 22 #[.val (.int y), .val (.int (y1 ^^^ ((y1.toUInt32 >>> ((13 : Int32) &&& 31).toUInt32).toInt32)))] [(.int (y1 ^^^ ((y1.toUInt32 >>> ((13 : Int32) &&& 31).toUInt32).toInt32)))]))
  refine own_via (fun tq kq => X0.ldcInt hx hown (mvT hZ (hw _ (List.mem_of_getElem? (i := 22) rfl))) (g := (mkF m 22 #[.val (.int y), .val (.int (y1 ^^^ ((y1.toUInt32 >>> ((13 : Int32) &&& 31).toUInt32).toInt32)))] [(.int (y1 ^^^ ((y1.toUInt32 >>> ((13 : Int32) &&& 31).toUInt32).toInt32)))])) rfl (hb hby d4_22) _ kq) ?_
  show Ogo p e below _ (s₁.setTop (mkF m 24 #[.val (.int y), .val (.int (y1 ^^^ ((y1.toUInt32 >>> ((13 : Int32) &&& 31).toUInt32).toInt32)))] [(.int (-1028477387 : Int32)), (.int (y1 ^^^ ((y1.toUInt32 >>> ((13 : Int32) &&& 31).toUInt32).toInt32)))]))
  refine own_via (fun tq kq => XS.imul X0.here hx rfl (hb hby d4_24) rfl kq) ?_
  show Ogo p e below _ (s₁.setTop (mkF m 25 #[.val (.int y), .val (.int (y1 ^^^ ((y1.toUInt32 >>> ((13 : Int32) &&& 31).toUInt32).toInt32)))] [(.int ((y1 ^^^ ((y1.toUInt32 >>> ((13 : Int32) &&& 31).toUInt32).toInt32)) * (-1028477387 : Int32)))]))
  refine own_via (fun tq kq => XS.istoreN X0.here hx rfl (hb hby d4_25) rfl (l' := #[.val (.int y), .val (.int ((y1 ^^^ ((y1.toUInt32 >>> ((13 : Int32) &&& 31).toUInt32).toInt32)) * (-1028477387 : Int32)))]) rfl kq) ?_
  show Ogo p e below _ (s₁.setTop (mkF m 26 #[.val (.int y), .val (.int ((y1 ^^^ ((y1.toUInt32 >>> ((13 : Int32) &&& 31).toUInt32).toInt32)) * (-1028477387 : Int32)))] []))
  obtain ⟨y2, hy2⟩ : ∃ z, z = ((y1 ^^^ ((y1.toUInt32 >>> ((13 : Int32) &&& 31).toUInt32).toInt32)) * (-1028477387 : Int32)) := ⟨_, rfl⟩
  rw [← hy2]
  show Ogo p e below _ (s₁.setTop (mkF m 26 #[.val (.int y), .val (.int y2)] []))
  refine own_via (fun tq kq => XS.iloadN X0.here hx rfl (hb hby d4_26) rfl kq) ?_
  show Ogo p e below _ (s₁.setTop (mkF m 27 #[.val (.int y), .val (.int y2)] [(.int y2)]))
  refine own_via (fun tq kq => XS.iloadN X0.here hx rfl (hb hby d4_27) rfl kq) ?_
  show Ogo p e below _ (s₁.setTop (mkF m 28 #[.val (.int y), .val (.int y2)] [(.int y2), (.int y2)]))
  refine own_via (fun tq kq => XS.bipush X0.here hx rfl (hb hby d4_28) kq) ?_
  show Ogo p e below _ (s₁.setTop (mkF m 30 #[.val (.int y), .val (.int y2)] [(.int (16 : Int32)), (.int y2), (.int y2)]))
  refine own_via (fun tq kq => XS.iushr X0.here hx rfl (hb hby d4_30) rfl kq) ?_
  show Ogo p e below _ (s₁.setTop (mkF m 31 #[.val (.int y), .val (.int y2)] [(.int ((y2.toUInt32 >>> ((16 : Int32) &&& 31).toUInt32).toInt32)), (.int y2)]))
  refine own_via (fun tq kq => XS.ixor X0.here hx rfl (hb hby d4_31) rfl kq) ?_
  show Ogo p e below _ (s₁.setTop (mkF m 32 #[.val (.int y), .val (.int y2)] [(.int (y2 ^^^ ((y2.toUInt32 >>> ((16 : Int32) &&& 31).toUInt32).toInt32)))]))
  exact own_out X0 hlk (fun h => by rw [hret] at h; cases h) (by decide) (by decide) (by first | exact ⟨by rw [hy2, hy1]; rfl, N, rfl⟩ | (rw [e0]; exact ⟨by rw [hy2, hy1]; rfl, N, rfl⟩)) (fun fs hr => retI X0 hx hret (hb hby d4_32) hr)
theorem d1_0 : decode method_3_code 0 = .ok (.iload_n 2, 1) := by decide +kernel
theorem d1_1 : decode method_3_code 1 = .ok (.aload_n 0, 1) := by decide +kernel
theorem d1_2 : decode method_3_code 2 = .ok (.arraylength, 1) := by decide +kernel
theorem d1_3 : decode method_3_code 3 = .ok (.if_icmp .ge 9, 3) := by decide +kernel
theorem d1_6 : decode method_3_code 6 = .ok (.aload_n 0, 1) := by decide +kernel
theorem d1_7 : decode method_3_code 7 = .ok (.iload_n 2, 1) := by decide +kernel
theorem d1_8 : decode method_3_code 8 = .ok (.aload_n 1, 1) := by decide +kernel
theorem d1_9 : decode method_3_code 9 = .ok (.iload_n 2, 1) := by decide +kernel
theorem d1_10 : decode method_3_code 10 = .ok (.iaload, 1) := by decide +kernel
theorem d1_11 : decode method_3_code 11 = .ok (.iastore, 1) := by decide +kernel
theorem d1_12 : decode method_3_code 12 = .ok (.return_, 1) := by decide +kernel
set_option maxRecDepth 65536 in
set_option maxHeartbeats 40000000 in
theorem rm_cp {l : Launch} {Z : State} {a0 : Array Value} (hw : ∀ d ∈ tables_1, d.before a0 Z = true) (ta va : Addr) (iv : Int32) (i n : Nat) (gt gv : Nat → Int32) (h0 : Heap) (n0 : Nat) (A_ta : Oar Z h0 ta .int n (fun q => .int (gt q))) (A_va : Oar Z h0 va .int 10 (fun q => .int (gv q))) (hne : va ≠ ta) (g_ta : n0 ≤ ta) (hi : iv.toInt = (i : Int)) (hi9 : i < 10) (hn : n ≤ 10) (hp : ∀ q, q < i → q < n → gt q = gv q) :
    Opays l (⟨"com/example/surety/surety/lts/StateTableHashPinLaw", "copy", "([I[II)V"⟩ : MethodName) method_3_code 3 none ({ frames := 0, cells := 0, slots := 0, locals := 0 } : Room) [] Z h0 #[(.ref ta), (.ref va), (.int iv)] (fun v h L => v = none ∧ Fr n0 L ∧ Keep h0 h [ta] ∧ ∃ g' : Nat → Int32, Oar Z h ta .int n (fun q => .int (g' q)) ∧ ∀ q, q < i + 1 → q < n → g' q = gv q) := by
  refine own_enter (plainFor_of_name pn_0) ?_
  intro p e s m below meth c s₁ hx hby hml0 hown hnm hret hlk hZ e0 X0
  have hml : c.maxLocals = 3 := hml0
  replace hown : s.vm.findClass "com/example/surety/surety/lts/StateTableHashPinLaw" = some m.cls := hown
  have N := Fr.nil n0
  have hef : entryFrame m #[(.ref ta), (.ref va), (.int iv)] 3 = mkF m 0 #[.val (.ref ta), .val (.ref va), .val (.int iv)] [] := by first | (simp [entryFrame, mkF, argsToLocals, Value.category]; done) | rfl
  rw [hef]
  show Ogo p e below _ (s₁.setTop (mkF m 0 #[.val (.ref ta), .val (.ref va), .val (.int iv)] []))
  have K := Keep.refl h0 [ta]
  obtain ⟨zn, hzn⟩ : ∃ z : Int32, z.toInt = (n : Int) := ⟨Int32.ofNat n, Int32.toInt_ofNat_small (by omega)⟩
  refine own_via (fun tq kq => XS.iloadN X0.here hx rfl (hb hby d1_0) rfl kq) ?_
  show Ogo p e below _ (s₁.setTop (mkF m 1 #[.val (.ref ta), .val (.ref va), .val (.int iv)] [(.int iv)]))
  refine own_via (fun tq kq => XS.aloadN X0.here hx rfl (hb hby d1_1) rfl rfl kq) ?_
  show Ogo p e below _ (s₁.setTop (mkF m 2 #[.val (.ref ta), .val (.ref va), .val (.int iv)] [(.ref ta), (.int iv)]))
  refine own_alen X0 hx hZ e0 A_ta (z := zn) hzn (hb hby d1_2) ?_
  show Ogo p e below _ (s₁.setTop (mkF m 3 #[.val (.ref ta), .val (.ref va), .val (.int iv)] [(.int zn), (.int iv)]))
  by_cases hc3 : iv < zn
  · refine own_via (fun tq kq => XS.icmpNo X0.here hx rfl (hb hby d1_3) rfl (tlt (hc3 : iv < zn)).2.1 kq) ?_
    show Ogo p e below _ (s₁.setTop (mkF m 6 #[.val (.ref ta), .val (.ref va), .val (.int iv)] []))
    refine own_via (fun tq kq => XS.aloadN X0.here hx rfl (hb hby d1_6) rfl rfl kq) ?_
    show Ogo p e below _ (s₁.setTop (mkF m 7 #[.val (.ref ta), .val (.ref va), .val (.int iv)] [(.ref ta)]))
    refine own_via (fun tq kq => XS.iloadN X0.here hx rfl (hb hby d1_7) rfl kq) ?_
    show Ogo p e below _ (s₁.setTop (mkF m 8 #[.val (.ref ta), .val (.ref va), .val (.int iv)] [(.int iv), (.ref ta)]))
    refine own_via (fun tq kq => XS.aloadN X0.here hx rfl (hb hby d1_8) rfl rfl kq) ?_
    show Ogo p e below _ (s₁.setTop (mkF m 9 #[.val (.ref ta), .val (.ref va), .val (.int iv)] [(.ref va), (.int iv), (.ref ta)]))
    refine own_via (fun tq kq => XS.iloadN X0.here hx rfl (hb hby d1_9) rfl kq) ?_
    show Ogo p e below _ (s₁.setTop (mkF m 10 #[.val (.ref ta), .val (.ref va), .val (.int iv)] [(.int iv), (.ref va), (.int iv), (.ref ta)]))
    refine own_iald X0 hx hZ e0 A_va (j := iv) (i := i) (v := (.int (gv i))) hi hi9 rfl (hb hby d1_10) ?_
    show Ogo p e below _ (s₁.setTop (mkF m 11 #[.val (.ref ta), .val (.ref va), .val (.int iv)] [(.int (gv i)), (.int iv), (.ref ta)]))
    obtain ⟨T1, h1, X1, e1, W1, A_ta', st1⟩ := own_iast X0 hx hZ e0 A_ta (x := (gv i)) (j := iv) (i := i) hi (by have := i_lt' hc3; omega) (pc := 11) (Ls := #[.val (.ref ta), .val (.ref va), .val (.int iv)]) (rest := []) (hb hby d1_11)
    refine own_via st1 ?_
    have A_va := A_va.other W1 hne
    have K := K.wr W1 (Or.inl (List.mem_of_getElem? (i := 0) rfl))
    have N := Fr.snoc X1 N g_ta
    have A_ta := A_ta'
    show Ogo p e below _ (T1.setTop (mkF m 12 #[.val (.ref ta), .val (.ref va), .val (.int iv)] []))
    obtain ⟨g', A_ta, k1, k2⟩ := own_ist A_ta
    exact own_out X1 hlk (fun _ => rfl) (by decide) (by decide) (by first | exact ⟨rfl, N, K, g', A_ta, fun q h1 h2 => (Decidable.em (q = i)).elim (fun u => by rw [u, k1]) (fun u => by rw [k2 q u]; exact hp q (by omega) h2)⟩ | (rw [e1]; exact ⟨rfl, N, K, g', A_ta, fun q h1 h2 => (Decidable.em (q = i)).elim (fun u => by rw [u, k1]) (fun u => by rw [k2 q u]; exact hp q (by omega) h2)⟩)) (fun fs hr => X1.returnOut hx hret (hb hby d1_12) hr)
  · refine own_via (fun tq kq => XS.icmpYes X0.here hx rfl (pc0 := 3) (pc' := 12) rfl (hb hby d1_3) rfl (flt (hc3 : ¬ (iv < zn))).2.1 (by decide) (by decide) kq) ?_
    show Ogo p e below _ (s₁.setTop (mkF m 12 #[.val (.ref ta), .val (.ref va), .val (.int iv)] []))
    exact own_out X0 hlk (fun _ => rfl) (by decide) (by decide) (by first | exact ⟨rfl, N, K, gt, A_ta, fun q h1 h2 => hp q (by have := i_nlt' hc3; omega) h2⟩ | (rw [e0]; exact ⟨rfl, N, K, gt, A_ta, fun q h1 h2 => hp q (by have := i_nlt' hc3; omega) h2⟩)) (fun fs hr => X0.returnOut hx hret (hb hby d1_12) hr)
theorem d2_0 : decode method_4_code 0 = .ok (.iload_n 2, 1) := by decide +kernel
theorem d2_1 : decode method_4_code 1 = .ok (.iload_n 3, 1) := by decide +kernel
theorem d2_2 : decode method_4_code 2 = .ok (.if_icmp .ge 12, 3) := by decide +kernel
theorem d2_5 : decode method_4_code 5 = .ok (.iload_n 0, 1) := by decide +kernel
theorem d2_6 : decode method_4_code 6 = .ok (.ldc 28, 2) := by decide +kernel
theorem d2_8 : decode method_4_code 8 = .ok (.imul, 1) := by decide +kernel
theorem d2_9 : decode method_4_code 9 = .ok (.aload_n 1, 1) := by decide +kernel
theorem d2_10 : decode method_4_code 10 = .ok (.iload_n 2, 1) := by decide +kernel
theorem d2_11 : decode method_4_code 11 = .ok (.iaload, 1) := by decide +kernel
theorem d2_12 : decode method_4_code 12 = .ok (.iadd, 1) := by decide +kernel
theorem d2_13 : decode method_4_code 13 = .ok (.ireturn, 1) := by decide +kernel
theorem d2_14 : decode method_4_code 14 = .ok (.iload_n 0, 1) := by decide +kernel
theorem d2_15 : decode method_4_code 15 = .ok (.ireturn, 1) := by decide +kernel
set_option maxRecDepth 65536 in
set_option maxHeartbeats 40000000 in
theorem rm_st {l : Launch} {Z : State} {a0 : Array Value} (hw : ∀ d ∈ tables_1, d.before a0 Z = true) (va : Addr) (iv zn : Int32) (i n : Nat) (gv : Nat → Int32) (h0 : Heap) (n0 : Nat) (A_va : Oar Z h0 va .int 10 (fun q => .int (gv q))) (hi : iv.toInt = (i : Int)) (hi9 : i < 10) (hzn : zn.toInt = (n : Int)) :
    Opays l (⟨"com/example/surety/surety/lts/StateTableHashPinLaw", "step", "(I[III)I"⟩ : MethodName) method_4_code 4 (some .int) ({ frames := 0, cells := 0, slots := 0, locals := 0 } : Room) [] Z h0 #[(.int (own_h gv (min i n))), (.ref va), (.int iv), (.int zn)] (fun v h L => v = some (.int (own_h gv (min (i + 1) n))) ∧ Fr n0 L ∧ h = h0) := by
  refine own_enter (plainFor_of_name pn_0) ?_
  intro p e s m below meth c s₁ hx hby hml0 hown hnm hret hlk hZ e0 X0
  have hml : c.maxLocals = 4 := hml0
  replace hown : s.vm.findClass "com/example/surety/surety/lts/StateTableHashPinLaw" = some m.cls := hown
  have N := Fr.nil n0
  have hef : entryFrame m #[(.int (own_h gv (min i n))), (.ref va), (.int iv), (.int zn)] 4 = mkF m 0 #[.val (.int (own_h gv (min i n))), .val (.ref va), .val (.int iv), .val (.int zn)] [] := by first | (simp [entryFrame, mkF, argsToLocals, Value.category]; done) | rfl
  rw [hef]
  show Ogo p e below _ (s₁.setTop (mkF m 0 #[.val (.int (own_h gv (min i n))), .val (.ref va), .val (.int iv), .val (.int zn)] []))
  refine own_via (fun tq kq => XS.iloadN X0.here hx rfl (hb hby d2_0) rfl kq) ?_
  show Ogo p e below _ (s₁.setTop (mkF m 1 #[.val (.int (own_h gv (min i n))), .val (.ref va), .val (.int iv), .val (.int zn)] [(.int iv)]))
  refine own_via (fun tq kq => XS.iloadN X0.here hx rfl (hb hby d2_1) rfl kq) ?_
  show Ogo p e below _ (s₁.setTop (mkF m 2 #[.val (.int (own_h gv (min i n))), .val (.ref va), .val (.int iv), .val (.int zn)] [(.int zn), (.int iv)]))
  by_cases hc2 : iv < zn
  · refine own_via (fun tq kq => XS.icmpNo X0.here hx rfl (hb hby d2_2) rfl (tlt (hc2 : iv < zn)).2.1 kq) ?_
    show Ogo p e below _ (s₁.setTop (mkF m 5 #[.val (.int (own_h gv (min i n))), .val (.ref va), .val (.int iv), .val (.int zn)] []))
    refine own_via (fun tq kq => XS.iloadN X0.here hx rfl (hb hby d2_5) rfl kq) ?_
    show Ogo p e below _ (s₁.setTop (mkF m 6 #[.val (.int (own_h gv (min i n))), .val (.ref va), .val (.int iv), .val (.int zn)] [(.int (own_h gv (min i n)))]))
    refine own_via (fun tq kq => X0.ldcInt hx hown (mvT hZ (hw _ (List.mem_of_getElem? (i := 23) rfl))) (g := (mkF m 6 #[.val (.int (own_h gv (min i n))), .val (.ref va), .val (.int iv), .val (.int zn)] [(.int (own_h gv (min i n)))])) rfl (hb hby d2_6) _ kq) ?_
    show Ogo p e below _ (s₁.setTop (mkF m 8 #[.val (.int (own_h gv (min i n))), .val (.ref va), .val (.int iv), .val (.int zn)] [(.int (-1640531535 : Int32)), (.int (own_h gv (min i n)))]))
    refine own_via (fun tq kq => XS.imul X0.here hx rfl (hb hby d2_8) rfl kq) ?_
    show Ogo p e below _ (s₁.setTop (mkF m 9 #[.val (.int (own_h gv (min i n))), .val (.ref va), .val (.int iv), .val (.int zn)] [(.int ((own_h gv (min i n)) * (-1640531535 : Int32)))]))
    refine own_via (fun tq kq => XS.aloadN X0.here hx rfl (hb hby d2_9) rfl rfl kq) ?_
    show Ogo p e below _ (s₁.setTop (mkF m 10 #[.val (.int (own_h gv (min i n))), .val (.ref va), .val (.int iv), .val (.int zn)] [(.ref va), (.int ((own_h gv (min i n)) * (-1640531535 : Int32)))]))
    refine own_via (fun tq kq => XS.iloadN X0.here hx rfl (hb hby d2_10) rfl kq) ?_
    show Ogo p e below _ (s₁.setTop (mkF m 11 #[.val (.int (own_h gv (min i n))), .val (.ref va), .val (.int iv), .val (.int zn)] [(.int iv), (.ref va), (.int ((own_h gv (min i n)) * (-1640531535 : Int32)))]))
    refine own_iald X0 hx hZ e0 A_va (j := iv) (i := i) (v := (.int (gv i))) hi hi9 rfl (hb hby d2_11) ?_
    show Ogo p e below _ (s₁.setTop (mkF m 12 #[.val (.int (own_h gv (min i n))), .val (.ref va), .val (.int iv), .val (.int zn)] [(.int (gv i)), (.int ((own_h gv (min i n)) * (-1640531535 : Int32)))]))
    refine own_via (fun tq kq => XS.iadd X0.here hx rfl (hb hby d2_12) rfl kq) ?_
    show Ogo p e below _ (s₁.setTop (mkF m 13 #[.val (.int (own_h gv (min i n))), .val (.ref va), .val (.int iv), .val (.int zn)] [(.int (((own_h gv (min i n)) * (-1640531535 : Int32)) + (gv i)))]))
    exact own_out X0 hlk (fun h => by rw [hret] at h; cases h) (by decide) (by decide) (by first | exact ⟨by rw [own_min, if_pos (by have := i_lt' hc2; omega)], N, rfl⟩ | (rw [e0]; exact ⟨by rw [own_min, if_pos (by have := i_lt' hc2; omega)], N, rfl⟩)) (fun fs hr => retI X0 hx hret (hb hby d2_13) hr)
  · refine own_via (fun tq kq => XS.icmpYes X0.here hx rfl (pc0 := 2) (pc' := 14) rfl (hb hby d2_2) rfl (flt (hc2 : ¬ (iv < zn))).2.1 (by decide) (by decide) kq) ?_
    show Ogo p e below _ (s₁.setTop (mkF m 14 #[.val (.int (own_h gv (min i n))), .val (.ref va), .val (.int iv), .val (.int zn)] []))
    refine own_via (fun tq kq => XS.iloadN X0.here hx rfl (hb hby d2_14) rfl kq) ?_
    show Ogo p e below _ (s₁.setTop (mkF m 15 #[.val (.int (own_h gv (min i n))), .val (.ref va), .val (.int iv), .val (.int zn)] [(.int (own_h gv (min i n)))]))
    exact own_out X0 hlk (fun h => by rw [hret] at h; cases h) (by decide) (by decide) (by first | exact ⟨by rw [own_min, if_neg (by have := i_nlt' hc2; omega)], N, rfl⟩ | (rw [e0]; exact ⟨by rw [own_min, if_neg (by have := i_nlt' hc2; omega)], N, rfl⟩)) (fun fs hr => retI X0 hx hret (hb hby d2_15) hr)
theorem d3_0 : decode prog_239_method_16_code 0 = .ok (.iconst 0, 1) := by decide +kernel
theorem d3_1 : decode prog_239_method_16_code 1 = .ok (.istore_n 1, 1) := by decide +kernel
theorem d3_2 : decode prog_239_method_16_code 2 = .ok (.iconst 0, 1) := by decide +kernel
theorem d3_3 : decode prog_239_method_16_code 3 = .ok (.istore_n 2, 1) := by decide +kernel
theorem d3_4 : decode prog_239_method_16_code 4 = .ok (.iconst 0, 1) := by decide +kernel
theorem d3_5 : decode prog_239_method_16_code 5 = .ok (.istore_n 3, 1) := by decide +kernel
theorem d3_6 : decode prog_239_method_16_code 6 = .ok (.iconst 0, 1) := by decide +kernel
theorem d3_7 : decode prog_239_method_16_code 7 = .ok (.istore 4, 2) := by decide +kernel
theorem d3_9 : decode prog_239_method_16_code 9 = .ok (.iconst 0, 1) := by decide +kernel
theorem d3_10 : decode prog_239_method_16_code 10 = .ok (.istore 5, 2) := by decide +kernel
theorem d3_12 : decode prog_239_method_16_code 12 = .ok (.iload 5, 2) := by decide +kernel
theorem d3_14 : decode prog_239_method_16_code 14 = .ok (.iconst 3, 1) := by decide +kernel
theorem d3_15 : decode prog_239_method_16_code 15 = .ok (.iadd, 1) := by decide +kernel
theorem d3_16 : decode prog_239_method_16_code 16 = .ok (.aload_n 0, 1) := by decide +kernel
theorem d3_17 : decode prog_239_method_16_code 17 = .ok (.arraylength, 1) := by decide +kernel
theorem d3_18 : decode prog_239_method_16_code 18 = .ok (.if_icmp .ge 57, 3) := by decide +kernel
theorem d3_21 : decode prog_239_method_16_code 21 = .ok (.iload_n 1, 1) := by decide +kernel
theorem d3_22 : decode prog_239_method_16_code 22 = .ok (.ldc 123, 2) := by decide +kernel
theorem d3_24 : decode prog_239_method_16_code 24 = .ok (.imul, 1) := by decide +kernel
theorem d3_25 : decode prog_239_method_16_code 25 = .ok (.aload_n 0, 1) := by decide +kernel
theorem d3_26 : decode prog_239_method_16_code 26 = .ok (.iload 5, 2) := by decide +kernel
theorem d3_28 : decode prog_239_method_16_code 28 = .ok (.iaload, 1) := by decide +kernel
theorem d3_29 : decode prog_239_method_16_code 29 = .ok (.iadd, 1) := by decide +kernel
theorem d3_30 : decode prog_239_method_16_code 30 = .ok (.istore_n 1, 1) := by decide +kernel
theorem d3_31 : decode prog_239_method_16_code 31 = .ok (.iload_n 2, 1) := by decide +kernel
theorem d3_32 : decode prog_239_method_16_code 32 = .ok (.ldc 123, 2) := by decide +kernel
theorem d3_34 : decode prog_239_method_16_code 34 = .ok (.imul, 1) := by decide +kernel
theorem d3_35 : decode prog_239_method_16_code 35 = .ok (.aload_n 0, 1) := by decide +kernel
theorem d3_36 : decode prog_239_method_16_code 36 = .ok (.iload 5, 2) := by decide +kernel
theorem d3_38 : decode prog_239_method_16_code 38 = .ok (.iconst 1, 1) := by decide +kernel
theorem d3_39 : decode prog_239_method_16_code 39 = .ok (.iadd, 1) := by decide +kernel
theorem d3_40 : decode prog_239_method_16_code 40 = .ok (.iaload, 1) := by decide +kernel
theorem d3_41 : decode prog_239_method_16_code 41 = .ok (.iadd, 1) := by decide +kernel
theorem d3_42 : decode prog_239_method_16_code 42 = .ok (.istore_n 2, 1) := by decide +kernel
theorem d3_43 : decode prog_239_method_16_code 43 = .ok (.iload_n 3, 1) := by decide +kernel
theorem d3_44 : decode prog_239_method_16_code 44 = .ok (.ldc 123, 2) := by decide +kernel
theorem d3_46 : decode prog_239_method_16_code 46 = .ok (.imul, 1) := by decide +kernel
theorem d3_47 : decode prog_239_method_16_code 47 = .ok (.aload_n 0, 1) := by decide +kernel
theorem d3_48 : decode prog_239_method_16_code 48 = .ok (.iload 5, 2) := by decide +kernel
theorem d3_50 : decode prog_239_method_16_code 50 = .ok (.iconst 2, 1) := by decide +kernel
theorem d3_51 : decode prog_239_method_16_code 51 = .ok (.iadd, 1) := by decide +kernel
theorem d3_52 : decode prog_239_method_16_code 52 = .ok (.iaload, 1) := by decide +kernel
theorem d3_53 : decode prog_239_method_16_code 53 = .ok (.iadd, 1) := by decide +kernel
theorem d3_54 : decode prog_239_method_16_code 54 = .ok (.istore_n 3, 1) := by decide +kernel
theorem d3_55 : decode prog_239_method_16_code 55 = .ok (.iload 4, 2) := by decide +kernel
theorem d3_57 : decode prog_239_method_16_code 57 = .ok (.ldc 123, 2) := by decide +kernel
theorem d3_59 : decode prog_239_method_16_code 59 = .ok (.imul, 1) := by decide +kernel
theorem d3_60 : decode prog_239_method_16_code 60 = .ok (.aload_n 0, 1) := by decide +kernel
theorem d3_61 : decode prog_239_method_16_code 61 = .ok (.iload 5, 2) := by decide +kernel
theorem d3_63 : decode prog_239_method_16_code 63 = .ok (.iconst 3, 1) := by decide +kernel
theorem d3_64 : decode prog_239_method_16_code 64 = .ok (.iadd, 1) := by decide +kernel
theorem d3_65 : decode prog_239_method_16_code 65 = .ok (.iaload, 1) := by decide +kernel
theorem d3_66 : decode prog_239_method_16_code 66 = .ok (.iadd, 1) := by decide +kernel
theorem d3_67 : decode prog_239_method_16_code 67 = .ok (.istore 4, 2) := by decide +kernel
theorem d3_69 : decode prog_239_method_16_code 69 = .ok (.iinc 5 4, 3) := by decide +kernel
theorem d3_72 : decode prog_239_method_16_code 72 = .ok (.goto (-60), 3) := by decide +kernel
theorem d3_75 : decode prog_239_method_16_code 75 = .ok (.iload_n 1, 1) := by decide +kernel
theorem d3_76 : decode prog_239_method_16_code 76 = .ok (.ldc 124, 2) := by decide +kernel
theorem d3_78 : decode prog_239_method_16_code 78 = .ok (.imul, 1) := by decide +kernel
theorem d3_79 : decode prog_239_method_16_code 79 = .ok (.iload_n 2, 1) := by decide +kernel
theorem d3_80 : decode prog_239_method_16_code 80 = .ok (.ldc 125, 2) := by decide +kernel
theorem d3_82 : decode prog_239_method_16_code 82 = .ok (.imul, 1) := by decide +kernel
theorem d3_83 : decode prog_239_method_16_code 83 = .ok (.iadd, 1) := by decide +kernel
theorem d3_84 : decode prog_239_method_16_code 84 = .ok (.iload_n 3, 1) := by decide +kernel
theorem d3_85 : decode prog_239_method_16_code 85 = .ok (.ldc 126, 2) := by decide +kernel
theorem d3_87 : decode prog_239_method_16_code 87 = .ok (.imul, 1) := by decide +kernel
theorem d3_88 : decode prog_239_method_16_code 88 = .ok (.iadd, 1) := by decide +kernel
theorem d3_89 : decode prog_239_method_16_code 89 = .ok (.iload 4, 2) := by decide +kernel
theorem d3_91 : decode prog_239_method_16_code 91 = .ok (.iadd, 1) := by decide +kernel
theorem d3_92 : decode prog_239_method_16_code 92 = .ok (.istore 6, 2) := by decide +kernel
theorem d3_94 : decode prog_239_method_16_code 94 = .ok (.iload 5, 2) := by decide +kernel
theorem d3_96 : decode prog_239_method_16_code 96 = .ok (.aload_n 0, 1) := by decide +kernel
theorem d3_97 : decode prog_239_method_16_code 97 = .ok (.arraylength, 1) := by decide +kernel
theorem d3_98 : decode prog_239_method_16_code 98 = .ok (.if_icmp .ge 21, 3) := by decide +kernel
theorem d3_101 : decode prog_239_method_16_code 101 = .ok (.iload 6, 2) := by decide +kernel
theorem d3_103 : decode prog_239_method_16_code 103 = .ok (.ldc 126, 2) := by decide +kernel
theorem d3_105 : decode prog_239_method_16_code 105 = .ok (.imul, 1) := by decide +kernel
theorem d3_106 : decode prog_239_method_16_code 106 = .ok (.aload_n 0, 1) := by decide +kernel
theorem d3_107 : decode prog_239_method_16_code 107 = .ok (.iload 5, 2) := by decide +kernel
theorem d3_109 : decode prog_239_method_16_code 109 = .ok (.iaload, 1) := by decide +kernel
theorem d3_110 : decode prog_239_method_16_code 110 = .ok (.iadd, 1) := by decide +kernel
theorem d3_111 : decode prog_239_method_16_code 111 = .ok (.istore 6, 2) := by decide +kernel
theorem d3_113 : decode prog_239_method_16_code 113 = .ok (.iinc 5 1, 3) := by decide +kernel
theorem d3_116 : decode prog_239_method_16_code 116 = .ok (.goto (-22), 3) := by decide +kernel
theorem d3_119 : decode prog_239_method_16_code 119 = .ok (.iload 6, 2) := by decide +kernel
theorem d3_121 : decode prog_239_method_16_code 121 = .ok (.iload 6, 2) := by decide +kernel
theorem d3_123 : decode prog_239_method_16_code 123 = .ok (.bipush 16, 2) := by decide +kernel
theorem d3_125 : decode prog_239_method_16_code 125 = .ok (.iushr, 1) := by decide +kernel
theorem d3_126 : decode prog_239_method_16_code 126 = .ok (.ixor, 1) := by decide +kernel
theorem d3_127 : decode prog_239_method_16_code 127 = .ok (.istore 6, 2) := by decide +kernel
theorem d3_129 : decode prog_239_method_16_code 129 = .ok (.iload 6, 2) := by decide +kernel
theorem d3_131 : decode prog_239_method_16_code 131 = .ok (.ldc 127, 2) := by decide +kernel
theorem d3_133 : decode prog_239_method_16_code 133 = .ok (.imul, 1) := by decide +kernel
theorem d3_134 : decode prog_239_method_16_code 134 = .ok (.istore 6, 2) := by decide +kernel
theorem d3_136 : decode prog_239_method_16_code 136 = .ok (.iload 6, 2) := by decide +kernel
theorem d3_138 : decode prog_239_method_16_code 138 = .ok (.iload 6, 2) := by decide +kernel
theorem d3_140 : decode prog_239_method_16_code 140 = .ok (.bipush 13, 2) := by decide +kernel
theorem d3_142 : decode prog_239_method_16_code 142 = .ok (.iushr, 1) := by decide +kernel
theorem d3_143 : decode prog_239_method_16_code 143 = .ok (.ixor, 1) := by decide +kernel
theorem d3_144 : decode prog_239_method_16_code 144 = .ok (.istore 6, 2) := by decide +kernel
theorem d3_146 : decode prog_239_method_16_code 146 = .ok (.iload 6, 2) := by decide +kernel
theorem d3_148 : decode prog_239_method_16_code 148 = .ok (.ldc 128, 2) := by decide +kernel
theorem d3_150 : decode prog_239_method_16_code 150 = .ok (.imul, 1) := by decide +kernel
theorem d3_151 : decode prog_239_method_16_code 151 = .ok (.istore 6, 2) := by decide +kernel
theorem d3_153 : decode prog_239_method_16_code 153 = .ok (.iload 6, 2) := by decide +kernel
theorem d3_155 : decode prog_239_method_16_code 155 = .ok (.iload 6, 2) := by decide +kernel
theorem d3_157 : decode prog_239_method_16_code 157 = .ok (.bipush 16, 2) := by decide +kernel
theorem d3_159 : decode prog_239_method_16_code 159 = .ok (.iushr, 1) := by decide +kernel
theorem d3_160 : decode prog_239_method_16_code 160 = .ok (.ixor, 1) := by decide +kernel
theorem d3_161 : decode prog_239_method_16_code 161 = .ok (.ireturn, 1) := by decide +kernel
set_option maxRecDepth 65536 in
set_option maxHeartbeats 40000000 in
theorem rm_ha {l : Launch} {Z : State} {a0 : Array Value} (hw : ∀ d ∈ tables_1, d.before a0 Z = true) (ta : Addr) (n : Nat) (g : Nat → Int32) (h0 : Heap) (n0 : Nat) (A_ta : Oar Z h0 ta .int n (fun q => .int (g q))) (hn : n ≤ 10) :
    Opays l (⟨"com/example/surety/surety/lts/StateTable", "hash", "([I)I"⟩ : MethodName) prog_239_method_16_code 7 (some .int) ({ frames := 0, cells := 0, slots := 0, locals := 0 } : Room) [] Z h0 #[(.ref ta)] (fun v h L => v = some (.int (own_mx (own_h g n))) ∧ Fr n0 L ∧ h = h0) := by
  refine own_enter (plainFor_of_name pn_1) ?_
  intro p e s m below meth c s₁ hx hby hml0 hown hnm hret hlk hZ e0 X0
  have hml : c.maxLocals = 7 := hml0
  replace hown : s.vm.findClass "com/example/surety/surety/lts/StateTable" = some m.cls := hown
  have N := Fr.nil n0
  have hef : entryFrame m #[(.ref ta)] 7 = mkF m 0 #[.val (.ref ta), .unset, .unset, .unset, .unset, .unset, .unset] [] := by first | (simp [entryFrame, mkF, argsToLocals, Value.category]; done) | rfl
  rw [hef]
  show Ogo p e below _ (s₁.setTop (mkF m 0 #[.val (.ref ta), .unset, .unset, .unset, .unset, .unset, .unset] []))
  obtain ⟨zn, hzn⟩ : ∃ z : Int32, z.toInt = (n : Int) := ⟨Int32.ofNat n, Int32.toInt_ofNat_small (by omega)⟩
  have l1 : (1 : Int32).toInt = 1 := rfl
  have l2 : (2 : Int32).toInt = 2 := rfl
  have l3 : (3 : Int32).toInt = 3 := rfl
  have l4 : (4 : Int32).toInt = 4 := rfl
  have loop2 : ∀ (d j : Nat) (iv x1 x2 x3 x4 : Int32), j + d = n → iv.toInt = (j : Int) → Ogo p e below (Onar s ({ frames := 0, cells := 0, slots := 0, locals := 0 } : Room) (fun v h L => v = some (.int (own_mx (own_h g n))) ∧ Fr n0 L ∧ h = h0)) (s₁.setTop (mkF m 94 #[.val (.ref ta), .val (.int x1), .val (.int x2), .val (.int x3), .val (.int x4), .val (.int iv), .val (.int (own_h g j))] [])) := by
    intro d
    induction d with
    | zero =>
      intro j iv x1 x2 x3 x4 hj hiv
      show Ogo p e below _ (s₁.setTop (mkF m 94 #[.val (.ref ta), .val (.int x1), .val (.int x2), .val (.int x3), .val (.int x4), .val (.int iv), .val (.int (own_h g j))] []))
      refine own_via (fun tq kq => XS.iload X0.here hx rfl (hb hby d3_94) rfl kq) ?_
      show Ogo p e below _ (s₁.setTop (mkF m 96 #[.val (.ref ta), .val (.int x1), .val (.int x2), .val (.int x3), .val (.int x4), .val (.int iv), .val (.int (own_h g j))] [(.int iv)]))
      refine own_via (fun tq kq => XS.aloadN X0.here hx rfl (hb hby d3_96) rfl rfl kq) ?_
      show Ogo p e below _ (s₁.setTop (mkF m 97 #[.val (.ref ta), .val (.int x1), .val (.int x2), .val (.int x3), .val (.int x4), .val (.int iv), .val (.int (own_h g j))] [(.ref ta), (.int iv)]))
      refine own_alen X0 hx hZ e0 A_ta (z := zn) hzn (hb hby d3_97) ?_
      show Ogo p e below _ (s₁.setTop (mkF m 98 #[.val (.ref ta), .val (.int x1), .val (.int x2), .val (.int x3), .val (.int x4), .val (.int iv), .val (.int (own_h g j))] [(.int zn), (.int iv)]))
      refine own_via (fun tq kq => XS.icmpYes X0.here hx rfl (pc0 := 98) (pc' := 119) rfl (hb hby d3_98) rfl (flt (i_nlt (by omega) : ¬ (iv < zn))).2.1 (by decide) (by decide) kq) ?_
      show Ogo p e below _ (s₁.setTop (mkF m 119 #[.val (.ref ta), .val (.int x1), .val (.int x2), .val (.int x3), .val (.int x4), .val (.int iv), .val (.int (own_h g j))] []))
      rw [show j = n by omega]
      show Ogo p e below _ (s₁.setTop (mkF m 119 #[.val (.ref ta), .val (.int x1), .val (.int x2), .val (.int x3), .val (.int x4), .val (.int iv), .val (.int (own_h g n))] []))
      refine own_via (fun tq kq => XS.iload X0.here hx rfl (hb hby d3_119) rfl kq) ?_
      show Ogo p e below _ (s₁.setTop (mkF m 121 #[.val (.ref ta), .val (.int x1), .val (.int x2), .val (.int x3), .val (.int x4), .val (.int iv), .val (.int (own_h g n))] [(.int (own_h g n))]))
      refine own_via (fun tq kq => XS.iload X0.here hx rfl (hb hby d3_121) rfl kq) ?_
      show Ogo p e below _ (s₁.setTop (mkF m 123 #[.val (.ref ta), .val (.int x1), .val (.int x2), .val (.int x3), .val (.int x4), .val (.int iv), .val (.int (own_h g n))] [(.int (own_h g n)), (.int (own_h g n))]))
      refine own_via (fun tq kq => XS.bipush X0.here hx rfl (hb hby d3_123) kq) ?_
      show Ogo p e below _ (s₁.setTop (mkF m 125 #[.val (.ref ta), .val (.int x1), .val (.int x2), .val (.int x3), .val (.int x4), .val (.int iv), .val (.int (own_h g n))] [(.int (16 : Int32)), (.int (own_h g n)), (.int (own_h g n))]))
      refine own_via (fun tq kq => XS.iushr X0.here hx rfl (hb hby d3_125) rfl kq) ?_
      show Ogo p e below _ (s₁.setTop (mkF m 126 #[.val (.ref ta), .val (.int x1), .val (.int x2), .val (.int x3), .val (.int x4), .val (.int iv), .val (.int (own_h g n))] [(.int (((own_h g n).toUInt32 >>> ((16 : Int32) &&& 31).toUInt32).toInt32)), (.int (own_h g n))]))
      refine own_via (fun tq kq => XS.ixor X0.here hx rfl (hb hby d3_126) rfl kq) ?_
      show Ogo p e below _ (s₁.setTop (mkF m 127 #[.val (.ref ta), .val (.int x1), .val (.int x2), .val (.int x3), .val (.int x4), .val (.int iv), .val (.int (own_h g n))] [(.int ((own_h g n) ^^^ (((own_h g n).toUInt32 >>> ((16 : Int32) &&& 31).toUInt32).toInt32)))]))
      refine own_via (fun tq kq => XS.istore X0.here hx rfl (hb hby d3_127) rfl (l' := #[.val (.ref ta), .val (.int x1), .val (.int x2), .val (.int x3), .val (.int x4), .val (.int iv), .val (.int ((own_h g n) ^^^ (((own_h g n).toUInt32 >>> ((16 : Int32) &&& 31).toUInt32).toInt32)))]) rfl kq) ?_
      show Ogo p e below _ (s₁.setTop (mkF m 129 #[.val (.ref ta), .val (.int x1), .val (.int x2), .val (.int x3), .val (.int x4), .val (.int iv), .val (.int ((own_h g n) ^^^ (((own_h g n).toUInt32 >>> ((16 : Int32) &&& 31).toUInt32).toInt32)))] []))
      refine own_via (fun tq kq => XS.iload X0.here hx rfl (hb hby d3_129) rfl kq) ?_
      show Ogo p e below _ (s₁.setTop (mkF m 131 #[.val (.ref ta), .val (.int x1), .val (.int x2), .val (.int x3), .val (.int x4), .val (.int iv), .val (.int ((own_h g n) ^^^ (((own_h g n).toUInt32 >>> ((16 : Int32) &&& 31).toUInt32).toInt32)))] [(.int ((own_h g n) ^^^ (((own_h g n).toUInt32 >>> ((16 : Int32) &&& 31).toUInt32).toInt32)))]))
      refine own_via (fun tq kq => X0.ldcInt hx hown (mvT hZ (hw _ (List.mem_of_getElem? (i := 16) rfl))) (g := (mkF m 131 #[.val (.ref ta), .val (.int x1), .val (.int x2), .val (.int x3), .val (.int x4), .val (.int iv), .val (.int ((own_h g n) ^^^ (((own_h g n).toUInt32 >>> ((16 : Int32) &&& 31).toUInt32).toInt32)))] [(.int ((own_h g n) ^^^ (((own_h g n).toUInt32 >>> ((16 : Int32) &&& 31).toUInt32).toInt32)))])) rfl (hb hby d3_131) _ kq) ?_
      show Ogo p e below _ (s₁.setTop (mkF m 133 #[.val (.ref ta), .val (.int x1), .val (.int x2), .val (.int x3), .val (.int x4), .val (.int iv), .val (.int ((own_h g n) ^^^ (((own_h g n).toUInt32 >>> ((16 : Int32) &&& 31).toUInt32).toInt32)))] [(.int (-2048144789 : Int32)), (.int ((own_h g n) ^^^ (((own_h g n).toUInt32 >>> ((16 : Int32) &&& 31).toUInt32).toInt32)))]))
      refine own_via (fun tq kq => XS.imul X0.here hx rfl (hb hby d3_133) rfl kq) ?_
      show Ogo p e below _ (s₁.setTop (mkF m 134 #[.val (.ref ta), .val (.int x1), .val (.int x2), .val (.int x3), .val (.int x4), .val (.int iv), .val (.int ((own_h g n) ^^^ (((own_h g n).toUInt32 >>> ((16 : Int32) &&& 31).toUInt32).toInt32)))] [(.int (((own_h g n) ^^^ (((own_h g n).toUInt32 >>> ((16 : Int32) &&& 31).toUInt32).toInt32)) * (-2048144789 : Int32)))]))
      refine own_via (fun tq kq => XS.istore X0.here hx rfl (hb hby d3_134) rfl (l' := #[.val (.ref ta), .val (.int x1), .val (.int x2), .val (.int x3), .val (.int x4), .val (.int iv), .val (.int (((own_h g n) ^^^ (((own_h g n).toUInt32 >>> ((16 : Int32) &&& 31).toUInt32).toInt32)) * (-2048144789 : Int32)))]) rfl kq) ?_
      show Ogo p e below _ (s₁.setTop (mkF m 136 #[.val (.ref ta), .val (.int x1), .val (.int x2), .val (.int x3), .val (.int x4), .val (.int iv), .val (.int (((own_h g n) ^^^ (((own_h g n).toUInt32 >>> ((16 : Int32) &&& 31).toUInt32).toInt32)) * (-2048144789 : Int32)))] []))
      obtain ⟨y1, hy1⟩ : ∃ z, z = (((own_h g n) ^^^ (((own_h g n).toUInt32 >>> ((16 : Int32) &&& 31).toUInt32).toInt32)) * (-2048144789 : Int32)) := ⟨_, rfl⟩
      rw [← hy1]
      show Ogo p e below _ (s₁.setTop (mkF m 136 #[.val (.ref ta), .val (.int x1), .val (.int x2), .val (.int x3), .val (.int x4), .val (.int iv), .val (.int y1)] []))
      refine own_via (fun tq kq => XS.iload X0.here hx rfl (hb hby d3_136) rfl kq) ?_
      show Ogo p e below _ (s₁.setTop (mkF m 138 #[.val (.ref ta), .val (.int x1), .val (.int x2), .val (.int x3), .val (.int x4), .val (.int iv), .val (.int y1)] [(.int y1)]))
      refine own_via (fun tq kq => XS.iload X0.here hx rfl (hb hby d3_138) rfl kq) ?_
      show Ogo p e below _ (s₁.setTop (mkF m 140 #[.val (.ref ta), .val (.int x1), .val (.int x2), .val (.int x3), .val (.int x4), .val (.int iv), .val (.int y1)] [(.int y1), (.int y1)]))
      refine own_via (fun tq kq => XS.bipush X0.here hx rfl (hb hby d3_140) kq) ?_
      show Ogo p e below _ (s₁.setTop (mkF m 142 #[.val (.ref ta), .val (.int x1), .val (.int x2), .val (.int x3), .val (.int x4), .val (.int iv), .val (.int y1)] [(.int (13 : Int32)), (.int y1), (.int y1)]))
      refine own_via (fun tq kq => XS.iushr X0.here hx rfl (hb hby d3_142) rfl kq) ?_
      show Ogo p e below _ (s₁.setTop (mkF m 143 #[.val (.ref ta), .val (.int x1), .val (.int x2), .val (.int x3), .val (.int x4), .val (.int iv), .val (.int y1)] [(.int ((y1.toUInt32 >>> ((13 : Int32) &&& 31).toUInt32).toInt32)), (.int y1)]))
      refine own_via (fun tq kq => XS.ixor X0.here hx rfl (hb hby d3_143) rfl kq) ?_
      show Ogo p e below _ (s₁.setTop (mkF m 144 #[.val (.ref ta), .val (.int x1), .val (.int x2), .val (.int x3), .val (.int x4), .val (.int iv), .val (.int y1)] [(.int (y1 ^^^ ((y1.toUInt32 >>> ((13 : Int32) &&& 31).toUInt32).toInt32)))]))
      refine own_via (fun tq kq => XS.istore X0.here hx rfl (hb hby d3_144) rfl (l' := #[.val (.ref ta), .val (.int x1), .val (.int x2), .val (.int x3), .val (.int x4), .val (.int iv), .val (.int (y1 ^^^ ((y1.toUInt32 >>> ((13 : Int32) &&& 31).toUInt32).toInt32)))]) rfl kq) ?_
      show Ogo p e below _ (s₁.setTop (mkF m 146 #[.val (.ref ta), .val (.int x1), .val (.int x2), .val (.int x3), .val (.int x4), .val (.int iv), .val (.int (y1 ^^^ ((y1.toUInt32 >>> ((13 : Int32) &&& 31).toUInt32).toInt32)))] []))
      refine own_via (fun tq kq => XS.iload X0.here hx rfl (hb hby d3_146) rfl kq) ?_
      show Ogo p e below _ (s₁.setTop (mkF m 148 #[.val (.ref ta), .val (.int x1), .val (.int x2), .val (.int x3), .val (.int x4), .val (.int iv), .val (.int (y1 ^^^ ((y1.toUInt32 >>> ((13 : Int32) &&& 31).toUInt32).toInt32)))] [(.int (y1 ^^^ ((y1.toUInt32 >>> ((13 : Int32) &&& 31).toUInt32).toInt32)))]))
      refine own_via (fun tq kq => X0.ldcInt hx hown (mvT hZ (hw _ (List.mem_of_getElem? (i := 17) rfl))) (g := (mkF m 148 #[.val (.ref ta), .val (.int x1), .val (.int x2), .val (.int x3), .val (.int x4), .val (.int iv), .val (.int (y1 ^^^ ((y1.toUInt32 >>> ((13 : Int32) &&& 31).toUInt32).toInt32)))] [(.int (y1 ^^^ ((y1.toUInt32 >>> ((13 : Int32) &&& 31).toUInt32).toInt32)))])) rfl (hb hby d3_148) _ kq) ?_
      show Ogo p e below _ (s₁.setTop (mkF m 150 #[.val (.ref ta), .val (.int x1), .val (.int x2), .val (.int x3), .val (.int x4), .val (.int iv), .val (.int (y1 ^^^ ((y1.toUInt32 >>> ((13 : Int32) &&& 31).toUInt32).toInt32)))] [(.int (-1028477387 : Int32)), (.int (y1 ^^^ ((y1.toUInt32 >>> ((13 : Int32) &&& 31).toUInt32).toInt32)))]))
      refine own_via (fun tq kq => XS.imul X0.here hx rfl (hb hby d3_150) rfl kq) ?_
      show Ogo p e below _ (s₁.setTop (mkF m 151 #[.val (.ref ta), .val (.int x1), .val (.int x2), .val (.int x3), .val (.int x4), .val (.int iv), .val (.int (y1 ^^^ ((y1.toUInt32 >>> ((13 : Int32) &&& 31).toUInt32).toInt32)))] [(.int ((y1 ^^^ ((y1.toUInt32 >>> ((13 : Int32) &&& 31).toUInt32).toInt32)) * (-1028477387 : Int32)))]))
      refine own_via (fun tq kq => XS.istore X0.here hx rfl (hb hby d3_151) rfl (l' := #[.val (.ref ta), .val (.int x1), .val (.int x2), .val (.int x3), .val (.int x4), .val (.int iv), .val (.int ((y1 ^^^ ((y1.toUInt32 >>> ((13 : Int32) &&& 31).toUInt32).toInt32)) * (-1028477387 : Int32)))]) rfl kq) ?_
      show Ogo p e below _ (s₁.setTop (mkF m 153 #[.val (.ref ta), .val (.int x1), .val (.int x2), .val (.int x3), .val (.int x4), .val (.int iv), .val (.int ((y1 ^^^ ((y1.toUInt32 >>> ((13 : Int32) &&& 31).toUInt32).toInt32)) * (-1028477387 : Int32)))] []))
      obtain ⟨y2, hy2⟩ : ∃ z, z = ((y1 ^^^ ((y1.toUInt32 >>> ((13 : Int32) &&& 31).toUInt32).toInt32)) * (-1028477387 : Int32)) := ⟨_, rfl⟩
      rw [← hy2]
      show Ogo p e below _ (s₁.setTop (mkF m 153 #[.val (.ref ta), .val (.int x1), .val (.int x2), .val (.int x3), .val (.int x4), .val (.int iv), .val (.int y2)] []))
      refine own_via (fun tq kq => XS.iload X0.here hx rfl (hb hby d3_153) rfl kq) ?_
      show Ogo p e below _ (s₁.setTop (mkF m 155 #[.val (.ref ta), .val (.int x1), .val (.int x2), .val (.int x3), .val (.int x4), .val (.int iv), .val (.int y2)] [(.int y2)]))
      refine own_via (fun tq kq => XS.iload X0.here hx rfl (hb hby d3_155) rfl kq) ?_
      show Ogo p e below _ (s₁.setTop (mkF m 157 #[.val (.ref ta), .val (.int x1), .val (.int x2), .val (.int x3), .val (.int x4), .val (.int iv), .val (.int y2)] [(.int y2), (.int y2)]))
      refine own_via (fun tq kq => XS.bipush X0.here hx rfl (hb hby d3_157) kq) ?_
      show Ogo p e below _ (s₁.setTop (mkF m 159 #[.val (.ref ta), .val (.int x1), .val (.int x2), .val (.int x3), .val (.int x4), .val (.int iv), .val (.int y2)] [(.int (16 : Int32)), (.int y2), (.int y2)]))
      refine own_via (fun tq kq => XS.iushr X0.here hx rfl (hb hby d3_159) rfl kq) ?_
      show Ogo p e below _ (s₁.setTop (mkF m 160 #[.val (.ref ta), .val (.int x1), .val (.int x2), .val (.int x3), .val (.int x4), .val (.int iv), .val (.int y2)] [(.int ((y2.toUInt32 >>> ((16 : Int32) &&& 31).toUInt32).toInt32)), (.int y2)]))
      refine own_via (fun tq kq => XS.ixor X0.here hx rfl (hb hby d3_160) rfl kq) ?_
      show Ogo p e below _ (s₁.setTop (mkF m 161 #[.val (.ref ta), .val (.int x1), .val (.int x2), .val (.int x3), .val (.int x4), .val (.int iv), .val (.int y2)] [(.int (y2 ^^^ ((y2.toUInt32 >>> ((16 : Int32) &&& 31).toUInt32).toInt32)))]))
      exact own_out X0 hlk (fun h => by rw [hret] at h; cases h) (by decide) (by decide) (by first | exact ⟨by rw [hy2, hy1]; rfl, N, rfl⟩ | (rw [e0]; exact ⟨by rw [hy2, hy1]; rfl, N, rfl⟩)) (fun fs hr => retI X0 hx hret (hb hby d3_161) hr)
    | succ d ih =>
      intro j iv x1 x2 x3 x4 hj hiv
      show Ogo p e below _ (s₁.setTop (mkF m 94 #[.val (.ref ta), .val (.int x1), .val (.int x2), .val (.int x3), .val (.int x4), .val (.int iv), .val (.int (own_h g j))] []))
      refine own_via (fun tq kq => XS.iload X0.here hx rfl (hb hby d3_94) rfl kq) ?_
      show Ogo p e below _ (s₁.setTop (mkF m 96 #[.val (.ref ta), .val (.int x1), .val (.int x2), .val (.int x3), .val (.int x4), .val (.int iv), .val (.int (own_h g j))] [(.int iv)]))
      refine own_via (fun tq kq => XS.aloadN X0.here hx rfl (hb hby d3_96) rfl rfl kq) ?_
      show Ogo p e below _ (s₁.setTop (mkF m 97 #[.val (.ref ta), .val (.int x1), .val (.int x2), .val (.int x3), .val (.int x4), .val (.int iv), .val (.int (own_h g j))] [(.ref ta), (.int iv)]))
      refine own_alen X0 hx hZ e0 A_ta (z := zn) hzn (hb hby d3_97) ?_
      show Ogo p e below _ (s₁.setTop (mkF m 98 #[.val (.ref ta), .val (.int x1), .val (.int x2), .val (.int x3), .val (.int x4), .val (.int iv), .val (.int (own_h g j))] [(.int zn), (.int iv)]))
      refine own_via (fun tq kq => XS.icmpNo X0.here hx rfl (hb hby d3_98) rfl (tlt (i_lt (by omega) : iv < zn)).2.1 kq) ?_
      show Ogo p e below _ (s₁.setTop (mkF m 101 #[.val (.ref ta), .val (.int x1), .val (.int x2), .val (.int x3), .val (.int x4), .val (.int iv), .val (.int (own_h g j))] []))
      refine own_via (fun tq kq => XS.iload X0.here hx rfl (hb hby d3_101) rfl kq) ?_
      show Ogo p e below _ (s₁.setTop (mkF m 103 #[.val (.ref ta), .val (.int x1), .val (.int x2), .val (.int x3), .val (.int x4), .val (.int iv), .val (.int (own_h g j))] [(.int (own_h g j))]))
      refine own_via (fun tq kq => X0.ldcInt hx hown (mvT hZ (hw _ (List.mem_of_getElem? (i := 15) rfl))) (g := (mkF m 103 #[.val (.ref ta), .val (.int x1), .val (.int x2), .val (.int x3), .val (.int x4), .val (.int iv), .val (.int (own_h g j))] [(.int (own_h g j))])) rfl (hb hby d3_103) _ kq) ?_
      show Ogo p e below _ (s₁.setTop (mkF m 105 #[.val (.ref ta), .val (.int x1), .val (.int x2), .val (.int x3), .val (.int x4), .val (.int iv), .val (.int (own_h g j))] [(.int (-1640531535 : Int32)), (.int (own_h g j))]))
      refine own_via (fun tq kq => XS.imul X0.here hx rfl (hb hby d3_105) rfl kq) ?_
      show Ogo p e below _ (s₁.setTop (mkF m 106 #[.val (.ref ta), .val (.int x1), .val (.int x2), .val (.int x3), .val (.int x4), .val (.int iv), .val (.int (own_h g j))] [(.int ((own_h g j) * (-1640531535 : Int32)))]))
      refine own_via (fun tq kq => XS.aloadN X0.here hx rfl (hb hby d3_106) rfl rfl kq) ?_
      show Ogo p e below _ (s₁.setTop (mkF m 107 #[.val (.ref ta), .val (.int x1), .val (.int x2), .val (.int x3), .val (.int x4), .val (.int iv), .val (.int (own_h g j))] [(.ref ta), (.int ((own_h g j) * (-1640531535 : Int32)))]))
      refine own_via (fun tq kq => XS.iload X0.here hx rfl (hb hby d3_107) rfl kq) ?_
      show Ogo p e below _ (s₁.setTop (mkF m 109 #[.val (.ref ta), .val (.int x1), .val (.int x2), .val (.int x3), .val (.int x4), .val (.int iv), .val (.int (own_h g j))] [(.int iv), (.ref ta), (.int ((own_h g j) * (-1640531535 : Int32)))]))
      refine own_iald X0 hx hZ e0 A_ta (j := iv) (i := j) (v := (.int (g j))) hiv (by omega) rfl (hb hby d3_109) ?_
      show Ogo p e below _ (s₁.setTop (mkF m 110 #[.val (.ref ta), .val (.int x1), .val (.int x2), .val (.int x3), .val (.int x4), .val (.int iv), .val (.int (own_h g j))] [(.int (g j)), (.int ((own_h g j) * (-1640531535 : Int32)))]))
      refine own_via (fun tq kq => XS.iadd X0.here hx rfl (hb hby d3_110) rfl kq) ?_
      show Ogo p e below _ (s₁.setTop (mkF m 111 #[.val (.ref ta), .val (.int x1), .val (.int x2), .val (.int x3), .val (.int x4), .val (.int iv), .val (.int (own_h g j))] [(.int (((own_h g j) * (-1640531535 : Int32)) + (g j)))]))
      refine own_via (fun tq kq => XS.istore X0.here hx rfl (hb hby d3_111) rfl (l' := #[.val (.ref ta), .val (.int x1), .val (.int x2), .val (.int x3), .val (.int x4), .val (.int iv), .val (.int (((own_h g j) * (-1640531535 : Int32)) + (g j)))]) rfl kq) ?_
      show Ogo p e below _ (s₁.setTop (mkF m 113 #[.val (.ref ta), .val (.int x1), .val (.int x2), .val (.int x3), .val (.int x4), .val (.int iv), .val (.int (((own_h g j) * (-1640531535 : Int32)) + (g j)))] []))
      refine own_via (fun tq kq => XS.iinc X0.here hx rfl (hb hby d3_113) rfl (l' := #[.val (.ref ta), .val (.int x1), .val (.int x2), .val (.int x3), .val (.int x4), .val (.int (iv + (1 : Int32))), .val (.int (((own_h g j) * (-1640531535 : Int32)) + (g j)))]) rfl kq) ?_
      show Ogo p e below _ (s₁.setTop (mkF m 116 #[.val (.ref ta), .val (.int x1), .val (.int x2), .val (.int x3), .val (.int x4), .val (.int (iv + (1 : Int32))), .val (.int (((own_h g j) * (-1640531535 : Int32)) + (g j)))] []))
      refine own_via (fun tq kq => XS.goto X0.here hx rfl (pc0 := 116) (pc' := 94) rfl (hb hby d3_116) (by decide) (by decide) kq) ?_
      show Ogo p e below _ (s₁.setTop (mkF m 94 #[.val (.ref ta), .val (.int x1), .val (.int x2), .val (.int x3), .val (.int x4), .val (.int (iv + (1 : Int32))), .val (.int (((own_h g j) * (-1640531535 : Int32)) + (g j)))] []))
      exact ih (j + 1) (iv + 1) x1 x2 x3 x4 (by omega) (by rw [own_add (by omega) (by omega)]; omega)
  have loop1 : ∀ (d k : Nat) (iv : Int32), 4 * k ≤ n → n ≤ 4 * k + 4 * d + 3 → iv.toInt = ((4 * k : Nat) : Int) → Ogo p e below (Onar s ({ frames := 0, cells := 0, slots := 0, locals := 0 } : Room) (fun v h L => v = some (.int (own_mx (own_h g n))) ∧ Fr n0 L ∧ h = h0)) (s₁.setTop (mkF m 12 #[.val (.ref ta), .val (.int (own_A g 0 k)), .val (.int (own_A g 1 k)), .val (.int (own_A g 2 k)), .val (.int (own_A g 3 k)), .val (.int iv), .unset] [])) := by
    intro d
    induction d with
    | zero =>
      intro k iv hk hd hiv
      show Ogo p e below _ (s₁.setTop (mkF m 12 #[.val (.ref ta), .val (.int (own_A g 0 k)), .val (.int (own_A g 1 k)), .val (.int (own_A g 2 k)), .val (.int (own_A g 3 k)), .val (.int iv), .unset] []))
      refine own_via (fun tq kq => XS.iload X0.here hx rfl (hb hby d3_12) rfl kq) ?_
      show Ogo p e below _ (s₁.setTop (mkF m 14 #[.val (.ref ta), .val (.int (own_A g 0 k)), .val (.int (own_A g 1 k)), .val (.int (own_A g 2 k)), .val (.int (own_A g 3 k)), .val (.int iv), .unset] [(.int iv)]))
      refine own_via (fun tq kq => XS.iconst X0.here hx rfl (hb hby d3_14) kq) ?_
      show Ogo p e below _ (s₁.setTop (mkF m 15 #[.val (.ref ta), .val (.int (own_A g 0 k)), .val (.int (own_A g 1 k)), .val (.int (own_A g 2 k)), .val (.int (own_A g 3 k)), .val (.int iv), .unset] [(.int (3 : Int32)), (.int iv)]))
      refine own_via (fun tq kq => XS.iadd X0.here hx rfl (hb hby d3_15) rfl kq) ?_
      show Ogo p e below _ (s₁.setTop (mkF m 16 #[.val (.ref ta), .val (.int (own_A g 0 k)), .val (.int (own_A g 1 k)), .val (.int (own_A g 2 k)), .val (.int (own_A g 3 k)), .val (.int iv), .unset] [(.int (iv + (3 : Int32)))]))
      refine own_via (fun tq kq => XS.aloadN X0.here hx rfl (hb hby d3_16) rfl rfl kq) ?_
      show Ogo p e below _ (s₁.setTop (mkF m 17 #[.val (.ref ta), .val (.int (own_A g 0 k)), .val (.int (own_A g 1 k)), .val (.int (own_A g 2 k)), .val (.int (own_A g 3 k)), .val (.int iv), .unset] [(.ref ta), (.int (iv + (3 : Int32)))]))
      refine own_alen X0 hx hZ e0 A_ta (z := zn) hzn (hb hby d3_17) ?_
      show Ogo p e below _ (s₁.setTop (mkF m 18 #[.val (.ref ta), .val (.int (own_A g 0 k)), .val (.int (own_A g 1 k)), .val (.int (own_A g 2 k)), .val (.int (own_A g 3 k)), .val (.int iv), .unset] [(.int zn), (.int (iv + (3 : Int32)))]))
      refine own_via (fun tq kq => XS.icmpYes X0.here hx rfl (pc0 := 18) (pc' := 75) rfl (hb hby d3_18) rfl (flt (i_nlt (by rw [own_add (by omega) (by omega)]; omega) : ¬ ((iv + (3 : Int32)) < zn))).2.1 (by decide) (by decide) kq) ?_
      show Ogo p e below _ (s₁.setTop (mkF m 75 #[.val (.ref ta), .val (.int (own_A g 0 k)), .val (.int (own_A g 1 k)), .val (.int (own_A g 2 k)), .val (.int (own_A g 3 k)), .val (.int iv), .unset] []))
      refine own_via (fun tq kq => XS.iloadN X0.here hx rfl (hb hby d3_75) rfl kq) ?_
      show Ogo p e below _ (s₁.setTop (mkF m 76 #[.val (.ref ta), .val (.int (own_A g 0 k)), .val (.int (own_A g 1 k)), .val (.int (own_A g 2 k)), .val (.int (own_A g 3 k)), .val (.int iv), .unset] [(.int (own_A g 0 k))]))
      refine own_via (fun tq kq => X0.ldcInt hx hown (mvT hZ (hw _ (List.mem_of_getElem? (i := 13) rfl))) (g := (mkF m 76 #[.val (.ref ta), .val (.int (own_A g 0 k)), .val (.int (own_A g 1 k)), .val (.int (own_A g 2 k)), .val (.int (own_A g 3 k)), .val (.int iv), .unset] [(.int (own_A g 0 k))])) rfl (hb hby d3_76) _ kq) ?_
      show Ogo p e below _ (s₁.setTop (mkF m 78 #[.val (.ref ta), .val (.int (own_A g 0 k)), .val (.int (own_A g 1 k)), .val (.int (own_A g 2 k)), .val (.int (own_A g 3 k)), .val (.int iv), .unset] [(.int (-872142831 : Int32)), (.int (own_A g 0 k))]))
      refine own_via (fun tq kq => XS.imul X0.here hx rfl (hb hby d3_78) rfl kq) ?_
      show Ogo p e below _ (s₁.setTop (mkF m 79 #[.val (.ref ta), .val (.int (own_A g 0 k)), .val (.int (own_A g 1 k)), .val (.int (own_A g 2 k)), .val (.int (own_A g 3 k)), .val (.int iv), .unset] [(.int ((own_A g 0 k) * (-872142831 : Int32)))]))
      refine own_via (fun tq kq => XS.iloadN X0.here hx rfl (hb hby d3_79) rfl kq) ?_
      show Ogo p e below _ (s₁.setTop (mkF m 80 #[.val (.ref ta), .val (.int (own_A g 0 k)), .val (.int (own_A g 1 k)), .val (.int (own_A g 2 k)), .val (.int (own_A g 3 k)), .val (.int iv), .unset] [(.int (own_A g 1 k)), (.int ((own_A g 0 k) * (-872142831 : Int32)))]))
      refine own_via (fun tq kq => X0.ldcInt hx hown (mvT hZ (hw _ (List.mem_of_getElem? (i := 14) rfl))) (g := (mkF m 80 #[.val (.ref ta), .val (.int (own_A g 0 k)), .val (.int (own_A g 1 k)), .val (.int (own_A g 2 k)), .val (.int (own_A g 3 k)), .val (.int iv), .unset] [(.int (own_A g 1 k)), (.int ((own_A g 0 k) * (-872142831 : Int32)))])) rfl (hb hby d3_80) _ kq) ?_
      show Ogo p e below _ (s₁.setTop (mkF m 82 #[.val (.ref ta), .val (.int (own_A g 0 k)), .val (.int (own_A g 1 k)), .val (.int (own_A g 2 k)), .val (.int (own_A g 3 k)), .val (.int iv), .unset] [(.int (-1651615 : Int32)), (.int (own_A g 1 k)), (.int ((own_A g 0 k) * (-872142831 : Int32)))]))
      refine own_via (fun tq kq => XS.imul X0.here hx rfl (hb hby d3_82) rfl kq) ?_
      show Ogo p e below _ (s₁.setTop (mkF m 83 #[.val (.ref ta), .val (.int (own_A g 0 k)), .val (.int (own_A g 1 k)), .val (.int (own_A g 2 k)), .val (.int (own_A g 3 k)), .val (.int iv), .unset] [(.int ((own_A g 1 k) * (-1651615 : Int32))), (.int ((own_A g 0 k) * (-872142831 : Int32)))]))
      refine own_via (fun tq kq => XS.iadd X0.here hx rfl (hb hby d3_83) rfl kq) ?_
      show Ogo p e below _ (s₁.setTop (mkF m 84 #[.val (.ref ta), .val (.int (own_A g 0 k)), .val (.int (own_A g 1 k)), .val (.int (own_A g 2 k)), .val (.int (own_A g 3 k)), .val (.int iv), .unset] [(.int (((own_A g 0 k) * (-872142831 : Int32)) + ((own_A g 1 k) * (-1651615 : Int32))))]))
      refine own_via (fun tq kq => XS.iloadN X0.here hx rfl (hb hby d3_84) rfl kq) ?_
      show Ogo p e below _ (s₁.setTop (mkF m 85 #[.val (.ref ta), .val (.int (own_A g 0 k)), .val (.int (own_A g 1 k)), .val (.int (own_A g 2 k)), .val (.int (own_A g 3 k)), .val (.int iv), .unset] [(.int (own_A g 2 k)), (.int (((own_A g 0 k) * (-872142831 : Int32)) + ((own_A g 1 k) * (-1651615 : Int32))))]))
      refine own_via (fun tq kq => X0.ldcInt hx hown (mvT hZ (hw _ (List.mem_of_getElem? (i := 15) rfl))) (g := (mkF m 85 #[.val (.ref ta), .val (.int (own_A g 0 k)), .val (.int (own_A g 1 k)), .val (.int (own_A g 2 k)), .val (.int (own_A g 3 k)), .val (.int iv), .unset] [(.int (own_A g 2 k)), (.int (((own_A g 0 k) * (-872142831 : Int32)) + ((own_A g 1 k) * (-1651615 : Int32))))])) rfl (hb hby d3_85) _ kq) ?_
      show Ogo p e below _ (s₁.setTop (mkF m 87 #[.val (.ref ta), .val (.int (own_A g 0 k)), .val (.int (own_A g 1 k)), .val (.int (own_A g 2 k)), .val (.int (own_A g 3 k)), .val (.int iv), .unset] [(.int (-1640531535 : Int32)), (.int (own_A g 2 k)), (.int (((own_A g 0 k) * (-872142831 : Int32)) + ((own_A g 1 k) * (-1651615 : Int32))))]))
      refine own_via (fun tq kq => XS.imul X0.here hx rfl (hb hby d3_87) rfl kq) ?_
      show Ogo p e below _ (s₁.setTop (mkF m 88 #[.val (.ref ta), .val (.int (own_A g 0 k)), .val (.int (own_A g 1 k)), .val (.int (own_A g 2 k)), .val (.int (own_A g 3 k)), .val (.int iv), .unset] [(.int ((own_A g 2 k) * (-1640531535 : Int32))), (.int (((own_A g 0 k) * (-872142831 : Int32)) + ((own_A g 1 k) * (-1651615 : Int32))))]))
      refine own_via (fun tq kq => XS.iadd X0.here hx rfl (hb hby d3_88) rfl kq) ?_
      show Ogo p e below _ (s₁.setTop (mkF m 89 #[.val (.ref ta), .val (.int (own_A g 0 k)), .val (.int (own_A g 1 k)), .val (.int (own_A g 2 k)), .val (.int (own_A g 3 k)), .val (.int iv), .unset] [(.int ((((own_A g 0 k) * (-872142831 : Int32)) + ((own_A g 1 k) * (-1651615 : Int32))) + ((own_A g 2 k) * (-1640531535 : Int32))))]))
      refine own_via (fun tq kq => XS.iload X0.here hx rfl (hb hby d3_89) rfl kq) ?_
      show Ogo p e below _ (s₁.setTop (mkF m 91 #[.val (.ref ta), .val (.int (own_A g 0 k)), .val (.int (own_A g 1 k)), .val (.int (own_A g 2 k)), .val (.int (own_A g 3 k)), .val (.int iv), .unset] [(.int (own_A g 3 k)), (.int ((((own_A g 0 k) * (-872142831 : Int32)) + ((own_A g 1 k) * (-1651615 : Int32))) + ((own_A g 2 k) * (-1640531535 : Int32))))]))
      refine own_via (fun tq kq => XS.iadd X0.here hx rfl (hb hby d3_91) rfl kq) ?_
      show Ogo p e below _ (s₁.setTop (mkF m 92 #[.val (.ref ta), .val (.int (own_A g 0 k)), .val (.int (own_A g 1 k)), .val (.int (own_A g 2 k)), .val (.int (own_A g 3 k)), .val (.int iv), .unset] [(.int (((((own_A g 0 k) * (-872142831 : Int32)) + ((own_A g 1 k) * (-1651615 : Int32))) + ((own_A g 2 k) * (-1640531535 : Int32))) + (own_A g 3 k)))]))
      refine own_via (fun tq kq => XS.istore X0.here hx rfl (hb hby d3_92) rfl (l' := #[.val (.ref ta), .val (.int (own_A g 0 k)), .val (.int (own_A g 1 k)), .val (.int (own_A g 2 k)), .val (.int (own_A g 3 k)), .val (.int iv), .val (.int (((((own_A g 0 k) * (-872142831 : Int32)) + ((own_A g 1 k) * (-1651615 : Int32))) + ((own_A g 2 k) * (-1640531535 : Int32))) + (own_A g 3 k)))]) rfl kq) ?_
      show Ogo p e below _ (s₁.setTop (mkF m 94 #[.val (.ref ta), .val (.int (own_A g 0 k)), .val (.int (own_A g 1 k)), .val (.int (own_A g 2 k)), .val (.int (own_A g 3 k)), .val (.int iv), .val (.int (((((own_A g 0 k) * (-872142831 : Int32)) + ((own_A g 1 k) * (-1651615 : Int32))) + ((own_A g 2 k) * (-1640531535 : Int32))) + (own_A g 3 k)))] []))
      rw [show (((((own_A g 0 k) * (-872142831 : Int32)) + ((own_A g 1 k) * (-1651615 : Int32))) + ((own_A g 2 k) * (-1640531535 : Int32))) + (own_A g 3 k)) = own_h g (4 * k) from (own_four g k).symm]
      exact loop2 (n - 4 * k) (4 * k) iv _ _ _ _ (by omega) hiv
    | succ d ih =>
      intro k iv hk hd hiv
      show Ogo p e below _ (s₁.setTop (mkF m 12 #[.val (.ref ta), .val (.int (own_A g 0 k)), .val (.int (own_A g 1 k)), .val (.int (own_A g 2 k)), .val (.int (own_A g 3 k)), .val (.int iv), .unset] []))
      refine own_via (fun tq kq => XS.iload X0.here hx rfl (hb hby d3_12) rfl kq) ?_
      show Ogo p e below _ (s₁.setTop (mkF m 14 #[.val (.ref ta), .val (.int (own_A g 0 k)), .val (.int (own_A g 1 k)), .val (.int (own_A g 2 k)), .val (.int (own_A g 3 k)), .val (.int iv), .unset] [(.int iv)]))
      refine own_via (fun tq kq => XS.iconst X0.here hx rfl (hb hby d3_14) kq) ?_
      show Ogo p e below _ (s₁.setTop (mkF m 15 #[.val (.ref ta), .val (.int (own_A g 0 k)), .val (.int (own_A g 1 k)), .val (.int (own_A g 2 k)), .val (.int (own_A g 3 k)), .val (.int iv), .unset] [(.int (3 : Int32)), (.int iv)]))
      refine own_via (fun tq kq => XS.iadd X0.here hx rfl (hb hby d3_15) rfl kq) ?_
      show Ogo p e below _ (s₁.setTop (mkF m 16 #[.val (.ref ta), .val (.int (own_A g 0 k)), .val (.int (own_A g 1 k)), .val (.int (own_A g 2 k)), .val (.int (own_A g 3 k)), .val (.int iv), .unset] [(.int (iv + (3 : Int32)))]))
      refine own_via (fun tq kq => XS.aloadN X0.here hx rfl (hb hby d3_16) rfl rfl kq) ?_
      show Ogo p e below _ (s₁.setTop (mkF m 17 #[.val (.ref ta), .val (.int (own_A g 0 k)), .val (.int (own_A g 1 k)), .val (.int (own_A g 2 k)), .val (.int (own_A g 3 k)), .val (.int iv), .unset] [(.ref ta), (.int (iv + (3 : Int32)))]))
      refine own_alen X0 hx hZ e0 A_ta (z := zn) hzn (hb hby d3_17) ?_
      show Ogo p e below _ (s₁.setTop (mkF m 18 #[.val (.ref ta), .val (.int (own_A g 0 k)), .val (.int (own_A g 1 k)), .val (.int (own_A g 2 k)), .val (.int (own_A g 3 k)), .val (.int iv), .unset] [(.int zn), (.int (iv + (3 : Int32)))]))
      by_cases hc18 : (iv + (3 : Int32)) < zn
      · refine own_via (fun tq kq => XS.icmpNo X0.here hx rfl (hb hby d3_18) rfl (tlt (hc18 : (iv + (3 : Int32)) < zn)).2.1 kq) ?_
        show Ogo p e below _ (s₁.setTop (mkF m 21 #[.val (.ref ta), .val (.int (own_A g 0 k)), .val (.int (own_A g 1 k)), .val (.int (own_A g 2 k)), .val (.int (own_A g 3 k)), .val (.int iv), .unset] []))
        have hc := i_lt' hc18
        rw [own_add (by omega) (by omega)] at hc
        refine own_via (fun tq kq => XS.iloadN X0.here hx rfl (hb hby d3_21) rfl kq) ?_
        show Ogo p e below _ (s₁.setTop (mkF m 22 #[.val (.ref ta), .val (.int (own_A g 0 k)), .val (.int (own_A g 1 k)), .val (.int (own_A g 2 k)), .val (.int (own_A g 3 k)), .val (.int iv), .unset] [(.int (own_A g 0 k))]))
        refine own_via (fun tq kq => X0.ldcInt hx hown (mvT hZ (hw _ (List.mem_of_getElem? (i := 24) rfl))) (g := (mkF m 22 #[.val (.ref ta), .val (.int (own_A g 0 k)), .val (.int (own_A g 1 k)), .val (.int (own_A g 2 k)), .val (.int (own_A g 3 k)), .val (.int iv), .unset] [(.int (own_A g 0 k))])) rfl (hb hby d3_22) _ kq) ?_
        show Ogo p e below _ (s₁.setTop (mkF m 24 #[.val (.ref ta), .val (.int (own_A g 0 k)), .val (.int (own_A g 1 k)), .val (.int (own_A g 2 k)), .val (.int (own_A g 3 k)), .val (.int iv), .unset] [(.int (527875265 : Int32)), (.int (own_A g 0 k))]))
        refine own_via (fun tq kq => XS.imul X0.here hx rfl (hb hby d3_24) rfl kq) ?_
        show Ogo p e below _ (s₁.setTop (mkF m 25 #[.val (.ref ta), .val (.int (own_A g 0 k)), .val (.int (own_A g 1 k)), .val (.int (own_A g 2 k)), .val (.int (own_A g 3 k)), .val (.int iv), .unset] [(.int ((own_A g 0 k) * (527875265 : Int32)))]))
        refine own_via (fun tq kq => XS.aloadN X0.here hx rfl (hb hby d3_25) rfl rfl kq) ?_
        show Ogo p e below _ (s₁.setTop (mkF m 26 #[.val (.ref ta), .val (.int (own_A g 0 k)), .val (.int (own_A g 1 k)), .val (.int (own_A g 2 k)), .val (.int (own_A g 3 k)), .val (.int iv), .unset] [(.ref ta), (.int ((own_A g 0 k) * (527875265 : Int32)))]))
        refine own_via (fun tq kq => XS.iload X0.here hx rfl (hb hby d3_26) rfl kq) ?_
        show Ogo p e below _ (s₁.setTop (mkF m 28 #[.val (.ref ta), .val (.int (own_A g 0 k)), .val (.int (own_A g 1 k)), .val (.int (own_A g 2 k)), .val (.int (own_A g 3 k)), .val (.int iv), .unset] [(.int iv), (.ref ta), (.int ((own_A g 0 k) * (527875265 : Int32)))]))
        refine own_iald X0 hx hZ e0 A_ta (j := iv) (i := (4 * k)) (v := (.int (g (4 * k)))) hiv (by omega) rfl (hb hby d3_28) ?_
        show Ogo p e below _ (s₁.setTop (mkF m 29 #[.val (.ref ta), .val (.int (own_A g 0 k)), .val (.int (own_A g 1 k)), .val (.int (own_A g 2 k)), .val (.int (own_A g 3 k)), .val (.int iv), .unset] [(.int (g (4 * k))), (.int ((own_A g 0 k) * (527875265 : Int32)))]))
        refine own_via (fun tq kq => XS.iadd X0.here hx rfl (hb hby d3_29) rfl kq) ?_
        show Ogo p e below _ (s₁.setTop (mkF m 30 #[.val (.ref ta), .val (.int (own_A g 0 k)), .val (.int (own_A g 1 k)), .val (.int (own_A g 2 k)), .val (.int (own_A g 3 k)), .val (.int iv), .unset] [(.int (((own_A g 0 k) * (527875265 : Int32)) + (g (4 * k))))]))
        refine own_via (fun tq kq => XS.istoreN X0.here hx rfl (hb hby d3_30) rfl (l' := #[.val (.ref ta), .val (.int (((own_A g 0 k) * (527875265 : Int32)) + (g (4 * k)))), .val (.int (own_A g 1 k)), .val (.int (own_A g 2 k)), .val (.int (own_A g 3 k)), .val (.int iv), .unset]) rfl kq) ?_
        show Ogo p e below _ (s₁.setTop (mkF m 31 #[.val (.ref ta), .val (.int (((own_A g 0 k) * (527875265 : Int32)) + (g (4 * k)))), .val (.int (own_A g 1 k)), .val (.int (own_A g 2 k)), .val (.int (own_A g 3 k)), .val (.int iv), .unset] []))
        refine own_via (fun tq kq => XS.iloadN X0.here hx rfl (hb hby d3_31) rfl kq) ?_
        show Ogo p e below _ (s₁.setTop (mkF m 32 #[.val (.ref ta), .val (.int (((own_A g 0 k) * (527875265 : Int32)) + (g (4 * k)))), .val (.int (own_A g 1 k)), .val (.int (own_A g 2 k)), .val (.int (own_A g 3 k)), .val (.int iv), .unset] [(.int (own_A g 1 k))]))
        refine own_via (fun tq kq => X0.ldcInt hx hown (mvT hZ (hw _ (List.mem_of_getElem? (i := 24) rfl))) (g := (mkF m 32 #[.val (.ref ta), .val (.int (((own_A g 0 k) * (527875265 : Int32)) + (g (4 * k)))), .val (.int (own_A g 1 k)), .val (.int (own_A g 2 k)), .val (.int (own_A g 3 k)), .val (.int iv), .unset] [(.int (own_A g 1 k))])) rfl (hb hby d3_32) _ kq) ?_
        show Ogo p e below _ (s₁.setTop (mkF m 34 #[.val (.ref ta), .val (.int (((own_A g 0 k) * (527875265 : Int32)) + (g (4 * k)))), .val (.int (own_A g 1 k)), .val (.int (own_A g 2 k)), .val (.int (own_A g 3 k)), .val (.int iv), .unset] [(.int (527875265 : Int32)), (.int (own_A g 1 k))]))
        refine own_via (fun tq kq => XS.imul X0.here hx rfl (hb hby d3_34) rfl kq) ?_
        show Ogo p e below _ (s₁.setTop (mkF m 35 #[.val (.ref ta), .val (.int (((own_A g 0 k) * (527875265 : Int32)) + (g (4 * k)))), .val (.int (own_A g 1 k)), .val (.int (own_A g 2 k)), .val (.int (own_A g 3 k)), .val (.int iv), .unset] [(.int ((own_A g 1 k) * (527875265 : Int32)))]))
        refine own_via (fun tq kq => XS.aloadN X0.here hx rfl (hb hby d3_35) rfl rfl kq) ?_
        show Ogo p e below _ (s₁.setTop (mkF m 36 #[.val (.ref ta), .val (.int (((own_A g 0 k) * (527875265 : Int32)) + (g (4 * k)))), .val (.int (own_A g 1 k)), .val (.int (own_A g 2 k)), .val (.int (own_A g 3 k)), .val (.int iv), .unset] [(.ref ta), (.int ((own_A g 1 k) * (527875265 : Int32)))]))
        refine own_via (fun tq kq => XS.iload X0.here hx rfl (hb hby d3_36) rfl kq) ?_
        show Ogo p e below _ (s₁.setTop (mkF m 38 #[.val (.ref ta), .val (.int (((own_A g 0 k) * (527875265 : Int32)) + (g (4 * k)))), .val (.int (own_A g 1 k)), .val (.int (own_A g 2 k)), .val (.int (own_A g 3 k)), .val (.int iv), .unset] [(.int iv), (.ref ta), (.int ((own_A g 1 k) * (527875265 : Int32)))]))
        refine own_via (fun tq kq => XS.iconst X0.here hx rfl (hb hby d3_38) kq) ?_
        show Ogo p e below _ (s₁.setTop (mkF m 39 #[.val (.ref ta), .val (.int (((own_A g 0 k) * (527875265 : Int32)) + (g (4 * k)))), .val (.int (own_A g 1 k)), .val (.int (own_A g 2 k)), .val (.int (own_A g 3 k)), .val (.int iv), .unset] [(.int (1 : Int32)), (.int iv), (.ref ta), (.int ((own_A g 1 k) * (527875265 : Int32)))]))
        refine own_via (fun tq kq => XS.iadd X0.here hx rfl (hb hby d3_39) rfl kq) ?_
        show Ogo p e below _ (s₁.setTop (mkF m 40 #[.val (.ref ta), .val (.int (((own_A g 0 k) * (527875265 : Int32)) + (g (4 * k)))), .val (.int (own_A g 1 k)), .val (.int (own_A g 2 k)), .val (.int (own_A g 3 k)), .val (.int iv), .unset] [(.int (iv + (1 : Int32))), (.ref ta), (.int ((own_A g 1 k) * (527875265 : Int32)))]))
        refine own_iald X0 hx hZ e0 A_ta (j := (iv + (1 : Int32))) (i := (4 * k + 1)) (v := (.int (g (4 * k + 1)))) (by rw [own_add (by omega) (by omega)]; omega) (by omega) rfl (hb hby d3_40) ?_
        show Ogo p e below _ (s₁.setTop (mkF m 41 #[.val (.ref ta), .val (.int (((own_A g 0 k) * (527875265 : Int32)) + (g (4 * k)))), .val (.int (own_A g 1 k)), .val (.int (own_A g 2 k)), .val (.int (own_A g 3 k)), .val (.int iv), .unset] [(.int (g (4 * k + 1))), (.int ((own_A g 1 k) * (527875265 : Int32)))]))
        refine own_via (fun tq kq => XS.iadd X0.here hx rfl (hb hby d3_41) rfl kq) ?_
        show Ogo p e below _ (s₁.setTop (mkF m 42 #[.val (.ref ta), .val (.int (((own_A g 0 k) * (527875265 : Int32)) + (g (4 * k)))), .val (.int (own_A g 1 k)), .val (.int (own_A g 2 k)), .val (.int (own_A g 3 k)), .val (.int iv), .unset] [(.int (((own_A g 1 k) * (527875265 : Int32)) + (g (4 * k + 1))))]))
        refine own_via (fun tq kq => XS.istoreN X0.here hx rfl (hb hby d3_42) rfl (l' := #[.val (.ref ta), .val (.int (((own_A g 0 k) * (527875265 : Int32)) + (g (4 * k)))), .val (.int (((own_A g 1 k) * (527875265 : Int32)) + (g (4 * k + 1)))), .val (.int (own_A g 2 k)), .val (.int (own_A g 3 k)), .val (.int iv), .unset]) rfl kq) ?_
        show Ogo p e below _ (s₁.setTop (mkF m 43 #[.val (.ref ta), .val (.int (((own_A g 0 k) * (527875265 : Int32)) + (g (4 * k)))), .val (.int (((own_A g 1 k) * (527875265 : Int32)) + (g (4 * k + 1)))), .val (.int (own_A g 2 k)), .val (.int (own_A g 3 k)), .val (.int iv), .unset] []))
        refine own_via (fun tq kq => XS.iloadN X0.here hx rfl (hb hby d3_43) rfl kq) ?_
        show Ogo p e below _ (s₁.setTop (mkF m 44 #[.val (.ref ta), .val (.int (((own_A g 0 k) * (527875265 : Int32)) + (g (4 * k)))), .val (.int (((own_A g 1 k) * (527875265 : Int32)) + (g (4 * k + 1)))), .val (.int (own_A g 2 k)), .val (.int (own_A g 3 k)), .val (.int iv), .unset] [(.int (own_A g 2 k))]))
        refine own_via (fun tq kq => X0.ldcInt hx hown (mvT hZ (hw _ (List.mem_of_getElem? (i := 24) rfl))) (g := (mkF m 44 #[.val (.ref ta), .val (.int (((own_A g 0 k) * (527875265 : Int32)) + (g (4 * k)))), .val (.int (((own_A g 1 k) * (527875265 : Int32)) + (g (4 * k + 1)))), .val (.int (own_A g 2 k)), .val (.int (own_A g 3 k)), .val (.int iv), .unset] [(.int (own_A g 2 k))])) rfl (hb hby d3_44) _ kq) ?_
        show Ogo p e below _ (s₁.setTop (mkF m 46 #[.val (.ref ta), .val (.int (((own_A g 0 k) * (527875265 : Int32)) + (g (4 * k)))), .val (.int (((own_A g 1 k) * (527875265 : Int32)) + (g (4 * k + 1)))), .val (.int (own_A g 2 k)), .val (.int (own_A g 3 k)), .val (.int iv), .unset] [(.int (527875265 : Int32)), (.int (own_A g 2 k))]))
        refine own_via (fun tq kq => XS.imul X0.here hx rfl (hb hby d3_46) rfl kq) ?_
        show Ogo p e below _ (s₁.setTop (mkF m 47 #[.val (.ref ta), .val (.int (((own_A g 0 k) * (527875265 : Int32)) + (g (4 * k)))), .val (.int (((own_A g 1 k) * (527875265 : Int32)) + (g (4 * k + 1)))), .val (.int (own_A g 2 k)), .val (.int (own_A g 3 k)), .val (.int iv), .unset] [(.int ((own_A g 2 k) * (527875265 : Int32)))]))
        refine own_via (fun tq kq => XS.aloadN X0.here hx rfl (hb hby d3_47) rfl rfl kq) ?_
        show Ogo p e below _ (s₁.setTop (mkF m 48 #[.val (.ref ta), .val (.int (((own_A g 0 k) * (527875265 : Int32)) + (g (4 * k)))), .val (.int (((own_A g 1 k) * (527875265 : Int32)) + (g (4 * k + 1)))), .val (.int (own_A g 2 k)), .val (.int (own_A g 3 k)), .val (.int iv), .unset] [(.ref ta), (.int ((own_A g 2 k) * (527875265 : Int32)))]))
        refine own_via (fun tq kq => XS.iload X0.here hx rfl (hb hby d3_48) rfl kq) ?_
        show Ogo p e below _ (s₁.setTop (mkF m 50 #[.val (.ref ta), .val (.int (((own_A g 0 k) * (527875265 : Int32)) + (g (4 * k)))), .val (.int (((own_A g 1 k) * (527875265 : Int32)) + (g (4 * k + 1)))), .val (.int (own_A g 2 k)), .val (.int (own_A g 3 k)), .val (.int iv), .unset] [(.int iv), (.ref ta), (.int ((own_A g 2 k) * (527875265 : Int32)))]))
        refine own_via (fun tq kq => XS.iconst X0.here hx rfl (hb hby d3_50) kq) ?_
        show Ogo p e below _ (s₁.setTop (mkF m 51 #[.val (.ref ta), .val (.int (((own_A g 0 k) * (527875265 : Int32)) + (g (4 * k)))), .val (.int (((own_A g 1 k) * (527875265 : Int32)) + (g (4 * k + 1)))), .val (.int (own_A g 2 k)), .val (.int (own_A g 3 k)), .val (.int iv), .unset] [(.int (2 : Int32)), (.int iv), (.ref ta), (.int ((own_A g 2 k) * (527875265 : Int32)))]))
        refine own_via (fun tq kq => XS.iadd X0.here hx rfl (hb hby d3_51) rfl kq) ?_
        show Ogo p e below _ (s₁.setTop (mkF m 52 #[.val (.ref ta), .val (.int (((own_A g 0 k) * (527875265 : Int32)) + (g (4 * k)))), .val (.int (((own_A g 1 k) * (527875265 : Int32)) + (g (4 * k + 1)))), .val (.int (own_A g 2 k)), .val (.int (own_A g 3 k)), .val (.int iv), .unset] [(.int (iv + (2 : Int32))), (.ref ta), (.int ((own_A g 2 k) * (527875265 : Int32)))]))
        refine own_iald X0 hx hZ e0 A_ta (j := (iv + (2 : Int32))) (i := (4 * k + 2)) (v := (.int (g (4 * k + 2)))) (by rw [own_add (by omega) (by omega)]; omega) (by omega) rfl (hb hby d3_52) ?_
        show Ogo p e below _ (s₁.setTop (mkF m 53 #[.val (.ref ta), .val (.int (((own_A g 0 k) * (527875265 : Int32)) + (g (4 * k)))), .val (.int (((own_A g 1 k) * (527875265 : Int32)) + (g (4 * k + 1)))), .val (.int (own_A g 2 k)), .val (.int (own_A g 3 k)), .val (.int iv), .unset] [(.int (g (4 * k + 2))), (.int ((own_A g 2 k) * (527875265 : Int32)))]))
        refine own_via (fun tq kq => XS.iadd X0.here hx rfl (hb hby d3_53) rfl kq) ?_
        show Ogo p e below _ (s₁.setTop (mkF m 54 #[.val (.ref ta), .val (.int (((own_A g 0 k) * (527875265 : Int32)) + (g (4 * k)))), .val (.int (((own_A g 1 k) * (527875265 : Int32)) + (g (4 * k + 1)))), .val (.int (own_A g 2 k)), .val (.int (own_A g 3 k)), .val (.int iv), .unset] [(.int (((own_A g 2 k) * (527875265 : Int32)) + (g (4 * k + 2))))]))
        refine own_via (fun tq kq => XS.istoreN X0.here hx rfl (hb hby d3_54) rfl (l' := #[.val (.ref ta), .val (.int (((own_A g 0 k) * (527875265 : Int32)) + (g (4 * k)))), .val (.int (((own_A g 1 k) * (527875265 : Int32)) + (g (4 * k + 1)))), .val (.int (((own_A g 2 k) * (527875265 : Int32)) + (g (4 * k + 2)))), .val (.int (own_A g 3 k)), .val (.int iv), .unset]) rfl kq) ?_
        show Ogo p e below _ (s₁.setTop (mkF m 55 #[.val (.ref ta), .val (.int (((own_A g 0 k) * (527875265 : Int32)) + (g (4 * k)))), .val (.int (((own_A g 1 k) * (527875265 : Int32)) + (g (4 * k + 1)))), .val (.int (((own_A g 2 k) * (527875265 : Int32)) + (g (4 * k + 2)))), .val (.int (own_A g 3 k)), .val (.int iv), .unset] []))
        refine own_via (fun tq kq => XS.iload X0.here hx rfl (hb hby d3_55) rfl kq) ?_
        show Ogo p e below _ (s₁.setTop (mkF m 57 #[.val (.ref ta), .val (.int (((own_A g 0 k) * (527875265 : Int32)) + (g (4 * k)))), .val (.int (((own_A g 1 k) * (527875265 : Int32)) + (g (4 * k + 1)))), .val (.int (((own_A g 2 k) * (527875265 : Int32)) + (g (4 * k + 2)))), .val (.int (own_A g 3 k)), .val (.int iv), .unset] [(.int (own_A g 3 k))]))
        refine own_via (fun tq kq => X0.ldcInt hx hown (mvT hZ (hw _ (List.mem_of_getElem? (i := 24) rfl))) (g := (mkF m 57 #[.val (.ref ta), .val (.int (((own_A g 0 k) * (527875265 : Int32)) + (g (4 * k)))), .val (.int (((own_A g 1 k) * (527875265 : Int32)) + (g (4 * k + 1)))), .val (.int (((own_A g 2 k) * (527875265 : Int32)) + (g (4 * k + 2)))), .val (.int (own_A g 3 k)), .val (.int iv), .unset] [(.int (own_A g 3 k))])) rfl (hb hby d3_57) _ kq) ?_
        show Ogo p e below _ (s₁.setTop (mkF m 59 #[.val (.ref ta), .val (.int (((own_A g 0 k) * (527875265 : Int32)) + (g (4 * k)))), .val (.int (((own_A g 1 k) * (527875265 : Int32)) + (g (4 * k + 1)))), .val (.int (((own_A g 2 k) * (527875265 : Int32)) + (g (4 * k + 2)))), .val (.int (own_A g 3 k)), .val (.int iv), .unset] [(.int (527875265 : Int32)), (.int (own_A g 3 k))]))
        refine own_via (fun tq kq => XS.imul X0.here hx rfl (hb hby d3_59) rfl kq) ?_
        show Ogo p e below _ (s₁.setTop (mkF m 60 #[.val (.ref ta), .val (.int (((own_A g 0 k) * (527875265 : Int32)) + (g (4 * k)))), .val (.int (((own_A g 1 k) * (527875265 : Int32)) + (g (4 * k + 1)))), .val (.int (((own_A g 2 k) * (527875265 : Int32)) + (g (4 * k + 2)))), .val (.int (own_A g 3 k)), .val (.int iv), .unset] [(.int ((own_A g 3 k) * (527875265 : Int32)))]))
        refine own_via (fun tq kq => XS.aloadN X0.here hx rfl (hb hby d3_60) rfl rfl kq) ?_
        show Ogo p e below _ (s₁.setTop (mkF m 61 #[.val (.ref ta), .val (.int (((own_A g 0 k) * (527875265 : Int32)) + (g (4 * k)))), .val (.int (((own_A g 1 k) * (527875265 : Int32)) + (g (4 * k + 1)))), .val (.int (((own_A g 2 k) * (527875265 : Int32)) + (g (4 * k + 2)))), .val (.int (own_A g 3 k)), .val (.int iv), .unset] [(.ref ta), (.int ((own_A g 3 k) * (527875265 : Int32)))]))
        refine own_via (fun tq kq => XS.iload X0.here hx rfl (hb hby d3_61) rfl kq) ?_
        show Ogo p e below _ (s₁.setTop (mkF m 63 #[.val (.ref ta), .val (.int (((own_A g 0 k) * (527875265 : Int32)) + (g (4 * k)))), .val (.int (((own_A g 1 k) * (527875265 : Int32)) + (g (4 * k + 1)))), .val (.int (((own_A g 2 k) * (527875265 : Int32)) + (g (4 * k + 2)))), .val (.int (own_A g 3 k)), .val (.int iv), .unset] [(.int iv), (.ref ta), (.int ((own_A g 3 k) * (527875265 : Int32)))]))
        refine own_via (fun tq kq => XS.iconst X0.here hx rfl (hb hby d3_63) kq) ?_
        show Ogo p e below _ (s₁.setTop (mkF m 64 #[.val (.ref ta), .val (.int (((own_A g 0 k) * (527875265 : Int32)) + (g (4 * k)))), .val (.int (((own_A g 1 k) * (527875265 : Int32)) + (g (4 * k + 1)))), .val (.int (((own_A g 2 k) * (527875265 : Int32)) + (g (4 * k + 2)))), .val (.int (own_A g 3 k)), .val (.int iv), .unset] [(.int (3 : Int32)), (.int iv), (.ref ta), (.int ((own_A g 3 k) * (527875265 : Int32)))]))
        refine own_via (fun tq kq => XS.iadd X0.here hx rfl (hb hby d3_64) rfl kq) ?_
        show Ogo p e below _ (s₁.setTop (mkF m 65 #[.val (.ref ta), .val (.int (((own_A g 0 k) * (527875265 : Int32)) + (g (4 * k)))), .val (.int (((own_A g 1 k) * (527875265 : Int32)) + (g (4 * k + 1)))), .val (.int (((own_A g 2 k) * (527875265 : Int32)) + (g (4 * k + 2)))), .val (.int (own_A g 3 k)), .val (.int iv), .unset] [(.int (iv + (3 : Int32))), (.ref ta), (.int ((own_A g 3 k) * (527875265 : Int32)))]))
        refine own_iald X0 hx hZ e0 A_ta (j := (iv + (3 : Int32))) (i := (4 * k + 3)) (v := (.int (g (4 * k + 3)))) (by rw [own_add (by omega) (by omega)]; omega) (by omega) rfl (hb hby d3_65) ?_
        show Ogo p e below _ (s₁.setTop (mkF m 66 #[.val (.ref ta), .val (.int (((own_A g 0 k) * (527875265 : Int32)) + (g (4 * k)))), .val (.int (((own_A g 1 k) * (527875265 : Int32)) + (g (4 * k + 1)))), .val (.int (((own_A g 2 k) * (527875265 : Int32)) + (g (4 * k + 2)))), .val (.int (own_A g 3 k)), .val (.int iv), .unset] [(.int (g (4 * k + 3))), (.int ((own_A g 3 k) * (527875265 : Int32)))]))
        refine own_via (fun tq kq => XS.iadd X0.here hx rfl (hb hby d3_66) rfl kq) ?_
        show Ogo p e below _ (s₁.setTop (mkF m 67 #[.val (.ref ta), .val (.int (((own_A g 0 k) * (527875265 : Int32)) + (g (4 * k)))), .val (.int (((own_A g 1 k) * (527875265 : Int32)) + (g (4 * k + 1)))), .val (.int (((own_A g 2 k) * (527875265 : Int32)) + (g (4 * k + 2)))), .val (.int (own_A g 3 k)), .val (.int iv), .unset] [(.int (((own_A g 3 k) * (527875265 : Int32)) + (g (4 * k + 3))))]))
        refine own_via (fun tq kq => XS.istore X0.here hx rfl (hb hby d3_67) rfl (l' := #[.val (.ref ta), .val (.int (((own_A g 0 k) * (527875265 : Int32)) + (g (4 * k)))), .val (.int (((own_A g 1 k) * (527875265 : Int32)) + (g (4 * k + 1)))), .val (.int (((own_A g 2 k) * (527875265 : Int32)) + (g (4 * k + 2)))), .val (.int (((own_A g 3 k) * (527875265 : Int32)) + (g (4 * k + 3)))), .val (.int iv), .unset]) rfl kq) ?_
        show Ogo p e below _ (s₁.setTop (mkF m 69 #[.val (.ref ta), .val (.int (((own_A g 0 k) * (527875265 : Int32)) + (g (4 * k)))), .val (.int (((own_A g 1 k) * (527875265 : Int32)) + (g (4 * k + 1)))), .val (.int (((own_A g 2 k) * (527875265 : Int32)) + (g (4 * k + 2)))), .val (.int (((own_A g 3 k) * (527875265 : Int32)) + (g (4 * k + 3)))), .val (.int iv), .unset] []))
        refine own_via (fun tq kq => XS.iinc X0.here hx rfl (hb hby d3_69) rfl (l' := #[.val (.ref ta), .val (.int (((own_A g 0 k) * (527875265 : Int32)) + (g (4 * k)))), .val (.int (((own_A g 1 k) * (527875265 : Int32)) + (g (4 * k + 1)))), .val (.int (((own_A g 2 k) * (527875265 : Int32)) + (g (4 * k + 2)))), .val (.int (((own_A g 3 k) * (527875265 : Int32)) + (g (4 * k + 3)))), .val (.int (iv + (4 : Int32))), .unset]) rfl kq) ?_
        show Ogo p e below _ (s₁.setTop (mkF m 72 #[.val (.ref ta), .val (.int (((own_A g 0 k) * (527875265 : Int32)) + (g (4 * k)))), .val (.int (((own_A g 1 k) * (527875265 : Int32)) + (g (4 * k + 1)))), .val (.int (((own_A g 2 k) * (527875265 : Int32)) + (g (4 * k + 2)))), .val (.int (((own_A g 3 k) * (527875265 : Int32)) + (g (4 * k + 3)))), .val (.int (iv + (4 : Int32))), .unset] []))
        refine own_via (fun tq kq => XS.goto X0.here hx rfl (pc0 := 72) (pc' := 12) rfl (hb hby d3_72) (by decide) (by decide) kq) ?_
        show Ogo p e below _ (s₁.setTop (mkF m 12 #[.val (.ref ta), .val (.int (((own_A g 0 k) * (527875265 : Int32)) + (g (4 * k)))), .val (.int (((own_A g 1 k) * (527875265 : Int32)) + (g (4 * k + 1)))), .val (.int (((own_A g 2 k) * (527875265 : Int32)) + (g (4 * k + 2)))), .val (.int (((own_A g 3 k) * (527875265 : Int32)) + (g (4 * k + 3)))), .val (.int (iv + (4 : Int32))), .unset] []))
        exact ih (k + 1) (iv + 4) (by omega) (by omega) (by rw [own_add (by omega) (by omega)]; omega)
      · refine own_via (fun tq kq => XS.icmpYes X0.here hx rfl (pc0 := 18) (pc' := 75) rfl (hb hby d3_18) rfl (flt (hc18 : ¬ ((iv + (3 : Int32)) < zn))).2.1 (by decide) (by decide) kq) ?_
        show Ogo p e below _ (s₁.setTop (mkF m 75 #[.val (.ref ta), .val (.int (own_A g 0 k)), .val (.int (own_A g 1 k)), .val (.int (own_A g 2 k)), .val (.int (own_A g 3 k)), .val (.int iv), .unset] []))
        refine own_via (fun tq kq => XS.iloadN X0.here hx rfl (hb hby d3_75) rfl kq) ?_
        show Ogo p e below _ (s₁.setTop (mkF m 76 #[.val (.ref ta), .val (.int (own_A g 0 k)), .val (.int (own_A g 1 k)), .val (.int (own_A g 2 k)), .val (.int (own_A g 3 k)), .val (.int iv), .unset] [(.int (own_A g 0 k))]))
        refine own_via (fun tq kq => X0.ldcInt hx hown (mvT hZ (hw _ (List.mem_of_getElem? (i := 13) rfl))) (g := (mkF m 76 #[.val (.ref ta), .val (.int (own_A g 0 k)), .val (.int (own_A g 1 k)), .val (.int (own_A g 2 k)), .val (.int (own_A g 3 k)), .val (.int iv), .unset] [(.int (own_A g 0 k))])) rfl (hb hby d3_76) _ kq) ?_
        show Ogo p e below _ (s₁.setTop (mkF m 78 #[.val (.ref ta), .val (.int (own_A g 0 k)), .val (.int (own_A g 1 k)), .val (.int (own_A g 2 k)), .val (.int (own_A g 3 k)), .val (.int iv), .unset] [(.int (-872142831 : Int32)), (.int (own_A g 0 k))]))
        refine own_via (fun tq kq => XS.imul X0.here hx rfl (hb hby d3_78) rfl kq) ?_
        show Ogo p e below _ (s₁.setTop (mkF m 79 #[.val (.ref ta), .val (.int (own_A g 0 k)), .val (.int (own_A g 1 k)), .val (.int (own_A g 2 k)), .val (.int (own_A g 3 k)), .val (.int iv), .unset] [(.int ((own_A g 0 k) * (-872142831 : Int32)))]))
        refine own_via (fun tq kq => XS.iloadN X0.here hx rfl (hb hby d3_79) rfl kq) ?_
        show Ogo p e below _ (s₁.setTop (mkF m 80 #[.val (.ref ta), .val (.int (own_A g 0 k)), .val (.int (own_A g 1 k)), .val (.int (own_A g 2 k)), .val (.int (own_A g 3 k)), .val (.int iv), .unset] [(.int (own_A g 1 k)), (.int ((own_A g 0 k) * (-872142831 : Int32)))]))
        refine own_via (fun tq kq => X0.ldcInt hx hown (mvT hZ (hw _ (List.mem_of_getElem? (i := 14) rfl))) (g := (mkF m 80 #[.val (.ref ta), .val (.int (own_A g 0 k)), .val (.int (own_A g 1 k)), .val (.int (own_A g 2 k)), .val (.int (own_A g 3 k)), .val (.int iv), .unset] [(.int (own_A g 1 k)), (.int ((own_A g 0 k) * (-872142831 : Int32)))])) rfl (hb hby d3_80) _ kq) ?_
        show Ogo p e below _ (s₁.setTop (mkF m 82 #[.val (.ref ta), .val (.int (own_A g 0 k)), .val (.int (own_A g 1 k)), .val (.int (own_A g 2 k)), .val (.int (own_A g 3 k)), .val (.int iv), .unset] [(.int (-1651615 : Int32)), (.int (own_A g 1 k)), (.int ((own_A g 0 k) * (-872142831 : Int32)))]))
        refine own_via (fun tq kq => XS.imul X0.here hx rfl (hb hby d3_82) rfl kq) ?_
        show Ogo p e below _ (s₁.setTop (mkF m 83 #[.val (.ref ta), .val (.int (own_A g 0 k)), .val (.int (own_A g 1 k)), .val (.int (own_A g 2 k)), .val (.int (own_A g 3 k)), .val (.int iv), .unset] [(.int ((own_A g 1 k) * (-1651615 : Int32))), (.int ((own_A g 0 k) * (-872142831 : Int32)))]))
        refine own_via (fun tq kq => XS.iadd X0.here hx rfl (hb hby d3_83) rfl kq) ?_
        show Ogo p e below _ (s₁.setTop (mkF m 84 #[.val (.ref ta), .val (.int (own_A g 0 k)), .val (.int (own_A g 1 k)), .val (.int (own_A g 2 k)), .val (.int (own_A g 3 k)), .val (.int iv), .unset] [(.int (((own_A g 0 k) * (-872142831 : Int32)) + ((own_A g 1 k) * (-1651615 : Int32))))]))
        refine own_via (fun tq kq => XS.iloadN X0.here hx rfl (hb hby d3_84) rfl kq) ?_
        show Ogo p e below _ (s₁.setTop (mkF m 85 #[.val (.ref ta), .val (.int (own_A g 0 k)), .val (.int (own_A g 1 k)), .val (.int (own_A g 2 k)), .val (.int (own_A g 3 k)), .val (.int iv), .unset] [(.int (own_A g 2 k)), (.int (((own_A g 0 k) * (-872142831 : Int32)) + ((own_A g 1 k) * (-1651615 : Int32))))]))
        refine own_via (fun tq kq => X0.ldcInt hx hown (mvT hZ (hw _ (List.mem_of_getElem? (i := 15) rfl))) (g := (mkF m 85 #[.val (.ref ta), .val (.int (own_A g 0 k)), .val (.int (own_A g 1 k)), .val (.int (own_A g 2 k)), .val (.int (own_A g 3 k)), .val (.int iv), .unset] [(.int (own_A g 2 k)), (.int (((own_A g 0 k) * (-872142831 : Int32)) + ((own_A g 1 k) * (-1651615 : Int32))))])) rfl (hb hby d3_85) _ kq) ?_
        show Ogo p e below _ (s₁.setTop (mkF m 87 #[.val (.ref ta), .val (.int (own_A g 0 k)), .val (.int (own_A g 1 k)), .val (.int (own_A g 2 k)), .val (.int (own_A g 3 k)), .val (.int iv), .unset] [(.int (-1640531535 : Int32)), (.int (own_A g 2 k)), (.int (((own_A g 0 k) * (-872142831 : Int32)) + ((own_A g 1 k) * (-1651615 : Int32))))]))
        refine own_via (fun tq kq => XS.imul X0.here hx rfl (hb hby d3_87) rfl kq) ?_
        show Ogo p e below _ (s₁.setTop (mkF m 88 #[.val (.ref ta), .val (.int (own_A g 0 k)), .val (.int (own_A g 1 k)), .val (.int (own_A g 2 k)), .val (.int (own_A g 3 k)), .val (.int iv), .unset] [(.int ((own_A g 2 k) * (-1640531535 : Int32))), (.int (((own_A g 0 k) * (-872142831 : Int32)) + ((own_A g 1 k) * (-1651615 : Int32))))]))
        refine own_via (fun tq kq => XS.iadd X0.here hx rfl (hb hby d3_88) rfl kq) ?_
        show Ogo p e below _ (s₁.setTop (mkF m 89 #[.val (.ref ta), .val (.int (own_A g 0 k)), .val (.int (own_A g 1 k)), .val (.int (own_A g 2 k)), .val (.int (own_A g 3 k)), .val (.int iv), .unset] [(.int ((((own_A g 0 k) * (-872142831 : Int32)) + ((own_A g 1 k) * (-1651615 : Int32))) + ((own_A g 2 k) * (-1640531535 : Int32))))]))
        refine own_via (fun tq kq => XS.iload X0.here hx rfl (hb hby d3_89) rfl kq) ?_
        show Ogo p e below _ (s₁.setTop (mkF m 91 #[.val (.ref ta), .val (.int (own_A g 0 k)), .val (.int (own_A g 1 k)), .val (.int (own_A g 2 k)), .val (.int (own_A g 3 k)), .val (.int iv), .unset] [(.int (own_A g 3 k)), (.int ((((own_A g 0 k) * (-872142831 : Int32)) + ((own_A g 1 k) * (-1651615 : Int32))) + ((own_A g 2 k) * (-1640531535 : Int32))))]))
        refine own_via (fun tq kq => XS.iadd X0.here hx rfl (hb hby d3_91) rfl kq) ?_
        show Ogo p e below _ (s₁.setTop (mkF m 92 #[.val (.ref ta), .val (.int (own_A g 0 k)), .val (.int (own_A g 1 k)), .val (.int (own_A g 2 k)), .val (.int (own_A g 3 k)), .val (.int iv), .unset] [(.int (((((own_A g 0 k) * (-872142831 : Int32)) + ((own_A g 1 k) * (-1651615 : Int32))) + ((own_A g 2 k) * (-1640531535 : Int32))) + (own_A g 3 k)))]))
        refine own_via (fun tq kq => XS.istore X0.here hx rfl (hb hby d3_92) rfl (l' := #[.val (.ref ta), .val (.int (own_A g 0 k)), .val (.int (own_A g 1 k)), .val (.int (own_A g 2 k)), .val (.int (own_A g 3 k)), .val (.int iv), .val (.int (((((own_A g 0 k) * (-872142831 : Int32)) + ((own_A g 1 k) * (-1651615 : Int32))) + ((own_A g 2 k) * (-1640531535 : Int32))) + (own_A g 3 k)))]) rfl kq) ?_
        show Ogo p e below _ (s₁.setTop (mkF m 94 #[.val (.ref ta), .val (.int (own_A g 0 k)), .val (.int (own_A g 1 k)), .val (.int (own_A g 2 k)), .val (.int (own_A g 3 k)), .val (.int iv), .val (.int (((((own_A g 0 k) * (-872142831 : Int32)) + ((own_A g 1 k) * (-1651615 : Int32))) + ((own_A g 2 k) * (-1640531535 : Int32))) + (own_A g 3 k)))] []))
        rw [show (((((own_A g 0 k) * (-872142831 : Int32)) + ((own_A g 1 k) * (-1651615 : Int32))) + ((own_A g 2 k) * (-1640531535 : Int32))) + (own_A g 3 k)) = own_h g (4 * k) from (own_four g k).symm]
        exact loop2 (n - 4 * k) (4 * k) iv _ _ _ _ (by omega) hiv
  refine own_via (fun tq kq => XS.iconst X0.here hx rfl (hb hby d3_0) kq) ?_
  show Ogo p e below _ (s₁.setTop (mkF m 1 #[.val (.ref ta), .unset, .unset, .unset, .unset, .unset, .unset] [(.int (0 : Int32))]))
  refine own_via (fun tq kq => XS.istoreN X0.here hx rfl (hb hby d3_1) rfl (l' := #[.val (.ref ta), .val (.int (0 : Int32)), .unset, .unset, .unset, .unset, .unset]) rfl kq) ?_
  show Ogo p e below _ (s₁.setTop (mkF m 2 #[.val (.ref ta), .val (.int (0 : Int32)), .unset, .unset, .unset, .unset, .unset] []))
  refine own_via (fun tq kq => XS.iconst X0.here hx rfl (hb hby d3_2) kq) ?_
  show Ogo p e below _ (s₁.setTop (mkF m 3 #[.val (.ref ta), .val (.int (0 : Int32)), .unset, .unset, .unset, .unset, .unset] [(.int (0 : Int32))]))
  refine own_via (fun tq kq => XS.istoreN X0.here hx rfl (hb hby d3_3) rfl (l' := #[.val (.ref ta), .val (.int (0 : Int32)), .val (.int (0 : Int32)), .unset, .unset, .unset, .unset]) rfl kq) ?_
  show Ogo p e below _ (s₁.setTop (mkF m 4 #[.val (.ref ta), .val (.int (0 : Int32)), .val (.int (0 : Int32)), .unset, .unset, .unset, .unset] []))
  refine own_via (fun tq kq => XS.iconst X0.here hx rfl (hb hby d3_4) kq) ?_
  show Ogo p e below _ (s₁.setTop (mkF m 5 #[.val (.ref ta), .val (.int (0 : Int32)), .val (.int (0 : Int32)), .unset, .unset, .unset, .unset] [(.int (0 : Int32))]))
  refine own_via (fun tq kq => XS.istoreN X0.here hx rfl (hb hby d3_5) rfl (l' := #[.val (.ref ta), .val (.int (0 : Int32)), .val (.int (0 : Int32)), .val (.int (0 : Int32)), .unset, .unset, .unset]) rfl kq) ?_
  show Ogo p e below _ (s₁.setTop (mkF m 6 #[.val (.ref ta), .val (.int (0 : Int32)), .val (.int (0 : Int32)), .val (.int (0 : Int32)), .unset, .unset, .unset] []))
  refine own_via (fun tq kq => XS.iconst X0.here hx rfl (hb hby d3_6) kq) ?_
  show Ogo p e below _ (s₁.setTop (mkF m 7 #[.val (.ref ta), .val (.int (0 : Int32)), .val (.int (0 : Int32)), .val (.int (0 : Int32)), .unset, .unset, .unset] [(.int (0 : Int32))]))
  refine own_via (fun tq kq => XS.istore X0.here hx rfl (hb hby d3_7) rfl (l' := #[.val (.ref ta), .val (.int (0 : Int32)), .val (.int (0 : Int32)), .val (.int (0 : Int32)), .val (.int (0 : Int32)), .unset, .unset]) rfl kq) ?_
  show Ogo p e below _ (s₁.setTop (mkF m 9 #[.val (.ref ta), .val (.int (0 : Int32)), .val (.int (0 : Int32)), .val (.int (0 : Int32)), .val (.int (0 : Int32)), .unset, .unset] []))
  refine own_via (fun tq kq => XS.iconst X0.here hx rfl (hb hby d3_9) kq) ?_
  show Ogo p e below _ (s₁.setTop (mkF m 10 #[.val (.ref ta), .val (.int (0 : Int32)), .val (.int (0 : Int32)), .val (.int (0 : Int32)), .val (.int (0 : Int32)), .unset, .unset] [(.int (0 : Int32))]))
  refine own_via (fun tq kq => XS.istore X0.here hx rfl (hb hby d3_10) rfl (l' := #[.val (.ref ta), .val (.int (0 : Int32)), .val (.int (0 : Int32)), .val (.int (0 : Int32)), .val (.int (0 : Int32)), .val (.int (0 : Int32)), .unset]) rfl kq) ?_
  show Ogo p e below _ (s₁.setTop (mkF m 12 #[.val (.ref ta), .val (.int (0 : Int32)), .val (.int (0 : Int32)), .val (.int (0 : Int32)), .val (.int (0 : Int32)), .val (.int (0 : Int32)), .unset] []))
  exact loop1 n 0 0 (by omega) (by omega) rfl
set_option maxRecDepth 65536 in
set_option maxHeartbeats 40000000 in
theorem rm_law {l : Launch} {Z : State} {a0 : Array Value} (hw : ∀ d ∈ tables_1, d.before a0 Z = true) (p1 : Int32) (q0 q1 q2 q3 q4 : Int64) (h0 : Heap) (n0 : Nat) (zs : n0 ≤ h0.size) :
    Opays l x code maxLocals ret room_1 tables_1 Z h0 #[(.int p1), (.long q0), (.long q1), (.long q2), (.long q3), (.long q4)] (fun v h L => v = some (.int 1) ∧ Fr n0 L) := by
  refine own_enter (plainFor_of_name pn_0) ?_
  intro p e s m below meth c s₁ hx hby hml0 hown hnm hret hlk hZ e0 X0
  have hml : c.maxLocals = 15 := hml0
  replace hown : s.vm.findClass "com/example/surety/surety/lts/StateTableHashPinLaw" = some m.cls := hown
  have N := Fr.nil n0
  have hef : entryFrame m #[(.int p1), (.long q0), (.long q1), (.long q2), (.long q3), (.long q4)] maxLocals = mkF m 0 #[.val (.int p1), .val (.long q0), .second, .val (.long q1), .second, .val (.long q2), .second, .val (.long q3), .second, .val (.long q4), .second, .unset, .unset, .unset, .unset] [] := by first | (simp [entryFrame, mkF, argsToLocals, Value.category, maxLocals]; done) | rfl
  rw [hef]
  show Ogo p e below _ (s₁.setTop (mkF m 0 #[.val (.int p1), .val (.long q0), .second, .val (.long q1), .second, .val (.long q2), .second, .val (.long q3), .second, .val (.long q4), .second, .unset, .unset, .unset, .unset] []))
  refine own_via (fun tq kq => XS.iloadN X0.here hx rfl (hb hby at_0) rfl kq) ?_
  show Ogo p e below _ (s₁.setTop (mkF m 1 #[.val (.int p1), .val (.long q0), .second, .val (.long q1), .second, .val (.long q2), .second, .val (.long q3), .second, .val (.long q4), .second, .unset, .unset, .unset, .unset] [(.int p1)]))
  refine own_via (fun tq kq => X0.ldcInt hx hown (mvT hZ (hw _ (List.mem_of_getElem? (i := 0) rfl))) (g := (mkF m 1 #[.val (.int p1), .val (.long q0), .second, .val (.long q1), .second, .val (.long q2), .second, .val (.long q3), .second, .val (.long q4), .second, .unset, .unset, .unset, .unset] [(.int p1)])) rfl (hb hby at_1) _ kq) ?_
  show Ogo p e below _ (s₁.setTop (mkF m 3 #[.val (.int p1), .val (.long q0), .second, .val (.long q1), .second, .val (.long q2), .second, .val (.long q3), .second, .val (.long q4), .second, .unset, .unset, .unset, .unset] [(.int (2147483647 : Int32)), (.int p1)]))
  refine own_via (fun tq kq => XS.iand X0.here hx rfl (hb hby at_3) rfl kq) ?_
  show Ogo p e below _ (s₁.setTop (mkF m 4 #[.val (.int p1), .val (.long q0), .second, .val (.long q1), .second, .val (.long q2), .second, .val (.long q3), .second, .val (.long q4), .second, .unset, .unset, .unset, .unset] [(.int (p1 &&& (2147483647 : Int32)))]))
  refine own_via (fun tq kq => XS.bipush X0.here hx rfl (hb hby at_4) kq) ?_
  show Ogo p e below _ (s₁.setTop (mkF m 6 #[.val (.int p1), .val (.long q0), .second, .val (.long q1), .second, .val (.long q2), .second, .val (.long q3), .second, .val (.long q4), .second, .unset, .unset, .unset, .unset] [(.int (11 : Int32)), (.int (p1 &&& (2147483647 : Int32)))]))
  refine own_via (fun tq kq => iremM X0 hx rfl (hb hby at_6) rfl (by decide) kq) ?_
  show Ogo p e below _ (s₁.setTop (mkF m 7 #[.val (.int p1), .val (.long q0), .second, .val (.long q1), .second, .val (.long q2), .second, .val (.long q3), .second, .val (.long q4), .second, .unset, .unset, .unset, .unset] [(.int ((p1 &&& (2147483647 : Int32)) % (11 : Int32)))]))
  obtain ⟨ln, hln⟩ : ∃ z, z = ((p1 &&& (2147483647 : Int32)) % (11 : Int32)) := ⟨_, rfl⟩
  rw [← hln]
  show Ogo p e below _ (s₁.setTop (mkF m 7 #[.val (.int p1), .val (.long q0), .second, .val (.long q1), .second, .val (.long q2), .second, .val (.long q3), .second, .val (.long q4), .second, .unset, .unset, .unset, .unset] [(.int ln)]))
  obtain ⟨n, hzn, hn⟩ : ∃ n : Nat, ln.toInt = (n : Int) ∧ n ≤ 10 := by rw [hln]; exact own_len p1
  refine own_via (fun tq kq => XS.istore X0.here hx rfl (hb hby at_7) rfl (l' := #[.val (.int p1), .val (.long q0), .second, .val (.long q1), .second, .val (.long q2), .second, .val (.long q3), .second, .val (.long q4), .second, .val (.int ln), .unset, .unset, .unset]) rfl kq) ?_
  show Ogo p e below _ (s₁.setTop (mkF m 9 #[.val (.int p1), .val (.long q0), .second, .val (.long q1), .second, .val (.long q2), .second, .val (.long q3), .second, .val (.long q4), .second, .val (.int ln), .unset, .unset, .unset] []))
  refine own_via (fun tq kq => XS.bipush X0.here hx rfl (hb hby at_9) kq) ?_
  show Ogo p e below _ (s₁.setTop (mkF m 11 #[.val (.int p1), .val (.long q0), .second, .val (.long q1), .second, .val (.long q2), .second, .val (.long q3), .second, .val (.long q4), .second, .val (.int ln), .unset, .unset, .unset] [(.int (10 : Int32))]))
  obtain ⟨T1, h1, k1, X1, e1, E1, A1, st1⟩ := newP X0 hx hZ (hw _ (List.mem_of_getElem? (i := 1) rfl)) e0 (g := (mkF m 11 #[.val (.int p1), .val (.long q0), .second, .val (.long q1), .second, .val (.long q2), .second, .val (.long q3), .second, .val (.long q4), .second, .val (.int ln), .unset, .unset, .unset] [(.int (10 : Int32))])) rfl (hb hby at_11) rfl (by decide) (cap := 10) (by decide) (by decide) (by decide) (by decide)
  refine own_via st1 ?_
  obtain ⟨va, g1⟩ : ∃ z, z = h0.size := ⟨_, rfl⟩
  rw [← g1]
  rw [← g1] at A1
  have g_va : n0 ≤ va := by rw [g1]; exact zs
  have zs := Nat.le_trans zs E1.1
  have A_va : Oar Z h1 va .int 10 (fun _ => defaultValue .int) := Oar.new A1 (by decide) rfl
  show Ogo p e below _ (T1.setTop (mkF m 13 #[.val (.int p1), .val (.long q0), .second, .val (.long q1), .second, .val (.long q2), .second, .val (.long q3), .second, .val (.long q4), .second, .val (.int ln), .unset, .unset, .unset] [(.ref va)]))
  obtain ⟨g0, A_va⟩ : ∃ g0 : Nat → Int32, Oar Z h1 va .int 10 (fun q => .int (g0 q)) := ⟨fun _ => 0, A_va⟩
  refine own_via (fun tq kq => XS.astore X1.here hx rfl (hb hby at_13) rfl rfl (l' := #[.val (.int p1), .val (.long q0), .second, .val (.long q1), .second, .val (.long q2), .second, .val (.long q3), .second, .val (.long q4), .second, .val (.int ln), .val (.ref va), .unset, .unset]) rfl kq) ?_
  show Ogo p e below _ (T1.setTop (mkF m 15 #[.val (.int p1), .val (.long q0), .second, .val (.long q1), .second, .val (.long q2), .second, .val (.long q3), .second, .val (.long q4), .second, .val (.int ln), .val (.ref va), .unset, .unset] []))
  refine own_via (fun tq kq => XS.aload X1.here hx rfl (hb hby at_15) rfl rfl kq) ?_
  show Ogo p e below _ (T1.setTop (mkF m 17 #[.val (.int p1), .val (.long q0), .second, .val (.long q1), .second, .val (.long q2), .second, .val (.long q3), .second, .val (.long q4), .second, .val (.int ln), .val (.ref va), .unset, .unset] [(.ref va)]))
  refine own_via (fun tq kq => XS.iconst X1.here hx rfl (hb hby at_17) kq) ?_
  show Ogo p e below _ (T1.setTop (mkF m 18 #[.val (.int p1), .val (.long q0), .second, .val (.long q1), .second, .val (.long q2), .second, .val (.long q3), .second, .val (.long q4), .second, .val (.int ln), .val (.ref va), .unset, .unset] [(.int (0 : Int32)), (.ref va)]))
  refine own_via (fun tq kq => XS.lloadN X1.here hx rfl (hb hby at_18) rfl kq) ?_
  show Ogo p e below _ (T1.setTop (mkF m 19 #[.val (.int p1), .val (.long q0), .second, .val (.long q1), .second, .val (.long q2), .second, .val (.long q3), .second, .val (.long q4), .second, .val (.int ln), .val (.ref va), .unset, .unset] [(.long q0), (.int (0 : Int32)), (.ref va)]))
  refine own_via (fun tq kq => XS.l2i X1.here hx rfl (hb hby at_19) rfl kq) ?_
  show Ogo p e below _ (T1.setTop (mkF m 20 #[.val (.int p1), .val (.long q0), .second, .val (.long q1), .second, .val (.long q2), .second, .val (.long q3), .second, .val (.long q4), .second, .val (.int ln), .val (.ref va), .unset, .unset] [(.int (q0.toInt32)), (.int (0 : Int32)), (.ref va)]))
  obtain ⟨T2, h2, X2, e2, W2, A_va', st2⟩ := own_iast X1 hx hZ e1 A_va (x := (q0.toInt32)) (j := (0 : Int32)) (i := 0) (by decide) (by decide) (pc := 20) (Ls := #[.val (.int p1), .val (.long q0), .second, .val (.long q1), .second, .val (.long q2), .second, .val (.long q3), .second, .val (.long q4), .second, .val (.int ln), .val (.ref va), .unset, .unset]) (rest := []) (hb hby at_20)
  refine own_via st2 ?_
  have zs := Nat.le_trans zs (Keep.of_wr W2).1
  have N := Fr.snoc X2 N g_va
  have A_va := A_va'
  show Ogo p e below _ (T2.setTop (mkF m 21 #[.val (.int p1), .val (.long q0), .second, .val (.long q1), .second, .val (.long q2), .second, .val (.long q3), .second, .val (.long q4), .second, .val (.int ln), .val (.ref va), .unset, .unset] []))
  obtain ⟨g1, A_va, -, -⟩ := own_ist A_va
  refine own_via (fun tq kq => XS.aload X2.here hx rfl (hb hby at_21) rfl rfl kq) ?_
  show Ogo p e below _ (T2.setTop (mkF m 23 #[.val (.int p1), .val (.long q0), .second, .val (.long q1), .second, .val (.long q2), .second, .val (.long q3), .second, .val (.long q4), .second, .val (.int ln), .val (.ref va), .unset, .unset] [(.ref va)]))
  refine own_via (fun tq kq => XS.iconst X2.here hx rfl (hb hby at_23) kq) ?_
  show Ogo p e below _ (T2.setTop (mkF m 24 #[.val (.int p1), .val (.long q0), .second, .val (.long q1), .second, .val (.long q2), .second, .val (.long q3), .second, .val (.long q4), .second, .val (.int ln), .val (.ref va), .unset, .unset] [(.int (1 : Int32)), (.ref va)]))
  refine own_via (fun tq kq => XS.lloadN X2.here hx rfl (hb hby at_24) rfl kq) ?_
  show Ogo p e below _ (T2.setTop (mkF m 25 #[.val (.int p1), .val (.long q0), .second, .val (.long q1), .second, .val (.long q2), .second, .val (.long q3), .second, .val (.long q4), .second, .val (.int ln), .val (.ref va), .unset, .unset] [(.long q0), (.int (1 : Int32)), (.ref va)]))
  refine own_via (fun tq kq => XS.bipush X2.here hx rfl (hb hby at_25) kq) ?_
  show Ogo p e below _ (T2.setTop (mkF m 27 #[.val (.int p1), .val (.long q0), .second, .val (.long q1), .second, .val (.long q2), .second, .val (.long q3), .second, .val (.long q4), .second, .val (.int ln), .val (.ref va), .unset, .unset] [(.int (32 : Int32)), (.long q0), (.int (1 : Int32)), (.ref va)]))
  refine own_via (fun tq kq => XS.lushr X2.here hx rfl (hb hby at_27) rfl kq) ?_
  show Ogo p e below _ (T2.setTop (mkF m 28 #[.val (.int p1), .val (.long q0), .second, .val (.long q1), .second, .val (.long q2), .second, .val (.long q3), .second, .val (.long q4), .second, .val (.int ln), .val (.ref va), .unset, .unset] [(.long ((q0.toUInt64 >>> ((32 : Int32) &&& 0x3f).toInt64.toUInt64).toInt64)), (.int (1 : Int32)), (.ref va)]))
  refine own_via (fun tq kq => XS.l2i X2.here hx rfl (hb hby at_28) rfl kq) ?_
  show Ogo p e below _ (T2.setTop (mkF m 29 #[.val (.int p1), .val (.long q0), .second, .val (.long q1), .second, .val (.long q2), .second, .val (.long q3), .second, .val (.long q4), .second, .val (.int ln), .val (.ref va), .unset, .unset] [(.int (((q0.toUInt64 >>> ((32 : Int32) &&& 0x3f).toInt64.toUInt64).toInt64).toInt32)), (.int (1 : Int32)), (.ref va)]))
  obtain ⟨T3, h3, X3, e3, W3, A_va', st3⟩ := own_iast X2 hx hZ e2 A_va (x := (((q0.toUInt64 >>> ((32 : Int32) &&& 0x3f).toInt64.toUInt64).toInt64).toInt32)) (j := (1 : Int32)) (i := 1) (by decide) (by decide) (pc := 29) (Ls := #[.val (.int p1), .val (.long q0), .second, .val (.long q1), .second, .val (.long q2), .second, .val (.long q3), .second, .val (.long q4), .second, .val (.int ln), .val (.ref va), .unset, .unset]) (rest := []) (hb hby at_29)
  refine own_via st3 ?_
  have zs := Nat.le_trans zs (Keep.of_wr W3).1
  have N := Fr.snoc X3 N g_va
  have A_va := A_va'
  show Ogo p e below _ (T3.setTop (mkF m 30 #[.val (.int p1), .val (.long q0), .second, .val (.long q1), .second, .val (.long q2), .second, .val (.long q3), .second, .val (.long q4), .second, .val (.int ln), .val (.ref va), .unset, .unset] []))
  obtain ⟨g2, A_va, -, -⟩ := own_ist A_va
  refine own_via (fun tq kq => XS.aload X3.here hx rfl (hb hby at_30) rfl rfl kq) ?_
  show Ogo p e below _ (T3.setTop (mkF m 32 #[.val (.int p1), .val (.long q0), .second, .val (.long q1), .second, .val (.long q2), .second, .val (.long q3), .second, .val (.long q4), .second, .val (.int ln), .val (.ref va), .unset, .unset] [(.ref va)]))
  refine own_via (fun tq kq => XS.iconst X3.here hx rfl (hb hby at_32) kq) ?_
  show Ogo p e below _ (T3.setTop (mkF m 33 #[.val (.int p1), .val (.long q0), .second, .val (.long q1), .second, .val (.long q2), .second, .val (.long q3), .second, .val (.long q4), .second, .val (.int ln), .val (.ref va), .unset, .unset] [(.int (2 : Int32)), (.ref va)]))
  refine own_via (fun tq kq => XS.lloadN X3.here hx rfl (hb hby at_33) rfl kq) ?_
  show Ogo p e below _ (T3.setTop (mkF m 34 #[.val (.int p1), .val (.long q0), .second, .val (.long q1), .second, .val (.long q2), .second, .val (.long q3), .second, .val (.long q4), .second, .val (.int ln), .val (.ref va), .unset, .unset] [(.long q1), (.int (2 : Int32)), (.ref va)]))
  refine own_via (fun tq kq => XS.l2i X3.here hx rfl (hb hby at_34) rfl kq) ?_
  show Ogo p e below _ (T3.setTop (mkF m 35 #[.val (.int p1), .val (.long q0), .second, .val (.long q1), .second, .val (.long q2), .second, .val (.long q3), .second, .val (.long q4), .second, .val (.int ln), .val (.ref va), .unset, .unset] [(.int (q1.toInt32)), (.int (2 : Int32)), (.ref va)]))
  obtain ⟨T4, h4, X4, e4, W4, A_va', st4⟩ := own_iast X3 hx hZ e3 A_va (x := (q1.toInt32)) (j := (2 : Int32)) (i := 2) (by decide) (by decide) (pc := 35) (Ls := #[.val (.int p1), .val (.long q0), .second, .val (.long q1), .second, .val (.long q2), .second, .val (.long q3), .second, .val (.long q4), .second, .val (.int ln), .val (.ref va), .unset, .unset]) (rest := []) (hb hby at_35)
  refine own_via st4 ?_
  have zs := Nat.le_trans zs (Keep.of_wr W4).1
  have N := Fr.snoc X4 N g_va
  have A_va := A_va'
  show Ogo p e below _ (T4.setTop (mkF m 36 #[.val (.int p1), .val (.long q0), .second, .val (.long q1), .second, .val (.long q2), .second, .val (.long q3), .second, .val (.long q4), .second, .val (.int ln), .val (.ref va), .unset, .unset] []))
  obtain ⟨g3, A_va, -, -⟩ := own_ist A_va
  refine own_via (fun tq kq => XS.aload X4.here hx rfl (hb hby at_36) rfl rfl kq) ?_
  show Ogo p e below _ (T4.setTop (mkF m 38 #[.val (.int p1), .val (.long q0), .second, .val (.long q1), .second, .val (.long q2), .second, .val (.long q3), .second, .val (.long q4), .second, .val (.int ln), .val (.ref va), .unset, .unset] [(.ref va)]))
  refine own_via (fun tq kq => XS.iconst X4.here hx rfl (hb hby at_38) kq) ?_
  show Ogo p e below _ (T4.setTop (mkF m 39 #[.val (.int p1), .val (.long q0), .second, .val (.long q1), .second, .val (.long q2), .second, .val (.long q3), .second, .val (.long q4), .second, .val (.int ln), .val (.ref va), .unset, .unset] [(.int (3 : Int32)), (.ref va)]))
  refine own_via (fun tq kq => XS.lloadN X4.here hx rfl (hb hby at_39) rfl kq) ?_
  show Ogo p e below _ (T4.setTop (mkF m 40 #[.val (.int p1), .val (.long q0), .second, .val (.long q1), .second, .val (.long q2), .second, .val (.long q3), .second, .val (.long q4), .second, .val (.int ln), .val (.ref va), .unset, .unset] [(.long q1), (.int (3 : Int32)), (.ref va)]))
  refine own_via (fun tq kq => XS.bipush X4.here hx rfl (hb hby at_40) kq) ?_
  show Ogo p e below _ (T4.setTop (mkF m 42 #[.val (.int p1), .val (.long q0), .second, .val (.long q1), .second, .val (.long q2), .second, .val (.long q3), .second, .val (.long q4), .second, .val (.int ln), .val (.ref va), .unset, .unset] [(.int (32 : Int32)), (.long q1), (.int (3 : Int32)), (.ref va)]))
  refine own_via (fun tq kq => XS.lushr X4.here hx rfl (hb hby at_42) rfl kq) ?_
  show Ogo p e below _ (T4.setTop (mkF m 43 #[.val (.int p1), .val (.long q0), .second, .val (.long q1), .second, .val (.long q2), .second, .val (.long q3), .second, .val (.long q4), .second, .val (.int ln), .val (.ref va), .unset, .unset] [(.long ((q1.toUInt64 >>> ((32 : Int32) &&& 0x3f).toInt64.toUInt64).toInt64)), (.int (3 : Int32)), (.ref va)]))
  refine own_via (fun tq kq => XS.l2i X4.here hx rfl (hb hby at_43) rfl kq) ?_
  show Ogo p e below _ (T4.setTop (mkF m 44 #[.val (.int p1), .val (.long q0), .second, .val (.long q1), .second, .val (.long q2), .second, .val (.long q3), .second, .val (.long q4), .second, .val (.int ln), .val (.ref va), .unset, .unset] [(.int (((q1.toUInt64 >>> ((32 : Int32) &&& 0x3f).toInt64.toUInt64).toInt64).toInt32)), (.int (3 : Int32)), (.ref va)]))
  obtain ⟨T5, h5, X5, e5, W5, A_va', st5⟩ := own_iast X4 hx hZ e4 A_va (x := (((q1.toUInt64 >>> ((32 : Int32) &&& 0x3f).toInt64.toUInt64).toInt64).toInt32)) (j := (3 : Int32)) (i := 3) (by decide) (by decide) (pc := 44) (Ls := #[.val (.int p1), .val (.long q0), .second, .val (.long q1), .second, .val (.long q2), .second, .val (.long q3), .second, .val (.long q4), .second, .val (.int ln), .val (.ref va), .unset, .unset]) (rest := []) (hb hby at_44)
  refine own_via st5 ?_
  have zs := Nat.le_trans zs (Keep.of_wr W5).1
  have N := Fr.snoc X5 N g_va
  have A_va := A_va'
  show Ogo p e below _ (T5.setTop (mkF m 45 #[.val (.int p1), .val (.long q0), .second, .val (.long q1), .second, .val (.long q2), .second, .val (.long q3), .second, .val (.long q4), .second, .val (.int ln), .val (.ref va), .unset, .unset] []))
  obtain ⟨g4, A_va, -, -⟩ := own_ist A_va
  refine own_via (fun tq kq => XS.aload X5.here hx rfl (hb hby at_45) rfl rfl kq) ?_
  show Ogo p e below _ (T5.setTop (mkF m 47 #[.val (.int p1), .val (.long q0), .second, .val (.long q1), .second, .val (.long q2), .second, .val (.long q3), .second, .val (.long q4), .second, .val (.int ln), .val (.ref va), .unset, .unset] [(.ref va)]))
  refine own_via (fun tq kq => XS.iconst X5.here hx rfl (hb hby at_47) kq) ?_
  show Ogo p e below _ (T5.setTop (mkF m 48 #[.val (.int p1), .val (.long q0), .second, .val (.long q1), .second, .val (.long q2), .second, .val (.long q3), .second, .val (.long q4), .second, .val (.int ln), .val (.ref va), .unset, .unset] [(.int (4 : Int32)), (.ref va)]))
  refine own_via (fun tq kq => XS.lload X5.here hx rfl (hb hby at_48) rfl kq) ?_
  show Ogo p e below _ (T5.setTop (mkF m 50 #[.val (.int p1), .val (.long q0), .second, .val (.long q1), .second, .val (.long q2), .second, .val (.long q3), .second, .val (.long q4), .second, .val (.int ln), .val (.ref va), .unset, .unset] [(.long q2), (.int (4 : Int32)), (.ref va)]))
  refine own_via (fun tq kq => XS.l2i X5.here hx rfl (hb hby at_50) rfl kq) ?_
  show Ogo p e below _ (T5.setTop (mkF m 51 #[.val (.int p1), .val (.long q0), .second, .val (.long q1), .second, .val (.long q2), .second, .val (.long q3), .second, .val (.long q4), .second, .val (.int ln), .val (.ref va), .unset, .unset] [(.int (q2.toInt32)), (.int (4 : Int32)), (.ref va)]))
  obtain ⟨T6, h6, X6, e6, W6, A_va', st6⟩ := own_iast X5 hx hZ e5 A_va (x := (q2.toInt32)) (j := (4 : Int32)) (i := 4) (by decide) (by decide) (pc := 51) (Ls := #[.val (.int p1), .val (.long q0), .second, .val (.long q1), .second, .val (.long q2), .second, .val (.long q3), .second, .val (.long q4), .second, .val (.int ln), .val (.ref va), .unset, .unset]) (rest := []) (hb hby at_51)
  refine own_via st6 ?_
  have zs := Nat.le_trans zs (Keep.of_wr W6).1
  have N := Fr.snoc X6 N g_va
  have A_va := A_va'
  show Ogo p e below _ (T6.setTop (mkF m 52 #[.val (.int p1), .val (.long q0), .second, .val (.long q1), .second, .val (.long q2), .second, .val (.long q3), .second, .val (.long q4), .second, .val (.int ln), .val (.ref va), .unset, .unset] []))
  obtain ⟨g5, A_va, -, -⟩ := own_ist A_va
  refine own_via (fun tq kq => XS.aload X6.here hx rfl (hb hby at_52) rfl rfl kq) ?_
  show Ogo p e below _ (T6.setTop (mkF m 54 #[.val (.int p1), .val (.long q0), .second, .val (.long q1), .second, .val (.long q2), .second, .val (.long q3), .second, .val (.long q4), .second, .val (.int ln), .val (.ref va), .unset, .unset] [(.ref va)]))
  refine own_via (fun tq kq => XS.iconst X6.here hx rfl (hb hby at_54) kq) ?_
  show Ogo p e below _ (T6.setTop (mkF m 55 #[.val (.int p1), .val (.long q0), .second, .val (.long q1), .second, .val (.long q2), .second, .val (.long q3), .second, .val (.long q4), .second, .val (.int ln), .val (.ref va), .unset, .unset] [(.int (5 : Int32)), (.ref va)]))
  refine own_via (fun tq kq => XS.lload X6.here hx rfl (hb hby at_55) rfl kq) ?_
  show Ogo p e below _ (T6.setTop (mkF m 57 #[.val (.int p1), .val (.long q0), .second, .val (.long q1), .second, .val (.long q2), .second, .val (.long q3), .second, .val (.long q4), .second, .val (.int ln), .val (.ref va), .unset, .unset] [(.long q2), (.int (5 : Int32)), (.ref va)]))
  refine own_via (fun tq kq => XS.bipush X6.here hx rfl (hb hby at_57) kq) ?_
  show Ogo p e below _ (T6.setTop (mkF m 59 #[.val (.int p1), .val (.long q0), .second, .val (.long q1), .second, .val (.long q2), .second, .val (.long q3), .second, .val (.long q4), .second, .val (.int ln), .val (.ref va), .unset, .unset] [(.int (32 : Int32)), (.long q2), (.int (5 : Int32)), (.ref va)]))
  refine own_via (fun tq kq => XS.lushr X6.here hx rfl (hb hby at_59) rfl kq) ?_
  show Ogo p e below _ (T6.setTop (mkF m 60 #[.val (.int p1), .val (.long q0), .second, .val (.long q1), .second, .val (.long q2), .second, .val (.long q3), .second, .val (.long q4), .second, .val (.int ln), .val (.ref va), .unset, .unset] [(.long ((q2.toUInt64 >>> ((32 : Int32) &&& 0x3f).toInt64.toUInt64).toInt64)), (.int (5 : Int32)), (.ref va)]))
  refine own_via (fun tq kq => XS.l2i X6.here hx rfl (hb hby at_60) rfl kq) ?_
  show Ogo p e below _ (T6.setTop (mkF m 61 #[.val (.int p1), .val (.long q0), .second, .val (.long q1), .second, .val (.long q2), .second, .val (.long q3), .second, .val (.long q4), .second, .val (.int ln), .val (.ref va), .unset, .unset] [(.int (((q2.toUInt64 >>> ((32 : Int32) &&& 0x3f).toInt64.toUInt64).toInt64).toInt32)), (.int (5 : Int32)), (.ref va)]))
  obtain ⟨T7, h7, X7, e7, W7, A_va', st7⟩ := own_iast X6 hx hZ e6 A_va (x := (((q2.toUInt64 >>> ((32 : Int32) &&& 0x3f).toInt64.toUInt64).toInt64).toInt32)) (j := (5 : Int32)) (i := 5) (by decide) (by decide) (pc := 61) (Ls := #[.val (.int p1), .val (.long q0), .second, .val (.long q1), .second, .val (.long q2), .second, .val (.long q3), .second, .val (.long q4), .second, .val (.int ln), .val (.ref va), .unset, .unset]) (rest := []) (hb hby at_61)
  refine own_via st7 ?_
  have zs := Nat.le_trans zs (Keep.of_wr W7).1
  have N := Fr.snoc X7 N g_va
  have A_va := A_va'
  show Ogo p e below _ (T7.setTop (mkF m 62 #[.val (.int p1), .val (.long q0), .second, .val (.long q1), .second, .val (.long q2), .second, .val (.long q3), .second, .val (.long q4), .second, .val (.int ln), .val (.ref va), .unset, .unset] []))
  obtain ⟨g6, A_va, -, -⟩ := own_ist A_va
  refine own_via (fun tq kq => XS.aload X7.here hx rfl (hb hby at_62) rfl rfl kq) ?_
  show Ogo p e below _ (T7.setTop (mkF m 64 #[.val (.int p1), .val (.long q0), .second, .val (.long q1), .second, .val (.long q2), .second, .val (.long q3), .second, .val (.long q4), .second, .val (.int ln), .val (.ref va), .unset, .unset] [(.ref va)]))
  refine own_via (fun tq kq => XS.bipush X7.here hx rfl (hb hby at_64) kq) ?_
  show Ogo p e below _ (T7.setTop (mkF m 66 #[.val (.int p1), .val (.long q0), .second, .val (.long q1), .second, .val (.long q2), .second, .val (.long q3), .second, .val (.long q4), .second, .val (.int ln), .val (.ref va), .unset, .unset] [(.int (6 : Int32)), (.ref va)]))
  refine own_via (fun tq kq => XS.lload X7.here hx rfl (hb hby at_66) rfl kq) ?_
  show Ogo p e below _ (T7.setTop (mkF m 68 #[.val (.int p1), .val (.long q0), .second, .val (.long q1), .second, .val (.long q2), .second, .val (.long q3), .second, .val (.long q4), .second, .val (.int ln), .val (.ref va), .unset, .unset] [(.long q3), (.int (6 : Int32)), (.ref va)]))
  refine own_via (fun tq kq => XS.l2i X7.here hx rfl (hb hby at_68) rfl kq) ?_
  show Ogo p e below _ (T7.setTop (mkF m 69 #[.val (.int p1), .val (.long q0), .second, .val (.long q1), .second, .val (.long q2), .second, .val (.long q3), .second, .val (.long q4), .second, .val (.int ln), .val (.ref va), .unset, .unset] [(.int (q3.toInt32)), (.int (6 : Int32)), (.ref va)]))
  obtain ⟨T8, h8, X8, e8, W8, A_va', st8⟩ := own_iast X7 hx hZ e7 A_va (x := (q3.toInt32)) (j := (6 : Int32)) (i := 6) (by decide) (by decide) (pc := 69) (Ls := #[.val (.int p1), .val (.long q0), .second, .val (.long q1), .second, .val (.long q2), .second, .val (.long q3), .second, .val (.long q4), .second, .val (.int ln), .val (.ref va), .unset, .unset]) (rest := []) (hb hby at_69)
  refine own_via st8 ?_
  have zs := Nat.le_trans zs (Keep.of_wr W8).1
  have N := Fr.snoc X8 N g_va
  have A_va := A_va'
  show Ogo p e below _ (T8.setTop (mkF m 70 #[.val (.int p1), .val (.long q0), .second, .val (.long q1), .second, .val (.long q2), .second, .val (.long q3), .second, .val (.long q4), .second, .val (.int ln), .val (.ref va), .unset, .unset] []))
  obtain ⟨g7, A_va, -, -⟩ := own_ist A_va
  refine own_via (fun tq kq => XS.aload X8.here hx rfl (hb hby at_70) rfl rfl kq) ?_
  show Ogo p e below _ (T8.setTop (mkF m 72 #[.val (.int p1), .val (.long q0), .second, .val (.long q1), .second, .val (.long q2), .second, .val (.long q3), .second, .val (.long q4), .second, .val (.int ln), .val (.ref va), .unset, .unset] [(.ref va)]))
  refine own_via (fun tq kq => XS.bipush X8.here hx rfl (hb hby at_72) kq) ?_
  show Ogo p e below _ (T8.setTop (mkF m 74 #[.val (.int p1), .val (.long q0), .second, .val (.long q1), .second, .val (.long q2), .second, .val (.long q3), .second, .val (.long q4), .second, .val (.int ln), .val (.ref va), .unset, .unset] [(.int (7 : Int32)), (.ref va)]))
  refine own_via (fun tq kq => XS.lload X8.here hx rfl (hb hby at_74) rfl kq) ?_
  show Ogo p e below _ (T8.setTop (mkF m 76 #[.val (.int p1), .val (.long q0), .second, .val (.long q1), .second, .val (.long q2), .second, .val (.long q3), .second, .val (.long q4), .second, .val (.int ln), .val (.ref va), .unset, .unset] [(.long q3), (.int (7 : Int32)), (.ref va)]))
  refine own_via (fun tq kq => XS.bipush X8.here hx rfl (hb hby at_76) kq) ?_
  show Ogo p e below _ (T8.setTop (mkF m 78 #[.val (.int p1), .val (.long q0), .second, .val (.long q1), .second, .val (.long q2), .second, .val (.long q3), .second, .val (.long q4), .second, .val (.int ln), .val (.ref va), .unset, .unset] [(.int (32 : Int32)), (.long q3), (.int (7 : Int32)), (.ref va)]))
  refine own_via (fun tq kq => XS.lushr X8.here hx rfl (hb hby at_78) rfl kq) ?_
  show Ogo p e below _ (T8.setTop (mkF m 79 #[.val (.int p1), .val (.long q0), .second, .val (.long q1), .second, .val (.long q2), .second, .val (.long q3), .second, .val (.long q4), .second, .val (.int ln), .val (.ref va), .unset, .unset] [(.long ((q3.toUInt64 >>> ((32 : Int32) &&& 0x3f).toInt64.toUInt64).toInt64)), (.int (7 : Int32)), (.ref va)]))
  refine own_via (fun tq kq => XS.l2i X8.here hx rfl (hb hby at_79) rfl kq) ?_
  show Ogo p e below _ (T8.setTop (mkF m 80 #[.val (.int p1), .val (.long q0), .second, .val (.long q1), .second, .val (.long q2), .second, .val (.long q3), .second, .val (.long q4), .second, .val (.int ln), .val (.ref va), .unset, .unset] [(.int (((q3.toUInt64 >>> ((32 : Int32) &&& 0x3f).toInt64.toUInt64).toInt64).toInt32)), (.int (7 : Int32)), (.ref va)]))
  obtain ⟨T9, h9, X9, e9, W9, A_va', st9⟩ := own_iast X8 hx hZ e8 A_va (x := (((q3.toUInt64 >>> ((32 : Int32) &&& 0x3f).toInt64.toUInt64).toInt64).toInt32)) (j := (7 : Int32)) (i := 7) (by decide) (by decide) (pc := 80) (Ls := #[.val (.int p1), .val (.long q0), .second, .val (.long q1), .second, .val (.long q2), .second, .val (.long q3), .second, .val (.long q4), .second, .val (.int ln), .val (.ref va), .unset, .unset]) (rest := []) (hb hby at_80)
  refine own_via st9 ?_
  have zs := Nat.le_trans zs (Keep.of_wr W9).1
  have N := Fr.snoc X9 N g_va
  have A_va := A_va'
  show Ogo p e below _ (T9.setTop (mkF m 81 #[.val (.int p1), .val (.long q0), .second, .val (.long q1), .second, .val (.long q2), .second, .val (.long q3), .second, .val (.long q4), .second, .val (.int ln), .val (.ref va), .unset, .unset] []))
  obtain ⟨g8, A_va, -, -⟩ := own_ist A_va
  refine own_via (fun tq kq => XS.aload X9.here hx rfl (hb hby at_81) rfl rfl kq) ?_
  show Ogo p e below _ (T9.setTop (mkF m 83 #[.val (.int p1), .val (.long q0), .second, .val (.long q1), .second, .val (.long q2), .second, .val (.long q3), .second, .val (.long q4), .second, .val (.int ln), .val (.ref va), .unset, .unset] [(.ref va)]))
  refine own_via (fun tq kq => XS.bipush X9.here hx rfl (hb hby at_83) kq) ?_
  show Ogo p e below _ (T9.setTop (mkF m 85 #[.val (.int p1), .val (.long q0), .second, .val (.long q1), .second, .val (.long q2), .second, .val (.long q3), .second, .val (.long q4), .second, .val (.int ln), .val (.ref va), .unset, .unset] [(.int (8 : Int32)), (.ref va)]))
  refine own_via (fun tq kq => XS.lload X9.here hx rfl (hb hby at_85) rfl kq) ?_
  show Ogo p e below _ (T9.setTop (mkF m 87 #[.val (.int p1), .val (.long q0), .second, .val (.long q1), .second, .val (.long q2), .second, .val (.long q3), .second, .val (.long q4), .second, .val (.int ln), .val (.ref va), .unset, .unset] [(.long q4), (.int (8 : Int32)), (.ref va)]))
  refine own_via (fun tq kq => XS.l2i X9.here hx rfl (hb hby at_87) rfl kq) ?_
  show Ogo p e below _ (T9.setTop (mkF m 88 #[.val (.int p1), .val (.long q0), .second, .val (.long q1), .second, .val (.long q2), .second, .val (.long q3), .second, .val (.long q4), .second, .val (.int ln), .val (.ref va), .unset, .unset] [(.int (q4.toInt32)), (.int (8 : Int32)), (.ref va)]))
  obtain ⟨T10, h10, X10, e10, W10, A_va', st10⟩ := own_iast X9 hx hZ e9 A_va (x := (q4.toInt32)) (j := (8 : Int32)) (i := 8) (by decide) (by decide) (pc := 88) (Ls := #[.val (.int p1), .val (.long q0), .second, .val (.long q1), .second, .val (.long q2), .second, .val (.long q3), .second, .val (.long q4), .second, .val (.int ln), .val (.ref va), .unset, .unset]) (rest := []) (hb hby at_88)
  refine own_via st10 ?_
  have zs := Nat.le_trans zs (Keep.of_wr W10).1
  have N := Fr.snoc X10 N g_va
  have A_va := A_va'
  show Ogo p e below _ (T10.setTop (mkF m 89 #[.val (.int p1), .val (.long q0), .second, .val (.long q1), .second, .val (.long q2), .second, .val (.long q3), .second, .val (.long q4), .second, .val (.int ln), .val (.ref va), .unset, .unset] []))
  obtain ⟨g9, A_va, -, -⟩ := own_ist A_va
  refine own_via (fun tq kq => XS.aload X10.here hx rfl (hb hby at_89) rfl rfl kq) ?_
  show Ogo p e below _ (T10.setTop (mkF m 91 #[.val (.int p1), .val (.long q0), .second, .val (.long q1), .second, .val (.long q2), .second, .val (.long q3), .second, .val (.long q4), .second, .val (.int ln), .val (.ref va), .unset, .unset] [(.ref va)]))
  refine own_via (fun tq kq => XS.bipush X10.here hx rfl (hb hby at_91) kq) ?_
  show Ogo p e below _ (T10.setTop (mkF m 93 #[.val (.int p1), .val (.long q0), .second, .val (.long q1), .second, .val (.long q2), .second, .val (.long q3), .second, .val (.long q4), .second, .val (.int ln), .val (.ref va), .unset, .unset] [(.int (9 : Int32)), (.ref va)]))
  refine own_via (fun tq kq => XS.lload X10.here hx rfl (hb hby at_93) rfl kq) ?_
  show Ogo p e below _ (T10.setTop (mkF m 95 #[.val (.int p1), .val (.long q0), .second, .val (.long q1), .second, .val (.long q2), .second, .val (.long q3), .second, .val (.long q4), .second, .val (.int ln), .val (.ref va), .unset, .unset] [(.long q4), (.int (9 : Int32)), (.ref va)]))
  refine own_via (fun tq kq => XS.bipush X10.here hx rfl (hb hby at_95) kq) ?_
  show Ogo p e below _ (T10.setTop (mkF m 97 #[.val (.int p1), .val (.long q0), .second, .val (.long q1), .second, .val (.long q2), .second, .val (.long q3), .second, .val (.long q4), .second, .val (.int ln), .val (.ref va), .unset, .unset] [(.int (32 : Int32)), (.long q4), (.int (9 : Int32)), (.ref va)]))
  refine own_via (fun tq kq => XS.lushr X10.here hx rfl (hb hby at_97) rfl kq) ?_
  show Ogo p e below _ (T10.setTop (mkF m 98 #[.val (.int p1), .val (.long q0), .second, .val (.long q1), .second, .val (.long q2), .second, .val (.long q3), .second, .val (.long q4), .second, .val (.int ln), .val (.ref va), .unset, .unset] [(.long ((q4.toUInt64 >>> ((32 : Int32) &&& 0x3f).toInt64.toUInt64).toInt64)), (.int (9 : Int32)), (.ref va)]))
  refine own_via (fun tq kq => XS.l2i X10.here hx rfl (hb hby at_98) rfl kq) ?_
  show Ogo p e below _ (T10.setTop (mkF m 99 #[.val (.int p1), .val (.long q0), .second, .val (.long q1), .second, .val (.long q2), .second, .val (.long q3), .second, .val (.long q4), .second, .val (.int ln), .val (.ref va), .unset, .unset] [(.int (((q4.toUInt64 >>> ((32 : Int32) &&& 0x3f).toInt64.toUInt64).toInt64).toInt32)), (.int (9 : Int32)), (.ref va)]))
  obtain ⟨T11, h11, X11, e11, W11, A_va', st11⟩ := own_iast X10 hx hZ e10 A_va (x := (((q4.toUInt64 >>> ((32 : Int32) &&& 0x3f).toInt64.toUInt64).toInt64).toInt32)) (j := (9 : Int32)) (i := 9) (by decide) (by decide) (pc := 99) (Ls := #[.val (.int p1), .val (.long q0), .second, .val (.long q1), .second, .val (.long q2), .second, .val (.long q3), .second, .val (.long q4), .second, .val (.int ln), .val (.ref va), .unset, .unset]) (rest := []) (hb hby at_99)
  refine own_via st11 ?_
  have zs := Nat.le_trans zs (Keep.of_wr W11).1
  have N := Fr.snoc X11 N g_va
  have A_va := A_va'
  show Ogo p e below _ (T11.setTop (mkF m 100 #[.val (.int p1), .val (.long q0), .second, .val (.long q1), .second, .val (.long q2), .second, .val (.long q3), .second, .val (.long q4), .second, .val (.int ln), .val (.ref va), .unset, .unset] []))
  obtain ⟨g10, A_va, -, -⟩ := own_ist A_va
  refine own_via (fun tq kq => XS.iload X11.here hx rfl (hb hby at_100) rfl kq) ?_
  show Ogo p e below _ (T11.setTop (mkF m 102 #[.val (.int p1), .val (.long q0), .second, .val (.long q1), .second, .val (.long q2), .second, .val (.long q3), .second, .val (.long q4), .second, .val (.int ln), .val (.ref va), .unset, .unset] [(.int ln)]))
  obtain ⟨T12, h12, k12, X12, e12, E12, A12, st12⟩ := newP X11 hx hZ (hw _ (List.mem_of_getElem? (i := 1) rfl)) e11 (g := (mkF m 102 #[.val (.int p1), .val (.long q0), .second, .val (.long q1), .second, .val (.long q2), .second, .val (.long q3), .second, .val (.long q4), .second, .val (.int ln), .val (.ref va), .unset, .unset] [(.int ln)])) rfl (hb hby at_102) rfl (own_cl hzn).1 (cap := 10) (by rw [(own_cl hzn).2]; exact hn) (by decide) (by decide) (by decide)
  refine own_via st12 ?_
  obtain ⟨ta, g12⟩ : ∃ z, z = h11.size := ⟨_, rfl⟩
  rw [← g12]
  rw [← g12] at A12
  have lt_va_ta : va < ta := by rw [g12]; exact A_va.lt
  have g_ta : n0 ≤ ta := by rw [g12]; exact zs
  have A_va := A_va.ext E12
  have zs := Nat.le_trans zs E12.1
  have A_ta : Oar Z h12 ta .int n (fun _ => defaultValue .int) := Oar.new A12 (own_cl hzn).1 (own_cl hzn).2
  show Ogo p e below _ (T12.setTop (mkF m 104 #[.val (.int p1), .val (.long q0), .second, .val (.long q1), .second, .val (.long q2), .second, .val (.long q3), .second, .val (.long q4), .second, .val (.int ln), .val (.ref va), .unset, .unset] [(.ref ta)]))
  obtain ⟨t0, A_ta⟩ : ∃ t0 : Nat → Int32, Oar Z h12 ta .int n (fun q => .int (t0 q)) := ⟨fun _ => 0, A_ta⟩
  have ht0 : ∀ q, q < 0 → q < n → t0 q = g10 q := fun q z => absurd z (Nat.not_lt_zero q)
  refine own_via (fun tq kq => XS.astore X12.here hx rfl (hb hby at_104) rfl rfl (l' := #[.val (.int p1), .val (.long q0), .second, .val (.long q1), .second, .val (.long q2), .second, .val (.long q3), .second, .val (.long q4), .second, .val (.int ln), .val (.ref va), .val (.ref ta), .unset]) rfl kq) ?_
  show Ogo p e below _ (T12.setTop (mkF m 106 #[.val (.int p1), .val (.long q0), .second, .val (.long q1), .second, .val (.long q2), .second, .val (.long q3), .second, .val (.long q4), .second, .val (.int ln), .val (.ref va), .val (.ref ta), .unset] []))
  refine own_via (fun tq kq => XS.aload X12.here hx rfl (hb hby at_106) rfl rfl kq) ?_
  show Ogo p e below _ (T12.setTop (mkF m 108 #[.val (.int p1), .val (.long q0), .second, .val (.long q1), .second, .val (.long q2), .second, .val (.long q3), .second, .val (.long q4), .second, .val (.int ln), .val (.ref va), .val (.ref ta), .unset] [(.ref ta)]))
  refine own_via (fun tq kq => XS.aload X12.here hx rfl (hb hby at_108) rfl rfl kq) ?_
  show Ogo p e below _ (T12.setTop (mkF m 110 #[.val (.int p1), .val (.long q0), .second, .val (.long q1), .second, .val (.long q2), .second, .val (.long q3), .second, .val (.long q4), .second, .val (.int ln), .val (.ref va), .val (.ref ta), .unset] [(.ref va), (.ref ta)]))
  refine own_via (fun tq kq => XS.iconst X12.here hx rfl (hb hby at_110) kq) ?_
  show Ogo p e below _ (T12.setTop (mkF m 111 #[.val (.int p1), .val (.long q0), .second, .val (.long q1), .second, .val (.long q2), .second, .val (.long q3), .second, .val (.long q4), .second, .val (.int ln), .val (.ref va), .val (.ref ta), .unset] [(.int (0 : Int32)), (.ref va), (.ref ta)]))
  refine own_callS X12 hx hZ hown (hw _ (List.mem_of_getElem? (i := 2) rfl)) (hw _ (List.mem_of_getElem? (i := 3) rfl)) (hw _ (List.mem_of_getElem? (i := 4) rfl)) (hw _ (List.mem_of_getElem? (i := 5) rfl)) (by decide) (rm_cp hw ta va 0 0 n t0 g10 h12 n0 A_ta A_va ((Nat.ne_of_lt lt_va_ta)) g_ta rfl (by decide) hn ht0) rfl e12 (W := 0) (by decide) (by decide) (by decide) (by decide) (by rw [hml]; rfl) (argsL := [(.ref ta), (.ref va), (.int (0 : Int32))]) (rest := []) (lenOf pd_0 rfl) rfl (Nat.le_of_eq rfl) (hb hby at_111) ?_
  rintro _ T13 L13 X13 ⟨rfl, Nq, Kc, t1, A_ta, ht1⟩
  have N := N.app Nq
  have A_va := A_va.keep Kc (ninS (Nat.ne_of_lt lt_va_ta) nin0)
  have zs := Nat.le_trans zs Kc.1
  show Ogo p e below _ (T13.setTop (mkF m 114 #[.val (.int p1), .val (.long q0), .second, .val (.long q1), .second, .val (.long q2), .second, .val (.long q3), .second, .val (.long q4), .second, .val (.int ln), .val (.ref va), .val (.ref ta), .unset] []))
  refine own_via (fun tq kq => XS.aload X13.here hx rfl (hb hby at_114) rfl rfl kq) ?_
  show Ogo p e below _ (T13.setTop (mkF m 116 #[.val (.int p1), .val (.long q0), .second, .val (.long q1), .second, .val (.long q2), .second, .val (.long q3), .second, .val (.long q4), .second, .val (.int ln), .val (.ref va), .val (.ref ta), .unset] [(.ref ta)]))
  refine own_via (fun tq kq => XS.aload X13.here hx rfl (hb hby at_116) rfl rfl kq) ?_
  show Ogo p e below _ (T13.setTop (mkF m 118 #[.val (.int p1), .val (.long q0), .second, .val (.long q1), .second, .val (.long q2), .second, .val (.long q3), .second, .val (.long q4), .second, .val (.int ln), .val (.ref va), .val (.ref ta), .unset] [(.ref va), (.ref ta)]))
  refine own_via (fun tq kq => XS.iconst X13.here hx rfl (hb hby at_118) kq) ?_
  show Ogo p e below _ (T13.setTop (mkF m 119 #[.val (.int p1), .val (.long q0), .second, .val (.long q1), .second, .val (.long q2), .second, .val (.long q3), .second, .val (.long q4), .second, .val (.int ln), .val (.ref va), .val (.ref ta), .unset] [(.int (1 : Int32)), (.ref va), (.ref ta)]))
  refine own_callS X13 hx hZ hown (hw _ (List.mem_of_getElem? (i := 2) rfl)) (hw _ (List.mem_of_getElem? (i := 3) rfl)) (hw _ (List.mem_of_getElem? (i := 4) rfl)) (hw _ (List.mem_of_getElem? (i := 5) rfl)) (by decide) (rm_cp hw ta va 1 1 n t1 g10 T13.heap n0 A_ta A_va ((Nat.ne_of_lt lt_va_ta)) g_ta rfl (by decide) hn ht1) rfl rfl (W := 0) (by decide) (by decide) (by decide) (by decide) (by rw [hml]; rfl) (argsL := [(.ref ta), (.ref va), (.int (1 : Int32))]) (rest := []) (lenOf pd_0 rfl) rfl (Nat.le_of_eq rfl) (hb hby at_119) ?_
  rintro _ T14 L14 X14 ⟨rfl, Nq, Kc, t2, A_ta, ht2⟩
  have N := N.app Nq
  have A_va := A_va.keep Kc (ninS (Nat.ne_of_lt lt_va_ta) nin0)
  have zs := Nat.le_trans zs Kc.1
  show Ogo p e below _ (T14.setTop (mkF m 122 #[.val (.int p1), .val (.long q0), .second, .val (.long q1), .second, .val (.long q2), .second, .val (.long q3), .second, .val (.long q4), .second, .val (.int ln), .val (.ref va), .val (.ref ta), .unset] []))
  refine own_via (fun tq kq => XS.aload X14.here hx rfl (hb hby at_122) rfl rfl kq) ?_
  show Ogo p e below _ (T14.setTop (mkF m 124 #[.val (.int p1), .val (.long q0), .second, .val (.long q1), .second, .val (.long q2), .second, .val (.long q3), .second, .val (.long q4), .second, .val (.int ln), .val (.ref va), .val (.ref ta), .unset] [(.ref ta)]))
  refine own_via (fun tq kq => XS.aload X14.here hx rfl (hb hby at_124) rfl rfl kq) ?_
  show Ogo p e below _ (T14.setTop (mkF m 126 #[.val (.int p1), .val (.long q0), .second, .val (.long q1), .second, .val (.long q2), .second, .val (.long q3), .second, .val (.long q4), .second, .val (.int ln), .val (.ref va), .val (.ref ta), .unset] [(.ref va), (.ref ta)]))
  refine own_via (fun tq kq => XS.iconst X14.here hx rfl (hb hby at_126) kq) ?_
  show Ogo p e below _ (T14.setTop (mkF m 127 #[.val (.int p1), .val (.long q0), .second, .val (.long q1), .second, .val (.long q2), .second, .val (.long q3), .second, .val (.long q4), .second, .val (.int ln), .val (.ref va), .val (.ref ta), .unset] [(.int (2 : Int32)), (.ref va), (.ref ta)]))
  refine own_callS X14 hx hZ hown (hw _ (List.mem_of_getElem? (i := 2) rfl)) (hw _ (List.mem_of_getElem? (i := 3) rfl)) (hw _ (List.mem_of_getElem? (i := 4) rfl)) (hw _ (List.mem_of_getElem? (i := 5) rfl)) (by decide) (rm_cp hw ta va 2 2 n t2 g10 T14.heap n0 A_ta A_va ((Nat.ne_of_lt lt_va_ta)) g_ta rfl (by decide) hn ht2) rfl rfl (W := 0) (by decide) (by decide) (by decide) (by decide) (by rw [hml]; rfl) (argsL := [(.ref ta), (.ref va), (.int (2 : Int32))]) (rest := []) (lenOf pd_0 rfl) rfl (Nat.le_of_eq rfl) (hb hby at_127) ?_
  rintro _ T15 L15 X15 ⟨rfl, Nq, Kc, t3, A_ta, ht3⟩
  have N := N.app Nq
  have A_va := A_va.keep Kc (ninS (Nat.ne_of_lt lt_va_ta) nin0)
  have zs := Nat.le_trans zs Kc.1
  show Ogo p e below _ (T15.setTop (mkF m 130 #[.val (.int p1), .val (.long q0), .second, .val (.long q1), .second, .val (.long q2), .second, .val (.long q3), .second, .val (.long q4), .second, .val (.int ln), .val (.ref va), .val (.ref ta), .unset] []))
  refine own_via (fun tq kq => XS.aload X15.here hx rfl (hb hby at_130) rfl rfl kq) ?_
  show Ogo p e below _ (T15.setTop (mkF m 132 #[.val (.int p1), .val (.long q0), .second, .val (.long q1), .second, .val (.long q2), .second, .val (.long q3), .second, .val (.long q4), .second, .val (.int ln), .val (.ref va), .val (.ref ta), .unset] [(.ref ta)]))
  refine own_via (fun tq kq => XS.aload X15.here hx rfl (hb hby at_132) rfl rfl kq) ?_
  show Ogo p e below _ (T15.setTop (mkF m 134 #[.val (.int p1), .val (.long q0), .second, .val (.long q1), .second, .val (.long q2), .second, .val (.long q3), .second, .val (.long q4), .second, .val (.int ln), .val (.ref va), .val (.ref ta), .unset] [(.ref va), (.ref ta)]))
  refine own_via (fun tq kq => XS.iconst X15.here hx rfl (hb hby at_134) kq) ?_
  show Ogo p e below _ (T15.setTop (mkF m 135 #[.val (.int p1), .val (.long q0), .second, .val (.long q1), .second, .val (.long q2), .second, .val (.long q3), .second, .val (.long q4), .second, .val (.int ln), .val (.ref va), .val (.ref ta), .unset] [(.int (3 : Int32)), (.ref va), (.ref ta)]))
  refine own_callS X15 hx hZ hown (hw _ (List.mem_of_getElem? (i := 2) rfl)) (hw _ (List.mem_of_getElem? (i := 3) rfl)) (hw _ (List.mem_of_getElem? (i := 4) rfl)) (hw _ (List.mem_of_getElem? (i := 5) rfl)) (by decide) (rm_cp hw ta va 3 3 n t3 g10 T15.heap n0 A_ta A_va ((Nat.ne_of_lt lt_va_ta)) g_ta rfl (by decide) hn ht3) rfl rfl (W := 0) (by decide) (by decide) (by decide) (by decide) (by rw [hml]; rfl) (argsL := [(.ref ta), (.ref va), (.int (3 : Int32))]) (rest := []) (lenOf pd_0 rfl) rfl (Nat.le_of_eq rfl) (hb hby at_135) ?_
  rintro _ T16 L16 X16 ⟨rfl, Nq, Kc, t4, A_ta, ht4⟩
  have N := N.app Nq
  have A_va := A_va.keep Kc (ninS (Nat.ne_of_lt lt_va_ta) nin0)
  have zs := Nat.le_trans zs Kc.1
  show Ogo p e below _ (T16.setTop (mkF m 138 #[.val (.int p1), .val (.long q0), .second, .val (.long q1), .second, .val (.long q2), .second, .val (.long q3), .second, .val (.long q4), .second, .val (.int ln), .val (.ref va), .val (.ref ta), .unset] []))
  refine own_via (fun tq kq => XS.aload X16.here hx rfl (hb hby at_138) rfl rfl kq) ?_
  show Ogo p e below _ (T16.setTop (mkF m 140 #[.val (.int p1), .val (.long q0), .second, .val (.long q1), .second, .val (.long q2), .second, .val (.long q3), .second, .val (.long q4), .second, .val (.int ln), .val (.ref va), .val (.ref ta), .unset] [(.ref ta)]))
  refine own_via (fun tq kq => XS.aload X16.here hx rfl (hb hby at_140) rfl rfl kq) ?_
  show Ogo p e below _ (T16.setTop (mkF m 142 #[.val (.int p1), .val (.long q0), .second, .val (.long q1), .second, .val (.long q2), .second, .val (.long q3), .second, .val (.long q4), .second, .val (.int ln), .val (.ref va), .val (.ref ta), .unset] [(.ref va), (.ref ta)]))
  refine own_via (fun tq kq => XS.iconst X16.here hx rfl (hb hby at_142) kq) ?_
  show Ogo p e below _ (T16.setTop (mkF m 143 #[.val (.int p1), .val (.long q0), .second, .val (.long q1), .second, .val (.long q2), .second, .val (.long q3), .second, .val (.long q4), .second, .val (.int ln), .val (.ref va), .val (.ref ta), .unset] [(.int (4 : Int32)), (.ref va), (.ref ta)]))
  refine own_callS X16 hx hZ hown (hw _ (List.mem_of_getElem? (i := 2) rfl)) (hw _ (List.mem_of_getElem? (i := 3) rfl)) (hw _ (List.mem_of_getElem? (i := 4) rfl)) (hw _ (List.mem_of_getElem? (i := 5) rfl)) (by decide) (rm_cp hw ta va 4 4 n t4 g10 T16.heap n0 A_ta A_va ((Nat.ne_of_lt lt_va_ta)) g_ta rfl (by decide) hn ht4) rfl rfl (W := 0) (by decide) (by decide) (by decide) (by decide) (by rw [hml]; rfl) (argsL := [(.ref ta), (.ref va), (.int (4 : Int32))]) (rest := []) (lenOf pd_0 rfl) rfl (Nat.le_of_eq rfl) (hb hby at_143) ?_
  rintro _ T17 L17 X17 ⟨rfl, Nq, Kc, t5, A_ta, ht5⟩
  have N := N.app Nq
  have A_va := A_va.keep Kc (ninS (Nat.ne_of_lt lt_va_ta) nin0)
  have zs := Nat.le_trans zs Kc.1
  show Ogo p e below _ (T17.setTop (mkF m 146 #[.val (.int p1), .val (.long q0), .second, .val (.long q1), .second, .val (.long q2), .second, .val (.long q3), .second, .val (.long q4), .second, .val (.int ln), .val (.ref va), .val (.ref ta), .unset] []))
  refine own_via (fun tq kq => XS.aload X17.here hx rfl (hb hby at_146) rfl rfl kq) ?_
  show Ogo p e below _ (T17.setTop (mkF m 148 #[.val (.int p1), .val (.long q0), .second, .val (.long q1), .second, .val (.long q2), .second, .val (.long q3), .second, .val (.long q4), .second, .val (.int ln), .val (.ref va), .val (.ref ta), .unset] [(.ref ta)]))
  refine own_via (fun tq kq => XS.aload X17.here hx rfl (hb hby at_148) rfl rfl kq) ?_
  show Ogo p e below _ (T17.setTop (mkF m 150 #[.val (.int p1), .val (.long q0), .second, .val (.long q1), .second, .val (.long q2), .second, .val (.long q3), .second, .val (.long q4), .second, .val (.int ln), .val (.ref va), .val (.ref ta), .unset] [(.ref va), (.ref ta)]))
  refine own_via (fun tq kq => XS.iconst X17.here hx rfl (hb hby at_150) kq) ?_
  show Ogo p e below _ (T17.setTop (mkF m 151 #[.val (.int p1), .val (.long q0), .second, .val (.long q1), .second, .val (.long q2), .second, .val (.long q3), .second, .val (.long q4), .second, .val (.int ln), .val (.ref va), .val (.ref ta), .unset] [(.int (5 : Int32)), (.ref va), (.ref ta)]))
  refine own_callS X17 hx hZ hown (hw _ (List.mem_of_getElem? (i := 2) rfl)) (hw _ (List.mem_of_getElem? (i := 3) rfl)) (hw _ (List.mem_of_getElem? (i := 4) rfl)) (hw _ (List.mem_of_getElem? (i := 5) rfl)) (by decide) (rm_cp hw ta va 5 5 n t5 g10 T17.heap n0 A_ta A_va ((Nat.ne_of_lt lt_va_ta)) g_ta rfl (by decide) hn ht5) rfl rfl (W := 0) (by decide) (by decide) (by decide) (by decide) (by rw [hml]; rfl) (argsL := [(.ref ta), (.ref va), (.int (5 : Int32))]) (rest := []) (lenOf pd_0 rfl) rfl (Nat.le_of_eq rfl) (hb hby at_151) ?_
  rintro _ T18 L18 X18 ⟨rfl, Nq, Kc, t6, A_ta, ht6⟩
  have N := N.app Nq
  have A_va := A_va.keep Kc (ninS (Nat.ne_of_lt lt_va_ta) nin0)
  have zs := Nat.le_trans zs Kc.1
  show Ogo p e below _ (T18.setTop (mkF m 154 #[.val (.int p1), .val (.long q0), .second, .val (.long q1), .second, .val (.long q2), .second, .val (.long q3), .second, .val (.long q4), .second, .val (.int ln), .val (.ref va), .val (.ref ta), .unset] []))
  refine own_via (fun tq kq => XS.aload X18.here hx rfl (hb hby at_154) rfl rfl kq) ?_
  show Ogo p e below _ (T18.setTop (mkF m 156 #[.val (.int p1), .val (.long q0), .second, .val (.long q1), .second, .val (.long q2), .second, .val (.long q3), .second, .val (.long q4), .second, .val (.int ln), .val (.ref va), .val (.ref ta), .unset] [(.ref ta)]))
  refine own_via (fun tq kq => XS.aload X18.here hx rfl (hb hby at_156) rfl rfl kq) ?_
  show Ogo p e below _ (T18.setTop (mkF m 158 #[.val (.int p1), .val (.long q0), .second, .val (.long q1), .second, .val (.long q2), .second, .val (.long q3), .second, .val (.long q4), .second, .val (.int ln), .val (.ref va), .val (.ref ta), .unset] [(.ref va), (.ref ta)]))
  refine own_via (fun tq kq => XS.bipush X18.here hx rfl (hb hby at_158) kq) ?_
  show Ogo p e below _ (T18.setTop (mkF m 160 #[.val (.int p1), .val (.long q0), .second, .val (.long q1), .second, .val (.long q2), .second, .val (.long q3), .second, .val (.long q4), .second, .val (.int ln), .val (.ref va), .val (.ref ta), .unset] [(.int (6 : Int32)), (.ref va), (.ref ta)]))
  refine own_callS X18 hx hZ hown (hw _ (List.mem_of_getElem? (i := 2) rfl)) (hw _ (List.mem_of_getElem? (i := 3) rfl)) (hw _ (List.mem_of_getElem? (i := 4) rfl)) (hw _ (List.mem_of_getElem? (i := 5) rfl)) (by decide) (rm_cp hw ta va 6 6 n t6 g10 T18.heap n0 A_ta A_va ((Nat.ne_of_lt lt_va_ta)) g_ta rfl (by decide) hn ht6) rfl rfl (W := 0) (by decide) (by decide) (by decide) (by decide) (by rw [hml]; rfl) (argsL := [(.ref ta), (.ref va), (.int (6 : Int32))]) (rest := []) (lenOf pd_0 rfl) rfl (Nat.le_of_eq rfl) (hb hby at_160) ?_
  rintro _ T19 L19 X19 ⟨rfl, Nq, Kc, t7, A_ta, ht7⟩
  have N := N.app Nq
  have A_va := A_va.keep Kc (ninS (Nat.ne_of_lt lt_va_ta) nin0)
  have zs := Nat.le_trans zs Kc.1
  show Ogo p e below _ (T19.setTop (mkF m 163 #[.val (.int p1), .val (.long q0), .second, .val (.long q1), .second, .val (.long q2), .second, .val (.long q3), .second, .val (.long q4), .second, .val (.int ln), .val (.ref va), .val (.ref ta), .unset] []))
  refine own_via (fun tq kq => XS.aload X19.here hx rfl (hb hby at_163) rfl rfl kq) ?_
  show Ogo p e below _ (T19.setTop (mkF m 165 #[.val (.int p1), .val (.long q0), .second, .val (.long q1), .second, .val (.long q2), .second, .val (.long q3), .second, .val (.long q4), .second, .val (.int ln), .val (.ref va), .val (.ref ta), .unset] [(.ref ta)]))
  refine own_via (fun tq kq => XS.aload X19.here hx rfl (hb hby at_165) rfl rfl kq) ?_
  show Ogo p e below _ (T19.setTop (mkF m 167 #[.val (.int p1), .val (.long q0), .second, .val (.long q1), .second, .val (.long q2), .second, .val (.long q3), .second, .val (.long q4), .second, .val (.int ln), .val (.ref va), .val (.ref ta), .unset] [(.ref va), (.ref ta)]))
  refine own_via (fun tq kq => XS.bipush X19.here hx rfl (hb hby at_167) kq) ?_
  show Ogo p e below _ (T19.setTop (mkF m 169 #[.val (.int p1), .val (.long q0), .second, .val (.long q1), .second, .val (.long q2), .second, .val (.long q3), .second, .val (.long q4), .second, .val (.int ln), .val (.ref va), .val (.ref ta), .unset] [(.int (7 : Int32)), (.ref va), (.ref ta)]))
  refine own_callS X19 hx hZ hown (hw _ (List.mem_of_getElem? (i := 2) rfl)) (hw _ (List.mem_of_getElem? (i := 3) rfl)) (hw _ (List.mem_of_getElem? (i := 4) rfl)) (hw _ (List.mem_of_getElem? (i := 5) rfl)) (by decide) (rm_cp hw ta va 7 7 n t7 g10 T19.heap n0 A_ta A_va ((Nat.ne_of_lt lt_va_ta)) g_ta rfl (by decide) hn ht7) rfl rfl (W := 0) (by decide) (by decide) (by decide) (by decide) (by rw [hml]; rfl) (argsL := [(.ref ta), (.ref va), (.int (7 : Int32))]) (rest := []) (lenOf pd_0 rfl) rfl (Nat.le_of_eq rfl) (hb hby at_169) ?_
  rintro _ T20 L20 X20 ⟨rfl, Nq, Kc, t8, A_ta, ht8⟩
  have N := N.app Nq
  have A_va := A_va.keep Kc (ninS (Nat.ne_of_lt lt_va_ta) nin0)
  have zs := Nat.le_trans zs Kc.1
  show Ogo p e below _ (T20.setTop (mkF m 172 #[.val (.int p1), .val (.long q0), .second, .val (.long q1), .second, .val (.long q2), .second, .val (.long q3), .second, .val (.long q4), .second, .val (.int ln), .val (.ref va), .val (.ref ta), .unset] []))
  refine own_via (fun tq kq => XS.aload X20.here hx rfl (hb hby at_172) rfl rfl kq) ?_
  show Ogo p e below _ (T20.setTop (mkF m 174 #[.val (.int p1), .val (.long q0), .second, .val (.long q1), .second, .val (.long q2), .second, .val (.long q3), .second, .val (.long q4), .second, .val (.int ln), .val (.ref va), .val (.ref ta), .unset] [(.ref ta)]))
  refine own_via (fun tq kq => XS.aload X20.here hx rfl (hb hby at_174) rfl rfl kq) ?_
  show Ogo p e below _ (T20.setTop (mkF m 176 #[.val (.int p1), .val (.long q0), .second, .val (.long q1), .second, .val (.long q2), .second, .val (.long q3), .second, .val (.long q4), .second, .val (.int ln), .val (.ref va), .val (.ref ta), .unset] [(.ref va), (.ref ta)]))
  refine own_via (fun tq kq => XS.bipush X20.here hx rfl (hb hby at_176) kq) ?_
  show Ogo p e below _ (T20.setTop (mkF m 178 #[.val (.int p1), .val (.long q0), .second, .val (.long q1), .second, .val (.long q2), .second, .val (.long q3), .second, .val (.long q4), .second, .val (.int ln), .val (.ref va), .val (.ref ta), .unset] [(.int (8 : Int32)), (.ref va), (.ref ta)]))
  refine own_callS X20 hx hZ hown (hw _ (List.mem_of_getElem? (i := 2) rfl)) (hw _ (List.mem_of_getElem? (i := 3) rfl)) (hw _ (List.mem_of_getElem? (i := 4) rfl)) (hw _ (List.mem_of_getElem? (i := 5) rfl)) (by decide) (rm_cp hw ta va 8 8 n t8 g10 T20.heap n0 A_ta A_va ((Nat.ne_of_lt lt_va_ta)) g_ta rfl (by decide) hn ht8) rfl rfl (W := 0) (by decide) (by decide) (by decide) (by decide) (by rw [hml]; rfl) (argsL := [(.ref ta), (.ref va), (.int (8 : Int32))]) (rest := []) (lenOf pd_0 rfl) rfl (Nat.le_of_eq rfl) (hb hby at_178) ?_
  rintro _ T21 L21 X21 ⟨rfl, Nq, Kc, t9, A_ta, ht9⟩
  have N := N.app Nq
  have A_va := A_va.keep Kc (ninS (Nat.ne_of_lt lt_va_ta) nin0)
  have zs := Nat.le_trans zs Kc.1
  show Ogo p e below _ (T21.setTop (mkF m 181 #[.val (.int p1), .val (.long q0), .second, .val (.long q1), .second, .val (.long q2), .second, .val (.long q3), .second, .val (.long q4), .second, .val (.int ln), .val (.ref va), .val (.ref ta), .unset] []))
  refine own_via (fun tq kq => XS.aload X21.here hx rfl (hb hby at_181) rfl rfl kq) ?_
  show Ogo p e below _ (T21.setTop (mkF m 183 #[.val (.int p1), .val (.long q0), .second, .val (.long q1), .second, .val (.long q2), .second, .val (.long q3), .second, .val (.long q4), .second, .val (.int ln), .val (.ref va), .val (.ref ta), .unset] [(.ref ta)]))
  refine own_via (fun tq kq => XS.aload X21.here hx rfl (hb hby at_183) rfl rfl kq) ?_
  show Ogo p e below _ (T21.setTop (mkF m 185 #[.val (.int p1), .val (.long q0), .second, .val (.long q1), .second, .val (.long q2), .second, .val (.long q3), .second, .val (.long q4), .second, .val (.int ln), .val (.ref va), .val (.ref ta), .unset] [(.ref va), (.ref ta)]))
  refine own_via (fun tq kq => XS.bipush X21.here hx rfl (hb hby at_185) kq) ?_
  show Ogo p e below _ (T21.setTop (mkF m 187 #[.val (.int p1), .val (.long q0), .second, .val (.long q1), .second, .val (.long q2), .second, .val (.long q3), .second, .val (.long q4), .second, .val (.int ln), .val (.ref va), .val (.ref ta), .unset] [(.int (9 : Int32)), (.ref va), (.ref ta)]))
  refine own_callS X21 hx hZ hown (hw _ (List.mem_of_getElem? (i := 2) rfl)) (hw _ (List.mem_of_getElem? (i := 3) rfl)) (hw _ (List.mem_of_getElem? (i := 4) rfl)) (hw _ (List.mem_of_getElem? (i := 5) rfl)) (by decide) (rm_cp hw ta va 9 9 n t9 g10 T21.heap n0 A_ta A_va ((Nat.ne_of_lt lt_va_ta)) g_ta rfl (by decide) hn ht9) rfl rfl (W := 0) (by decide) (by decide) (by decide) (by decide) (by rw [hml]; rfl) (argsL := [(.ref ta), (.ref va), (.int (9 : Int32))]) (rest := []) (lenOf pd_0 rfl) rfl (Nat.le_of_eq rfl) (hb hby at_187) ?_
  rintro _ T22 L22 X22 ⟨rfl, Nq, Kc, t10, A_ta, ht10⟩
  have N := N.app Nq
  have A_va := A_va.keep Kc (ninS (Nat.ne_of_lt lt_va_ta) nin0)
  have zs := Nat.le_trans zs Kc.1
  show Ogo p e below _ (T22.setTop (mkF m 190 #[.val (.int p1), .val (.long q0), .second, .val (.long q1), .second, .val (.long q2), .second, .val (.long q3), .second, .val (.long q4), .second, .val (.int ln), .val (.ref va), .val (.ref ta), .unset] []))
  refine own_via (fun tq kq => XS.iconst X22.here hx rfl (hb hby at_190) kq) ?_
  show Ogo p e below _ (T22.setTop (mkF m 191 #[.val (.int p1), .val (.long q0), .second, .val (.long q1), .second, .val (.long q2), .second, .val (.long q3), .second, .val (.long q4), .second, .val (.int ln), .val (.ref va), .val (.ref ta), .unset] [(.int (0 : Int32))]))
  refine own_via (fun tq kq => XS.istore X22.here hx rfl (hb hby at_191) rfl (l' := #[.val (.int p1), .val (.long q0), .second, .val (.long q1), .second, .val (.long q2), .second, .val (.long q3), .second, .val (.long q4), .second, .val (.int ln), .val (.ref va), .val (.ref ta), .val (.int (0 : Int32))]) rfl kq) ?_
  show Ogo p e below _ (T22.setTop (mkF m 193 #[.val (.int p1), .val (.long q0), .second, .val (.long q1), .second, .val (.long q2), .second, .val (.long q3), .second, .val (.long q4), .second, .val (.int ln), .val (.ref va), .val (.ref ta), .val (.int (0 : Int32))] []))
  rw [show (0 : Int32) = own_h g10 (min 0 n) by rw [Nat.zero_min]; rfl]
  show Ogo p e below _ (T22.setTop (mkF m 193 #[.val (.int p1), .val (.long q0), .second, .val (.long q1), .second, .val (.long q2), .second, .val (.long q3), .second, .val (.long q4), .second, .val (.int ln), .val (.ref va), .val (.ref ta), .val (.int (own_h g10 (min 0 n)))] []))
  refine own_via (fun tq kq => XS.iload X22.here hx rfl (hb hby at_193) rfl kq) ?_
  show Ogo p e below _ (T22.setTop (mkF m 195 #[.val (.int p1), .val (.long q0), .second, .val (.long q1), .second, .val (.long q2), .second, .val (.long q3), .second, .val (.long q4), .second, .val (.int ln), .val (.ref va), .val (.ref ta), .val (.int (own_h g10 (min 0 n)))] [(.int (own_h g10 (min 0 n)))]))
  refine own_via (fun tq kq => XS.aload X22.here hx rfl (hb hby at_195) rfl rfl kq) ?_
  show Ogo p e below _ (T22.setTop (mkF m 197 #[.val (.int p1), .val (.long q0), .second, .val (.long q1), .second, .val (.long q2), .second, .val (.long q3), .second, .val (.long q4), .second, .val (.int ln), .val (.ref va), .val (.ref ta), .val (.int (own_h g10 (min 0 n)))] [(.ref va), (.int (own_h g10 (min 0 n)))]))
  refine own_via (fun tq kq => XS.iconst X22.here hx rfl (hb hby at_197) kq) ?_
  show Ogo p e below _ (T22.setTop (mkF m 198 #[.val (.int p1), .val (.long q0), .second, .val (.long q1), .second, .val (.long q2), .second, .val (.long q3), .second, .val (.long q4), .second, .val (.int ln), .val (.ref va), .val (.ref ta), .val (.int (own_h g10 (min 0 n)))] [(.int (0 : Int32)), (.ref va), (.int (own_h g10 (min 0 n)))]))
  refine own_via (fun tq kq => XS.iload X22.here hx rfl (hb hby at_198) rfl kq) ?_
  show Ogo p e below _ (T22.setTop (mkF m 200 #[.val (.int p1), .val (.long q0), .second, .val (.long q1), .second, .val (.long q2), .second, .val (.long q3), .second, .val (.long q4), .second, .val (.int ln), .val (.ref va), .val (.ref ta), .val (.int (own_h g10 (min 0 n)))] [(.int ln), (.int (0 : Int32)), (.ref va), (.int (own_h g10 (min 0 n)))]))
  refine own_callS X22 hx hZ hown (hw _ (List.mem_of_getElem? (i := 6) rfl)) (hw _ (List.mem_of_getElem? (i := 7) rfl)) (hw _ (List.mem_of_getElem? (i := 4) rfl)) (hw _ (List.mem_of_getElem? (i := 8) rfl)) (by decide) (rm_st hw va 0 ln 0 n g10 T22.heap n0 A_va rfl (by decide) hzn) rfl rfl (W := 0) (by decide) (by decide) (by decide) (by decide) (by rw [hml]; rfl) (argsL := [(.int (own_h g10 (min 0 n))), (.ref va), (.int (0 : Int32)), (.int ln)]) (rest := []) (lenOf pd_1 rfl) rfl (Nat.le_of_eq rfl) (hb hby at_200) ?_
  rintro _ T23 L23 X23 ⟨rfl, Nq, hk⟩
  have N := N.app Nq
  have hk23 := hk
  show Ogo p e below _ (T23.setTop (mkF m 203 #[.val (.int p1), .val (.long q0), .second, .val (.long q1), .second, .val (.long q2), .second, .val (.long q3), .second, .val (.long q4), .second, .val (.int ln), .val (.ref va), .val (.ref ta), .val (.int (own_h g10 (min 0 n)))] [(.int (own_h g10 (min 1 n)))]))
  refine own_via (fun tq kq => XS.istore X23.here hx rfl (hb hby at_203) rfl (l' := #[.val (.int p1), .val (.long q0), .second, .val (.long q1), .second, .val (.long q2), .second, .val (.long q3), .second, .val (.long q4), .second, .val (.int ln), .val (.ref va), .val (.ref ta), .val (.int (own_h g10 (min 1 n)))]) rfl kq) ?_
  show Ogo p e below _ (T23.setTop (mkF m 205 #[.val (.int p1), .val (.long q0), .second, .val (.long q1), .second, .val (.long q2), .second, .val (.long q3), .second, .val (.long q4), .second, .val (.int ln), .val (.ref va), .val (.ref ta), .val (.int (own_h g10 (min 1 n)))] []))
  refine own_via (fun tq kq => XS.iload X23.here hx rfl (hb hby at_205) rfl kq) ?_
  show Ogo p e below _ (T23.setTop (mkF m 207 #[.val (.int p1), .val (.long q0), .second, .val (.long q1), .second, .val (.long q2), .second, .val (.long q3), .second, .val (.long q4), .second, .val (.int ln), .val (.ref va), .val (.ref ta), .val (.int (own_h g10 (min 1 n)))] [(.int (own_h g10 (min 1 n)))]))
  refine own_via (fun tq kq => XS.aload X23.here hx rfl (hb hby at_207) rfl rfl kq) ?_
  show Ogo p e below _ (T23.setTop (mkF m 209 #[.val (.int p1), .val (.long q0), .second, .val (.long q1), .second, .val (.long q2), .second, .val (.long q3), .second, .val (.long q4), .second, .val (.int ln), .val (.ref va), .val (.ref ta), .val (.int (own_h g10 (min 1 n)))] [(.ref va), (.int (own_h g10 (min 1 n)))]))
  refine own_via (fun tq kq => XS.iconst X23.here hx rfl (hb hby at_209) kq) ?_
  show Ogo p e below _ (T23.setTop (mkF m 210 #[.val (.int p1), .val (.long q0), .second, .val (.long q1), .second, .val (.long q2), .second, .val (.long q3), .second, .val (.long q4), .second, .val (.int ln), .val (.ref va), .val (.ref ta), .val (.int (own_h g10 (min 1 n)))] [(.int (1 : Int32)), (.ref va), (.int (own_h g10 (min 1 n)))]))
  refine own_via (fun tq kq => XS.iload X23.here hx rfl (hb hby at_210) rfl kq) ?_
  show Ogo p e below _ (T23.setTop (mkF m 212 #[.val (.int p1), .val (.long q0), .second, .val (.long q1), .second, .val (.long q2), .second, .val (.long q3), .second, .val (.long q4), .second, .val (.int ln), .val (.ref va), .val (.ref ta), .val (.int (own_h g10 (min 1 n)))] [(.int ln), (.int (1 : Int32)), (.ref va), (.int (own_h g10 (min 1 n)))]))
  refine own_callS X23 hx hZ hown (hw _ (List.mem_of_getElem? (i := 6) rfl)) (hw _ (List.mem_of_getElem? (i := 7) rfl)) (hw _ (List.mem_of_getElem? (i := 4) rfl)) (hw _ (List.mem_of_getElem? (i := 8) rfl)) (by decide) (rm_st hw va 1 ln 1 n g10 T22.heap n0 A_va rfl (by decide) hzn) rfl hk23 (W := 0) (by decide) (by decide) (by decide) (by decide) (by rw [hml]; rfl) (argsL := [(.int (own_h g10 (min 1 n))), (.ref va), (.int (1 : Int32)), (.int ln)]) (rest := []) (lenOf pd_1 rfl) rfl (Nat.le_of_eq rfl) (hb hby at_212) ?_
  rintro _ T24 L24 X24 ⟨rfl, Nq, hk⟩
  have N := N.app Nq
  have hk24 := hk
  show Ogo p e below _ (T24.setTop (mkF m 215 #[.val (.int p1), .val (.long q0), .second, .val (.long q1), .second, .val (.long q2), .second, .val (.long q3), .second, .val (.long q4), .second, .val (.int ln), .val (.ref va), .val (.ref ta), .val (.int (own_h g10 (min 1 n)))] [(.int (own_h g10 (min 2 n)))]))
  refine own_via (fun tq kq => XS.istore X24.here hx rfl (hb hby at_215) rfl (l' := #[.val (.int p1), .val (.long q0), .second, .val (.long q1), .second, .val (.long q2), .second, .val (.long q3), .second, .val (.long q4), .second, .val (.int ln), .val (.ref va), .val (.ref ta), .val (.int (own_h g10 (min 2 n)))]) rfl kq) ?_
  show Ogo p e below _ (T24.setTop (mkF m 217 #[.val (.int p1), .val (.long q0), .second, .val (.long q1), .second, .val (.long q2), .second, .val (.long q3), .second, .val (.long q4), .second, .val (.int ln), .val (.ref va), .val (.ref ta), .val (.int (own_h g10 (min 2 n)))] []))
  refine own_via (fun tq kq => XS.iload X24.here hx rfl (hb hby at_217) rfl kq) ?_
  show Ogo p e below _ (T24.setTop (mkF m 219 #[.val (.int p1), .val (.long q0), .second, .val (.long q1), .second, .val (.long q2), .second, .val (.long q3), .second, .val (.long q4), .second, .val (.int ln), .val (.ref va), .val (.ref ta), .val (.int (own_h g10 (min 2 n)))] [(.int (own_h g10 (min 2 n)))]))
  refine own_via (fun tq kq => XS.aload X24.here hx rfl (hb hby at_219) rfl rfl kq) ?_
  show Ogo p e below _ (T24.setTop (mkF m 221 #[.val (.int p1), .val (.long q0), .second, .val (.long q1), .second, .val (.long q2), .second, .val (.long q3), .second, .val (.long q4), .second, .val (.int ln), .val (.ref va), .val (.ref ta), .val (.int (own_h g10 (min 2 n)))] [(.ref va), (.int (own_h g10 (min 2 n)))]))
  refine own_via (fun tq kq => XS.iconst X24.here hx rfl (hb hby at_221) kq) ?_
  show Ogo p e below _ (T24.setTop (mkF m 222 #[.val (.int p1), .val (.long q0), .second, .val (.long q1), .second, .val (.long q2), .second, .val (.long q3), .second, .val (.long q4), .second, .val (.int ln), .val (.ref va), .val (.ref ta), .val (.int (own_h g10 (min 2 n)))] [(.int (2 : Int32)), (.ref va), (.int (own_h g10 (min 2 n)))]))
  refine own_via (fun tq kq => XS.iload X24.here hx rfl (hb hby at_222) rfl kq) ?_
  show Ogo p e below _ (T24.setTop (mkF m 224 #[.val (.int p1), .val (.long q0), .second, .val (.long q1), .second, .val (.long q2), .second, .val (.long q3), .second, .val (.long q4), .second, .val (.int ln), .val (.ref va), .val (.ref ta), .val (.int (own_h g10 (min 2 n)))] [(.int ln), (.int (2 : Int32)), (.ref va), (.int (own_h g10 (min 2 n)))]))
  refine own_callS X24 hx hZ hown (hw _ (List.mem_of_getElem? (i := 6) rfl)) (hw _ (List.mem_of_getElem? (i := 7) rfl)) (hw _ (List.mem_of_getElem? (i := 4) rfl)) (hw _ (List.mem_of_getElem? (i := 8) rfl)) (by decide) (rm_st hw va 2 ln 2 n g10 T22.heap n0 A_va rfl (by decide) hzn) rfl hk24 (W := 0) (by decide) (by decide) (by decide) (by decide) (by rw [hml]; rfl) (argsL := [(.int (own_h g10 (min 2 n))), (.ref va), (.int (2 : Int32)), (.int ln)]) (rest := []) (lenOf pd_1 rfl) rfl (Nat.le_of_eq rfl) (hb hby at_224) ?_
  rintro _ T25 L25 X25 ⟨rfl, Nq, hk⟩
  have N := N.app Nq
  have hk25 := hk
  show Ogo p e below _ (T25.setTop (mkF m 227 #[.val (.int p1), .val (.long q0), .second, .val (.long q1), .second, .val (.long q2), .second, .val (.long q3), .second, .val (.long q4), .second, .val (.int ln), .val (.ref va), .val (.ref ta), .val (.int (own_h g10 (min 2 n)))] [(.int (own_h g10 (min 3 n)))]))
  refine own_via (fun tq kq => XS.istore X25.here hx rfl (hb hby at_227) rfl (l' := #[.val (.int p1), .val (.long q0), .second, .val (.long q1), .second, .val (.long q2), .second, .val (.long q3), .second, .val (.long q4), .second, .val (.int ln), .val (.ref va), .val (.ref ta), .val (.int (own_h g10 (min 3 n)))]) rfl kq) ?_
  show Ogo p e below _ (T25.setTop (mkF m 229 #[.val (.int p1), .val (.long q0), .second, .val (.long q1), .second, .val (.long q2), .second, .val (.long q3), .second, .val (.long q4), .second, .val (.int ln), .val (.ref va), .val (.ref ta), .val (.int (own_h g10 (min 3 n)))] []))
  refine own_via (fun tq kq => XS.iload X25.here hx rfl (hb hby at_229) rfl kq) ?_
  show Ogo p e below _ (T25.setTop (mkF m 231 #[.val (.int p1), .val (.long q0), .second, .val (.long q1), .second, .val (.long q2), .second, .val (.long q3), .second, .val (.long q4), .second, .val (.int ln), .val (.ref va), .val (.ref ta), .val (.int (own_h g10 (min 3 n)))] [(.int (own_h g10 (min 3 n)))]))
  refine own_via (fun tq kq => XS.aload X25.here hx rfl (hb hby at_231) rfl rfl kq) ?_
  show Ogo p e below _ (T25.setTop (mkF m 233 #[.val (.int p1), .val (.long q0), .second, .val (.long q1), .second, .val (.long q2), .second, .val (.long q3), .second, .val (.long q4), .second, .val (.int ln), .val (.ref va), .val (.ref ta), .val (.int (own_h g10 (min 3 n)))] [(.ref va), (.int (own_h g10 (min 3 n)))]))
  refine own_via (fun tq kq => XS.iconst X25.here hx rfl (hb hby at_233) kq) ?_
  show Ogo p e below _ (T25.setTop (mkF m 234 #[.val (.int p1), .val (.long q0), .second, .val (.long q1), .second, .val (.long q2), .second, .val (.long q3), .second, .val (.long q4), .second, .val (.int ln), .val (.ref va), .val (.ref ta), .val (.int (own_h g10 (min 3 n)))] [(.int (3 : Int32)), (.ref va), (.int (own_h g10 (min 3 n)))]))
  refine own_via (fun tq kq => XS.iload X25.here hx rfl (hb hby at_234) rfl kq) ?_
  show Ogo p e below _ (T25.setTop (mkF m 236 #[.val (.int p1), .val (.long q0), .second, .val (.long q1), .second, .val (.long q2), .second, .val (.long q3), .second, .val (.long q4), .second, .val (.int ln), .val (.ref va), .val (.ref ta), .val (.int (own_h g10 (min 3 n)))] [(.int ln), (.int (3 : Int32)), (.ref va), (.int (own_h g10 (min 3 n)))]))
  refine own_callS X25 hx hZ hown (hw _ (List.mem_of_getElem? (i := 6) rfl)) (hw _ (List.mem_of_getElem? (i := 7) rfl)) (hw _ (List.mem_of_getElem? (i := 4) rfl)) (hw _ (List.mem_of_getElem? (i := 8) rfl)) (by decide) (rm_st hw va 3 ln 3 n g10 T22.heap n0 A_va rfl (by decide) hzn) rfl hk25 (W := 0) (by decide) (by decide) (by decide) (by decide) (by rw [hml]; rfl) (argsL := [(.int (own_h g10 (min 3 n))), (.ref va), (.int (3 : Int32)), (.int ln)]) (rest := []) (lenOf pd_1 rfl) rfl (Nat.le_of_eq rfl) (hb hby at_236) ?_
  rintro _ T26 L26 X26 ⟨rfl, Nq, hk⟩
  have N := N.app Nq
  have hk26 := hk
  show Ogo p e below _ (T26.setTop (mkF m 239 #[.val (.int p1), .val (.long q0), .second, .val (.long q1), .second, .val (.long q2), .second, .val (.long q3), .second, .val (.long q4), .second, .val (.int ln), .val (.ref va), .val (.ref ta), .val (.int (own_h g10 (min 3 n)))] [(.int (own_h g10 (min 4 n)))]))
  refine own_via (fun tq kq => XS.istore X26.here hx rfl (hb hby at_239) rfl (l' := #[.val (.int p1), .val (.long q0), .second, .val (.long q1), .second, .val (.long q2), .second, .val (.long q3), .second, .val (.long q4), .second, .val (.int ln), .val (.ref va), .val (.ref ta), .val (.int (own_h g10 (min 4 n)))]) rfl kq) ?_
  show Ogo p e below _ (T26.setTop (mkF m 241 #[.val (.int p1), .val (.long q0), .second, .val (.long q1), .second, .val (.long q2), .second, .val (.long q3), .second, .val (.long q4), .second, .val (.int ln), .val (.ref va), .val (.ref ta), .val (.int (own_h g10 (min 4 n)))] []))
  refine own_via (fun tq kq => XS.iload X26.here hx rfl (hb hby at_241) rfl kq) ?_
  show Ogo p e below _ (T26.setTop (mkF m 243 #[.val (.int p1), .val (.long q0), .second, .val (.long q1), .second, .val (.long q2), .second, .val (.long q3), .second, .val (.long q4), .second, .val (.int ln), .val (.ref va), .val (.ref ta), .val (.int (own_h g10 (min 4 n)))] [(.int (own_h g10 (min 4 n)))]))
  refine own_via (fun tq kq => XS.aload X26.here hx rfl (hb hby at_243) rfl rfl kq) ?_
  show Ogo p e below _ (T26.setTop (mkF m 245 #[.val (.int p1), .val (.long q0), .second, .val (.long q1), .second, .val (.long q2), .second, .val (.long q3), .second, .val (.long q4), .second, .val (.int ln), .val (.ref va), .val (.ref ta), .val (.int (own_h g10 (min 4 n)))] [(.ref va), (.int (own_h g10 (min 4 n)))]))
  refine own_via (fun tq kq => XS.iconst X26.here hx rfl (hb hby at_245) kq) ?_
  show Ogo p e below _ (T26.setTop (mkF m 246 #[.val (.int p1), .val (.long q0), .second, .val (.long q1), .second, .val (.long q2), .second, .val (.long q3), .second, .val (.long q4), .second, .val (.int ln), .val (.ref va), .val (.ref ta), .val (.int (own_h g10 (min 4 n)))] [(.int (4 : Int32)), (.ref va), (.int (own_h g10 (min 4 n)))]))
  refine own_via (fun tq kq => XS.iload X26.here hx rfl (hb hby at_246) rfl kq) ?_
  show Ogo p e below _ (T26.setTop (mkF m 248 #[.val (.int p1), .val (.long q0), .second, .val (.long q1), .second, .val (.long q2), .second, .val (.long q3), .second, .val (.long q4), .second, .val (.int ln), .val (.ref va), .val (.ref ta), .val (.int (own_h g10 (min 4 n)))] [(.int ln), (.int (4 : Int32)), (.ref va), (.int (own_h g10 (min 4 n)))]))
  refine own_callS X26 hx hZ hown (hw _ (List.mem_of_getElem? (i := 6) rfl)) (hw _ (List.mem_of_getElem? (i := 7) rfl)) (hw _ (List.mem_of_getElem? (i := 4) rfl)) (hw _ (List.mem_of_getElem? (i := 8) rfl)) (by decide) (rm_st hw va 4 ln 4 n g10 T22.heap n0 A_va rfl (by decide) hzn) rfl hk26 (W := 0) (by decide) (by decide) (by decide) (by decide) (by rw [hml]; rfl) (argsL := [(.int (own_h g10 (min 4 n))), (.ref va), (.int (4 : Int32)), (.int ln)]) (rest := []) (lenOf pd_1 rfl) rfl (Nat.le_of_eq rfl) (hb hby at_248) ?_
  rintro _ T27 L27 X27 ⟨rfl, Nq, hk⟩
  have N := N.app Nq
  have hk27 := hk
  show Ogo p e below _ (T27.setTop (mkF m 251 #[.val (.int p1), .val (.long q0), .second, .val (.long q1), .second, .val (.long q2), .second, .val (.long q3), .second, .val (.long q4), .second, .val (.int ln), .val (.ref va), .val (.ref ta), .val (.int (own_h g10 (min 4 n)))] [(.int (own_h g10 (min 5 n)))]))
  refine own_via (fun tq kq => XS.istore X27.here hx rfl (hb hby at_251) rfl (l' := #[.val (.int p1), .val (.long q0), .second, .val (.long q1), .second, .val (.long q2), .second, .val (.long q3), .second, .val (.long q4), .second, .val (.int ln), .val (.ref va), .val (.ref ta), .val (.int (own_h g10 (min 5 n)))]) rfl kq) ?_
  show Ogo p e below _ (T27.setTop (mkF m 253 #[.val (.int p1), .val (.long q0), .second, .val (.long q1), .second, .val (.long q2), .second, .val (.long q3), .second, .val (.long q4), .second, .val (.int ln), .val (.ref va), .val (.ref ta), .val (.int (own_h g10 (min 5 n)))] []))
  refine own_via (fun tq kq => XS.iload X27.here hx rfl (hb hby at_253) rfl kq) ?_
  show Ogo p e below _ (T27.setTop (mkF m 255 #[.val (.int p1), .val (.long q0), .second, .val (.long q1), .second, .val (.long q2), .second, .val (.long q3), .second, .val (.long q4), .second, .val (.int ln), .val (.ref va), .val (.ref ta), .val (.int (own_h g10 (min 5 n)))] [(.int (own_h g10 (min 5 n)))]))
  refine own_via (fun tq kq => XS.aload X27.here hx rfl (hb hby at_255) rfl rfl kq) ?_
  show Ogo p e below _ (T27.setTop (mkF m 257 #[.val (.int p1), .val (.long q0), .second, .val (.long q1), .second, .val (.long q2), .second, .val (.long q3), .second, .val (.long q4), .second, .val (.int ln), .val (.ref va), .val (.ref ta), .val (.int (own_h g10 (min 5 n)))] [(.ref va), (.int (own_h g10 (min 5 n)))]))
  refine own_via (fun tq kq => XS.iconst X27.here hx rfl (hb hby at_257) kq) ?_
  show Ogo p e below _ (T27.setTop (mkF m 258 #[.val (.int p1), .val (.long q0), .second, .val (.long q1), .second, .val (.long q2), .second, .val (.long q3), .second, .val (.long q4), .second, .val (.int ln), .val (.ref va), .val (.ref ta), .val (.int (own_h g10 (min 5 n)))] [(.int (5 : Int32)), (.ref va), (.int (own_h g10 (min 5 n)))]))
  refine own_via (fun tq kq => XS.iload X27.here hx rfl (hb hby at_258) rfl kq) ?_
  show Ogo p e below _ (T27.setTop (mkF m 260 #[.val (.int p1), .val (.long q0), .second, .val (.long q1), .second, .val (.long q2), .second, .val (.long q3), .second, .val (.long q4), .second, .val (.int ln), .val (.ref va), .val (.ref ta), .val (.int (own_h g10 (min 5 n)))] [(.int ln), (.int (5 : Int32)), (.ref va), (.int (own_h g10 (min 5 n)))]))
  refine own_callS X27 hx hZ hown (hw _ (List.mem_of_getElem? (i := 6) rfl)) (hw _ (List.mem_of_getElem? (i := 7) rfl)) (hw _ (List.mem_of_getElem? (i := 4) rfl)) (hw _ (List.mem_of_getElem? (i := 8) rfl)) (by decide) (rm_st hw va 5 ln 5 n g10 T22.heap n0 A_va rfl (by decide) hzn) rfl hk27 (W := 0) (by decide) (by decide) (by decide) (by decide) (by rw [hml]; rfl) (argsL := [(.int (own_h g10 (min 5 n))), (.ref va), (.int (5 : Int32)), (.int ln)]) (rest := []) (lenOf pd_1 rfl) rfl (Nat.le_of_eq rfl) (hb hby at_260) ?_
  rintro _ T28 L28 X28 ⟨rfl, Nq, hk⟩
  have N := N.app Nq
  have hk28 := hk
  show Ogo p e below _ (T28.setTop (mkF m 263 #[.val (.int p1), .val (.long q0), .second, .val (.long q1), .second, .val (.long q2), .second, .val (.long q3), .second, .val (.long q4), .second, .val (.int ln), .val (.ref va), .val (.ref ta), .val (.int (own_h g10 (min 5 n)))] [(.int (own_h g10 (min 6 n)))]))
  refine own_via (fun tq kq => XS.istore X28.here hx rfl (hb hby at_263) rfl (l' := #[.val (.int p1), .val (.long q0), .second, .val (.long q1), .second, .val (.long q2), .second, .val (.long q3), .second, .val (.long q4), .second, .val (.int ln), .val (.ref va), .val (.ref ta), .val (.int (own_h g10 (min 6 n)))]) rfl kq) ?_
  show Ogo p e below _ (T28.setTop (mkF m 265 #[.val (.int p1), .val (.long q0), .second, .val (.long q1), .second, .val (.long q2), .second, .val (.long q3), .second, .val (.long q4), .second, .val (.int ln), .val (.ref va), .val (.ref ta), .val (.int (own_h g10 (min 6 n)))] []))
  refine own_via (fun tq kq => XS.iload X28.here hx rfl (hb hby at_265) rfl kq) ?_
  show Ogo p e below _ (T28.setTop (mkF m 267 #[.val (.int p1), .val (.long q0), .second, .val (.long q1), .second, .val (.long q2), .second, .val (.long q3), .second, .val (.long q4), .second, .val (.int ln), .val (.ref va), .val (.ref ta), .val (.int (own_h g10 (min 6 n)))] [(.int (own_h g10 (min 6 n)))]))
  refine own_via (fun tq kq => XS.aload X28.here hx rfl (hb hby at_267) rfl rfl kq) ?_
  show Ogo p e below _ (T28.setTop (mkF m 269 #[.val (.int p1), .val (.long q0), .second, .val (.long q1), .second, .val (.long q2), .second, .val (.long q3), .second, .val (.long q4), .second, .val (.int ln), .val (.ref va), .val (.ref ta), .val (.int (own_h g10 (min 6 n)))] [(.ref va), (.int (own_h g10 (min 6 n)))]))
  refine own_via (fun tq kq => XS.bipush X28.here hx rfl (hb hby at_269) kq) ?_
  show Ogo p e below _ (T28.setTop (mkF m 271 #[.val (.int p1), .val (.long q0), .second, .val (.long q1), .second, .val (.long q2), .second, .val (.long q3), .second, .val (.long q4), .second, .val (.int ln), .val (.ref va), .val (.ref ta), .val (.int (own_h g10 (min 6 n)))] [(.int (6 : Int32)), (.ref va), (.int (own_h g10 (min 6 n)))]))
  refine own_via (fun tq kq => XS.iload X28.here hx rfl (hb hby at_271) rfl kq) ?_
  show Ogo p e below _ (T28.setTop (mkF m 273 #[.val (.int p1), .val (.long q0), .second, .val (.long q1), .second, .val (.long q2), .second, .val (.long q3), .second, .val (.long q4), .second, .val (.int ln), .val (.ref va), .val (.ref ta), .val (.int (own_h g10 (min 6 n)))] [(.int ln), (.int (6 : Int32)), (.ref va), (.int (own_h g10 (min 6 n)))]))
  refine own_callS X28 hx hZ hown (hw _ (List.mem_of_getElem? (i := 6) rfl)) (hw _ (List.mem_of_getElem? (i := 7) rfl)) (hw _ (List.mem_of_getElem? (i := 4) rfl)) (hw _ (List.mem_of_getElem? (i := 8) rfl)) (by decide) (rm_st hw va 6 ln 6 n g10 T22.heap n0 A_va rfl (by decide) hzn) rfl hk28 (W := 0) (by decide) (by decide) (by decide) (by decide) (by rw [hml]; rfl) (argsL := [(.int (own_h g10 (min 6 n))), (.ref va), (.int (6 : Int32)), (.int ln)]) (rest := []) (lenOf pd_1 rfl) rfl (Nat.le_of_eq rfl) (hb hby at_273) ?_
  rintro _ T29 L29 X29 ⟨rfl, Nq, hk⟩
  have N := N.app Nq
  have hk29 := hk
  show Ogo p e below _ (T29.setTop (mkF m 276 #[.val (.int p1), .val (.long q0), .second, .val (.long q1), .second, .val (.long q2), .second, .val (.long q3), .second, .val (.long q4), .second, .val (.int ln), .val (.ref va), .val (.ref ta), .val (.int (own_h g10 (min 6 n)))] [(.int (own_h g10 (min 7 n)))]))
  refine own_via (fun tq kq => XS.istore X29.here hx rfl (hb hby at_276) rfl (l' := #[.val (.int p1), .val (.long q0), .second, .val (.long q1), .second, .val (.long q2), .second, .val (.long q3), .second, .val (.long q4), .second, .val (.int ln), .val (.ref va), .val (.ref ta), .val (.int (own_h g10 (min 7 n)))]) rfl kq) ?_
  show Ogo p e below _ (T29.setTop (mkF m 278 #[.val (.int p1), .val (.long q0), .second, .val (.long q1), .second, .val (.long q2), .second, .val (.long q3), .second, .val (.long q4), .second, .val (.int ln), .val (.ref va), .val (.ref ta), .val (.int (own_h g10 (min 7 n)))] []))
  refine own_via (fun tq kq => XS.iload X29.here hx rfl (hb hby at_278) rfl kq) ?_
  show Ogo p e below _ (T29.setTop (mkF m 280 #[.val (.int p1), .val (.long q0), .second, .val (.long q1), .second, .val (.long q2), .second, .val (.long q3), .second, .val (.long q4), .second, .val (.int ln), .val (.ref va), .val (.ref ta), .val (.int (own_h g10 (min 7 n)))] [(.int (own_h g10 (min 7 n)))]))
  refine own_via (fun tq kq => XS.aload X29.here hx rfl (hb hby at_280) rfl rfl kq) ?_
  show Ogo p e below _ (T29.setTop (mkF m 282 #[.val (.int p1), .val (.long q0), .second, .val (.long q1), .second, .val (.long q2), .second, .val (.long q3), .second, .val (.long q4), .second, .val (.int ln), .val (.ref va), .val (.ref ta), .val (.int (own_h g10 (min 7 n)))] [(.ref va), (.int (own_h g10 (min 7 n)))]))
  refine own_via (fun tq kq => XS.bipush X29.here hx rfl (hb hby at_282) kq) ?_
  show Ogo p e below _ (T29.setTop (mkF m 284 #[.val (.int p1), .val (.long q0), .second, .val (.long q1), .second, .val (.long q2), .second, .val (.long q3), .second, .val (.long q4), .second, .val (.int ln), .val (.ref va), .val (.ref ta), .val (.int (own_h g10 (min 7 n)))] [(.int (7 : Int32)), (.ref va), (.int (own_h g10 (min 7 n)))]))
  refine own_via (fun tq kq => XS.iload X29.here hx rfl (hb hby at_284) rfl kq) ?_
  show Ogo p e below _ (T29.setTop (mkF m 286 #[.val (.int p1), .val (.long q0), .second, .val (.long q1), .second, .val (.long q2), .second, .val (.long q3), .second, .val (.long q4), .second, .val (.int ln), .val (.ref va), .val (.ref ta), .val (.int (own_h g10 (min 7 n)))] [(.int ln), (.int (7 : Int32)), (.ref va), (.int (own_h g10 (min 7 n)))]))
  refine own_callS X29 hx hZ hown (hw _ (List.mem_of_getElem? (i := 6) rfl)) (hw _ (List.mem_of_getElem? (i := 7) rfl)) (hw _ (List.mem_of_getElem? (i := 4) rfl)) (hw _ (List.mem_of_getElem? (i := 8) rfl)) (by decide) (rm_st hw va 7 ln 7 n g10 T22.heap n0 A_va rfl (by decide) hzn) rfl hk29 (W := 0) (by decide) (by decide) (by decide) (by decide) (by rw [hml]; rfl) (argsL := [(.int (own_h g10 (min 7 n))), (.ref va), (.int (7 : Int32)), (.int ln)]) (rest := []) (lenOf pd_1 rfl) rfl (Nat.le_of_eq rfl) (hb hby at_286) ?_
  rintro _ T30 L30 X30 ⟨rfl, Nq, hk⟩
  have N := N.app Nq
  have hk30 := hk
  show Ogo p e below _ (T30.setTop (mkF m 289 #[.val (.int p1), .val (.long q0), .second, .val (.long q1), .second, .val (.long q2), .second, .val (.long q3), .second, .val (.long q4), .second, .val (.int ln), .val (.ref va), .val (.ref ta), .val (.int (own_h g10 (min 7 n)))] [(.int (own_h g10 (min 8 n)))]))
  refine own_via (fun tq kq => XS.istore X30.here hx rfl (hb hby at_289) rfl (l' := #[.val (.int p1), .val (.long q0), .second, .val (.long q1), .second, .val (.long q2), .second, .val (.long q3), .second, .val (.long q4), .second, .val (.int ln), .val (.ref va), .val (.ref ta), .val (.int (own_h g10 (min 8 n)))]) rfl kq) ?_
  show Ogo p e below _ (T30.setTop (mkF m 291 #[.val (.int p1), .val (.long q0), .second, .val (.long q1), .second, .val (.long q2), .second, .val (.long q3), .second, .val (.long q4), .second, .val (.int ln), .val (.ref va), .val (.ref ta), .val (.int (own_h g10 (min 8 n)))] []))
  refine own_via (fun tq kq => XS.iload X30.here hx rfl (hb hby at_291) rfl kq) ?_
  show Ogo p e below _ (T30.setTop (mkF m 293 #[.val (.int p1), .val (.long q0), .second, .val (.long q1), .second, .val (.long q2), .second, .val (.long q3), .second, .val (.long q4), .second, .val (.int ln), .val (.ref va), .val (.ref ta), .val (.int (own_h g10 (min 8 n)))] [(.int (own_h g10 (min 8 n)))]))
  refine own_via (fun tq kq => XS.aload X30.here hx rfl (hb hby at_293) rfl rfl kq) ?_
  show Ogo p e below _ (T30.setTop (mkF m 295 #[.val (.int p1), .val (.long q0), .second, .val (.long q1), .second, .val (.long q2), .second, .val (.long q3), .second, .val (.long q4), .second, .val (.int ln), .val (.ref va), .val (.ref ta), .val (.int (own_h g10 (min 8 n)))] [(.ref va), (.int (own_h g10 (min 8 n)))]))
  refine own_via (fun tq kq => XS.bipush X30.here hx rfl (hb hby at_295) kq) ?_
  show Ogo p e below _ (T30.setTop (mkF m 297 #[.val (.int p1), .val (.long q0), .second, .val (.long q1), .second, .val (.long q2), .second, .val (.long q3), .second, .val (.long q4), .second, .val (.int ln), .val (.ref va), .val (.ref ta), .val (.int (own_h g10 (min 8 n)))] [(.int (8 : Int32)), (.ref va), (.int (own_h g10 (min 8 n)))]))
  refine own_via (fun tq kq => XS.iload X30.here hx rfl (hb hby at_297) rfl kq) ?_
  show Ogo p e below _ (T30.setTop (mkF m 299 #[.val (.int p1), .val (.long q0), .second, .val (.long q1), .second, .val (.long q2), .second, .val (.long q3), .second, .val (.long q4), .second, .val (.int ln), .val (.ref va), .val (.ref ta), .val (.int (own_h g10 (min 8 n)))] [(.int ln), (.int (8 : Int32)), (.ref va), (.int (own_h g10 (min 8 n)))]))
  refine own_callS X30 hx hZ hown (hw _ (List.mem_of_getElem? (i := 6) rfl)) (hw _ (List.mem_of_getElem? (i := 7) rfl)) (hw _ (List.mem_of_getElem? (i := 4) rfl)) (hw _ (List.mem_of_getElem? (i := 8) rfl)) (by decide) (rm_st hw va 8 ln 8 n g10 T22.heap n0 A_va rfl (by decide) hzn) rfl hk30 (W := 0) (by decide) (by decide) (by decide) (by decide) (by rw [hml]; rfl) (argsL := [(.int (own_h g10 (min 8 n))), (.ref va), (.int (8 : Int32)), (.int ln)]) (rest := []) (lenOf pd_1 rfl) rfl (Nat.le_of_eq rfl) (hb hby at_299) ?_
  rintro _ T31 L31 X31 ⟨rfl, Nq, hk⟩
  have N := N.app Nq
  have hk31 := hk
  show Ogo p e below _ (T31.setTop (mkF m 302 #[.val (.int p1), .val (.long q0), .second, .val (.long q1), .second, .val (.long q2), .second, .val (.long q3), .second, .val (.long q4), .second, .val (.int ln), .val (.ref va), .val (.ref ta), .val (.int (own_h g10 (min 8 n)))] [(.int (own_h g10 (min 9 n)))]))
  refine own_via (fun tq kq => XS.istore X31.here hx rfl (hb hby at_302) rfl (l' := #[.val (.int p1), .val (.long q0), .second, .val (.long q1), .second, .val (.long q2), .second, .val (.long q3), .second, .val (.long q4), .second, .val (.int ln), .val (.ref va), .val (.ref ta), .val (.int (own_h g10 (min 9 n)))]) rfl kq) ?_
  show Ogo p e below _ (T31.setTop (mkF m 304 #[.val (.int p1), .val (.long q0), .second, .val (.long q1), .second, .val (.long q2), .second, .val (.long q3), .second, .val (.long q4), .second, .val (.int ln), .val (.ref va), .val (.ref ta), .val (.int (own_h g10 (min 9 n)))] []))
  refine own_via (fun tq kq => XS.iload X31.here hx rfl (hb hby at_304) rfl kq) ?_
  show Ogo p e below _ (T31.setTop (mkF m 306 #[.val (.int p1), .val (.long q0), .second, .val (.long q1), .second, .val (.long q2), .second, .val (.long q3), .second, .val (.long q4), .second, .val (.int ln), .val (.ref va), .val (.ref ta), .val (.int (own_h g10 (min 9 n)))] [(.int (own_h g10 (min 9 n)))]))
  refine own_via (fun tq kq => XS.aload X31.here hx rfl (hb hby at_306) rfl rfl kq) ?_
  show Ogo p e below _ (T31.setTop (mkF m 308 #[.val (.int p1), .val (.long q0), .second, .val (.long q1), .second, .val (.long q2), .second, .val (.long q3), .second, .val (.long q4), .second, .val (.int ln), .val (.ref va), .val (.ref ta), .val (.int (own_h g10 (min 9 n)))] [(.ref va), (.int (own_h g10 (min 9 n)))]))
  refine own_via (fun tq kq => XS.bipush X31.here hx rfl (hb hby at_308) kq) ?_
  show Ogo p e below _ (T31.setTop (mkF m 310 #[.val (.int p1), .val (.long q0), .second, .val (.long q1), .second, .val (.long q2), .second, .val (.long q3), .second, .val (.long q4), .second, .val (.int ln), .val (.ref va), .val (.ref ta), .val (.int (own_h g10 (min 9 n)))] [(.int (9 : Int32)), (.ref va), (.int (own_h g10 (min 9 n)))]))
  refine own_via (fun tq kq => XS.iload X31.here hx rfl (hb hby at_310) rfl kq) ?_
  show Ogo p e below _ (T31.setTop (mkF m 312 #[.val (.int p1), .val (.long q0), .second, .val (.long q1), .second, .val (.long q2), .second, .val (.long q3), .second, .val (.long q4), .second, .val (.int ln), .val (.ref va), .val (.ref ta), .val (.int (own_h g10 (min 9 n)))] [(.int ln), (.int (9 : Int32)), (.ref va), (.int (own_h g10 (min 9 n)))]))
  refine own_callS X31 hx hZ hown (hw _ (List.mem_of_getElem? (i := 6) rfl)) (hw _ (List.mem_of_getElem? (i := 7) rfl)) (hw _ (List.mem_of_getElem? (i := 4) rfl)) (hw _ (List.mem_of_getElem? (i := 8) rfl)) (by decide) (rm_st hw va 9 ln 9 n g10 T22.heap n0 A_va rfl (by decide) hzn) rfl hk31 (W := 0) (by decide) (by decide) (by decide) (by decide) (by rw [hml]; rfl) (argsL := [(.int (own_h g10 (min 9 n))), (.ref va), (.int (9 : Int32)), (.int ln)]) (rest := []) (lenOf pd_1 rfl) rfl (Nat.le_of_eq rfl) (hb hby at_312) ?_
  rintro _ T32 L32 X32 ⟨rfl, Nq, hk⟩
  have N := N.app Nq
  have hk32 := hk
  show Ogo p e below _ (T32.setTop (mkF m 315 #[.val (.int p1), .val (.long q0), .second, .val (.long q1), .second, .val (.long q2), .second, .val (.long q3), .second, .val (.long q4), .second, .val (.int ln), .val (.ref va), .val (.ref ta), .val (.int (own_h g10 (min 9 n)))] [(.int (own_h g10 (min 10 n)))]))
  refine own_via (fun tq kq => XS.istore X32.here hx rfl (hb hby at_315) rfl (l' := #[.val (.int p1), .val (.long q0), .second, .val (.long q1), .second, .val (.long q2), .second, .val (.long q3), .second, .val (.long q4), .second, .val (.int ln), .val (.ref va), .val (.ref ta), .val (.int (own_h g10 (min 10 n)))]) rfl kq) ?_
  show Ogo p e below _ (T32.setTop (mkF m 317 #[.val (.int p1), .val (.long q0), .second, .val (.long q1), .second, .val (.long q2), .second, .val (.long q3), .second, .val (.long q4), .second, .val (.int ln), .val (.ref va), .val (.ref ta), .val (.int (own_h g10 (min 10 n)))] []))
  refine own_via (fun tq kq => XS.aload X32.here hx rfl (hb hby at_317) rfl rfl kq) ?_
  show Ogo p e below _ (T32.setTop (mkF m 319 #[.val (.int p1), .val (.long q0), .second, .val (.long q1), .second, .val (.long q2), .second, .val (.long q3), .second, .val (.long q4), .second, .val (.int ln), .val (.ref va), .val (.ref ta), .val (.int (own_h g10 (min 10 n)))] [(.ref ta)]))
  refine own_callS X32 hx hZ hown (hw _ (List.mem_of_getElem? (i := 9) rfl)) (hw _ (List.mem_of_getElem? (i := 10) rfl)) (hw _ (List.mem_of_getElem? (i := 11) rfl)) (hw _ (List.mem_of_getElem? (i := 12) rfl)) (by decide) (rm_ha hw ta n t10 T22.heap n0 A_ta hn) rfl hk32 (W := 0) (by decide) (by decide) (by decide) (by decide) (by rw [hml]; rfl) (argsL := [(.ref ta)]) (rest := []) (lenOf pd_2 rfl) rfl (Nat.le_of_eq rfl) (hb hby at_319) ?_
  rintro _ T33 L33 X33 ⟨rfl, Nq, hk⟩
  have N := N.app Nq
  have hk33 := hk
  show Ogo p e below _ (T33.setTop (mkF m 322 #[.val (.int p1), .val (.long q0), .second, .val (.long q1), .second, .val (.long q2), .second, .val (.long q3), .second, .val (.long q4), .second, .val (.int ln), .val (.ref va), .val (.ref ta), .val (.int (own_h g10 (min 10 n)))] [(.int (own_mx (own_h t10 n)))]))
  refine own_via (fun tq kq => XS.iload X33.here hx rfl (hb hby at_322) rfl kq) ?_
  show Ogo p e below _ (T33.setTop (mkF m 324 #[.val (.int p1), .val (.long q0), .second, .val (.long q1), .second, .val (.long q2), .second, .val (.long q3), .second, .val (.long q4), .second, .val (.int ln), .val (.ref va), .val (.ref ta), .val (.int (own_h g10 (min 10 n)))] [(.int (own_h g10 (min 10 n))), (.int (own_mx (own_h t10 n)))]))
  refine own_callS X33 hx hZ hown (hw _ (List.mem_of_getElem? (i := 18) rfl)) (hw _ (List.mem_of_getElem? (i := 19) rfl)) (hw _ (List.mem_of_getElem? (i := 4) rfl)) (hw _ (List.mem_of_getElem? (i := 20) rfl)) (by decide) (rm_mx hw (own_h g10 (min 10 n)) T22.heap n0) rfl hk33 (W := 1) (by decide) (by decide) (by decide) (by decide) (by rw [hml]; rfl) (argsL := [(.int (own_h g10 (min 10 n)))]) (rest := [(.int (own_mx (own_h t10 n)))]) (lenOf pd_3 rfl) rfl (Nat.le_of_eq rfl) (hb hby at_324) ?_
  rintro _ T34 L34 X34 ⟨rfl, Nq, hk⟩
  have N := N.app Nq
  have hk34 := hk
  show Ogo p e below _ (T34.setTop (mkF m 327 #[.val (.int p1), .val (.long q0), .second, .val (.long q1), .second, .val (.long q2), .second, .val (.long q3), .second, .val (.long q4), .second, .val (.int ln), .val (.ref va), .val (.ref ta), .val (.int (own_h g10 (min 10 n)))] [(.int (own_mx (own_h g10 (min 10 n)))), (.int (own_mx (own_h t10 n)))]))
  refine own_via (fun tq kq => XS.icmpNo X34.here hx rfl (hb hby at_327) rfl (teq (congrArg own_mx (by rw [show min 10 n = n by omega]; exact own_hc (fun j hj => ht10 j (by omega) hj)) : (own_mx (own_h t10 n)) = (own_mx (own_h g10 (min 10 n))))).2 kq) ?_
  show Ogo p e below _ (T34.setTop (mkF m 330 #[.val (.int p1), .val (.long q0), .second, .val (.long q1), .second, .val (.long q2), .second, .val (.long q3), .second, .val (.long q4), .second, .val (.int ln), .val (.ref va), .val (.ref ta), .val (.int (own_h g10 (min 10 n)))] []))
  refine own_via (fun tq kq => XS.iconst X34.here hx rfl (hb hby at_330) kq) ?_
  show Ogo p e below _ (T34.setTop (mkF m 331 #[.val (.int p1), .val (.long q0), .second, .val (.long q1), .second, .val (.long q2), .second, .val (.long q3), .second, .val (.long q4), .second, .val (.int ln), .val (.ref va), .val (.ref ta), .val (.int (own_h g10 (min 10 n)))] [(.int (1 : Int32))]))
  refine own_via (fun tq kq => XS.goto X34.here hx rfl (pc0 := 331) (pc' := 335) rfl (hb hby at_331) (by decide) (by decide) kq) ?_
  show Ogo p e below _ (T34.setTop (mkF m 335 #[.val (.int p1), .val (.long q0), .second, .val (.long q1), .second, .val (.long q2), .second, .val (.long q3), .second, .val (.long q4), .second, .val (.int ln), .val (.ref va), .val (.ref ta), .val (.int (own_h g10 (min 10 n)))] [(.int (1 : Int32))]))
  exact own_out X34 hlk (fun h => by rw [hret] at h; cases h) (by decide) (by decide) (by first | exact ⟨rfl, N⟩ | (rw [hk34]; exact ⟨rfl, N⟩)) (fun fs hr => retN X34 hx (t := .boolean) hret (by simp) (hb hby at_335) hr)
set_option maxRecDepth 65536 in
set_option maxHeartbeats 40000000 in
theorem own_comes {Post : Tables → Env → Array Value → State → Outcome → State → Prop} (hpost : ∀ tb e args s v u, (limb_1_1.after args s (.returned v) u = true ∧ limb_1_2.after args s (.returned v) u = true ∧ True) → FrameEnd s (.returned v) u (Jvm.fieldLocs frame_1_writes args s ++ Jvm.arrayLocs frame_1_arrays args s ++ Jvm.staticLocs frame_1_statics s) 16 128 → Post tb e args s (.returned v) u) :
    ArmFor flags0 classFile x code maxLocals ret World_1 tables_1 room_1 Calls_1 rest_1 Pre_1 Post := by
  intro l hfl _ _ p e ha hc hk s m args below hf hA hF happ hP
  obtain ⟨hcalls, hrest, hpre⟩ := hP
  obtain ⟨-, -, -, hnamed, -, -, -, hat⟩ := (Spec.applies_iff hf).mp happ
  obtain ⟨hg, hn⟩ := and_e (Cond.before_iff.mp (show (Jvm.Cond.and given_1 narrow_1).before args s = true from hpre))
  obtain ⟨q0, r0⟩ := and_e hg
  obtain ⟨q1, r1⟩ := and_e r0
  obtain ⟨q2, r2⟩ := and_e r1
  obtain ⟨q3, r3⟩ := and_e r2
  obtain ⟨q4, r4⟩ := and_e r3
  obtain ⟨q5, r5⟩ := and_e r4
  obtain ⟨w0, w1, w2, w3, w4, w5, rfl⟩ : ∃ w0 w1 w2 w3 w4 w5 : Value, args = #[w0, w1, w2, w3, w4, w5] := by
    have hs : args.size = 6 := by simpa [Cond.value, given_1] using q0
    obtain ⟨L⟩ := args
    match L, hs with
    | [w0, w1, w2, w3, w4, w5], _ => exact ⟨w0, w1, w2, w3, w4, w5, rfl⟩
  have hw := fun d (hd : d ∈ tables_1) => atoms_spec (ws := Jvm.Cond.code x code maxLocals ret :: tables_1) hat d (List.mem_cons_of_mem _ hd)
  have hfit : Fit s := fun {y c} hc i hi => by
    obtain ⟨ha, rfl⟩ := Array.getElem?_eq_some_iff.mp hc
    have q := List.all_eq_true.mp ((Array.all_eq_true_iff_forall_mem.mp hF) _ (Array.getElem_mem ha)) i (List.mem_range.mpr hi)
    simpa [Array.getElem?_eq_getElem hi] using q
  obtain ⟨i0, ei0⟩ := is_v q1
  obtain rfl : w0 = (.int i0) := Option.some.inj ei0
  obtain ⟨i1, ei1⟩ := isL_v q2
  obtain rfl : w1 = (.long i1) := Option.some.inj ei1
  obtain ⟨i2, ei2⟩ := isL_v q3
  obtain rfl : w2 = (.long i2) := Option.some.inj ei2
  obtain ⟨i3, ei3⟩ := isL_v q4
  obtain rfl : w3 = (.long i3) := Option.some.inj ei3
  obtain ⟨i4, ei4⟩ := isL_v q5
  obtain rfl : w4 = (.long i4) := Option.some.inj ei4
  obtain ⟨i5, ei5⟩ := isL_v r5
  obtain rfl : w5 = (.long i5) := Option.some.inj ei5
  obtain ⟨n, o, h1, h2, h3, _, L, rfl, ⟨rfl, N⟩, hq⟩ := rm_law hw i0 i1 i2 i3 i4 i5 s.heap s.heap.size (Nat.le_refl _) p e ha hc hk s m _ below hf ((Spec.applies_iff_loose hf).mp happ).1 ⟨rfl, State.Warmed39.refl s, rfl⟩ trivial
  refine ⟨n, _, h1, h2, h3, hpost _ _ _ _ _ _ ⟨Cond.after_iff.mpr rfl, Cond.after_iff.mpr (eq_i res_at (Term.int_eval (1)) rfl), trivial⟩ ⟨hq.1, hq.2.1, (hq.2.2.sift fun y hy => Or.inr (N y hy)).mono (by decide) (by decide)⟩⟩
theorem main_1_1 : Claimed_1_1 := own_comes fun _ _ _ _ _ _ h hF => ⟨h.1, hF⟩
theorem main_1_2 : Claimed_1_2 := own_comes fun _ _ _ _ _ _ h hF => ⟨h.2.1, hF⟩
end Jvm.Pilot.@@N@@
namespace Jvm.Pilot.@@N@@
open Jvm Jvm.ClassFile Sem Op Lib Jvm.Free Jvm.Stand Jvm.Pilot.@@N@@.Jvm.D
/-! MADE BY PROGRAM (witnessworld.py) out of the Statement's table words and the real class files: 9 classes; the members and pool entries that the words name. The judged class is class 1, her method 1. -/
namespace start1
open Jvm.ClassFile
def u (s : String) : CpInfo := .utf8 (stringToUtf16 s)
/-- a pool by its gaps: so many unusable entries, then the entry; so many at the end -/
def gap : Nat → List CpInfo → List CpInfo
  | 0, r => r
  | n + 1, r => .unusable :: gap n r
def poolList (es : List (Nat × CpInfo)) (last : Nat) : List CpInfo := es.foldr (fun e r => gap e.1 (e.2 :: r)) (gap last [])
def pool (es : List (Nat × CpInfo)) (last : Nat) : Array CpInfo := ⟨poolList es last⟩
def fileOf (pool : Array CpInfo) (this : Nat) (attrs : Array Attribute := #[]) (ms : Array MethodInfo := #[]) (fl : Nat := 33) (sup : Nat := 0) (ifs : Array Nat := #[]) (fds : Array FieldInfo := #[]) : ClassFile where
  minorVersion := 0
  majorVersion := 65
  constantPool := pool
  accessFlags := fl
  thisClass := this
  superClass := sup
  interfaces := ifs
  fields := fds
  methods := ms
  attributes := attrs
def plain (name : String) (sup : Option ClassId) : Class where
  name := name
  kind := .ordinary
  loader := none
  accessFlags := 33
  super := sup
  interfaces := #[]
  cf := none
  fields := #[]
  methods := #[]
  instanceTypes := #[]
  staticTypes := #[]
  resolved := #[]
  callSites := []
  init := .initialized
  statics := none
  mirror := none

def pool0 : Array CpInfo := pool [(5, u "<init>"), (0, u "()V"), (1, .class_ 10), (1, u "java/lang/Object")] 113

def k0m0 : Method := { name := "<init>", desc := "()V", sig := { parameters := [], returnType := none }, accessFlags := 1, code := none }
/-- java/lang/Object -/
def k0 : Class := { plain "java/lang/Object" none with
  accessFlags := 33
  interfaces := #[]
  cf := some (fileOf pool0 8 #[] #[{ accessFlags := 1, nameIndex := 5, descriptorIndex := 6, attributes := #[] }] 33 0 #[] #[])
  fields := #[]
  methods := #[k0m0]
  instanceTypes := #[]
  staticTypes := #[]
  resolved := Array.replicate 124 none
  statics := none }

def pool1 : Array CpInfo := pool [(2, .class_ 4), (1, u "java/lang/Object"), (0, u "<init>"), (0, u "()V"), (0, .integer 2147483647), (0, .methodref 9 10), (0, .class_ 11), (0, .nameAndType 12 13), (0, u "com/example/surety/surety/lts/StateTableHashPinLaw"), (0, u "copy"), (0, u "([I[II)V"), (0, .methodref 9 15), (0, .nameAndType 16 17), (0, u "step"), (0, u "(I[III)I"), (0, .methodref 19 20), (0, .class_ 21), (0, .nameAndType 22 23), (0, u "com/example/surety/surety/lts/StateTable"), (0, u "hash"), (0, u "([I)I"), (0, .methodref 9 25), (0, .nameAndType 26 27), (0, u "mix"), (0, u "(I)I"), (0, .integer 2654435761), (0, .integer 2246822507), (0, .integer 3266489909), (2, u "law"), (0, u "(IJJJJJ)Z")] 5

def k1m0 : Method := { name := "<init>", desc := "()V", sig := { parameters := [], returnType := none }, accessFlags := 1, code := none }
def k1c1 : Code := { maxStack := 5, maxLocals := 15, code := code, exceptionTable := #[], attributes := #[] }
def k1m1 : Method := { name := "law", desc := "(IJJJJJ)Z", sig := { parameters := [.int, .long, .long, .long, .long, .long], returnType := some .boolean }, accessFlags := 9, code := some k1c1 }
def k1c2 : Code := { maxStack := 4, maxLocals := 3, code := method_3_code, exceptionTable := #[], attributes := #[] }
def k1m2 : Method := { name := "copy", desc := "([I[II)V", sig := { parameters := [(.array .int), (.array .int), .int], returnType := none }, accessFlags := 10, code := some k1c2 }
def k1c3 : Code := { maxStack := 3, maxLocals := 4, code := method_4_code, exceptionTable := #[], attributes := #[] }
def k1m3 : Method := { name := "step", desc := "(I[III)I", sig := { parameters := [.int, (.array .int), .int, .int], returnType := some .int }, accessFlags := 10, code := some k1c3 }
def k1c4 : Code := { maxStack := 3, maxLocals := 2, code := method_5_code, exceptionTable := #[], attributes := #[] }
def k1m4 : Method := { name := "mix", desc := "(I)I", sig := { parameters := [.int], returnType := some .int }, accessFlags := 10, code := some k1c4 }
/-- com/example/surety/surety/lts/StateTableHashPinLaw -/
def k1 : Class := { plain "com/example/surety/surety/lts/StateTableHashPinLaw" (some 0) with
  accessFlags := 49
  interfaces := #[]
  cf := some (fileOf pool1 9 #[] #[{ accessFlags := 1, nameIndex := 5, descriptorIndex := 6, attributes := #[] }, { accessFlags := 9, nameIndex := 33, descriptorIndex := 34, attributes := #[] }, { accessFlags := 10, nameIndex := 12, descriptorIndex := 13, attributes := #[] }, { accessFlags := 10, nameIndex := 16, descriptorIndex := 17, attributes := #[] }, { accessFlags := 10, nameIndex := 26, descriptorIndex := 27, attributes := #[] }] 49 2 #[] #[])
  fields := #[]
  methods := #[k1m0, k1m1, k1m2, k1m3, k1m4]
  instanceTypes := #[]
  staticTypes := #[]
  resolved := Array.replicate 40 none
  statics := none }

def pool2 : Array CpInfo := pool [(1, .class_ 2), (0, u "com/example/surety/surety/lts/StateTable"), (5, .class_ 10), (1, u "java/lang/Object"), (3, u "capacity"), (0, u "I"), (7, u "tuples"), (0, u "Lcom/example/surety/surety/lts/TupleList;"), (2, u "pageShift"), (2, u "pageMask"), (19, u "slots"), (0, u "[[I"), (12, u "hash"), (0, u "([I)I"), (2, u "mask"), (2, u "hashes"), (51, .integer 527875265), (0, .integer 3422824465), (0, .integer 4293315681), (0, .integer 2654435761), (0, .integer 2246822507), (0, .integer 3266489909), (0, u "EMPTY"), (2, u "MULTIPLIER"), (0, u "MULTIPLIER_2"), (0, u "MULTIPLIER_3"), (0, u "MULTIPLIER_4"), (0, u "PAGE_SHIFT")] 8

def k2c0 : Code := { maxStack := 4, maxLocals := 7, code := prog_239_method_16_code, exceptionTable := #[], attributes := #[] }
def k2m0 : Method := { name := "hash", desc := "([I)I", sig := { parameters := [(.array .int)], returnType := some .int }, accessFlags := 8, code := some k2c0 }
/-- com/example/surety/surety/lts/StateTable -/
def k2 : Class := { plain "com/example/surety/surety/lts/StateTable" (some 0) with
  accessFlags := 48
  interfaces := #[]
  cf := some (fileOf pool2 1 #[] #[{ accessFlags := 8, nameIndex := 64, descriptorIndex := 65, attributes := #[] }] 48 8 #[] #[{ accessFlags := 26, nameIndex := 129, descriptorIndex := 15, attributes := #[] }, { accessFlags := 26, nameIndex := 132, descriptorIndex := 15, attributes := #[] }, { accessFlags := 26, nameIndex := 133, descriptorIndex := 15, attributes := #[] }, { accessFlags := 26, nameIndex := 134, descriptorIndex := 15, attributes := #[] }, { accessFlags := 26, nameIndex := 135, descriptorIndex := 15, attributes := #[] }, { accessFlags := 26, nameIndex := 136, descriptorIndex := 15, attributes := #[] }, { accessFlags := 18, nameIndex := 14, descriptorIndex := 15, attributes := #[] }, { accessFlags := 18, nameIndex := 23, descriptorIndex := 24, attributes := #[] }, { accessFlags := 18, nameIndex := 27, descriptorIndex := 15, attributes := #[] }, { accessFlags := 18, nameIndex := 30, descriptorIndex := 15, attributes := #[] }, { accessFlags := 2, nameIndex := 50, descriptorIndex := 51, attributes := #[] }, { accessFlags := 2, nameIndex := 71, descriptorIndex := 51, attributes := #[] }, { accessFlags := 2, nameIndex := 68, descriptorIndex := 15, attributes := #[] }])
  fields := #[{ name := "EMPTY", type := .int, accessFlags := 26, slot := 0, constantValue := 0 }, { name := "MULTIPLIER", type := .int, accessFlags := 26, slot := 1, constantValue := 0 }, { name := "MULTIPLIER_2", type := .int, accessFlags := 26, slot := 2, constantValue := 0 }, { name := "MULTIPLIER_3", type := .int, accessFlags := 26, slot := 3, constantValue := 0 }, { name := "MULTIPLIER_4", type := .int, accessFlags := 26, slot := 4, constantValue := 0 }, { name := "PAGE_SHIFT", type := .int, accessFlags := 26, slot := 5, constantValue := 0 }, { name := "capacity", type := .int, accessFlags := 18, slot := 0, constantValue := 0 }, { name := "tuples", type := (.object "com/example/surety/surety/lts/TupleList"), accessFlags := 18, slot := 1, constantValue := 0 }, { name := "pageShift", type := .int, accessFlags := 18, slot := 2, constantValue := 0 }, { name := "pageMask", type := .int, accessFlags := 18, slot := 3, constantValue := 0 }, { name := "slots", type := (.array (.array .int)), accessFlags := 2, slot := 4, constantValue := 0 }, { name := "hashes", type := (.array (.array .int)), accessFlags := 2, slot := 5, constantValue := 0 }, { name := "mask", type := .int, accessFlags := 2, slot := 6, constantValue := 0 }]
  methods := #[k2m0]
  instanceTypes := #[.int, (.object "com/example/surety/surety/lts/TupleList"), .int, .int, (.array (.array .int)), (.array (.array .int)), .int]
  staticTypes := #[.int, .int, .int, .int, .int, .int]
  resolved := Array.replicate 145 none
  statics := none }

def pool3 : Array CpInfo := pool [(1, u "java/lang/Cloneable"), (0, .class_ 1), (0, u "java/lang/Object"), (0, .class_ 3)] 3

/-- java/lang/Cloneable -/
def k3 : Class := { plain "java/lang/Cloneable" (some 0) with
  accessFlags := 1537
  interfaces := #[]
  cf := some (fileOf pool3 2 #[] #[] 1537 4 #[] #[])
  fields := #[]
  methods := #[]
  instanceTypes := #[]
  staticTypes := #[]
  resolved := Array.replicate 8 none
  statics := none }

def pool4 : Array CpInfo := pool [(1, u "java/io/Serializable"), (0, .class_ 1), (0, u "java/lang/Object"), (0, .class_ 3)] 3

/-- java/io/Serializable -/
def k4 : Class := { plain "java/io/Serializable" (some 0) with
  accessFlags := 1537
  interfaces := #[]
  cf := some (fileOf pool4 2 #[] #[] 1537 4 #[] #[])
  fields := #[]
  methods := #[]
  instanceTypes := #[]
  staticTypes := #[]
  resolved := Array.replicate 8 none
  statics := none }

/-- the primitive byte -/
def k5 : Class := { plain "byte" none with kind := .primitive 'B', accessFlags := 0x411 }
/-- [B -/
def k6 : Class := { plain "[B" (some 0) with kind := .array 5 .byte, interfaces := #[3, 4], accessFlags := 1041 }

/-- the primitive int -/
def k7 : Class := { plain "int" none with kind := .primitive 'I', accessFlags := 0x411 }
/-- [I -/
def k8 : Class := { plain "[I" (some 0) with kind := .array 7 .int, interfaces := #[3, 4], accessFlags := 1041 }

def heap : Heap := #[]
def classes : Array Class := #[k0, k1, k2, k3, k4, k5, k6, k7, k8]
def interned : List (Array UInt16 × Addr) := []
def slotsUsed : Nat := 0
def theMethod : MethodId := ⟨1, 1⟩
def args0 : Array Value := #[.int 5, .long 1, .long 2, .long 3, .long 4, .long 5]
def aboutOver (below : List Frame) : State where
  vm := { classes := classes, interned := interned.toArray }
  heap := heap
  slotsUsed := slotsUsed
  threads := #[{ frames := .invoking theMethod args0 :: below }]
def below0 : List Frame := [.native { method := ⟨0, 0⟩, args := #[] }]
def about1 : State := aboutOver below0
def p0 : Program := .bare "" "" ""
def e0 : Env := launch0.env 0 0 0
theorem w_frames : about1.frames = Frame.invoking theMethod args0 :: below0 := rfl
set_option maxRecDepth 65536 in
theorem w_args : argsFit about1.vm theMethod args0 = true := by decide +kernel
set_option maxRecDepth 65536 in
theorem w_heap : heapFits about1 = true := by decide +kernel
set_option maxRecDepth 65536 in
theorem w_runnable : about1.curStatus? = some .runnable := by decide +kernel
set_option maxRecDepth 65536 in
theorem w_alone : about1.alone = true := by decide +kernel
set_option maxRecDepth 65536 in
theorem w_named : about1.methodNamed? x = some theMethod := by decide +kernel
set_option maxRecDepth 65536 in
theorem w_hears : about1.hears theMethod below0 = true := by decide +kernel
set_option maxRecDepth 65536 in
theorem w_ripe : about1.ripe theMethod args0 below0 = true := by decide +kernel
theorem w_running : about1.status = .running := rfl
set_option maxRecDepth 65536 in
theorem w_room : about1.hasRoom e0.platform room_1 = true :=
  launch0.hasRoom_least _ room_1 (by decide +kernel) (by decide +kernel) (by decide +kernel) (by decide +kernel) (by decide +kernel) (by decide +kernel)
theorem allAtoms_all (ts : List Jvm.Cond) (a : Array Jvm.Value) (st : Jvm.State) : (allAtoms ts).before a st = ts.all (fun c => c.before a st) := by
  induction ts with
  | nil => rfl
  | cons c t ih =>
    show (Jvm.Cond.and c (allAtoms t)).before a st = _
    rw [Jvm.Cond.before_and, ih, List.all_cons]
def words1 : List Jvm.Cond := Jvm.Cond.code x code maxLocals ret :: tables_1
/-- a 'code' word, met by the world's own term for the bytes: nothing is compared byte by byte -/
theorem code_word {y : MethodName} {bytes : ByteArray} {mx : Nat} {rt : Option FieldType} {a : Array Value} {s : State} {m : MethodId} {meth : Method} {c : Code} (h1 : s.methodNamed? y = some m) (h2 : s.vm.method? m = some meth) (h3 : meth.code = some c) (h4 : c.code = bytes)
    (h5 : (c.maxLocals == mx && c.exceptionTable.isEmpty && decide (c.maxStack ≤ mostOperands) && decide (meth.sig.returnType = rt) && !meth.locks && decide (parseMethodDescriptor y.desc = some meth.sig)) = true) : (Jvm.Cond.code y bytes mx rt).before a s = true := by
  simp only [Bool.and_eq_true, beq_iff_eq, Bool.not_eq_true', decide_eq_true_eq] at h5
  obtain ⟨⟨⟨⟨⟨g1, g2⟩, g3⟩, g4⟩, g5⟩, g6⟩ := h5
  simp [Cond.before, Cond.holds, Cond.value, h1, h2, h3, h4, g1, g2, g3, g4, g5, g6]
def isCode : Jvm.Cond → Bool
  | .code _ _ _ _ => true
  | _ => false
theorem all_split {L : List Jvm.Cond} {P : Jvm.Cond → Bool} (h1 : L.all (fun c => isCode c || P c) = true) (h2 : ∀ c ∈ L.filter isCode, P c = true) : L.all P = true := by
  refine List.all_eq_true.mpr fun c hc => ?_
  have h := List.all_eq_true.mp h1 c hc
  rcases Bool.eq_false_or_eq_true (isCode c) with hi | hi
  · exact h2 c (List.mem_filter.mpr ⟨hc, hi⟩)
  · simpa [hi] using h
set_option maxRecDepth 65536 in
theorem w_c0 : (Jvm.Cond.code x code maxLocals ret).before args0 about1 = true := code_word (m := ⟨1, 1⟩) (meth := k1m1) (c := k1c1) (by decide +kernel) rfl rfl rfl (by decide +kernel)
set_option maxRecDepth 65536 in
theorem w_c1 : (Jvm.Cond.code ({ cls := "com/example/surety/surety/lts/StateTableHashPinLaw", name := "copy", desc := "([I[II)V" } : Jvm.MethodName) method_3_code (3 : Nat) (Option.none : Option Jvm.ClassFile.FieldType)).before args0 about1 = true := code_word (m := ⟨1, 2⟩) (meth := k1m2) (c := k1c2) (by decide +kernel) rfl rfl rfl (by decide +kernel)
set_option maxRecDepth 65536 in
theorem w_c2 : (Jvm.Cond.code ({ cls := "com/example/surety/surety/lts/StateTableHashPinLaw", name := "step", desc := "(I[III)I" } : Jvm.MethodName) method_4_code (4 : Nat) (Option.some Jvm.ClassFile.FieldType.int)).before args0 about1 = true := code_word (m := ⟨1, 3⟩) (meth := k1m3) (c := k1c3) (by decide +kernel) rfl rfl rfl (by decide +kernel)
set_option maxRecDepth 65536 in
theorem w_c3 : (Jvm.Cond.code ({ cls := "com/example/surety/surety/lts/StateTable", name := "hash", desc := "([I)I" } : Jvm.MethodName) prog_239_method_16_code (7 : Nat) (Option.some Jvm.ClassFile.FieldType.int)).before args0 about1 = true := code_word (m := ⟨2, 0⟩) (meth := k2m0) (c := k2c0) (by decide +kernel) rfl rfl rfl (by decide +kernel)
set_option maxRecDepth 65536 in
theorem w_c4 : (Jvm.Cond.code ({ cls := "com/example/surety/surety/lts/StateTableHashPinLaw", name := "mix", desc := "(I)I" } : Jvm.MethodName) method_5_code (2 : Nat) (Option.some Jvm.ClassFile.FieldType.int)).before args0 about1 = true := code_word (m := ⟨1, 4⟩) (meth := k1m4) (c := k1c4) (by decide +kernel) rfl rfl rfl (by decide +kernel)
def codes1 : List Jvm.Cond := [Jvm.Cond.code x code maxLocals ret, Jvm.Cond.code ({ cls := "com/example/surety/surety/lts/StateTableHashPinLaw", name := "copy", desc := "([I[II)V" } : Jvm.MethodName) method_3_code (3 : Nat) (Option.none : Option Jvm.ClassFile.FieldType), Jvm.Cond.code ({ cls := "com/example/surety/surety/lts/StateTableHashPinLaw", name := "step", desc := "(I[III)I" } : Jvm.MethodName) method_4_code (4 : Nat) (Option.some Jvm.ClassFile.FieldType.int), Jvm.Cond.code ({ cls := "com/example/surety/surety/lts/StateTable", name := "hash", desc := "([I)I" } : Jvm.MethodName) prog_239_method_16_code (7 : Nat) (Option.some Jvm.ClassFile.FieldType.int), Jvm.Cond.code ({ cls := "com/example/surety/surety/lts/StateTableHashPinLaw", name := "mix", desc := "(I)I" } : Jvm.MethodName) method_5_code (2 : Nat) (Option.some Jvm.ClassFile.FieldType.int)]
set_option maxRecDepth 65536 in
theorem codes_eq : words1.filter isCode = codes1 := rfl
theorem w_codes : ∀ c ∈ words1.filter isCode, c.before args0 about1 = true := by
  rw [codes_eq]
  intro c hc
  simp only [codes1, List.mem_cons, List.not_mem_nil, or_false] at hc
  rcases hc with rfl | rfl | rfl | rfl | rfl
  · exact w_c0
  · exact w_c1
  · exact w_c2
  · exact w_c3
  · exact w_c4
set_option maxRecDepth 65536 in
theorem w_t1 : (words1.take 24).all (fun c => isCode c || c.before args0 about1) = true := by decide +kernel
set_option maxRecDepth 65536 in
theorem w_t2 : (words1.drop 24).all (fun c => isCode c || c.before args0 about1) = true := by decide +kernel
theorem w_tables : (allAtoms (Jvm.Cond.code x code maxLocals ret :: tables_1)).before args0 about1 = true := by
  rw [allAtoms_all]
  show words1.all (fun c => c.before args0 about1) = true
  refine all_split ?_ w_codes
  rw [← List.take_append_drop 24 words1, List.all_append, w_t1, w_t2]
  rfl
set_option maxRecDepth 65536 in
theorem w_case : (Jvm.Cond.and given_1 narrow_1).before args0 about1 = true := by decide +kernel
theorem w_applies : (headSpec (Jvm.Cond.code x code maxLocals ret :: tables_1) room_1).applies x e0.platform about1 = true :=
  (Spec.applies_iff w_frames).mpr ⟨w_running, w_runnable, w_alone, w_named, w_hears, w_ripe, w_room, w_tables⟩
theorem atStart : AtStart classFile x code maxLocals ret World_1 tables_1 room_1 Calls_1 rest_1 Pre_1 launch0 p0 e0 about1 theMethod args0 below0 :=
  ⟨lists_1, trivial, launch0.admits_env _ _ _, launch0.least_env, fairChoices_fair.cas, fairChoices_fair.clock, w_frames, w_args, w_heap, w_applies, trivial, trivial, w_case⟩
end start1
theorem witness_1 : WitnessClaimed_1 := ⟨start1.p0, start1.e0, start1.about1, start1.theMethod, start1.args0, start1.below0, start1.atStart⟩
end Jvm.Pilot.@@N@@
