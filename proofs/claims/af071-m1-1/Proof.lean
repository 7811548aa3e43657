import JvmDerived
import JvmDerived.Pilot.@@N@@Statement
import JvmDerived.Pilot.@@N@@Code
set_option linter.unusedVariables false
set_option linter.unusedSimpArgs false
namespace Jvm.RoadKit
open Sem ClassFile Op Lib Jvm.Stand Jvm.Free Jvm.LawKit
section New
variable {p : Program} {l : Launch} {e : Env} {R : Room} {s : State} {m : MethodId} {args : Array Value} {below : List Frame} {meth : Method} {c : Code} {T : State} {locs : List Loc} {cells slots : Nat}
theorem retI (X : Stand p l e R s m args below meth c T locs cells slots) (hx : p.tables.exec = Jvm.exec) {pc : Nat} {Ls : Array Slot} {z : Int32} {rest : List Value} (hret : meth.sig.returnType = some .int) (hd : decode c.code pc = .ok (.ireturn, 1)) {fs : List Frame}
    (hl : ∀ (f : JFrame) (acts : List Action), f.method = m → f.locked = none → f.entered = [] → (doReturn e (T.setTop f) acts (some (.int z))).1 = T.setFrames fs) : Steps p.tables e below (T.setTop (mkF m pc Ls (.int z :: rest))) (T.setFrames fs) := by
  have hm' : T.vm.method? m = some meth := X.method'
  have hn : narrow .int (.int z) = .int z := rfl
  show Steps p.tables e below (T.setTop { method := m, pc := pc, locals := Ls, stack := _ :: rest, locked := none }) _
  jvm_step X.here [X.here.top, hx, hd, hm', hret, hn]
  first | (intro acts; rw [hl _ acts rfl rfl rfl]) | rw [hl _ _ rfl rfl rfl]
  exact Steps.refl _
end New
end Jvm.RoadKit
namespace Jvm.Pilot.@@N@@
open Jvm Jvm.ClassFile Sem Op Lib Jvm.Free Jvm.Stand Jvm.LawKit Jvm.RoadKit Bundle Jvm.Pilot.@@N@@.Jvm.D
/-! ## The walk in continuation-passing form: what is left to run returns, and Q says of what it returns, of the heap and of the places written -/
def Ogo (p : Program) (e : Env) (below : List Frame) (P : Outcome → State → Prop) (A : State) : Prop :=
  ∃ s₂ o, Steps p.tables e below A s₂ ∧ s₂.status = .running ∧ Ended s₂ below o ∧ P o s₂
/-- it returned v, Q says of v, of the heap and of the places written; nothing else was done since s -/
def Onar (s : State) (R : Room) (Q : Option Value → Heap → List Loc → Prop) (o : Outcome) (t : State) : Prop := ∃ v L, o = .returned v ∧ Q v t.heap L ∧ FrameEnd s o t L R.cells R.slots
abbrev Opays (l : Launch) (y : MethodName) (bytes : ByteArray) (maxL : Nat) (rt : Option FieldType) (rm : Room) (ws : List Jvm.Cond) (Z : State) (h0 : Heap) (as : Array Value) (Q : Option Value → Heap → List Loc → Prop) : Prop :=
  MetFree l y (head1 (Jvm.Cond.code y bytes maxL rt :: ws) rm) (fun a U => a = as ∧ Z.Warmed39 U.vm ∧ U.heap = h0) (fun _ _ _ _ _ => True) (fun _ U o U' => ∃ v L, o = .returned v ∧ Q v U'.heap L ∧ FrameEnd U o U' L rm.cells rm.slots)
section Own
variable {p : Program} {l : Launch} {e : Env} {R : Room} {s : State} {m : MethodId} {args : Array Value} {below : List Frame} {meth : Method} {c : Code} {T : State} {locs : List Loc} {cells slots : Nat} {Z : State} {a0 : Array Value} {h : Heap} {Q : Option Value → Heap → List Loc → Prop} {A B : State} {P : Outcome → State → Prop}
theorem own_via (st : ∀ t, Steps p.tables e below B t → Steps p.tables e below A t) (k : Ogo p e below P B) : Ogo p e below P A := by
  obtain ⟨s₂, o, h1, h2⟩ := k
  exact ⟨s₂, o, st _ h1, h2⟩
theorem own_enter {y : MethodName} {bytes : ByteArray} {maxL : Nat} {rt : Option FieldType} {rm : Room} {ws : List Jvm.Cond} {h0 : Heap} {as : Array Value} (hp : plainFor y = true)
    (body : ∀ p e s m below meth c s₁, p.tables.exec = Jvm.exec → c.code = bytes → c.maxLocals = maxL → s.vm.findClass y.cls = some m.cls → meth.name = y.name → meth.sig.returnType = rt → meth.locks = false → Z.Warmed39 s.vm → s₁.heap = h0 →
      Stand p l e rm s m as below meth c s₁ [] 0 0 → Ogo p e below (Onar s rm Q) (s₁.setTop (entryFrame m as maxL))) : Opays l y bytes maxL rt rm ws Z h0 as Q := by
  refine MetFree.of_bodySF hp hisR ?_
  intro p e s m args below meth c s₁ Bd hml0 hP hK
  obtain ⟨rfl, hZ, hh⟩ := hP
  have X0 : Stand p l e rm s m args below meth c s₁ [] 0 0 := Stand.of_body Bd
  have e0 : s₁.heap = h0 := by rw [← hh, Bd.state]; rfl
  exact body p e s m below meth c s₁ Bd.exec Bd.bytes hml0 (findClass_of_methodNamed Bd.named) (name_of_methodNamed Bd.named Bd.method).1 Bd.returns Bd.notSynchronized hZ e0 X0
theorem own_out (X : Stand p l e R s m args below meth c T locs cells slots) (hlk : meth.locks = false) {v : Option Value} (hv : meth.sig.returnType = none → v = none) (hc : cells ≤ R.cells) (hs : slots ≤ R.slots) (hQ : Q v T.heap locs)
    (k : ∀ fs, (∀ (f : JFrame) (acts : List Action), f.method = m → f.locked = none → f.entered = [] → (doReturn e (T.setTop f) acts v).1 = T.setFrames fs) → Steps p.tables e below A (T.setFrames fs)) : Ogo p e below (Onar s R Q) A := by
  obtain ⟨fs, hr, hrun, hended, hW, hsame⟩ := X.leave (v := v) hv hlk
  exact ⟨_, _, k fs hr, hrun, hended, _, _, rfl, hQ, ⟨_, rfl⟩, hW, hsame.mono hc hs⟩
theorem own_retL (X : Stand p l e R s m args below meth c T locs cells slots) (hx : p.tables.exec = Jvm.exec) {pc : Nat} {Ls : Array Slot} {z : Int64} {rest : List Value} (hret : meth.sig.returnType = some .long) (hd : decode c.code pc = .ok (.lreturn, 1)) {fs : List Frame}
    (hl : ∀ (f : JFrame) (acts : List Action), f.method = m → f.locked = none → f.entered = [] → (doReturn e (T.setTop f) acts (some (.long z))).1 = T.setFrames fs) : Steps p.tables e below (T.setTop (mkF m pc Ls (.long z :: rest))) (T.setFrames fs) :=
  retOut X hx hret rfl (Or.inr (Or.inl ⟨rfl, rfl, _, rfl⟩)) hd hl
theorem own_retD (X : Stand p l e R s m args below meth c T locs cells slots) (hx : p.tables.exec = Jvm.exec) {pc : Nat} {Ls : Array Slot} {z : UInt64} {rest : List Value} (hret : meth.sig.returnType = some .double) (hd : decode c.code pc = .ok (.dreturn, 1)) {fs : List Frame}
    (hl : ∀ (f : JFrame) (acts : List Action), f.method = m → f.locked = none → f.entered = [] → (doReturn e (T.setTop f) acts (some (.double z))).1 = T.setFrames fs) : Steps p.tables e below (T.setTop (mkF m pc Ls (.double z :: rest))) (T.setFrames fs) :=
  retOut X hx hret rfl (Or.inr (Or.inr (Or.inl ⟨rfl, rfl, _, rfl⟩))) hd hl
theorem own_retA (X : Stand p l e R s m args below meth c T locs cells slots) (hx : p.tables.exec = Jvm.exec) {pc : Nat} {Ls : Array Slot} {w : Value} {t : FieldType} {rest : List Value} (hret : meth.sig.returnType = some t) (ht : t.isReference = true) (hv : w.isRef = true) (hd : decode c.code pc = .ok (.areturn, 1)) {fs : List Frame}
    (hl : ∀ (f : JFrame) (acts : List Action), f.method = m → f.locked = none → f.entered = [] → (doReturn e (T.setTop f) acts (some w)).1 = T.setFrames fs) : Steps p.tables e below (T.setTop (mkF m pc Ls (w :: rest))) (T.setFrames fs) :=
  retOut X hx hret (by cases t <;> first | rfl | cases ht) (Or.inr (Or.inr (Or.inr (Or.inr ⟨rfl, ht, hv⟩)))) hd hl
theorem own_lrem {g : JFrame} {target : State} (X : Stand p l e R s m args below meth c T locs cells slots) (hx : p.tables.exec = Jvm.exec) (hg : g.method = m) {x y : Int64} {rest : List Value} (hd : decode c.code g.pc = .ok (.lrem, 1)) (hs : g.stack = .long y :: .long x :: rest) (hy : y ≠ 0)
    (hr : Steps p.tables e below (T.setTop { g with pc := g.pc + 1, stack := .long (x % y) :: rest }) target) : Steps p.tables e below (T.setTop g) target :=
  XS.lrem X.here hx hg hd hs hy (by rw [lrem_mod]; exact hr)
/-! calls: the callee's contract pays -/
theorem own_callS (X : Stand p l e R s m args below meth c T locs cells slots) (hx : p.tables.exec = Jvm.exec) (hZ : Z.Warmed39 s.vm) {own : String} {index : Nat} {y : MethodName} {bytes : ByteArray} {maxL : Nat} {rt : Option FieldType}
    (hown : s.vm.findClass own = some m.cls) (wl : (Jvm.Cond.methodLink own index y).before a0 Z = true) (wst : (Jvm.Cond.static y).before a0 Z = true) (wi : (Jvm.Cond.initialized y.cls).before a0 Z = true) (wc : (Jvm.Cond.code y bytes maxL rt).before a0 Z = true)
    (hy : y.cls ≠ "java/lang/invoke/MethodHandle" ∧ y.cls ≠ "java/lang/invoke/VarHandle") {rm : Room} {as : Array Value} {Qc : Option Value → Heap → List Loc → Prop} (hM : Opays l y bytes maxL rt rm [] Z h as Qc) {argsL rest : List Value} (ha : argsL.toArray = as) (eT : T.heap = h) {W : Nat} (hf : rm.frames + 1 ≤ R.frames) (hl : W + (maxL + 11) + rm.locals ≤ R.locals) (hc : cells + rm.cells ≤ R.cells) (hs : slots + rm.slots ≤ R.slots)
    {pc : Nat} {Ls : Array Slot} {st : List Value} (hsize : Ls.size = c.maxLocals) (hlen : ∀ sig, parseMethodDescriptor y.desc = some sig → argsL.length = sig.parameters.length) (hst : st = argsL.reverse ++ rest) (hW : (rest.map fun v => v.category).sum ≤ W) (hd : decode c.code pc = .ok (.invokestatic index, 3))
    (k : ∀ v T' L, Stand p l e R s m args below meth c T' (locs ++ L) (cells + rm.cells) (slots + rm.slots) → Qc v T'.heap L → Ogo p e below P (T'.setTop (mkF m (pc + 3) Ls (v.toList ++ rest)))) : Ogo p e below P (T.setTop (mkF m pc Ls st)) := by
  obtain ⟨v, _, ⟨T', L', k', n'⟩, -, X', ⟨Lc, hQ, l1, y1, z1⟩, step⟩ := Jvm.LawKit.callS X hx (y := y) hown (mvT hZ wl) (mvT hZ wst) (mvT hZ wi) (mvT hZ wc) hy (backOf (W := W) hM hZ wc wi hf hl) (g := mkF m pc Ls st) rfl hsize (argsL := argsL) (rest := rest) hlen hst (by show 2 * 0 + _ ≤ _; omega) hd (fun _ _ => ⟨ha, eT, hc, hs⟩)
  dsimp only [Pt.U, Pt.locs, Pt.cells, Pt.slots] at X' l1 y1 z1 step hQ
  subst l1 y1 z1
  exact own_via step (k v T' Lc X' hQ)
theorem own_callI (X : Stand p l e R s m args below meth c T locs cells slots) (hx : p.tables.exec = Jvm.exec) (hZ : Z.Warmed39 s.vm) {own : String} {index : Nat} {y : MethodName} {bytes : ByteArray} {maxL : Nat} (hy1 : y.name = "<init>")
    (hown : s.vm.findClass own = some m.cls) (wl : (Jvm.Cond.methodLink own index y).before a0 Z = true) (wst : (Jvm.Cond.instanceMethod y).before a0 Z = true) (wi : (Jvm.Cond.initialized y.cls).before a0 Z = true) (wc : (Jvm.Cond.code y bytes maxL none).before a0 Z = true)
    (hy : y.cls ≠ "java/lang/invoke/MethodHandle" ∧ y.cls ≠ "java/lang/invoke/VarHandle") {rm : Room} {as : Array Value} {Qc : Option Value → Heap → List Loc → Prop} (hM : Opays l y bytes maxL none rm [] Z h as Qc) {a : Addr} {argsL rest : List Value} (ha : (.ref a :: argsL).toArray = as) (eT : T.heap = h) {W : Nat} (hf : rm.frames + 1 ≤ R.frames) (hl : W + (maxL + 11) + rm.locals ≤ R.locals) (hc : cells + rm.cells ≤ R.cells) (hs : slots + rm.slots ≤ R.slots)
    {pc : Nat} {Ls : Array Slot} {st : List Value} (hsize : Ls.size = c.maxLocals) (hlen : ∀ sig, parseMethodDescriptor y.desc = some sig → argsL.length = sig.parameters.length) (hst : st = argsL.reverse ++ .ref a :: rest) (hW : (rest.map fun v => v.category).sum ≤ W) (hd : decode c.code pc = .ok (.invokespecial index, 3))
    (k : ∀ v T' L, Stand p l e R s m args below meth c T' (locs ++ L) (cells + rm.cells) (slots + rm.slots) → Qc v T'.heap L → Ogo p e below P (T'.setTop (mkF m (pc + 3) Ls (v.toList ++ rest)))) : Ogo p e below P (T.setTop (mkF m pc Ls st)) := by
  obtain ⟨v, _, ⟨T', L', k', n'⟩, -, X', ⟨Lc, hQ, l1, y1, z1⟩, step⟩ := X.specialBack hx (y := y) hy1 hown (mvT hZ wl) (mvT hZ wst) (mvT hZ wc) hy (backOf (W := W) hM hZ wc wi hf hl) (g := mkF m pc Ls st) rfl hsize (Steps.refl _) (a := a) (argsL := argsL) (rest := rest) hlen hst (by show 2 * 0 + _ ≤ _; omega) hd (fun _ _ => ⟨ha, eT, hc, hs⟩)
  dsimp only [Pt.U, Pt.locs, Pt.cells, Pt.slots] at X' l1 y1 z1 step hQ
  subst l1 y1 z1
  exact own_via (fun _ q => step.trans q) (k v T' Lc X' hQ)
theorem own_callV (X : Stand p l e R s m args below meth c T locs cells slots) (hx : p.tables.exec = Jvm.exec) (hZ : Z.Warmed39 s.vm) {own C : String} {index : Nat} {y z : MethodName} {bytes : ByteArray} {maxL : Nat} {rt : Option FieldType}
    (hown : s.vm.findClass own = some m.cls) (wl : (Jvm.Cond.methodLink own index y).before a0 Z = true) (wd : (Jvm.Cond.declares y).before a0 Z = true) (ws : (Jvm.Cond.selects C y z).before a0 Z = true) (wst : (Jvm.Cond.instanceMethod z).before a0 Z = true) (wi : (Jvm.Cond.initialized z.cls).before a0 Z = true) (wc : (Jvm.Cond.code z bytes maxL rt).before a0 Z = true) (hyz : NotFace s y)
    (hy : y.cls ≠ "java/lang/invoke/MethodHandle" ∧ y.cls ≠ "java/lang/invoke/VarHandle") {rm : Room} {as : Array Value} {Qc : Option Value → Heap → List Loc → Prop} (hM : Opays l z bytes maxL rt rm [] Z h as Qc) {b : Addr} {argsL rest : List Value} (ha : (.ref b :: argsL).toArray = as) (eT : T.heap = h) (F : Exa Z h b C) {W : Nat} (hf : rm.frames + 1 ≤ R.frames) (hl : W + (maxL + 11) + rm.locals ≤ R.locals) (hc : cells + rm.cells ≤ R.cells) (hs : slots + rm.slots ≤ R.slots)
    {pc : Nat} {Ls : Array Slot} {st : List Value} (hsize : Ls.size = c.maxLocals) (hlen : ∀ sig, parseMethodDescriptor y.desc = some sig → argsL.length = sig.parameters.length) (hst : st = argsL.reverse ++ .ref b :: rest) (hW : (rest.map fun v => v.category).sum ≤ W) (hd : decode c.code pc = .ok (.invokevirtual index, 3))
    (k : ∀ v T' L, Stand p l e R s m args below meth c T' (locs ++ L) (cells + rm.cells) (slots + rm.slots) → Qc v T'.heap L → Ogo p e below P (T'.setTop (mkF m (pc + 3) Ls (v.toList ++ rest)))) : Ogo p e below P (T.setTop (mkF m pc Ls st)) := by
  obtain ⟨cq, kq, qa, qb, qc⟩ := isOf hZ eT F
  obtain ⟨v, _, ⟨T', L', k', n'⟩, -, X', ⟨Lc, hQ, l1, y1, z1⟩, step⟩ := X.virtualBack hx (y := y) (z := z) hown (mvT hZ wl) (mvT hZ wd) hyz (mvT hZ ws) (mvT hZ wst) hy (backOf (W := W) hM hZ wc wi hf hl) qa qc (g := mkF m pc Ls st) rfl hsize (Steps.refl _) (argsL := argsL) (rest := rest) hlen hst (by show 2 * 0 + _ ≤ _; omega) hd (fun _ _ => ⟨ha, eT, hc, hs⟩)
  dsimp only [Pt.U, Pt.locs, Pt.cells, Pt.slots] at X' l1 y1 z1 step hQ
  subst l1 y1 z1
  exact own_via (fun _ q => step.trans q) (k v T' Lc X' hQ)
/-- a private method of a class that is no interface -/
theorem own_callP (X : Stand p l e R s m args below meth c T locs cells slots) (hx : p.tables.exec = Jvm.exec) (hZ : Z.Warmed39 s.vm) {own C : String} {index kk : Nat} {y : MethodName} {bytes : ByteArray} {maxL : Nat} {rt : Option FieldType}
    (hown : s.vm.findClass own = some m.cls) (wl : (Jvm.Cond.methodLink own index y).before a0 Z = true) (wst : (Jvm.Cond.instanceMethod y).before a0 Z = true) (wp : (Jvm.Cond.privateMethod y).before a0 Z = true) (wi : (Jvm.Cond.initialized y.cls).before a0 Z = true) (wn : (Jvm.Cond.instantiable y.cls kk).before a0 Z = true) (wc : (Jvm.Cond.code y bytes maxL rt).before a0 Z = true)
    (hy : y.cls ≠ "java/lang/invoke/MethodHandle" ∧ y.cls ≠ "java/lang/invoke/VarHandle") {rm : Room} {as : Array Value} {Qc : Option Value → Heap → List Loc → Prop} (hM : Opays l y bytes maxL rt rm [] Z h as Qc) {b : Addr} {argsL rest : List Value} (ha : (.ref b :: argsL).toArray = as) (eT : T.heap = h) (F : Exa Z h b C) {W : Nat} (hf : rm.frames + 1 ≤ R.frames) (hl : W + (maxL + 11) + rm.locals ≤ R.locals) (hc : cells + rm.cells ≤ R.cells) (hs : slots + rm.slots ≤ R.slots)
    {pc : Nat} {Ls : Array Slot} {st : List Value} (hsize : Ls.size = c.maxLocals) (hlen : ∀ sig, parseMethodDescriptor y.desc = some sig → argsL.length = sig.parameters.length) (hst : st = argsL.reverse ++ .ref b :: rest) (hW : (rest.map fun v => v.category).sum ≤ W) (hd : decode c.code pc = .ok (.invokevirtual index, 3))
    (k : ∀ v T' L, Stand p l e R s m args below meth c T' (locs ++ L) (cells + rm.cells) (slots + rm.slots) → Qc v T'.heap L → Ogo p e below P (T'.setTop (mkF m (pc + 3) Ls (v.toList ++ rest)))) : Ogo p e below P (T.setTop (mkF m pc Ls st)) := by
  obtain ⟨cq, q1, q2⟩ := F.cell
  have hpriv : s.PrivateAt y := Cond.privateMethod_at (mvP hZ wp (args := #[]))
  obtain ⟨c2, k2, i1, i2, i3, i4, -⟩ := Cond.instantiable_spec (mv (s := s) (args := args) hZ wn)
  have hni : k2.isInterface = false := (Bool.or_eq_false_iff.mp i4).1
  obtain ⟨v, _, ⟨T', L', k', n'⟩, -, X', ⟨Lc, hQ, l1, y1, z1⟩, step⟩ := X.privateBack hx (y := y) hown (mvT hZ wl) (mvT hZ wst) (selects_self_of_private i1 i2 hni hpriv (mvT hZ wst) hy) hpriv (mvT hZ wc) hy (backOf (W := W) hM hZ wc wi hf hl) (g := mkF m pc Ls st) rfl hsize (Steps.refl _) (a := b) (by rw [eT]; exact q1) q2 (argsL := argsL) (rest := rest) hlen hst (by show 2 * 0 + _ ≤ _; omega) hd (fun _ _ => ⟨ha, eT, hc, hs⟩)
  dsimp only [Pt.U, Pt.locs, Pt.cells, Pt.slots] at X' l1 y1 z1 step hQ
  subst l1 y1 z1
  exact own_via (fun _ q => step.trans q) (k v T' Lc X' hQ)
/-- a method of an interface -/
theorem own_callF (X : Stand p l e R s m args below meth c T locs cells slots) (hx : p.tables.exec = Jvm.exec) (hZ : Z.Warmed39 s.vm) {own C : String} {index count : Nat} {y z : MethodName} {bytes : ByteArray} {maxL : Nat} {rt : Option FieldType}
    (hown : s.vm.findClass own = some m.cls) (wl : (Jvm.Cond.methodLink own index y).before a0 Z = true) (wd : (Jvm.Cond.declares y).before a0 Z = true) (wf : (Jvm.Cond.interfaceMethod y.cls y.cls y.name y.desc).before args s = true) (ws : (Jvm.Cond.selects C y z).before a0 Z = true) (wst : (Jvm.Cond.instanceMethod z).before a0 Z = true) (wp : (Jvm.Cond.publicMethod z).before a0 Z = true) (wu : (Jvm.Cond.unhidden C y.name y.desc).before a0 Z = true) (wk : (Jvm.Cond.castable C y.cls).before a0 Z = true) (wi : (Jvm.Cond.initialized z.cls).before a0 Z = true) (wc : (Jvm.Cond.code z bytes maxL rt).before a0 Z = true)
    (hy : y.cls ≠ "java/lang/invoke/MethodHandle" ∧ y.cls ≠ "java/lang/invoke/VarHandle") {rm : Room} {as : Array Value} {Qc : Option Value → Heap → List Loc → Prop} (hM : Opays l z bytes maxL rt rm [] Z h as Qc) {b : Addr} {argsL rest : List Value} (ha : (.ref b :: argsL).toArray = as) (eT : T.heap = h) (F : Exa Z h b C) {W : Nat} (hf : rm.frames + 1 ≤ R.frames) (hl : W + (maxL + 11) + rm.locals ≤ R.locals) (hc : cells + rm.cells ≤ R.cells) (hs : slots + rm.slots ≤ R.slots)
    {pc : Nat} {Ls : Array Slot} {st : List Value} (hsize : Ls.size = c.maxLocals) (hlen : ∀ sig, parseMethodDescriptor y.desc = some sig → argsL.length = sig.parameters.length) (hst : st = argsL.reverse ++ .ref b :: rest) (hW : (rest.map fun v => v.category).sum ≤ W) (hd : decode c.code pc = .ok (.invokeinterface index count, 5))
    (k : ∀ v T' L, Stand p l e R s m args below meth c T' (locs ++ L) (cells + rm.cells) (slots + rm.slots) → Qc v T'.heap L → Ogo p e below P (T'.setTop (mkF m (pc + 5) Ls (v.toList ++ rest)))) : Ogo p e below P (T.setTop (mkF m pc Ls st)) := by
  obtain ⟨cq, kq, qa, qb, qc⟩ := isOf hZ eT F
  obtain ⟨v, _, ⟨T', L', k', n'⟩, -, X', ⟨Lc, hQ, l1, y1, z1⟩, step⟩ := X.interfaceBack hx (xi := y) (y := z) hown (mvT hZ wl) (mvT hZ wd) wf (mvT hZ ws) (mvT hZ wst) (mvT hZ wp) (mvT hZ wu) (mvT hZ wk) hy (backOf (W := W) hM hZ wc wi hf hl) qa qb qc (g := mkF m pc Ls st) rfl hsize (Steps.refl _) (argsL := argsL) (rest := rest) hlen hst (by show 2 * 0 + _ ≤ _; omega) hd (fun _ _ => ⟨ha, eT, hc, hs⟩)
  dsimp only [Pt.U, Pt.locs, Pt.cells, Pt.slots] at X' l1 y1 z1 step hQ
  subst l1 y1 z1
  exact own_via (fun _ q => step.trans q) (k v T' Lc X' hQ)
end Own
/-! ## An array by its values: n places, place j holds f j -/
/-- the array at a has n places of kind ty; place j holds f j -/
def Oar (Z : State) (h : Heap) (a : Addr) (ty : FieldType) (n : Nat) (f : Nat → Value) : Prop := n < 2 ^ 31 ∧ ∃ cl : Cell, Arr Z h a cl ty ∧ cl.slots.size = n ∧ ∀ j, j < n → cl.slots[j]? = some (f j)
section Own2
variable {p : Program} {l : Launch} {e : Env} {R : Room} {s : State} {m : MethodId} {args : Array Value} {below : List Frame} {meth : Method} {c : Code} {T : State} {locs : List Loc} {cells slots : Nat} {Z : State} {a0 : Array Value} {h h' : Heap} {P : Outcome → State → Prop} {a b : Addr} {ty : FieldType} {n i sl : Nat} {f : Nat → Value} {v : Value} {ws : List Addr} {j z : Int32}
theorem Oar.lt (A : Oar Z h a ty n f) : a < h.size := by obtain ⟨_, cl, A, _⟩ := A; exact A.lt
theorem Oar.ext (A : Oar Z h a ty n f) (E : Ext h h') : Oar Z h' a ty n f := by obtain ⟨q, cl, A, r⟩ := A; exact ⟨q, cl, A.ext E, r⟩
theorem Oar.other (A : Oar Z h b ty n f) (W : Wr h h' a sl v) (q : b ≠ a) : Oar Z h' b ty n f := by obtain ⟨z, cl, A, r⟩ := A; exact ⟨z, cl, A.other W q, r⟩
theorem Oar.keep (A : Oar Z h a ty n f) (K : Keep h h' ws) (q : a ∉ ws) : Oar Z h' a ty n f := by obtain ⟨z, cl, A, r⟩ := A; exact ⟨z, cl, ⟨K.2.1 a cl A.1 q, A.2⟩, r⟩
theorem Oar.cast {f' : Nat → Value} (A : Oar Z h a ty n f) (q : ∀ j, j < n → f j = f' j) : Oar Z h a ty n f' := by obtain ⟨z, cl, A, S, r⟩ := A; exact ⟨z, cl, A, S, fun j hj => by rw [← q j hj]; exact r j hj⟩
theorem Oar.new {k : ClassId} (A : Arr Z h a (newA k ty z) ty) (hz : ¬ z < 0) (hn : z.toNatClampNeg = n) : Oar Z h a ty n (fun _ => defaultValue ty) := by
  subst hn
  refine ⟨(back32 hz).2, _, A, sz_new _ _ _, fun j hj => ?_⟩
  simp [newA, hj]
theorem Oar.set (A : Oar Z h a ty n f) (W : Wr h h' a i v) : Oar Z h' a ty n (fun j => if j = i then v else f j) := by
  obtain ⟨q, cl, A, S, H⟩ := A
  obtain ⟨cell, e1, -, e3, -⟩ := id W
  cases A.1.symm.trans e1
  refine ⟨q, _, A.same W, by rw [sz_set]; exact S, fun j hj => ?_⟩
  by_cases u : i = j
  · subst u; simp [Cell.setSlot, e3]
  · have u' : ¬ j = i := fun x => u x.symm
    simp only [if_neg u', Cell.setSlot]; rw [Array.getElem?_setIfInBounds_ne u]; exact H j hj
theorem own_cl (hj : j.toInt = (i : Int)) : ¬ j < 0 ∧ j.toNatClampNeg = i := by
  refine ⟨fun q => ?_, ?_⟩
  · rw [Int32.lt_iff_toInt_lt] at q; have : (0 : Int32).toInt = 0 := rfl; omega
  · simp only [Int32.toNatClampNeg, hj]; rfl
theorem Oar.at (A : Oar Z h a ty n f) (hj : j.toInt = (i : Int)) (hi : i < n) : ∃ cl : Cell, Arr Z h a cl ty ∧ ¬ (j < 0 ∨ cl.slots.size ≤ j.toNatClampNeg) ∧ cl.slots[j.toNatClampNeg]? = some (f i) := by
  obtain ⟨q, cl, A, S, H⟩ := A
  obtain ⟨q1, q2⟩ := own_cl hj
  exact ⟨cl, A, fun q => q.elim q1 fun u => by rw [q2, S] at u; omega, by rw [q2]; exact H i hi⟩
/-- arraylength -/
theorem own_alen (X : Stand p l e R s m args below meth c T locs cells slots) (hx : p.tables.exec = Jvm.exec) (hZ : Z.Warmed39 s.vm) (eT : T.heap = h) (A : Oar Z h a ty n f) (hz : z.toInt = (n : Int)) {pc : Nat} {Ls : Array Slot} {rest : List Value} (hd : decode c.code pc = .ok (.arraylength, 1))
    (k : Ogo p e below P (T.setTop (mkF m (pc + 1) Ls (.int z :: rest)))) : Ogo p e below P (T.setTop (mkF m pc Ls (.ref a :: rest))) := by
  obtain ⟨q, cl, A, S, H⟩ := A
  have e1 : cl.slots.size.toInt32 = z := Int32.toInt_inj.mp (by rw [S, len_toInt q, hz])
  refine own_via (fun t k => X.arraylength hx (by rw [eT]; exact A.1) (State.isArrayOf_alike hZ.alike A.2.1) (g := mkF m pc Ls (.ref a :: rest)) rfl rfl hd _ k) ?_
  rw [e1]; exact k
theorem own_iald (X : Stand p l e R s m args below meth c T locs cells slots) (hx : p.tables.exec = Jvm.exec) (hZ : Z.Warmed39 s.vm) (eT : T.heap = h) (A : Oar Z h a .int n f) (hj : j.toInt = (i : Int)) (hi : i < n) (hv : f i = v) {pc : Nat} {Ls : Array Slot} {rest : List Value} (hd : decode c.code pc = .ok (.iaload, 1))
    (k : Ogo p e below P (T.setTop (mkF m (pc + 1) Ls (v :: rest)))) : Ogo p e below P (T.setTop (mkF m pc Ls (.int j :: .ref a :: rest))) := by
  obtain ⟨cl, A, h1, h2⟩ := A.at hj hi
  rw [hv] at h2
  exact own_via (fun t k => X.iaload hx (j := j) (v := v) (by rw [eT]; exact A.1) (State.isArrayOf_alike hZ.alike A.2.1) A.2.2 h1 h2 (g := mkF m pc Ls (.int j :: .ref a :: rest)) rfl rfl hd _ k) k
theorem own_bald (X : Stand p l e R s m args below meth c T locs cells slots) (hx : p.tables.exec = Jvm.exec) (hZ : Z.Warmed39 s.vm) (eT : T.heap = h) (A : Oar Z h a .byte n f) (hj : j.toInt = (i : Int)) (hi : i < n) (hv : f i = v) {pc : Nat} {Ls : Array Slot} {rest : List Value} (hd : decode c.code pc = .ok (.baload, 1))
    (k : Ogo p e below P (T.setTop (mkF m (pc + 1) Ls (v :: rest)))) : Ogo p e below P (T.setTop (mkF m pc Ls (.int j :: .ref a :: rest))) := by
  obtain ⟨cl, A, h1, h2⟩ := A.at hj hi
  rw [hv] at h2
  exact own_via (fun t k => X.baloadBytes hx (j := j) (v := v) (by rw [eT]; exact A.1) (State.isArrayOf_alike hZ.alike A.2.1) A.2.2 h1 h2 (g := mkF m pc Ls (.int j :: .ref a :: rest)) rfl rfl hd _ k) k
theorem own_zald (X : Stand p l e R s m args below meth c T locs cells slots) (hx : p.tables.exec = Jvm.exec) (hZ : Z.Warmed39 s.vm) (eT : T.heap = h) (A : Oar Z h a .boolean n f) (hj : j.toInt = (i : Int)) (hi : i < n) (hv : f i = v) {pc : Nat} {Ls : Array Slot} {rest : List Value} (hd : decode c.code pc = .ok (.baload, 1))
    (k : Ogo p e below P (T.setTop (mkF m (pc + 1) Ls (v :: rest)))) : Ogo p e below P (T.setTop (mkF m pc Ls (.int j :: .ref a :: rest))) := by
  obtain ⟨cl, A, h1, h2⟩ := A.at hj hi
  rw [hv] at h2
  exact own_via (fun t k => X.baloadBooleans hx (j := j) (v := v) (by rw [eT]; exact A.1) (State.isArrayOf_alike hZ.alike A.2.1) A.2.2 h1 h2 (g := mkF m pc Ls (.int j :: .ref a :: rest)) rfl rfl hd _ k) k
theorem own_dald (X : Stand p l e R s m args below meth c T locs cells slots) (hx : p.tables.exec = Jvm.exec) (hZ : Z.Warmed39 s.vm) (eT : T.heap = h) (A : Oar Z h a .double n f) (hj : j.toInt = (i : Int)) (hi : i < n) (hv : f i = v) {pc : Nat} {Ls : Array Slot} {rest : List Value} (hd : decode c.code pc = .ok (.daload, 1))
    (k : Ogo p e below P (T.setTop (mkF m (pc + 1) Ls (v :: rest)))) : Ogo p e below P (T.setTop (mkF m pc Ls (.int j :: .ref a :: rest))) := by
  obtain ⟨cl, A, h1, h2⟩ := A.at hj hi
  rw [hv] at h2
  exact own_via (fun t k => X.daload hx (j := j) (v := v) (by rw [eT]; exact A.1) (State.isArrayOf_alike hZ.alike A.2.1) A.2.2 h1 h2 (g := mkF m pc Ls (.int j :: .ref a :: rest)) rfl rfl hd _ k) k
theorem own_aald (X : Stand p l e R s m args below meth c T locs cells slots) (hx : p.tables.exec = Jvm.exec) (hZ : Z.Warmed39 s.vm) (eT : T.heap = h) (A : Oar Z h a ty n f) (ht : ty.isReference = true) (hj : j.toInt = (i : Int)) (hi : i < n) (hv : f i = v) {pc : Nat} {Ls : Array Slot} {rest : List Value} (hd : decode c.code pc = .ok (.aaload, 1))
    (k : Ogo p e below P (T.setTop (mkF m (pc + 1) Ls (v :: rest)))) : Ogo p e below P (T.setTop (mkF m pc Ls (.int j :: .ref a :: rest))) := by
  obtain ⟨cl, A, h1, h2⟩ := A.at hj hi
  rw [hv] at h2
  exact own_via (fun t k => X.aaload hx (j := j) (v := v) (by rw [eT]; exact A.1) (State.isArrayOf_alike hZ.alike A.2.1) ht A.2.2 h1 h2 (g := mkF m pc Ls (.int j :: .ref a :: rest)) rfl rfl hd _ k) k
theorem own_iast (X : Stand p l e R s m args below meth c T locs cells slots) (hx : p.tables.exec = Jvm.exec) (hZ : Z.Warmed39 s.vm) (eT : T.heap = h) (A : Oar Z h a .int n f) {x : Int32} (hj : j.toInt = (i : Int)) (hi : i < n) {pc : Nat} {Ls : Array Slot} {rest : List Value} (hd : decode c.code pc = .ok (.iastore, 1)) :
    ∃ T' h', Stand p l e R s m args below meth c T' (locs ++ [⟨a, i⟩]) cells slots ∧ T'.heap = h' ∧ Wr h h' a i (.int x) ∧ Oar Z h' a .int n (fun q => if q = i then .int x else f q) ∧ ∀ t, Steps p.tables e below (T'.setTop (mkF m (pc + 1) Ls rest)) t → Steps p.tables e below (T.setTop (mkF m pc Ls (.int x :: .int j :: .ref a :: rest))) t := by
  obtain ⟨cl, A', h1, h2⟩ := A.at hj hi
  obtain ⟨T', h', X', e', W, st⟩ := stI X hx hZ eT A' (j := j) (x := x) h1 (g := mkF m pc Ls (.int x :: .int j :: .ref a :: rest)) rfl rfl hd
  rw [(own_cl hj).2] at X' W
  exact ⟨T', h', X', e', W, A.set W, st⟩
theorem own_bast (X : Stand p l e R s m args below meth c T locs cells slots) (hx : p.tables.exec = Jvm.exec) (hZ : Z.Warmed39 s.vm) (eT : T.heap = h) (A : Oar Z h a .byte n f) {x : Int32} (hj : j.toInt = (i : Int)) (hi : i < n) {pc : Nat} {Ls : Array Slot} {rest : List Value} (hd : decode c.code pc = .ok (.bastore, 1)) :
    ∃ T' h', Stand p l e R s m args below meth c T' (locs ++ [⟨a, i⟩]) cells slots ∧ T'.heap = h' ∧ Wr h h' a i (.int (nar .byte x)) ∧ Oar Z h' a .byte n (fun q => if q = i then .int (nar .byte x) else f q) ∧ ∀ t, Steps p.tables e below (T'.setTop (mkF m (pc + 1) Ls rest)) t → Steps p.tables e below (T.setTop (mkF m pc Ls (.int x :: .int j :: .ref a :: rest))) t := by
  obtain ⟨cl, A', h1, h2⟩ := A.at hj hi
  obtain ⟨T', h', X', e', W, st⟩ := stB X hx hZ eT A' (j := j) (x := x) h1 (g := mkF m pc Ls (.int x :: .int j :: .ref a :: rest)) rfl rfl hd
  rw [(own_cl hj).2] at X' W
  exact ⟨T', h', X', e', W, A.set W, st⟩
theorem own_zast (X : Stand p l e R s m args below meth c T locs cells slots) (hx : p.tables.exec = Jvm.exec) (hZ : Z.Warmed39 s.vm) (eT : T.heap = h) (A : Oar Z h a .boolean n f) {x : Int32} (hj : j.toInt = (i : Int)) (hi : i < n) {pc : Nat} {Ls : Array Slot} {rest : List Value} (hd : decode c.code pc = .ok (.bastore, 1)) :
    ∃ T' h', Stand p l e R s m args below meth c T' (locs ++ [⟨a, i⟩]) cells slots ∧ T'.heap = h' ∧ Wr h h' a i (.int (nar .boolean x)) ∧ Oar Z h' a .boolean n (fun q => if q = i then .int (nar .boolean x) else f q) ∧ ∀ t, Steps p.tables e below (T'.setTop (mkF m (pc + 1) Ls rest)) t → Steps p.tables e below (T.setTop (mkF m pc Ls (.int x :: .int j :: .ref a :: rest))) t := by
  obtain ⟨cl, A', h1, h2⟩ := A.at hj hi
  obtain ⟨T', h', X', e', W, st⟩ := stZ X hx hZ eT A' (j := j) (x := x) h1 (g := mkF m pc Ls (.int x :: .int j :: .ref a :: rest)) rfl rfl hd
  rw [(own_cl hj).2] at X' W
  exact ⟨T', h', X', e', W, A.set W, st⟩
theorem own_dast (X : Stand p l e R s m args below meth c T locs cells slots) (hx : p.tables.exec = Jvm.exec) (hZ : Z.Warmed39 s.vm) (eT : T.heap = h) (A : Oar Z h a .double n f) {x : UInt64} (hj : j.toInt = (i : Int)) (hi : i < n) {pc : Nat} {Ls : Array Slot} {rest : List Value} (hd : decode c.code pc = .ok (.dastore, 1)) :
    ∃ T' h', Stand p l e R s m args below meth c T' (locs ++ [⟨a, i⟩]) cells slots ∧ T'.heap = h' ∧ Wr h h' a i (.double x) ∧ Oar Z h' a .double n (fun q => if q = i then .double x else f q) ∧ ∀ t, Steps p.tables e below (T'.setTop (mkF m (pc + 1) Ls rest)) t → Steps p.tables e below (T.setTop (mkF m pc Ls (.double x :: .int j :: .ref a :: rest))) t := by
  obtain ⟨cl, A', h1, h2⟩ := A.at hj hi
  obtain ⟨T', h', X', e', W, st⟩ := stD X hx hZ eT A' (j := j) (x := x) h1 (g := mkF m pc Ls (.double x :: .int j :: .ref a :: rest)) rfl rfl hd
  rw [(own_cl hj).2] at X' W
  exact ⟨T', h', X', e', W, A.set W, st⟩
theorem own_aast (X : Stand p l e R s m args below meth c T locs cells slots) (hx : p.tables.exec = Jvm.exec) (hZ : Z.Warmed39 s.vm) (eT : T.heap = h) (A : Oar Z h a ty n f) (ht : ty.isReference = true) (F : Sto Z h a v) (hj : j.toInt = (i : Int)) (hi : i < n) {pc : Nat} {Ls : Array Slot} {rest : List Value} (hd : decode c.code pc = .ok (.aastore, 1)) :
    ∃ T' h', Stand p l e R s m args below meth c T' (locs ++ [⟨a, i⟩]) cells slots ∧ T'.heap = h' ∧ Wr h h' a i v ∧ Oar Z h' a ty n (fun q => if q = i then v else f q) ∧ ∀ t, Steps p.tables e below (T'.setTop (mkF m (pc + 1) Ls rest)) t → Steps p.tables e below (T.setTop (mkF m pc Ls (v :: .int j :: .ref a :: rest))) t := by
  obtain ⟨cl, A', h1, h2⟩ := A.at hj hi
  obtain ⟨T', h', X', e', W, st⟩ := stR X hx hZ eT A' (j := j) h1 ht F (g := mkF m pc Ls (v :: .int j :: .ref a :: rest)) rfl rfl hd
  rw [(own_cl hj).2] at X' W
  exact ⟨T', h', X', e', W, A.set W, st⟩
theorem own_pref {F : Nat → Value} {d : Value} {i j : Nat} : (if j = i then F i else if j < i then F j else d) = if j < i + 1 then F j else d := by
  by_cases u : j = i
  · subst u; simp
  · rw [if_neg u]
    by_cases w : j < i
    · rw [if_pos w, if_pos (by omega)]
    · rw [if_neg w, if_neg (by omega)]
/-! numbers: comparisons by their values -/
theorem o_lt {x y : Int64} (q : x.toInt < y.toInt) : lcmpW x y < (0 : Int32) := (lw_lt _ _).mpr (Int64.lt_iff_toInt_lt.mpr q)
theorem o_nlt {x y : Int64} (q : y.toInt ≤ x.toInt) : ¬ (lcmpW x y < (0 : Int32)) := fun u => by have := Int64.lt_iff_toInt_lt.mp ((lw_lt _ _).mp u); omega
theorem o_gt {x y : Int64} (q : y.toInt < x.toInt) : (0 : Int32) < lcmpW x y := (lw_gt _ _).mpr (Int64.lt_iff_toInt_lt.mpr q)
theorem o_ngt {x y : Int64} (q : x.toInt ≤ y.toInt) : ¬ ((0 : Int32) < lcmpW x y) := fun u => by have := Int64.lt_iff_toInt_lt.mp ((lw_gt _ _).mp u); omega
theorem o_eq {x y : Int64} (q : x.toInt = y.toInt) : lcmpW x y = (0 : Int32) := (lw_eq _ _).mpr (Int64.toInt_inj.mp q)
theorem o_ne {x y : Int64} (q : x.toInt ≠ y.toInt) : ¬ (lcmpW x y = (0 : Int32)) := fun u => q (congrArg Int64.toInt ((lw_eq _ _).mp u))
theorem i_lt {x y : Int32} (q : x.toInt < y.toInt) : x < y := Int32.lt_iff_toInt_lt.mpr q
theorem i_nlt {x y : Int32} (q : y.toInt ≤ x.toInt) : ¬ (x < y) := fun u => by have := Int32.lt_iff_toInt_lt.mp u; omega
theorem i_eq {x y : Int32} (q : x.toInt = y.toInt) : x = y := Int32.toInt_inj.mp q
theorem i_ne {x y : Int32} (q : x.toInt ≠ y.toInt) : ¬ (x = y) := fun u => q (congrArg Int32.toInt u)
theorem i_lt' {x y : Int32} (q : x < y) : x.toInt < y.toInt := Int32.lt_iff_toInt_lt.mp q
theorem i_nlt' {x y : Int32} (q : ¬ (x < y)) : y.toInt ≤ x.toInt := by rw [Int32.lt_iff_toInt_lt] at q; omega
end Own2
theorem pd_0 : parseMethodDescriptor "(J[B)V" = some ⟨[.long, (.array .byte)], none⟩ := by decide +kernel
theorem pd_1 : parseMethodDescriptor "()[B" = some ⟨[], some (.array .byte)⟩ := by decide +kernel
theorem pd_2 : parseMethodDescriptor "([BIBBB)Z" = some ⟨[(.array .byte), .int, .byte, .byte, .byte], some .boolean⟩ := by decide +kernel
theorem pn_0 : plainName "com/example/keep_posted/keepposted/client/ValueBytesPinLaw" = true := by first | (simp [plainName, overriddenIn]; done) | decide +kernel
theorem pn_1 : plainName "com/example/keep_posted/keepposted/client/Value" = true := by first | (simp [plainName, overriddenIn]; done) | decide +kernel

theorem own_nb (x : Int32) : nar .byte (x.toInt8.toInt32) = x.toInt8.toInt32 := by simp [nar]
theorem own_four {x : Int32} : (x &&& 3) = 0 ∨ (x &&& 3) = 1 ∨ (x &&& 3) = 2 ∨ (x &&& 3) = 3 := by
  have h := c_and x 3 (by decide)
  have e3 : (3 : Int32).toInt = 3 := rfl
  have e : (x &&& 3).toInt = 0 ∨ (x &&& 3).toInt = 1 ∨ (x &&& 3).toInt = 2 ∨ (x &&& 3).toInt = 3 := by omega
  rcases e with e | e | e | e
  · exact Or.inl (Int32.toInt_inj.mp e)
  · exact Or.inr (Or.inl (Int32.toInt_inj.mp e))
  · exact Or.inr (Or.inr (Or.inl (Int32.toInt_inj.mp e)))
  · exact Or.inr (Or.inr (Or.inr (Int32.toInt_inj.mp e)))
def own_f (y0 y1 y2 : Int32) : Nat → Value := fun j => if j = 0 then .int y0 else if j = 1 then .int y1 else .int y2
theorem own_fit {b0 b1 b2 : Int32} : ∀ j, fits .byte (own_f b0.toInt8.toInt32 b1.toInt8.toInt32 b2.toInt8.toInt32 j) = true := fun j => by
  unfold own_f; split
  · exact fits_nar_byte _
  · split
    · exact fits_nar_byte _
    · exact fits_nar_byte _
theorem d4_0 : decode method_2_code 0 = .ok (.aload_n 0, 1) := by decide +kernel
theorem d4_1 : decode method_2_code 1 = .ok (.ifnonnull 5, 3) := by decide +kernel
theorem d4_6 : decode method_2_code 6 = .ok (.aload_n 0, 1) := by decide +kernel
theorem d4_7 : decode method_2_code 7 = .ok (.arraylength, 1) := by decide +kernel
theorem d4_8 : decode method_2_code 8 = .ok (.iload_n 1, 1) := by decide +kernel
theorem d4_9 : decode method_2_code 9 = .ok (.if_icmp .eq 5, 3) := by decide +kernel
theorem d4_14 : decode method_2_code 14 = .ok (.iload_n 1, 1) := by decide +kernel
theorem d4_15 : decode method_2_code 15 = .ok (.iconst 1, 1) := by decide +kernel
theorem d4_16 : decode method_2_code 16 = .ok (.if_icmp .lt 12, 3) := by decide +kernel
theorem d4_19 : decode method_2_code 19 = .ok (.aload_n 0, 1) := by decide +kernel
theorem d4_20 : decode method_2_code 20 = .ok (.iconst 0, 1) := by decide +kernel
theorem d4_21 : decode method_2_code 21 = .ok (.baload, 1) := by decide +kernel
theorem d4_22 : decode method_2_code 22 = .ok (.iload_n 2, 1) := by decide +kernel
theorem d4_23 : decode method_2_code 23 = .ok (.if_icmp .eq 5, 3) := by decide +kernel
theorem d4_28 : decode method_2_code 28 = .ok (.iload_n 1, 1) := by decide +kernel
theorem d4_29 : decode method_2_code 29 = .ok (.iconst 2, 1) := by decide +kernel
theorem d4_30 : decode method_2_code 30 = .ok (.if_icmp .lt 12, 3) := by decide +kernel
theorem d4_33 : decode method_2_code 33 = .ok (.aload_n 0, 1) := by decide +kernel
theorem d4_34 : decode method_2_code 34 = .ok (.iconst 1, 1) := by decide +kernel
theorem d4_35 : decode method_2_code 35 = .ok (.baload, 1) := by decide +kernel
theorem d4_36 : decode method_2_code 36 = .ok (.iload_n 3, 1) := by decide +kernel
theorem d4_37 : decode method_2_code 37 = .ok (.if_icmp .eq 5, 3) := by decide +kernel
theorem d4_42 : decode method_2_code 42 = .ok (.iload_n 1, 1) := by decide +kernel
theorem d4_43 : decode method_2_code 43 = .ok (.iconst 3, 1) := by decide +kernel
theorem d4_44 : decode method_2_code 44 = .ok (.if_icmp .lt 13, 3) := by decide +kernel
theorem d4_47 : decode method_2_code 47 = .ok (.aload_n 0, 1) := by decide +kernel
theorem d4_48 : decode method_2_code 48 = .ok (.iconst 2, 1) := by decide +kernel
theorem d4_49 : decode method_2_code 49 = .ok (.baload, 1) := by decide +kernel
theorem d4_50 : decode method_2_code 50 = .ok (.iload 4, 2) := by decide +kernel
theorem d4_52 : decode method_2_code 52 = .ok (.if_icmp .eq 5, 3) := by decide +kernel
theorem d4_57 : decode method_2_code 57 = .ok (.iconst 1, 1) := by decide +kernel
theorem d4_58 : decode method_2_code 58 = .ok (.ireturn, 1) := by decide +kernel
set_option maxRecDepth 65536 in
set_option maxHeartbeats 40000000 in
theorem rm_sm {l : Launch} {Z : State} {a0 : Array Value} (hw : ∀ d ∈ tables_1, d.before a0 Z = true) (r : Addr) (zn y0 y1 y2 : Int32) (n : Nat) (f : Nat → Value) (h0 : Heap) (n0 : Nat) (A_r : Oar Z h0 r .byte n f) (hn : zn.toInt = (n : Int)) (h0v : 1 ≤ n → f 0 = .int y0) (h1v : 2 ≤ n → f 1 = .int y1) (h2v : 3 ≤ n → f 2 = .int y2) :
    Opays l (⟨"com/example/keep_posted/keepposted/client/ValueBytesPinLaw", "same", "([BIBBB)Z"⟩ : MethodName) method_2_code 5 (some .boolean) ({ frames := 0, cells := 0, slots := 0, locals := 0 } : Room) [] Z h0 #[(.ref r), (.int zn), (.int y0), (.int y1), (.int y2)] (fun v h L => v = some (.int 1) ∧ Fr n0 L ∧ h = h0) := by
  refine own_enter (plainFor_of_name pn_0) ?_
  intro p e s m below meth c s₁ hx hby hml0 hown hnm hret hlk hZ e0 X0
  have hml : c.maxLocals = 5 := hml0
  replace hown : s.vm.findClass "com/example/keep_posted/keepposted/client/ValueBytesPinLaw" = some m.cls := hown
  have N := Fr.nil n0
  have hef : entryFrame m #[(.ref r), (.int zn), (.int y0), (.int y1), (.int y2)] 5 = mkF m 0 #[.val (.ref r), .val (.int zn), .val (.int y0), .val (.int y1), .val (.int y2)] [] := by first | (simp [entryFrame, mkF, argsToLocals, Value.category]; done) | rfl
  rw [hef]
  show Ogo p e below _ (s₁.setTop (mkF m 0 #[.val (.ref r), .val (.int zn), .val (.int y0), .val (.int y1), .val (.int y2)] []))
  have l1 : (1 : Int32).toInt = 1 := rfl
  have l2 : (2 : Int32).toInt = 2 := rfl
  have l3 : (3 : Int32).toInt = 3 := rfl
  refine own_via (fun tq kq => XS.aloadN X0.here hx rfl (hb hby d4_0) rfl rfl kq) ?_
  show Ogo p e below _ (s₁.setTop (mkF m 1 #[.val (.ref r), .val (.int zn), .val (.int y0), .val (.int y1), .val (.int y2)] [(.ref r)]))
  refine own_via (fun tq kq => XS.ifnonnullYes X0.here hx rfl (pc0 := 1) (pc' := 6) rfl (hb hby d4_1) rfl (by decide) (by decide) kq) ?_
  show Ogo p e below _ (s₁.setTop (mkF m 6 #[.val (.ref r), .val (.int zn), .val (.int y0), .val (.int y1), .val (.int y2)] []))
  refine own_via (fun tq kq => XS.aloadN X0.here hx rfl (hb hby d4_6) rfl rfl kq) ?_
  show Ogo p e below _ (s₁.setTop (mkF m 7 #[.val (.ref r), .val (.int zn), .val (.int y0), .val (.int y1), .val (.int y2)] [(.ref r)]))
  refine own_alen X0 hx hZ e0 A_r (z := zn) hn (hb hby d4_7) ?_
  show Ogo p e below _ (s₁.setTop (mkF m 8 #[.val (.ref r), .val (.int zn), .val (.int y0), .val (.int y1), .val (.int y2)] [(.int zn)]))
  refine own_via (fun tq kq => XS.iloadN X0.here hx rfl (hb hby d4_8) rfl kq) ?_
  show Ogo p e below _ (s₁.setTop (mkF m 9 #[.val (.ref r), .val (.int zn), .val (.int y0), .val (.int y1), .val (.int y2)] [(.int zn), (.int zn)]))
  refine own_via (fun tq kq => XS.icmpYes X0.here hx rfl (pc0 := 9) (pc' := 14) rfl (hb hby d4_9) rfl (teq (rfl : zn = zn)).1 (by decide) (by decide) kq) ?_
  show Ogo p e below _ (s₁.setTop (mkF m 14 #[.val (.ref r), .val (.int zn), .val (.int y0), .val (.int y1), .val (.int y2)] []))
  refine own_via (fun tq kq => XS.iloadN X0.here hx rfl (hb hby d4_14) rfl kq) ?_
  show Ogo p e below _ (s₁.setTop (mkF m 15 #[.val (.ref r), .val (.int zn), .val (.int y0), .val (.int y1), .val (.int y2)] [(.int zn)]))
  refine own_via (fun tq kq => XS.iconst X0.here hx rfl (hb hby d4_15) kq) ?_
  show Ogo p e below _ (s₁.setTop (mkF m 16 #[.val (.ref r), .val (.int zn), .val (.int y0), .val (.int y1), .val (.int y2)] [(.int (1 : Int32)), (.int zn)]))
  by_cases hc16 : zn < (1 : Int32)
  · refine own_via (fun tq kq => XS.icmpYes X0.here hx rfl (pc0 := 16) (pc' := 28) rfl (hb hby d4_16) rfl (tlt (hc16 : zn < (1 : Int32))).1 (by decide) (by decide) kq) ?_
    show Ogo p e below _ (s₁.setTop (mkF m 28 #[.val (.ref r), .val (.int zn), .val (.int y0), .val (.int y1), .val (.int y2)] []))
    refine own_via (fun tq kq => XS.iloadN X0.here hx rfl (hb hby d4_28) rfl kq) ?_
    show Ogo p e below _ (s₁.setTop (mkF m 29 #[.val (.ref r), .val (.int zn), .val (.int y0), .val (.int y1), .val (.int y2)] [(.int zn)]))
    refine own_via (fun tq kq => XS.iconst X0.here hx rfl (hb hby d4_29) kq) ?_
    show Ogo p e below _ (s₁.setTop (mkF m 30 #[.val (.ref r), .val (.int zn), .val (.int y0), .val (.int y1), .val (.int y2)] [(.int (2 : Int32)), (.int zn)]))
    refine own_via (fun tq kq => XS.icmpYes X0.here hx rfl (pc0 := 30) (pc' := 42) rfl (hb hby d4_30) rfl (tlt (i_lt (by have := i_lt' hc16; omega) : zn < (2 : Int32))).1 (by decide) (by decide) kq) ?_
    show Ogo p e below _ (s₁.setTop (mkF m 42 #[.val (.ref r), .val (.int zn), .val (.int y0), .val (.int y1), .val (.int y2)] []))
    refine own_via (fun tq kq => XS.iloadN X0.here hx rfl (hb hby d4_42) rfl kq) ?_
    show Ogo p e below _ (s₁.setTop (mkF m 43 #[.val (.ref r), .val (.int zn), .val (.int y0), .val (.int y1), .val (.int y2)] [(.int zn)]))
    refine own_via (fun tq kq => XS.iconst X0.here hx rfl (hb hby d4_43) kq) ?_
    show Ogo p e below _ (s₁.setTop (mkF m 44 #[.val (.ref r), .val (.int zn), .val (.int y0), .val (.int y1), .val (.int y2)] [(.int (3 : Int32)), (.int zn)]))
    refine own_via (fun tq kq => XS.icmpYes X0.here hx rfl (pc0 := 44) (pc' := 57) rfl (hb hby d4_44) rfl (tlt (i_lt (by have := i_lt' hc16; omega) : zn < (3 : Int32))).1 (by decide) (by decide) kq) ?_
    show Ogo p e below _ (s₁.setTop (mkF m 57 #[.val (.ref r), .val (.int zn), .val (.int y0), .val (.int y1), .val (.int y2)] []))
    refine own_via (fun tq kq => XS.iconst X0.here hx rfl (hb hby d4_57) kq) ?_
    show Ogo p e below _ (s₁.setTop (mkF m 58 #[.val (.ref r), .val (.int zn), .val (.int y0), .val (.int y1), .val (.int y2)] [(.int (1 : Int32))]))
    exact own_out X0 hlk (fun h => by rw [hret] at h; cases h) (by decide) (by decide) (by first | exact ⟨rfl, N, rfl⟩ | (rw [e0]; exact ⟨rfl, N, rfl⟩)) (fun fs hr => retN X0 hx (t := .boolean) hret (by simp) (hb hby d4_58) hr)
  · refine own_via (fun tq kq => XS.icmpNo X0.here hx rfl (hb hby d4_16) rfl (flt (hc16 : ¬ (zn < (1 : Int32)))).1 kq) ?_
    show Ogo p e below _ (s₁.setTop (mkF m 19 #[.val (.ref r), .val (.int zn), .val (.int y0), .val (.int y1), .val (.int y2)] []))
    refine own_via (fun tq kq => XS.aloadN X0.here hx rfl (hb hby d4_19) rfl rfl kq) ?_
    show Ogo p e below _ (s₁.setTop (mkF m 20 #[.val (.ref r), .val (.int zn), .val (.int y0), .val (.int y1), .val (.int y2)] [(.ref r)]))
    refine own_via (fun tq kq => XS.iconst X0.here hx rfl (hb hby d4_20) kq) ?_
    show Ogo p e below _ (s₁.setTop (mkF m 21 #[.val (.ref r), .val (.int zn), .val (.int y0), .val (.int y1), .val (.int y2)] [(.int (0 : Int32)), (.ref r)]))
    refine own_bald X0 hx hZ e0 A_r (j := (0 : Int32)) (i := 0) (v := (.int y0)) rfl (by have := i_nlt' hc16; omega) (h0v (by have := i_nlt' hc16; omega)) (hb hby d4_21) ?_
    show Ogo p e below _ (s₁.setTop (mkF m 22 #[.val (.ref r), .val (.int zn), .val (.int y0), .val (.int y1), .val (.int y2)] [(.int y0)]))
    refine own_via (fun tq kq => XS.iloadN X0.here hx rfl (hb hby d4_22) rfl kq) ?_
    show Ogo p e below _ (s₁.setTop (mkF m 23 #[.val (.ref r), .val (.int zn), .val (.int y0), .val (.int y1), .val (.int y2)] [(.int y0), (.int y0)]))
    refine own_via (fun tq kq => XS.icmpYes X0.here hx rfl (pc0 := 23) (pc' := 28) rfl (hb hby d4_23) rfl (teq (rfl : y0 = y0)).1 (by decide) (by decide) kq) ?_
    show Ogo p e below _ (s₁.setTop (mkF m 28 #[.val (.ref r), .val (.int zn), .val (.int y0), .val (.int y1), .val (.int y2)] []))
    refine own_via (fun tq kq => XS.iloadN X0.here hx rfl (hb hby d4_28) rfl kq) ?_
    show Ogo p e below _ (s₁.setTop (mkF m 29 #[.val (.ref r), .val (.int zn), .val (.int y0), .val (.int y1), .val (.int y2)] [(.int zn)]))
    refine own_via (fun tq kq => XS.iconst X0.here hx rfl (hb hby d4_29) kq) ?_
    show Ogo p e below _ (s₁.setTop (mkF m 30 #[.val (.ref r), .val (.int zn), .val (.int y0), .val (.int y1), .val (.int y2)] [(.int (2 : Int32)), (.int zn)]))
    by_cases hc30 : zn < (2 : Int32)
    · refine own_via (fun tq kq => XS.icmpYes X0.here hx rfl (pc0 := 30) (pc' := 42) rfl (hb hby d4_30) rfl (tlt (hc30 : zn < (2 : Int32))).1 (by decide) (by decide) kq) ?_
      show Ogo p e below _ (s₁.setTop (mkF m 42 #[.val (.ref r), .val (.int zn), .val (.int y0), .val (.int y1), .val (.int y2)] []))
      refine own_via (fun tq kq => XS.iloadN X0.here hx rfl (hb hby d4_42) rfl kq) ?_
      show Ogo p e below _ (s₁.setTop (mkF m 43 #[.val (.ref r), .val (.int zn), .val (.int y0), .val (.int y1), .val (.int y2)] [(.int zn)]))
      refine own_via (fun tq kq => XS.iconst X0.here hx rfl (hb hby d4_43) kq) ?_
      show Ogo p e below _ (s₁.setTop (mkF m 44 #[.val (.ref r), .val (.int zn), .val (.int y0), .val (.int y1), .val (.int y2)] [(.int (3 : Int32)), (.int zn)]))
      refine own_via (fun tq kq => XS.icmpYes X0.here hx rfl (pc0 := 44) (pc' := 57) rfl (hb hby d4_44) rfl (tlt (i_lt (by have := i_lt' hc30; omega) : zn < (3 : Int32))).1 (by decide) (by decide) kq) ?_
      show Ogo p e below _ (s₁.setTop (mkF m 57 #[.val (.ref r), .val (.int zn), .val (.int y0), .val (.int y1), .val (.int y2)] []))
      refine own_via (fun tq kq => XS.iconst X0.here hx rfl (hb hby d4_57) kq) ?_
      show Ogo p e below _ (s₁.setTop (mkF m 58 #[.val (.ref r), .val (.int zn), .val (.int y0), .val (.int y1), .val (.int y2)] [(.int (1 : Int32))]))
      exact own_out X0 hlk (fun h => by rw [hret] at h; cases h) (by decide) (by decide) (by first | exact ⟨rfl, N, rfl⟩ | (rw [e0]; exact ⟨rfl, N, rfl⟩)) (fun fs hr => retN X0 hx (t := .boolean) hret (by simp) (hb hby d4_58) hr)
    · refine own_via (fun tq kq => XS.icmpNo X0.here hx rfl (hb hby d4_30) rfl (flt (hc30 : ¬ (zn < (2 : Int32)))).1 kq) ?_
      show Ogo p e below _ (s₁.setTop (mkF m 33 #[.val (.ref r), .val (.int zn), .val (.int y0), .val (.int y1), .val (.int y2)] []))
      refine own_via (fun tq kq => XS.aloadN X0.here hx rfl (hb hby d4_33) rfl rfl kq) ?_
      show Ogo p e below _ (s₁.setTop (mkF m 34 #[.val (.ref r), .val (.int zn), .val (.int y0), .val (.int y1), .val (.int y2)] [(.ref r)]))
      refine own_via (fun tq kq => XS.iconst X0.here hx rfl (hb hby d4_34) kq) ?_
      show Ogo p e below _ (s₁.setTop (mkF m 35 #[.val (.ref r), .val (.int zn), .val (.int y0), .val (.int y1), .val (.int y2)] [(.int (1 : Int32)), (.ref r)]))
      refine own_bald X0 hx hZ e0 A_r (j := (1 : Int32)) (i := 1) (v := (.int y1)) rfl (by have := i_nlt' hc30; omega) (h1v (by have := i_nlt' hc30; omega)) (hb hby d4_35) ?_
      show Ogo p e below _ (s₁.setTop (mkF m 36 #[.val (.ref r), .val (.int zn), .val (.int y0), .val (.int y1), .val (.int y2)] [(.int y1)]))
      refine own_via (fun tq kq => XS.iloadN X0.here hx rfl (hb hby d4_36) rfl kq) ?_
      show Ogo p e below _ (s₁.setTop (mkF m 37 #[.val (.ref r), .val (.int zn), .val (.int y0), .val (.int y1), .val (.int y2)] [(.int y1), (.int y1)]))
      refine own_via (fun tq kq => XS.icmpYes X0.here hx rfl (pc0 := 37) (pc' := 42) rfl (hb hby d4_37) rfl (teq (rfl : y1 = y1)).1 (by decide) (by decide) kq) ?_
      show Ogo p e below _ (s₁.setTop (mkF m 42 #[.val (.ref r), .val (.int zn), .val (.int y0), .val (.int y1), .val (.int y2)] []))
      refine own_via (fun tq kq => XS.iloadN X0.here hx rfl (hb hby d4_42) rfl kq) ?_
      show Ogo p e below _ (s₁.setTop (mkF m 43 #[.val (.ref r), .val (.int zn), .val (.int y0), .val (.int y1), .val (.int y2)] [(.int zn)]))
      refine own_via (fun tq kq => XS.iconst X0.here hx rfl (hb hby d4_43) kq) ?_
      show Ogo p e below _ (s₁.setTop (mkF m 44 #[.val (.ref r), .val (.int zn), .val (.int y0), .val (.int y1), .val (.int y2)] [(.int (3 : Int32)), (.int zn)]))
      by_cases hc44 : zn < (3 : Int32)
      · refine own_via (fun tq kq => XS.icmpYes X0.here hx rfl (pc0 := 44) (pc' := 57) rfl (hb hby d4_44) rfl (tlt (hc44 : zn < (3 : Int32))).1 (by decide) (by decide) kq) ?_
        show Ogo p e below _ (s₁.setTop (mkF m 57 #[.val (.ref r), .val (.int zn), .val (.int y0), .val (.int y1), .val (.int y2)] []))
        refine own_via (fun tq kq => XS.iconst X0.here hx rfl (hb hby d4_57) kq) ?_
        show Ogo p e below _ (s₁.setTop (mkF m 58 #[.val (.ref r), .val (.int zn), .val (.int y0), .val (.int y1), .val (.int y2)] [(.int (1 : Int32))]))
        exact own_out X0 hlk (fun h => by rw [hret] at h; cases h) (by decide) (by decide) (by first | exact ⟨rfl, N, rfl⟩ | (rw [e0]; exact ⟨rfl, N, rfl⟩)) (fun fs hr => retN X0 hx (t := .boolean) hret (by simp) (hb hby d4_58) hr)
      · refine own_via (fun tq kq => XS.icmpNo X0.here hx rfl (hb hby d4_44) rfl (flt (hc44 : ¬ (zn < (3 : Int32)))).1 kq) ?_
        show Ogo p e below _ (s₁.setTop (mkF m 47 #[.val (.ref r), .val (.int zn), .val (.int y0), .val (.int y1), .val (.int y2)] []))
        refine own_via (fun tq kq => XS.aloadN X0.here hx rfl (hb hby d4_47) rfl rfl kq) ?_
        show Ogo p e below _ (s₁.setTop (mkF m 48 #[.val (.ref r), .val (.int zn), .val (.int y0), .val (.int y1), .val (.int y2)] [(.ref r)]))
        refine own_via (fun tq kq => XS.iconst X0.here hx rfl (hb hby d4_48) kq) ?_
        show Ogo p e below _ (s₁.setTop (mkF m 49 #[.val (.ref r), .val (.int zn), .val (.int y0), .val (.int y1), .val (.int y2)] [(.int (2 : Int32)), (.ref r)]))
        refine own_bald X0 hx hZ e0 A_r (j := (2 : Int32)) (i := 2) (v := (.int y2)) rfl (by have := i_nlt' hc44; omega) (h2v (by have := i_nlt' hc44; omega)) (hb hby d4_49) ?_
        show Ogo p e below _ (s₁.setTop (mkF m 50 #[.val (.ref r), .val (.int zn), .val (.int y0), .val (.int y1), .val (.int y2)] [(.int y2)]))
        refine own_via (fun tq kq => XS.iload X0.here hx rfl (hb hby d4_50) rfl kq) ?_
        show Ogo p e below _ (s₁.setTop (mkF m 52 #[.val (.ref r), .val (.int zn), .val (.int y0), .val (.int y1), .val (.int y2)] [(.int y2), (.int y2)]))
        refine own_via (fun tq kq => XS.icmpYes X0.here hx rfl (pc0 := 52) (pc' := 57) rfl (hb hby d4_52) rfl (teq (rfl : y2 = y2)).1 (by decide) (by decide) kq) ?_
        show Ogo p e below _ (s₁.setTop (mkF m 57 #[.val (.ref r), .val (.int zn), .val (.int y0), .val (.int y1), .val (.int y2)] []))
        refine own_via (fun tq kq => XS.iconst X0.here hx rfl (hb hby d4_57) kq) ?_
        show Ogo p e below _ (s₁.setTop (mkF m 58 #[.val (.ref r), .val (.int zn), .val (.int y0), .val (.int y1), .val (.int y2)] [(.int (1 : Int32))]))
        exact own_out X0 hlk (fun h => by rw [hret] at h; cases h) (by decide) (by decide) (by first | exact ⟨rfl, N, rfl⟩ | (rw [e0]; exact ⟨rfl, N, rfl⟩)) (fun fs hr => retN X0 hx (t := .boolean) hret (by simp) (hb hby d4_58) hr)
theorem d1_0 : decode prog_10_method_1_code 0 = .ok (.aload_n 0, 1) := by decide +kernel
theorem d1_1 : decode prog_10_method_1_code 1 = .ok (.invokespecial 1, 3) := by decide +kernel
theorem d1_4 : decode prog_10_method_1_code 4 = .ok (.aload_n 0, 1) := by decide +kernel
theorem d1_5 : decode prog_10_method_1_code 5 = .ok (.lload_n 1, 1) := by decide +kernel
theorem d1_6 : decode prog_10_method_1_code 6 = .ok (.putfield 7, 3) := by decide +kernel
theorem d1_9 : decode prog_10_method_1_code 9 = .ok (.aload_n 0, 1) := by decide +kernel
theorem d1_10 : decode prog_10_method_1_code 10 = .ok (.aload_n 3, 1) := by decide +kernel
theorem d1_11 : decode prog_10_method_1_code 11 = .ok (.putfield 13, 3) := by decide +kernel
theorem d1_14 : decode prog_10_method_1_code 14 = .ok (.return_, 1) := by decide +kernel
set_option maxRecDepth 65536 in
set_option maxHeartbeats 40000000 in
theorem rm_vi0 {l : Launch} {Z : State} {a0 : Array Value} (hw : ∀ d ∈ tables_1, d.before a0 Z = true) (a : Addr) (q : Int64) (h0 : Heap) (n0 : Nat) (E_a : Exa Z h0 a "com/example/keep_posted/keepposted/client/Value") (F_revision_a : Fld Z h0 a "com/example/keep_posted/keepposted/client/Value" "revision" "J" (.long (0 : Int64))) (F_bytes_a : Fld Z h0 a "com/example/keep_posted/keepposted/client/Value" "bytes" "[B" .null) (g_a : n0 ≤ a) :
    Opays l (⟨"com/example/keep_posted/keepposted/client/Value", "<init>", "(J[B)V"⟩ : MethodName) prog_10_method_1_code 4 none ({ frames := 1, cells := 0, slots := 0, locals := 12 } : Room) [] Z h0 #[(.ref a), (.long q), .null] (fun v h L => v = none ∧ Fr n0 L ∧ Keep h0 h [a] ∧ Fld Z h a "com/example/keep_posted/keepposted/client/Value" "bytes" "[B" .null) := by
  refine own_enter (plainFor_of_name pn_1) ?_
  intro p e s m below meth c s₁ hx hby hml0 hown hnm hret hlk hZ e0 X0
  have hml : c.maxLocals = 4 := hml0
  replace hown : s.vm.findClass "com/example/keep_posted/keepposted/client/Value" = some m.cls := hown
  have N := Fr.nil n0
  have hef : entryFrame m #[(.ref a), (.long q), .null] 4 = mkF m 0 #[.val (.ref a), .val (.long q), .second, .val .null] [] := by first | (simp [entryFrame, mkF, argsToLocals, Value.category]; done) | rfl
  rw [hef]
  show Ogo p e below _ (s₁.setTop (mkF m 0 #[.val (.ref a), .val (.long q), .second, .val .null] []))
  have K := Keep.refl h0 [a]
  refine own_via (fun tq kq => XS.aloadN X0.here hx rfl (hb hby d1_0) rfl rfl kq) ?_
  show Ogo p e below _ (s₁.setTop (mkF m 1 #[.val (.ref a), .val (.long q), .second, .val .null] [(.ref a)]))
  obtain ⟨T1, X1, e1, st1⟩ := initO X0 hx hZ hown (hw _ (List.mem_of_getElem? (i := 7) rfl)) (hw _ (List.mem_of_getElem? (i := 8) rfl)) (hw _ (List.mem_of_getElem? (i := 9) rfl)) e0 (g := (mkF m 1 #[.val (.ref a), .val (.long q), .second, .val .null] [(.ref a)])) rfl (by rw [hml]; rfl) rfl (hb hby d1_1) (by decide) (W := 0) (by show 2 * 0 + _ ≤ _; exact Nat.le_of_eq rfl) (by decide)
  refine own_via st1 ?_
  show Ogo p e below _ (T1.setTop (mkF m 4 #[.val (.ref a), .val (.long q), .second, .val .null] []))
  refine own_via (fun tq kq => XS.aloadN X1.here hx rfl (hb hby d1_4) rfl rfl kq) ?_
  show Ogo p e below _ (T1.setTop (mkF m 5 #[.val (.ref a), .val (.long q), .second, .val .null] [(.ref a)]))
  refine own_via (fun tq kq => XS.lloadN X1.here hx rfl (hb hby d1_5) rfl kq) ?_
  show Ogo p e below _ (T1.setTop (mkF m 6 #[.val (.ref a), .val (.long q), .second, .val .null] [(.long q), (.ref a)]))
  obtain ⟨T2, h2, X2, e2, W2, st2⟩ := putF X1 hx hZ hown (host := "") (Or.inl (hw _ (List.mem_of_getElem? (i := 10) rfl))) Via.refl e1 F_revision_a E_a (Or.inr ⟨(hw _ (List.mem_of_getElem? (i := 11) rfl)), rfl, hnm⟩) (hw _ (List.mem_of_getElem? (i := 2) rfl)) (ty := .long) (by decide) rfl rfl (g := (mkF m 6 #[.val (.ref a), .val (.long q), .second, .val .null] [(.long q), (.ref a)])) rfl rfl (hb hby d1_6)
  refine own_via st2 ?_
  have E_a := E_a.wr W2
  have F_revision_a := F_revision_a.same W2
  have F_bytes_a := F_bytes_a.other W2 (Or.inr (slot_ne (Or.inr (hw _ (List.mem_of_getElem? (i := 13) rfl))) (Or.inr (hw _ (List.mem_of_getElem? (i := 11) rfl))) (by decide) (t := (.array .byte)) (t' := .long) (by decide) (by decide)))
  have K := K.wr W2 (Or.inl (List.mem_of_getElem? (i := 0) rfl))
  have N := Fr.snoc X2 N g_a
  show Ogo p e below _ (T2.setTop (mkF m 9 #[.val (.ref a), .val (.long q), .second, .val .null] []))
  refine own_via (fun tq kq => XS.aloadN X2.here hx rfl (hb hby d1_9) rfl rfl kq) ?_
  show Ogo p e below _ (T2.setTop (mkF m 10 #[.val (.ref a), .val (.long q), .second, .val .null] [(.ref a)]))
  refine own_via (fun tq kq => XS.aloadN X2.here hx rfl (hb hby d1_10) rfl rfl kq) ?_
  show Ogo p e below _ (T2.setTop (mkF m 11 #[.val (.ref a), .val (.long q), .second, .val .null] [.null, (.ref a)]))
  obtain ⟨T3, h3, X3, e3, W3, st3⟩ := putF X2 hx hZ hown (host := "") (Or.inl (hw _ (List.mem_of_getElem? (i := 12) rfl))) Via.refl e2 F_bytes_a E_a (Or.inr ⟨(hw _ (List.mem_of_getElem? (i := 13) rfl)), rfl, hnm⟩) (hw _ (List.mem_of_getElem? (i := 2) rfl)) (ty := (.array .byte)) (by decide) rfl rfl (g := (mkF m 11 #[.val (.ref a), .val (.long q), .second, .val .null] [.null, (.ref a)])) rfl rfl (hb hby d1_11)
  refine own_via st3 ?_
  have E_a := E_a.wr W3
  have F_revision_a := F_revision_a.other W3 (Or.inr (slot_ne (Or.inr (hw _ (List.mem_of_getElem? (i := 11) rfl))) (Or.inr (hw _ (List.mem_of_getElem? (i := 13) rfl))) (by decide) (t := .long) (t' := (.array .byte)) (by decide) (by decide)))
  have F_bytes_a := F_bytes_a.same W3
  have K := K.wr W3 (Or.inl (List.mem_of_getElem? (i := 0) rfl))
  have N := Fr.snoc X3 N g_a
  show Ogo p e below _ (T3.setTop (mkF m 14 #[.val (.ref a), .val (.long q), .second, .val .null] []))
  exact own_out X3 hlk (fun _ => rfl) (by decide) (by decide) (by first | exact ⟨rfl, N, K, F_bytes_a⟩ | (rw [e3]; exact ⟨rfl, N, K, F_bytes_a⟩)) (fun fs hr => X3.returnOut hx hret (hb hby d1_14) hr)
set_option maxRecDepth 65536 in
set_option maxHeartbeats 40000000 in
theorem rm_vi {l : Launch} {Z : State} {a0 : Array Value} (hw : ∀ d ∈ tables_1, d.before a0 Z = true) (a : Addr) (q : Int64) (r : Addr) (h0 : Heap) (n0 : Nat) (E_a : Exa Z h0 a "com/example/keep_posted/keepposted/client/Value") (F_revision_a : Fld Z h0 a "com/example/keep_posted/keepposted/client/Value" "revision" "J" (.long (0 : Int64))) (F_bytes_a : Fld Z h0 a "com/example/keep_posted/keepposted/client/Value" "bytes" "[B" .null) (g_a : n0 ≤ a) :
    Opays l (⟨"com/example/keep_posted/keepposted/client/Value", "<init>", "(J[B)V"⟩ : MethodName) prog_10_method_1_code 4 none ({ frames := 1, cells := 0, slots := 0, locals := 12 } : Room) [] Z h0 #[(.ref a), (.long q), (.ref r)] (fun v h L => v = none ∧ Fr n0 L ∧ Keep h0 h [a] ∧ Fld Z h a "com/example/keep_posted/keepposted/client/Value" "bytes" "[B" (.ref r)) := by
  refine own_enter (plainFor_of_name pn_1) ?_
  intro p e s m below meth c s₁ hx hby hml0 hown hnm hret hlk hZ e0 X0
  have hml : c.maxLocals = 4 := hml0
  replace hown : s.vm.findClass "com/example/keep_posted/keepposted/client/Value" = some m.cls := hown
  have N := Fr.nil n0
  have hef : entryFrame m #[(.ref a), (.long q), (.ref r)] 4 = mkF m 0 #[.val (.ref a), .val (.long q), .second, .val (.ref r)] [] := by first | (simp [entryFrame, mkF, argsToLocals, Value.category]; done) | rfl
  rw [hef]
  show Ogo p e below _ (s₁.setTop (mkF m 0 #[.val (.ref a), .val (.long q), .second, .val (.ref r)] []))
  have K := Keep.refl h0 [a]
  refine own_via (fun tq kq => XS.aloadN X0.here hx rfl (hb hby d1_0) rfl rfl kq) ?_
  show Ogo p e below _ (s₁.setTop (mkF m 1 #[.val (.ref a), .val (.long q), .second, .val (.ref r)] [(.ref a)]))
  obtain ⟨T1, X1, e1, st1⟩ := initO X0 hx hZ hown (hw _ (List.mem_of_getElem? (i := 7) rfl)) (hw _ (List.mem_of_getElem? (i := 8) rfl)) (hw _ (List.mem_of_getElem? (i := 9) rfl)) e0 (g := (mkF m 1 #[.val (.ref a), .val (.long q), .second, .val (.ref r)] [(.ref a)])) rfl (by rw [hml]; rfl) rfl (hb hby d1_1) (by decide) (W := 0) (by show 2 * 0 + _ ≤ _; exact Nat.le_of_eq rfl) (by decide)
  refine own_via st1 ?_
  show Ogo p e below _ (T1.setTop (mkF m 4 #[.val (.ref a), .val (.long q), .second, .val (.ref r)] []))
  refine own_via (fun tq kq => XS.aloadN X1.here hx rfl (hb hby d1_4) rfl rfl kq) ?_
  show Ogo p e below _ (T1.setTop (mkF m 5 #[.val (.ref a), .val (.long q), .second, .val (.ref r)] [(.ref a)]))
  refine own_via (fun tq kq => XS.lloadN X1.here hx rfl (hb hby d1_5) rfl kq) ?_
  show Ogo p e below _ (T1.setTop (mkF m 6 #[.val (.ref a), .val (.long q), .second, .val (.ref r)] [(.long q), (.ref a)]))
  obtain ⟨T2, h2, X2, e2, W2, st2⟩ := putF X1 hx hZ hown (host := "") (Or.inl (hw _ (List.mem_of_getElem? (i := 10) rfl))) Via.refl e1 F_revision_a E_a (Or.inr ⟨(hw _ (List.mem_of_getElem? (i := 11) rfl)), rfl, hnm⟩) (hw _ (List.mem_of_getElem? (i := 2) rfl)) (ty := .long) (by decide) rfl rfl (g := (mkF m 6 #[.val (.ref a), .val (.long q), .second, .val (.ref r)] [(.long q), (.ref a)])) rfl rfl (hb hby d1_6)
  refine own_via st2 ?_
  have E_a := E_a.wr W2
  have F_revision_a := F_revision_a.same W2
  have F_bytes_a := F_bytes_a.other W2 (Or.inr (slot_ne (Or.inr (hw _ (List.mem_of_getElem? (i := 13) rfl))) (Or.inr (hw _ (List.mem_of_getElem? (i := 11) rfl))) (by decide) (t := (.array .byte)) (t' := .long) (by decide) (by decide)))
  have K := K.wr W2 (Or.inl (List.mem_of_getElem? (i := 0) rfl))
  have N := Fr.snoc X2 N g_a
  show Ogo p e below _ (T2.setTop (mkF m 9 #[.val (.ref a), .val (.long q), .second, .val (.ref r)] []))
  refine own_via (fun tq kq => XS.aloadN X2.here hx rfl (hb hby d1_9) rfl rfl kq) ?_
  show Ogo p e below _ (T2.setTop (mkF m 10 #[.val (.ref a), .val (.long q), .second, .val (.ref r)] [(.ref a)]))
  refine own_via (fun tq kq => XS.aloadN X2.here hx rfl (hb hby d1_10) rfl rfl kq) ?_
  show Ogo p e below _ (T2.setTop (mkF m 11 #[.val (.ref a), .val (.long q), .second, .val (.ref r)] [(.ref r), (.ref a)]))
  obtain ⟨T3, h3, X3, e3, W3, st3⟩ := putF X2 hx hZ hown (host := "") (Or.inl (hw _ (List.mem_of_getElem? (i := 12) rfl))) Via.refl e2 F_bytes_a E_a (Or.inr ⟨(hw _ (List.mem_of_getElem? (i := 13) rfl)), rfl, hnm⟩) (hw _ (List.mem_of_getElem? (i := 2) rfl)) (ty := (.array .byte)) (by decide) rfl rfl (g := (mkF m 11 #[.val (.ref a), .val (.long q), .second, .val (.ref r)] [(.ref r), (.ref a)])) rfl rfl (hb hby d1_11)
  refine own_via st3 ?_
  have E_a := E_a.wr W3
  have F_revision_a := F_revision_a.other W3 (Or.inr (slot_ne (Or.inr (hw _ (List.mem_of_getElem? (i := 11) rfl))) (Or.inr (hw _ (List.mem_of_getElem? (i := 13) rfl))) (by decide) (t := .long) (t' := (.array .byte)) (by decide) (by decide)))
  have F_bytes_a := F_bytes_a.same W3
  have K := K.wr W3 (Or.inl (List.mem_of_getElem? (i := 0) rfl))
  have N := Fr.snoc X3 N g_a
  show Ogo p e below _ (T3.setTop (mkF m 14 #[.val (.ref a), .val (.long q), .second, .val (.ref r)] []))
  exact own_out X3 hlk (fun _ => rfl) (by decide) (by decide) (by first | exact ⟨rfl, N, K, F_bytes_a⟩ | (rw [e3]; exact ⟨rfl, N, K, F_bytes_a⟩)) (fun fs hr => X3.returnOut hx hret (hb hby d1_14) hr)
theorem d3_0 : decode prog_10_method_4_code 0 = .ok (.aload_n 0, 1) := by decide +kernel
theorem d3_1 : decode prog_10_method_4_code 1 = .ok (.getfield 13, 3) := by decide +kernel
theorem d3_4 : decode prog_10_method_4_code 4 = .ok (.ifnonnull 7, 3) := by decide +kernel
theorem d3_7 : decode prog_10_method_4_code 7 = .ok (.aconst_null, 1) := by decide +kernel
theorem d3_8 : decode prog_10_method_4_code 8 = .ok (.goto 13, 3) := by decide +kernel
theorem d3_11 : decode prog_10_method_4_code 11 = .ok (.aload_n 0, 1) := by decide +kernel
theorem d3_12 : decode prog_10_method_4_code 12 = .ok (.getfield 13, 3) := by decide +kernel
theorem d3_15 : decode prog_10_method_4_code 15 = .ok (.invokevirtual 17, 3) := by decide +kernel
theorem d3_18 : decode prog_10_method_4_code 18 = .ok (.checkcast 18, 3) := by decide +kernel
theorem d3_21 : decode prog_10_method_4_code 21 = .ok (.areturn, 1) := by decide +kernel
set_option maxRecDepth 65536 in
set_option maxHeartbeats 40000000 in
theorem rm_by0 {l : Launch} {Z : State} {a0 : Array Value} (hw : ∀ d ∈ tables_1, d.before a0 Z = true) (a : Addr) (h0 : Heap) (n0 : Nat) (F_bytes_a : Fld Z h0 a "com/example/keep_posted/keepposted/client/Value" "bytes" "[B" .null) :
    Opays l (⟨"com/example/keep_posted/keepposted/client/Value", "bytes", "()[B"⟩ : MethodName) prog_10_method_4_code 1 (some (.array .byte)) ({ frames := 0, cells := 0, slots := 0, locals := 0 } : Room) [] Z h0 #[(.ref a)] (fun v h L => v = some .null ∧ Fr n0 L ∧ h = h0) := by
  refine own_enter (plainFor_of_name pn_1) ?_
  intro p e s m below meth c s₁ hx hby hml0 hown hnm hret hlk hZ e0 X0
  have hml : c.maxLocals = 1 := hml0
  replace hown : s.vm.findClass "com/example/keep_posted/keepposted/client/Value" = some m.cls := hown
  have N := Fr.nil n0
  have hef : entryFrame m #[(.ref a)] 1 = mkF m 0 #[.val (.ref a)] [] := by first | (simp [entryFrame, mkF, argsToLocals, Value.category]; done) | rfl
  rw [hef]
  show Ogo p e below _ (s₁.setTop (mkF m 0 #[.val (.ref a)] []))
  refine own_via (fun tq kq => XS.aloadN X0.here hx rfl (hb hby d3_0) rfl rfl kq) ?_
  show Ogo p e below _ (s₁.setTop (mkF m 1 #[.val (.ref a)] [(.ref a)]))
  obtain ⟨T1, X1, e1, st1⟩ := getF X0 hx hZ hown (host := "") (Or.inl (hw _ (List.mem_of_getElem? (i := 12) rfl))) Via.refl e0 F_bytes_a (g := (mkF m 1 #[.val (.ref a)] [(.ref a)])) rfl rfl (hb hby d3_1)
  refine own_via st1 ?_
  show Ogo p e below _ (T1.setTop (mkF m 4 #[.val (.ref a)] [.null]))
  refine own_via (fun tq kq => XS.ifnonnullNo X1.here hx rfl (hb hby d3_4) rfl kq) ?_
  show Ogo p e below _ (T1.setTop (mkF m 7 #[.val (.ref a)] []))
  refine own_via (fun tq kq => XS.aconstNull X1.here hx rfl (hb hby d3_7) kq) ?_
  show Ogo p e below _ (T1.setTop (mkF m 8 #[.val (.ref a)] [.null]))
  refine own_via (fun tq kq => XS.goto X1.here hx rfl (pc0 := 8) (pc' := 21) rfl (hb hby d3_8) (by decide) (by decide) kq) ?_
  show Ogo p e below _ (T1.setTop (mkF m 21 #[.val (.ref a)] [.null]))
  exact own_out X1 hlk (fun h => by rw [hret] at h; cases h) (by decide) (by decide) (by first | exact ⟨rfl, N, rfl⟩ | (rw [e1]; exact ⟨rfl, N, rfl⟩)) (fun fs hr => own_retA X1 hx hret rfl rfl (hb hby d3_21) hr)
set_option maxRecDepth 65536 in
set_option maxHeartbeats 40000000 in
theorem rm_by {l : Launch} {Z : State} {a0 : Array Value} (hw : ∀ d ∈ tables_1, d.before a0 Z = true) (a r : Addr) (n : Nat) (f : Nat → Value) (h0 : Heap) (n0 : Nat) (F_bytes_a : Fld Z h0 a "com/example/keep_posted/keepposted/client/Value" "bytes" "[B" (.ref r)) (A_r : Oar Z h0 r .byte n f) (E_r : Exa Z h0 r "[B") (hfit : ∀ j, j < n → fits .byte (f j) = true) (hn3 : n ≤ 3) (zs : n0 ≤ h0.size) :
    Opays l (⟨"com/example/keep_posted/keepposted/client/Value", "bytes", "()[B"⟩ : MethodName) prog_10_method_4_code 1 (some (.array .byte)) ({ frames := 1, cells := 1, slots := 3, locals := 14 } : Room) [] Z h0 #[(.ref a)] (fun v h L => ∃ b, v = some (.ref b) ∧ Fr n0 L ∧ Keep h0 h [] ∧ h0.size ≤ b ∧ Oar Z h b .byte n f ∧ Exa Z h b "[B") := by
  refine own_enter (plainFor_of_name pn_1) ?_
  intro p e s m below meth c s₁ hx hby hml0 hown hnm hret hlk hZ e0 X0
  have hml : c.maxLocals = 1 := hml0
  replace hown : s.vm.findClass "com/example/keep_posted/keepposted/client/Value" = some m.cls := hown
  have N := Fr.nil n0
  have hef : entryFrame m #[(.ref a)] 1 = mkF m 0 #[.val (.ref a)] [] := by first | (simp [entryFrame, mkF, argsToLocals, Value.category]; done) | rfl
  rw [hef]
  show Ogo p e below _ (s₁.setTop (mkF m 0 #[.val (.ref a)] []))
  have K := Keep.refl h0 []
  refine own_via (fun tq kq => XS.aloadN X0.here hx rfl (hb hby d3_0) rfl rfl kq) ?_
  show Ogo p e below _ (s₁.setTop (mkF m 1 #[.val (.ref a)] [(.ref a)]))
  obtain ⟨T1, X1, e1, st1⟩ := getF X0 hx hZ hown (host := "") (Or.inl (hw _ (List.mem_of_getElem? (i := 12) rfl))) Via.refl e0 F_bytes_a (g := (mkF m 1 #[.val (.ref a)] [(.ref a)])) rfl rfl (hb hby d3_1)
  refine own_via st1 ?_
  show Ogo p e below _ (T1.setTop (mkF m 4 #[.val (.ref a)] [(.ref r)]))
  refine own_via (fun tq kq => XS.ifnonnullYes X1.here hx rfl (pc0 := 4) (pc' := 11) rfl (hb hby d3_4) rfl (by decide) (by decide) kq) ?_
  show Ogo p e below _ (T1.setTop (mkF m 11 #[.val (.ref a)] []))
  refine own_via (fun tq kq => XS.aloadN X1.here hx rfl (hb hby d3_11) rfl rfl kq) ?_
  show Ogo p e below _ (T1.setTop (mkF m 12 #[.val (.ref a)] [(.ref a)]))
  obtain ⟨T2, X2, e2, st2⟩ := getF X1 hx hZ hown (host := "") (Or.inl (hw _ (List.mem_of_getElem? (i := 12) rfl))) Via.refl e1 F_bytes_a (g := (mkF m 12 #[.val (.ref a)] [(.ref a)])) rfl rfl (hb hby d3_12)
  refine own_via st2 ?_
  show Ogo p e below _ (T2.setTop (mkF m 15 #[.val (.ref a)] [(.ref r)]))
  obtain ⟨qn3, cl3, Ac3, Sc3, Hc3⟩ := id A_r
  obtain ⟨T3, h3, X3, e3, E3, A3, Ea3, st3⟩ := cloneA X2 hx hZ hown (hw _ (List.mem_of_getElem? (i := 19) rfl)) (hw _ (List.mem_of_getElem? (i := 20) rfl)) (hw _ (List.mem_of_getElem? (i := 24) rfl)) (hw _ (List.mem_of_getElem? (i := 22) rfl)) (hw _ (List.mem_of_getElem? (i := 23) rfl)) (hw _ (List.mem_of_getElem? (i := 25) rfl)) e2 Ac3 E_r (fitC_of Ac3 (fun i hi v hv => by rw [Sc3] at hi; rw [Hc3 i hi] at hv; cases hv; exact hfit i hi)) (g := (mkF m 15 #[.val (.ref a)] [(.ref r)])) rfl (by rw [hml]; rfl) rfl (hb hby d3_15) (by decide) (W := 0) (by show 2 * 0 + _ ≤ _; exact Nat.le_of_eq rfl) (by decide) (cap := 3) (by rw [Sc3]; exact hn3) (by decide) (by decide)
  refine own_via st3 ?_
  obtain ⟨b, g3⟩ : ∃ z, z = h0.size := ⟨_, rfl⟩
  rw [← g3]
  rw [← g3] at A3 Ea3
  have lt_a_b : a < b := by rw [g3]; exact F_bytes_a.lt
  have lt_r_b : r < b := by rw [g3]; exact A_r.lt
  have g_b : n0 ≤ b := by rw [g3]; exact zs
  have sz_b : h0.size ≤ b := by rw [g3]; exact K.1
  have F_bytes_a := F_bytes_a.ext E3
  have A_r := A_r.ext E3
  have E_r := E_r.ext E3
  have zs := Nat.le_trans zs E3.1
  have K := K.ext E3
  have A_b : Oar Z h3 b .byte n f := ⟨qn3, _, A3, Sc3, Hc3⟩
  have E_b := Ea3
  show Ogo p e below _ (T3.setTop (mkF m 18 #[.val (.ref a)] [(.ref b)]))
  obtain ⟨T4, X4, e4, st4⟩ := castY X3 hx hZ hown (hw _ (List.mem_of_getElem? (i := 26) rfl)) e3 (Ins.self E_b) (g := (mkF m 18 #[.val (.ref a)] [(.ref b)])) rfl rfl (hb hby d3_18)
  refine own_via st4 ?_
  show Ogo p e below _ (T4.setTop (mkF m 21 #[.val (.ref a)] [(.ref b)]))
  exact own_out X4 hlk (fun h => by rw [hret] at h; cases h) (by decide) (by decide) (by first | exact ⟨b, rfl, N, K, (by first | exact sz_b | exact Nat.le_refl _), A_b, E_b⟩ | (rw [e4]; exact ⟨b, rfl, N, K, (by first | exact sz_b | exact Nat.le_refl _), A_b, E_b⟩)) (fun fs hr => own_retA X4 hx hret rfl rfl (hb hby d3_21) hr)
set_option maxRecDepth 65536 in
set_option maxHeartbeats 40000000 in
theorem rm_law {l : Launch} {Z : State} {a0 : Array Value} (hw : ∀ d ∈ tables_1, d.before a0 Z = true) (q1 : Int64) (p2 p3 b0 b1 b2 : Int32) (h0 : Heap) (n0 : Nat) (zs : n0 ≤ h0.size) :
    Opays l x code maxLocals ret room_1 tables_1 Z h0 #[(.long q1), (.int p2), (.int p3), (.int b0), (.int b1), (.int b2)] (fun v h L => v = some (.int 1) ∧ Fr n0 L) := by
  refine own_enter (plainFor_of_name pn_0) ?_
  intro p e s m below meth c s₁ hx hby hml0 hown hnm hret hlk hZ e0 X0
  have hml : c.maxLocals = 16 := hml0
  replace hown : s.vm.findClass "com/example/keep_posted/keepposted/client/ValueBytesPinLaw" = some m.cls := hown
  have N := Fr.nil n0
  have hef : entryFrame m #[(.long q1), (.int p2), (.int p3), (.int b0), (.int b1), (.int b2)] maxLocals = mkF m 0 #[.val (.long q1), .second, .val (.int p2), .val (.int p3), .val (.int b0), .val (.int b1), .val (.int b2), .unset, .unset, .unset, .unset, .unset, .unset, .unset, .unset, .unset] [] := by first | (simp [entryFrame, mkF, argsToLocals, Value.category, maxLocals]; done) | rfl
  rw [hef]
  show Ogo p e below _ (s₁.setTop (mkF m 0 #[.val (.long q1), .second, .val (.int p2), .val (.int p3), .val (.int b0), .val (.int b1), .val (.int b2), .unset, .unset, .unset, .unset, .unset, .unset, .unset, .unset, .unset] []))
  refine own_via (fun tq kq => XS.iloadN X0.here hx rfl (hb hby at_0) rfl kq) ?_
  show Ogo p e below _ (s₁.setTop (mkF m 1 #[.val (.long q1), .second, .val (.int p2), .val (.int p3), .val (.int b0), .val (.int b1), .val (.int b2), .unset, .unset, .unset, .unset, .unset, .unset, .unset, .unset, .unset] [(.int p2)]))
  refine own_via (fun tq kq => XS.iconst X0.here hx rfl (hb hby at_1) kq) ?_
  show Ogo p e below _ (s₁.setTop (mkF m 2 #[.val (.long q1), .second, .val (.int p2), .val (.int p3), .val (.int b0), .val (.int b1), .val (.int b2), .unset, .unset, .unset, .unset, .unset, .unset, .unset, .unset, .unset] [(.int (1 : Int32)), (.int p2)]))
  refine own_via (fun tq kq => XS.iand X0.here hx rfl (hb hby at_2) rfl kq) ?_
  show Ogo p e below _ (s₁.setTop (mkF m 3 #[.val (.long q1), .second, .val (.int p2), .val (.int p3), .val (.int b0), .val (.int b1), .val (.int b2), .unset, .unset, .unset, .unset, .unset, .unset, .unset, .unset, .unset] [(.int (p2 &&& (1 : Int32)))]))
  by_cases hc3 : (p2 &&& (1 : Int32)) = (0 : Int32)
  · refine own_via (fun tq kq => XS.ifYes X0.here hx rfl (pc0 := 3) (pc' := 10) rfl (hb hby at_3) rfl ((if0 _ _).trans (teq (hc3 : (p2 &&& (1 : Int32)) = (0 : Int32))).1) (by decide) (by decide) kq) ?_
    show Ogo p e below _ (s₁.setTop (mkF m 10 #[.val (.long q1), .second, .val (.int p2), .val (.int p3), .val (.int b0), .val (.int b1), .val (.int b2), .unset, .unset, .unset, .unset, .unset, .unset, .unset, .unset, .unset] []))
    refine own_via (fun tq kq => XS.iconst X0.here hx rfl (hb hby at_10) kq) ?_
    show Ogo p e below _ (s₁.setTop (mkF m 11 #[.val (.long q1), .second, .val (.int p2), .val (.int p3), .val (.int b0), .val (.int b1), .val (.int b2), .unset, .unset, .unset, .unset, .unset, .unset, .unset, .unset, .unset] [(.int (0 : Int32))]))
    refine own_via (fun tq kq => XS.istore X0.here hx rfl (hb hby at_11) rfl (l' := #[.val (.long q1), .second, .val (.int p2), .val (.int p3), .val (.int b0), .val (.int b1), .val (.int b2), .val (.int (0 : Int32)), .unset, .unset, .unset, .unset, .unset, .unset, .unset, .unset]) rfl kq) ?_
    show Ogo p e below _ (s₁.setTop (mkF m 13 #[.val (.long q1), .second, .val (.int p2), .val (.int p3), .val (.int b0), .val (.int b1), .val (.int b2), .val (.int (0 : Int32)), .unset, .unset, .unset, .unset, .unset, .unset, .unset, .unset] []))
    refine own_via (fun tq kq => XS.iloadN X0.here hx rfl (hb hby at_13) rfl kq) ?_
    show Ogo p e below _ (s₁.setTop (mkF m 14 #[.val (.long q1), .second, .val (.int p2), .val (.int p3), .val (.int b0), .val (.int b1), .val (.int b2), .val (.int (0 : Int32)), .unset, .unset, .unset, .unset, .unset, .unset, .unset, .unset] [(.int p3)]))
    refine own_via (fun tq kq => XS.iconst X0.here hx rfl (hb hby at_14) kq) ?_
    show Ogo p e below _ (s₁.setTop (mkF m 15 #[.val (.long q1), .second, .val (.int p2), .val (.int p3), .val (.int b0), .val (.int b1), .val (.int b2), .val (.int (0 : Int32)), .unset, .unset, .unset, .unset, .unset, .unset, .unset, .unset] [(.int (3 : Int32)), (.int p3)]))
    refine own_via (fun tq kq => XS.iand X0.here hx rfl (hb hby at_15) rfl kq) ?_
    show Ogo p e below _ (s₁.setTop (mkF m 16 #[.val (.long q1), .second, .val (.int p2), .val (.int p3), .val (.int b0), .val (.int b1), .val (.int b2), .val (.int (0 : Int32)), .unset, .unset, .unset, .unset, .unset, .unset, .unset, .unset] [(.int (p3 &&& (3 : Int32)))]))
    refine own_via (fun tq kq => XS.istore X0.here hx rfl (hb hby at_16) rfl (l' := #[.val (.long q1), .second, .val (.int p2), .val (.int p3), .val (.int b0), .val (.int b1), .val (.int b2), .val (.int (0 : Int32)), .val (.int (p3 &&& (3 : Int32))), .unset, .unset, .unset, .unset, .unset, .unset, .unset]) rfl kq) ?_
    show Ogo p e below _ (s₁.setTop (mkF m 18 #[.val (.long q1), .second, .val (.int p2), .val (.int p3), .val (.int b0), .val (.int b1), .val (.int b2), .val (.int (0 : Int32)), .val (.int (p3 &&& (3 : Int32))), .unset, .unset, .unset, .unset, .unset, .unset, .unset] []))
    obtain ⟨nn, hnn⟩ : ∃ z, z = (p3 &&& (3 : Int32)) := ⟨_, rfl⟩
    rw [← hnn]
    show Ogo p e below _ (s₁.setTop (mkF m 18 #[.val (.long q1), .second, .val (.int p2), .val (.int p3), .val (.int b0), .val (.int b1), .val (.int b2), .val (.int (0 : Int32)), .val (.int nn), .unset, .unset, .unset, .unset, .unset, .unset, .unset] []))
    refine own_via (fun tq kq => XS.iload X0.here hx rfl (hb hby at_18) rfl kq) ?_
    show Ogo p e below _ (s₁.setTop (mkF m 20 #[.val (.long q1), .second, .val (.int p2), .val (.int p3), .val (.int b0), .val (.int b1), .val (.int b2), .val (.int (0 : Int32)), .val (.int nn), .unset, .unset, .unset, .unset, .unset, .unset, .unset] [(.int b0)]))
    refine own_via (fun tq kq => XS.i2b X0.here hx rfl (hb hby at_20) rfl kq) ?_
    show Ogo p e below _ (s₁.setTop (mkF m 21 #[.val (.long q1), .second, .val (.int p2), .val (.int p3), .val (.int b0), .val (.int b1), .val (.int b2), .val (.int (0 : Int32)), .val (.int nn), .unset, .unset, .unset, .unset, .unset, .unset, .unset] [(.int (b0.toInt8.toInt32))]))
    refine own_via (fun tq kq => XS.istore X0.here hx rfl (hb hby at_21) rfl (l' := #[.val (.long q1), .second, .val (.int p2), .val (.int p3), .val (.int b0), .val (.int b1), .val (.int b2), .val (.int (0 : Int32)), .val (.int nn), .val (.int (b0.toInt8.toInt32)), .unset, .unset, .unset, .unset, .unset, .unset]) rfl kq) ?_
    show Ogo p e below _ (s₁.setTop (mkF m 23 #[.val (.long q1), .second, .val (.int p2), .val (.int p3), .val (.int b0), .val (.int b1), .val (.int b2), .val (.int (0 : Int32)), .val (.int nn), .val (.int (b0.toInt8.toInt32)), .unset, .unset, .unset, .unset, .unset, .unset] []))
    refine own_via (fun tq kq => XS.iload X0.here hx rfl (hb hby at_23) rfl kq) ?_
    show Ogo p e below _ (s₁.setTop (mkF m 25 #[.val (.long q1), .second, .val (.int p2), .val (.int p3), .val (.int b0), .val (.int b1), .val (.int b2), .val (.int (0 : Int32)), .val (.int nn), .val (.int (b0.toInt8.toInt32)), .unset, .unset, .unset, .unset, .unset, .unset] [(.int b1)]))
    refine own_via (fun tq kq => XS.i2b X0.here hx rfl (hb hby at_25) rfl kq) ?_
    show Ogo p e below _ (s₁.setTop (mkF m 26 #[.val (.long q1), .second, .val (.int p2), .val (.int p3), .val (.int b0), .val (.int b1), .val (.int b2), .val (.int (0 : Int32)), .val (.int nn), .val (.int (b0.toInt8.toInt32)), .unset, .unset, .unset, .unset, .unset, .unset] [(.int (b1.toInt8.toInt32))]))
    refine own_via (fun tq kq => XS.istore X0.here hx rfl (hb hby at_26) rfl (l' := #[.val (.long q1), .second, .val (.int p2), .val (.int p3), .val (.int b0), .val (.int b1), .val (.int b2), .val (.int (0 : Int32)), .val (.int nn), .val (.int (b0.toInt8.toInt32)), .val (.int (b1.toInt8.toInt32)), .unset, .unset, .unset, .unset, .unset]) rfl kq) ?_
    show Ogo p e below _ (s₁.setTop (mkF m 28 #[.val (.long q1), .second, .val (.int p2), .val (.int p3), .val (.int b0), .val (.int b1), .val (.int b2), .val (.int (0 : Int32)), .val (.int nn), .val (.int (b0.toInt8.toInt32)), .val (.int (b1.toInt8.toInt32)), .unset, .unset, .unset, .unset, .unset] []))
    refine own_via (fun tq kq => XS.iload X0.here hx rfl (hb hby at_28) rfl kq) ?_
    show Ogo p e below _ (s₁.setTop (mkF m 30 #[.val (.long q1), .second, .val (.int p2), .val (.int p3), .val (.int b0), .val (.int b1), .val (.int b2), .val (.int (0 : Int32)), .val (.int nn), .val (.int (b0.toInt8.toInt32)), .val (.int (b1.toInt8.toInt32)), .unset, .unset, .unset, .unset, .unset] [(.int b2)]))
    refine own_via (fun tq kq => XS.i2b X0.here hx rfl (hb hby at_30) rfl kq) ?_
    show Ogo p e below _ (s₁.setTop (mkF m 31 #[.val (.long q1), .second, .val (.int p2), .val (.int p3), .val (.int b0), .val (.int b1), .val (.int b2), .val (.int (0 : Int32)), .val (.int nn), .val (.int (b0.toInt8.toInt32)), .val (.int (b1.toInt8.toInt32)), .unset, .unset, .unset, .unset, .unset] [(.int (b2.toInt8.toInt32))]))
    refine own_via (fun tq kq => XS.istore X0.here hx rfl (hb hby at_31) rfl (l' := #[.val (.long q1), .second, .val (.int p2), .val (.int p3), .val (.int b0), .val (.int b1), .val (.int b2), .val (.int (0 : Int32)), .val (.int nn), .val (.int (b0.toInt8.toInt32)), .val (.int (b1.toInt8.toInt32)), .val (.int (b2.toInt8.toInt32)), .unset, .unset, .unset, .unset]) rfl kq) ?_
    show Ogo p e below _ (s₁.setTop (mkF m 33 #[.val (.long q1), .second, .val (.int p2), .val (.int p3), .val (.int b0), .val (.int b1), .val (.int b2), .val (.int (0 : Int32)), .val (.int nn), .val (.int (b0.toInt8.toInt32)), .val (.int (b1.toInt8.toInt32)), .val (.int (b2.toInt8.toInt32)), .unset, .unset, .unset, .unset] []))
    obtain ⟨y0, hy0⟩ : ∃ z, z = (b0.toInt8.toInt32) := ⟨_, rfl⟩
    rw [← hy0]
    show Ogo p e below _ (s₁.setTop (mkF m 33 #[.val (.long q1), .second, .val (.int p2), .val (.int p3), .val (.int b0), .val (.int b1), .val (.int b2), .val (.int (0 : Int32)), .val (.int nn), .val (.int y0), .val (.int (b1.toInt8.toInt32)), .val (.int (b2.toInt8.toInt32)), .unset, .unset, .unset, .unset] []))
    obtain ⟨y1, hy1⟩ : ∃ z, z = (b1.toInt8.toInt32) := ⟨_, rfl⟩
    rw [← hy1]
    show Ogo p e below _ (s₁.setTop (mkF m 33 #[.val (.long q1), .second, .val (.int p2), .val (.int p3), .val (.int b0), .val (.int b1), .val (.int b2), .val (.int (0 : Int32)), .val (.int nn), .val (.int y0), .val (.int y1), .val (.int (b2.toInt8.toInt32)), .unset, .unset, .unset, .unset] []))
    obtain ⟨y2, hy2⟩ : ∃ z, z = (b2.toInt8.toInt32) := ⟨_, rfl⟩
    rw [← hy2]
    show Ogo p e below _ (s₁.setTop (mkF m 33 #[.val (.long q1), .second, .val (.int p2), .val (.int p3), .val (.int b0), .val (.int b1), .val (.int b2), .val (.int (0 : Int32)), .val (.int nn), .val (.int y0), .val (.int y1), .val (.int y2), .unset, .unset, .unset, .unset] []))
    have hk0 : nar .byte y0 = y0 := by rw [hy0]; exact own_nb b0
    have hk1 : nar .byte y1 = y1 := by rw [hy1]; exact own_nb b1
    have hk2 : nar .byte y2 = y2 := by rw [hy2]; exact own_nb b2
    have hft : ∀ j, fits .byte (own_f y0 y1 y2 j) = true := by rw [hy0, hy1, hy2]; exact own_fit
    have h4 : nn = 0 ∨ nn = 1 ∨ nn = 2 ∨ nn = 3 := by rw [hnn]; exact own_four
    rcases h4 with rfl | rfl | rfl | rfl
    · show Ogo p e below _ (s₁.setTop (mkF m 33 #[.val (.long q1), .second, .val (.int p2), .val (.int p3), .val (.int b0), .val (.int b1), .val (.int b2), .val (.int (0 : Int32)), .val (.int (0 : Int32)), .val (.int y0), .val (.int y1), .val (.int y2), .unset, .unset, .unset, .unset] []))
      refine own_via (fun tq kq => XS.aconstNull X0.here hx rfl (hb hby at_33) kq) ?_
      show Ogo p e below _ (s₁.setTop (mkF m 34 #[.val (.long q1), .second, .val (.int p2), .val (.int p3), .val (.int b0), .val (.int b1), .val (.int b2), .val (.int (0 : Int32)), .val (.int (0 : Int32)), .val (.int y0), .val (.int y1), .val (.int y2), .unset, .unset, .unset, .unset] [.null]))
      refine own_via (fun tq kq => XS.astore X0.here hx rfl (hb hby at_34) rfl rfl (l' := #[.val (.long q1), .second, .val (.int p2), .val (.int p3), .val (.int b0), .val (.int b1), .val (.int b2), .val (.int (0 : Int32)), .val (.int (0 : Int32)), .val (.int y0), .val (.int y1), .val (.int y2), .val .null, .unset, .unset, .unset]) rfl kq) ?_
      show Ogo p e below _ (s₁.setTop (mkF m 36 #[.val (.long q1), .second, .val (.int p2), .val (.int p3), .val (.int b0), .val (.int b1), .val (.int b2), .val (.int (0 : Int32)), .val (.int (0 : Int32)), .val (.int y0), .val (.int y1), .val (.int y2), .val .null, .unset, .unset, .unset] []))
      refine own_via (fun tq kq => XS.iload X0.here hx rfl (hb hby at_36) rfl kq) ?_
      show Ogo p e below _ (s₁.setTop (mkF m 38 #[.val (.long q1), .second, .val (.int p2), .val (.int p3), .val (.int b0), .val (.int b1), .val (.int b2), .val (.int (0 : Int32)), .val (.int (0 : Int32)), .val (.int y0), .val (.int y1), .val (.int y2), .val .null, .unset, .unset, .unset] [(.int (0 : Int32))]))
      refine own_via (fun tq kq => XS.ifNo X0.here hx rfl (hb hby at_38) rfl ((if0 _ _).trans (teq ((by decide) : (0 : Int32) = (0 : Int32))).2) kq) ?_
      show Ogo p e below _ (s₁.setTop (mkF m 41 #[.val (.long q1), .second, .val (.int p2), .val (.int p3), .val (.int b0), .val (.int b1), .val (.int b2), .val (.int (0 : Int32)), .val (.int (0 : Int32)), .val (.int y0), .val (.int y1), .val (.int y2), .val .null, .unset, .unset, .unset] []))
      refine own_via (fun tq kq => XS.iload X0.here hx rfl (hb hby at_41) rfl kq) ?_
      show Ogo p e below _ (s₁.setTop (mkF m 43 #[.val (.long q1), .second, .val (.int p2), .val (.int p3), .val (.int b0), .val (.int b1), .val (.int b2), .val (.int (0 : Int32)), .val (.int (0 : Int32)), .val (.int y0), .val (.int y1), .val (.int y2), .val .null, .unset, .unset, .unset] [(.int (0 : Int32))]))
      obtain ⟨T1, h1, k1, X1, e1, E1, A1, Ea1, st1⟩ := newPE X0 hx hZ (hw _ (List.mem_of_getElem? (i := 0) rfl)) e0 (g := (mkF m 43 #[.val (.long q1), .second, .val (.int p2), .val (.int p3), .val (.int b0), .val (.int b1), .val (.int b2), .val (.int (0 : Int32)), .val (.int (0 : Int32)), .val (.int y0), .val (.int y1), .val (.int y2), .val .null, .unset, .unset, .unset] [(.int (0 : Int32))])) rfl (hb hby at_43) rfl (by decide) (cap := 0) (by decide) (by decide) (by decide) (by decide) (ad := "[B") (by decide)
      refine own_via st1 ?_
      obtain ⟨ba, g1⟩ : ∃ z, z = h0.size := ⟨_, rfl⟩
      rw [← g1]
      rw [← g1] at A1 Ea1
      have g_ba : n0 ≤ ba := by rw [g1]; exact zs
      have zs := Nat.le_trans zs E1.1
      have A_ba : Oar Z h1 ba .byte 0 (fun _ => defaultValue .byte) := Oar.new A1 (by decide) rfl
      have E_ba := Ea1
      show Ogo p e below _ (T1.setTop (mkF m 45 #[.val (.long q1), .second, .val (.int p2), .val (.int p3), .val (.int b0), .val (.int b1), .val (.int b2), .val (.int (0 : Int32)), .val (.int (0 : Int32)), .val (.int y0), .val (.int y1), .val (.int y2), .val .null, .unset, .unset, .unset] [(.ref ba)]))
      refine own_via (fun tq kq => XS.astore X1.here hx rfl (hb hby at_45) rfl rfl (l' := #[.val (.long q1), .second, .val (.int p2), .val (.int p3), .val (.int b0), .val (.int b1), .val (.int b2), .val (.int (0 : Int32)), .val (.int (0 : Int32)), .val (.int y0), .val (.int y1), .val (.int y2), .val (.ref ba), .unset, .unset, .unset]) rfl kq) ?_
      show Ogo p e below _ (T1.setTop (mkF m 47 #[.val (.long q1), .second, .val (.int p2), .val (.int p3), .val (.int b0), .val (.int b1), .val (.int b2), .val (.int (0 : Int32)), .val (.int (0 : Int32)), .val (.int y0), .val (.int y1), .val (.int y2), .val (.ref ba), .unset, .unset, .unset] []))
      refine own_via (fun tq kq => XS.iload X1.here hx rfl (hb hby at_47) rfl kq) ?_
      show Ogo p e below _ (T1.setTop (mkF m 49 #[.val (.long q1), .second, .val (.int p2), .val (.int p3), .val (.int b0), .val (.int b1), .val (.int b2), .val (.int (0 : Int32)), .val (.int (0 : Int32)), .val (.int y0), .val (.int y1), .val (.int y2), .val (.ref ba), .unset, .unset, .unset] [(.int (0 : Int32))]))
      refine own_via (fun tq kq => XS.iconst X1.here hx rfl (hb hby at_49) kq) ?_
      show Ogo p e below _ (T1.setTop (mkF m 50 #[.val (.long q1), .second, .val (.int p2), .val (.int p3), .val (.int b0), .val (.int b1), .val (.int b2), .val (.int (0 : Int32)), .val (.int (0 : Int32)), .val (.int y0), .val (.int y1), .val (.int y2), .val (.ref ba), .unset, .unset, .unset] [(.int (1 : Int32)), (.int (0 : Int32))]))
      refine own_via (fun tq kq => XS.icmpYes X1.here hx rfl (pc0 := 50) (pc' := 59) rfl (hb hby at_50) rfl (tlt ((by decide) : (0 : Int32) < (1 : Int32))).1 (by decide) (by decide) kq) ?_
      show Ogo p e below _ (T1.setTop (mkF m 59 #[.val (.long q1), .second, .val (.int p2), .val (.int p3), .val (.int b0), .val (.int b1), .val (.int b2), .val (.int (0 : Int32)), .val (.int (0 : Int32)), .val (.int y0), .val (.int y1), .val (.int y2), .val (.ref ba), .unset, .unset, .unset] []))
      refine own_via (fun tq kq => XS.iload X1.here hx rfl (hb hby at_59) rfl kq) ?_
      show Ogo p e below _ (T1.setTop (mkF m 61 #[.val (.long q1), .second, .val (.int p2), .val (.int p3), .val (.int b0), .val (.int b1), .val (.int b2), .val (.int (0 : Int32)), .val (.int (0 : Int32)), .val (.int y0), .val (.int y1), .val (.int y2), .val (.ref ba), .unset, .unset, .unset] [(.int (0 : Int32))]))
      refine own_via (fun tq kq => XS.iconst X1.here hx rfl (hb hby at_61) kq) ?_
      show Ogo p e below _ (T1.setTop (mkF m 62 #[.val (.long q1), .second, .val (.int p2), .val (.int p3), .val (.int b0), .val (.int b1), .val (.int b2), .val (.int (0 : Int32)), .val (.int (0 : Int32)), .val (.int y0), .val (.int y1), .val (.int y2), .val (.ref ba), .unset, .unset, .unset] [(.int (2 : Int32)), (.int (0 : Int32))]))
      refine own_via (fun tq kq => XS.icmpYes X1.here hx rfl (pc0 := 62) (pc' := 71) rfl (hb hby at_62) rfl (tlt ((by decide) : (0 : Int32) < (2 : Int32))).1 (by decide) (by decide) kq) ?_
      show Ogo p e below _ (T1.setTop (mkF m 71 #[.val (.long q1), .second, .val (.int p2), .val (.int p3), .val (.int b0), .val (.int b1), .val (.int b2), .val (.int (0 : Int32)), .val (.int (0 : Int32)), .val (.int y0), .val (.int y1), .val (.int y2), .val (.ref ba), .unset, .unset, .unset] []))
      refine own_via (fun tq kq => XS.iload X1.here hx rfl (hb hby at_71) rfl kq) ?_
      show Ogo p e below _ (T1.setTop (mkF m 73 #[.val (.long q1), .second, .val (.int p2), .val (.int p3), .val (.int b0), .val (.int b1), .val (.int b2), .val (.int (0 : Int32)), .val (.int (0 : Int32)), .val (.int y0), .val (.int y1), .val (.int y2), .val (.ref ba), .unset, .unset, .unset] [(.int (0 : Int32))]))
      refine own_via (fun tq kq => XS.iconst X1.here hx rfl (hb hby at_73) kq) ?_
      show Ogo p e below _ (T1.setTop (mkF m 74 #[.val (.long q1), .second, .val (.int p2), .val (.int p3), .val (.int b0), .val (.int b1), .val (.int b2), .val (.int (0 : Int32)), .val (.int (0 : Int32)), .val (.int y0), .val (.int y1), .val (.int y2), .val (.ref ba), .unset, .unset, .unset] [(.int (3 : Int32)), (.int (0 : Int32))]))
      refine own_via (fun tq kq => XS.icmpYes X1.here hx rfl (pc0 := 74) (pc' := 83) rfl (hb hby at_74) rfl (tlt ((by decide) : (0 : Int32) < (3 : Int32))).1 (by decide) (by decide) kq) ?_
      show Ogo p e below _ (T1.setTop (mkF m 83 #[.val (.long q1), .second, .val (.int p2), .val (.int p3), .val (.int b0), .val (.int b1), .val (.int b2), .val (.int (0 : Int32)), .val (.int (0 : Int32)), .val (.int y0), .val (.int y1), .val (.int y2), .val (.ref ba), .unset, .unset, .unset] []))
      have A_ba := A_ba.cast (f' := own_f y0 y1 y2) (by intro j hj; rcases j with _ | _ | _ | j <;> first | omega | simp [own_f, hk0, hk1, hk2])
      obtain ⟨T2, h2, X2, e2, E2, A2, D2, -, st2⟩ := newO X1 hx hZ hown (hw _ (List.mem_of_getElem? (i := 1) rfl)) (hw _ (List.mem_of_getElem? (i := 2) rfl)) (hw _ (List.mem_of_getElem? (i := 3) rfl)) e1 (g := (mkF m 83 #[.val (.long q1), .second, .val (.int p2), .val (.int p3), .val (.int b0), .val (.int b1), .val (.int b2), .val (.int (0 : Int32)), .val (.int (0 : Int32)), .val (.int y0), .val (.int y1), .val (.int y2), .val (.ref ba), .unset, .unset, .unset] [])) rfl (hb hby at_83) (by decide) (by decide)
      refine own_via st2 ?_
      obtain ⟨bv, g2⟩ : ∃ z, z = h1.size := ⟨_, rfl⟩
      rw [← g2]
      rw [← g2] at A2 D2
      have lt_ba_bv : ba < bv := by rw [g2]; exact A_ba.lt
      have g_bv : n0 ≤ bv := by rw [g2]; exact zs
      have A_ba := A_ba.ext E2
      have E_ba := E_ba.ext E2
      have zs := Nat.le_trans zs E2.1
      have E_bv := A2
      have F_revision_bv : Fld Z h2 bv "com/example/keep_posted/keepposted/client/Value" "revision" "J" (.long (0 : Int64)) := D2 (Or.inr (hw _ (List.mem_of_getElem? (i := 11) rfl))) (ty := .long) (by decide)
      have F_bytes_bv : Fld Z h2 bv "com/example/keep_posted/keepposted/client/Value" "bytes" "[B" .null := D2 (Or.inr (hw _ (List.mem_of_getElem? (i := 13) rfl))) (ty := (.array .byte)) (by decide)
      show Ogo p e below _ (T2.setTop (mkF m 86 #[.val (.long q1), .second, .val (.int p2), .val (.int p3), .val (.int b0), .val (.int b1), .val (.int b2), .val (.int (0 : Int32)), .val (.int (0 : Int32)), .val (.int y0), .val (.int y1), .val (.int y2), .val (.ref ba), .unset, .unset, .unset] [(.ref bv)]))
      refine own_via (fun tq kq => XS.dup X2.here hx rfl (hb hby at_86) rfl rfl kq) ?_
      show Ogo p e below _ (T2.setTop (mkF m 87 #[.val (.long q1), .second, .val (.int p2), .val (.int p3), .val (.int b0), .val (.int b1), .val (.int b2), .val (.int (0 : Int32)), .val (.int (0 : Int32)), .val (.int y0), .val (.int y1), .val (.int y2), .val (.ref ba), .unset, .unset, .unset] [(.ref bv), (.ref bv)]))
      refine own_via (fun tq kq => XS.lloadN X2.here hx rfl (hb hby at_87) rfl kq) ?_
      show Ogo p e below _ (T2.setTop (mkF m 88 #[.val (.long q1), .second, .val (.int p2), .val (.int p3), .val (.int b0), .val (.int b1), .val (.int b2), .val (.int (0 : Int32)), .val (.int (0 : Int32)), .val (.int y0), .val (.int y1), .val (.int y2), .val (.ref ba), .unset, .unset, .unset] [(.long q1), (.ref bv), (.ref bv)]))
      refine own_via (fun tq kq => XS.aload X2.here hx rfl (hb hby at_88) rfl rfl kq) ?_
      show Ogo p e below _ (T2.setTop (mkF m 90 #[.val (.long q1), .second, .val (.int p2), .val (.int p3), .val (.int b0), .val (.int b1), .val (.int b2), .val (.int (0 : Int32)), .val (.int (0 : Int32)), .val (.int y0), .val (.int y1), .val (.int y2), .val (.ref ba), .unset, .unset, .unset] [(.ref ba), (.long q1), (.ref bv), (.ref bv)]))
      refine own_callI X2 hx hZ rfl hown (hw _ (List.mem_of_getElem? (i := 4) rfl)) (hw _ (List.mem_of_getElem? (i := 5) rfl)) (hw _ (List.mem_of_getElem? (i := 3) rfl)) (hw _ (List.mem_of_getElem? (i := 6) rfl)) (by decide) (rm_vi hw bv q1 ba h2 n0 E_bv F_revision_bv F_bytes_bv g_bv) rfl e2 (W := 1) (by decide) (by decide) (by decide) (by decide) (by rw [hml]; rfl) (a := bv) (argsL := [(.long q1), (.ref ba)]) (rest := [(.ref bv)]) (lenOf pd_0 rfl) rfl (Nat.le_of_eq rfl) (hb hby at_90) ?_
      rintro _ T3 L3 X3 ⟨rfl, Nq, Kc, F_bytes_bv⟩
      have N := N.app Nq
      have A_ba := A_ba.keep Kc (ninS (Nat.ne_of_lt lt_ba_bv) nin0)
      have E_ba := E_ba.keep Kc
      have E_bv := E_bv.keep Kc
      have zs := Nat.le_trans zs Kc.1
      show Ogo p e below _ (T3.setTop (mkF m 93 #[.val (.long q1), .second, .val (.int p2), .val (.int p3), .val (.int b0), .val (.int b1), .val (.int b2), .val (.int (0 : Int32)), .val (.int (0 : Int32)), .val (.int y0), .val (.int y1), .val (.int y2), .val (.ref ba), .unset, .unset, .unset] [(.ref bv)]))
      refine own_via (fun tq kq => XS.astore X3.here hx rfl (hb hby at_93) rfl rfl (l' := #[.val (.long q1), .second, .val (.int p2), .val (.int p3), .val (.int b0), .val (.int b1), .val (.int b2), .val (.int (0 : Int32)), .val (.int (0 : Int32)), .val (.int y0), .val (.int y1), .val (.int y2), .val (.ref ba), .val (.ref bv), .unset, .unset]) rfl kq) ?_
      show Ogo p e below _ (T3.setTop (mkF m 95 #[.val (.long q1), .second, .val (.int p2), .val (.int p3), .val (.int b0), .val (.int b1), .val (.int b2), .val (.int (0 : Int32)), .val (.int (0 : Int32)), .val (.int y0), .val (.int y1), .val (.int y2), .val (.ref ba), .val (.ref bv), .unset, .unset] []))
      refine own_via (fun tq kq => XS.aload X3.here hx rfl (hb hby at_95) rfl rfl kq) ?_
      show Ogo p e below _ (T3.setTop (mkF m 97 #[.val (.long q1), .second, .val (.int p2), .val (.int p3), .val (.int b0), .val (.int b1), .val (.int b2), .val (.int (0 : Int32)), .val (.int (0 : Int32)), .val (.int y0), .val (.int y1), .val (.int y2), .val (.ref ba), .val (.ref bv), .unset, .unset] [(.ref bv)]))
      refine own_callV X3 hx hZ hown (hw _ (List.mem_of_getElem? (i := 14) rfl)) (hw _ (List.mem_of_getElem? (i := 15) rfl)) (hw _ (List.mem_of_getElem? (i := 17) rfl)) (hw _ (List.mem_of_getElem? (i := 16) rfl)) (hw _ (List.mem_of_getElem? (i := 3) rfl)) (hw _ (List.mem_of_getElem? (i := 18) rfl)) (notFace_of_selects (args := #[]) (mvT hZ (hw _ (List.mem_of_getElem? (i := 17) rfl)))) (by decide) (rm_by hw bv ba 0 (own_f y0 y1 y2) T3.heap n0 F_bytes_bv A_ba E_ba (fun j _ => hft j) (by decide) zs) rfl rfl E_bv (W := 0) (by decide) (by decide) (by decide) (by decide) (by rw [hml]; rfl) (b := bv) (argsL := []) (rest := []) (lenOf pd_1 rfl) rfl (Nat.le_of_eq rfl) (hb hby at_97) ?_
      rintro _ T4 L4 X4 ⟨r1, rfl, Nq, Kc, hsz, A_r1, E_r1⟩
      have N := N.app Nq
      have lt_ba_r1 : ba < r1 := Nat.lt_of_lt_of_le E_ba.lt hsz
      have lt_bv_r1 : bv < r1 := Nat.lt_of_lt_of_le E_bv.lt hsz
      have g_r1 : n0 ≤ r1 := Nat.le_trans zs hsz
      have A_ba := A_ba.keep Kc nin0
      have E_ba := E_ba.keep Kc
      have E_bv := E_bv.keep Kc
      have F_bytes_bv := F_bytes_bv.keep Kc nin0
      have zs := Nat.le_trans zs Kc.1
      show Ogo p e below _ (T4.setTop (mkF m 100 #[.val (.long q1), .second, .val (.int p2), .val (.int p3), .val (.int b0), .val (.int b1), .val (.int b2), .val (.int (0 : Int32)), .val (.int (0 : Int32)), .val (.int y0), .val (.int y1), .val (.int y2), .val (.ref ba), .val (.ref bv), .unset, .unset] [(.ref r1)]))
      refine own_via (fun tq kq => XS.astore X4.here hx rfl (hb hby at_100) rfl rfl (l' := #[.val (.long q1), .second, .val (.int p2), .val (.int p3), .val (.int b0), .val (.int b1), .val (.int b2), .val (.int (0 : Int32)), .val (.int (0 : Int32)), .val (.int y0), .val (.int y1), .val (.int y2), .val (.ref ba), .val (.ref bv), .val (.ref r1), .unset]) rfl kq) ?_
      show Ogo p e below _ (T4.setTop (mkF m 102 #[.val (.long q1), .second, .val (.int p2), .val (.int p3), .val (.int b0), .val (.int b1), .val (.int b2), .val (.int (0 : Int32)), .val (.int (0 : Int32)), .val (.int y0), .val (.int y1), .val (.int y2), .val (.ref ba), .val (.ref bv), .val (.ref r1), .unset] []))
      refine own_via (fun tq kq => XS.iload X4.here hx rfl (hb hby at_102) rfl kq) ?_
      show Ogo p e below _ (T4.setTop (mkF m 104 #[.val (.long q1), .second, .val (.int p2), .val (.int p3), .val (.int b0), .val (.int b1), .val (.int b2), .val (.int (0 : Int32)), .val (.int (0 : Int32)), .val (.int y0), .val (.int y1), .val (.int y2), .val (.ref ba), .val (.ref bv), .val (.ref r1), .unset] [(.int (0 : Int32))]))
      refine own_via (fun tq kq => XS.ifYes X4.here hx rfl (pc0 := 104) (pc' := 130) rfl (hb hby at_104) rfl ((if0 _ _).trans (teq ((by decide) : (0 : Int32) = (0 : Int32))).1) (by decide) (by decide) kq) ?_
      show Ogo p e below _ (T4.setTop (mkF m 130 #[.val (.long q1), .second, .val (.int p2), .val (.int p3), .val (.int b0), .val (.int b1), .val (.int b2), .val (.int (0 : Int32)), .val (.int (0 : Int32)), .val (.int y0), .val (.int y1), .val (.int y2), .val (.ref ba), .val (.ref bv), .val (.ref r1), .unset] []))
      refine own_via (fun tq kq => XS.aload X4.here hx rfl (hb hby at_130) rfl rfl kq) ?_
      show Ogo p e below _ (T4.setTop (mkF m 132 #[.val (.long q1), .second, .val (.int p2), .val (.int p3), .val (.int b0), .val (.int b1), .val (.int b2), .val (.int (0 : Int32)), .val (.int (0 : Int32)), .val (.int y0), .val (.int y1), .val (.int y2), .val (.ref ba), .val (.ref bv), .val (.ref r1), .unset] [(.ref r1)]))
      refine own_via (fun tq kq => XS.ifnonnullYes X4.here hx rfl (pc0 := 132) (pc' := 137) rfl (hb hby at_132) rfl (by decide) (by decide) kq) ?_
      show Ogo p e below _ (T4.setTop (mkF m 137 #[.val (.long q1), .second, .val (.int p2), .val (.int p3), .val (.int b0), .val (.int b1), .val (.int b2), .val (.int (0 : Int32)), .val (.int (0 : Int32)), .val (.int y0), .val (.int y1), .val (.int y2), .val (.ref ba), .val (.ref bv), .val (.ref r1), .unset] []))
      refine own_via (fun tq kq => XS.aload X4.here hx rfl (hb hby at_137) rfl rfl kq) ?_
      show Ogo p e below _ (T4.setTop (mkF m 139 #[.val (.long q1), .second, .val (.int p2), .val (.int p3), .val (.int b0), .val (.int b1), .val (.int b2), .val (.int (0 : Int32)), .val (.int (0 : Int32)), .val (.int y0), .val (.int y1), .val (.int y2), .val (.ref ba), .val (.ref bv), .val (.ref r1), .unset] [(.ref r1)]))
      refine own_via (fun tq kq => XS.aload X4.here hx rfl (hb hby at_139) rfl rfl kq) ?_
      show Ogo p e below _ (T4.setTop (mkF m 141 #[.val (.long q1), .second, .val (.int p2), .val (.int p3), .val (.int b0), .val (.int b1), .val (.int b2), .val (.int (0 : Int32)), .val (.int (0 : Int32)), .val (.int y0), .val (.int y1), .val (.int y2), .val (.ref ba), .val (.ref bv), .val (.ref r1), .unset] [(.ref ba), (.ref r1)]))
      refine own_via (fun tq kq => Jvm.RoadKit.acmp (g := (mkF m 141 #[.val (.long q1), .second, .val (.int p2), .val (.int p3), .val (.int b0), .val (.int b1), .val (.int b2), .val (.int (0 : Int32)), .val (.int (0 : Int32)), .val (.int y0), .val (.int y1), .val (.int y2), .val (.ref ba), .val (.ref bv), .val (.ref r1), .unset] [(.ref ba), (.ref r1)])) X4 hx rfl rfl rfl (pc0 := 141) (pc' := 146) (same := false) rfl (hb hby at_141) rfl (decide_eq_false fun q => (Nat.ne_of_gt lt_ba_r1) (Value.ref.inj q)) (by decide) (by decide) kq) ?_
      show Ogo p e below _ (T4.setTop (mkF m 146 #[.val (.long q1), .second, .val (.int p2), .val (.int p3), .val (.int b0), .val (.int b1), .val (.int b2), .val (.int (0 : Int32)), .val (.int (0 : Int32)), .val (.int y0), .val (.int y1), .val (.int y2), .val (.ref ba), .val (.ref bv), .val (.ref r1), .unset] []))
      refine own_via (fun tq kq => XS.aload X4.here hx rfl (hb hby at_146) rfl rfl kq) ?_
      show Ogo p e below _ (T4.setTop (mkF m 148 #[.val (.long q1), .second, .val (.int p2), .val (.int p3), .val (.int b0), .val (.int b1), .val (.int b2), .val (.int (0 : Int32)), .val (.int (0 : Int32)), .val (.int y0), .val (.int y1), .val (.int y2), .val (.ref ba), .val (.ref bv), .val (.ref r1), .unset] [(.ref r1)]))
      refine own_via (fun tq kq => XS.iload X4.here hx rfl (hb hby at_148) rfl kq) ?_
      show Ogo p e below _ (T4.setTop (mkF m 150 #[.val (.long q1), .second, .val (.int p2), .val (.int p3), .val (.int b0), .val (.int b1), .val (.int b2), .val (.int (0 : Int32)), .val (.int (0 : Int32)), .val (.int y0), .val (.int y1), .val (.int y2), .val (.ref ba), .val (.ref bv), .val (.ref r1), .unset] [(.int (0 : Int32)), (.ref r1)]))
      refine own_via (fun tq kq => XS.iload X4.here hx rfl (hb hby at_150) rfl kq) ?_
      show Ogo p e below _ (T4.setTop (mkF m 152 #[.val (.long q1), .second, .val (.int p2), .val (.int p3), .val (.int b0), .val (.int b1), .val (.int b2), .val (.int (0 : Int32)), .val (.int (0 : Int32)), .val (.int y0), .val (.int y1), .val (.int y2), .val (.ref ba), .val (.ref bv), .val (.ref r1), .unset] [(.int y0), (.int (0 : Int32)), (.ref r1)]))
      refine own_via (fun tq kq => XS.iload X4.here hx rfl (hb hby at_152) rfl kq) ?_
      show Ogo p e below _ (T4.setTop (mkF m 154 #[.val (.long q1), .second, .val (.int p2), .val (.int p3), .val (.int b0), .val (.int b1), .val (.int b2), .val (.int (0 : Int32)), .val (.int (0 : Int32)), .val (.int y0), .val (.int y1), .val (.int y2), .val (.ref ba), .val (.ref bv), .val (.ref r1), .unset] [(.int y1), (.int y0), (.int (0 : Int32)), (.ref r1)]))
      refine own_via (fun tq kq => XS.iload X4.here hx rfl (hb hby at_154) rfl kq) ?_
      show Ogo p e below _ (T4.setTop (mkF m 156 #[.val (.long q1), .second, .val (.int p2), .val (.int p3), .val (.int b0), .val (.int b1), .val (.int b2), .val (.int (0 : Int32)), .val (.int (0 : Int32)), .val (.int y0), .val (.int y1), .val (.int y2), .val (.ref ba), .val (.ref bv), .val (.ref r1), .unset] [(.int y2), (.int y1), (.int y0), (.int (0 : Int32)), (.ref r1)]))
      refine own_callS X4 hx hZ hown (hw _ (List.mem_of_getElem? (i := 28) rfl)) (hw _ (List.mem_of_getElem? (i := 29) rfl)) (hw _ (List.mem_of_getElem? (i := 30) rfl)) (hw _ (List.mem_of_getElem? (i := 31) rfl)) (by decide) (rm_sm hw r1 (0 : Int32) y0 y1 y2 0 _ T4.heap n0 A_r1 rfl (fun _ => rfl) (fun _ => rfl) (fun _ => rfl)) rfl rfl (W := 0) (by decide) (by decide) (by decide) (by decide) (by rw [hml]; rfl) (argsL := [(.ref r1), (.int (0 : Int32)), (.int y0), (.int y1), (.int y2)]) (rest := []) (lenOf pd_2 rfl) rfl (Nat.le_of_eq rfl) (hb hby at_156) ?_
      rintro _ T5 L5 X5 ⟨rfl, Nq, hk⟩
      have N := N.app Nq
      have hk5 := hk
      show Ogo p e below _ (T5.setTop (mkF m 159 #[.val (.long q1), .second, .val (.int p2), .val (.int p3), .val (.int b0), .val (.int b1), .val (.int b2), .val (.int (0 : Int32)), .val (.int (0 : Int32)), .val (.int y0), .val (.int y1), .val (.int y2), .val (.ref ba), .val (.ref bv), .val (.ref r1), .unset] [(.int (1 : Int32))]))
      refine own_via (fun tq kq => XS.ifYes X5.here hx rfl (pc0 := 159) (pc' := 164) rfl (hb hby at_159) rfl ((if0 _ _).trans (feq ((by decide) : ¬ ((1 : Int32) = (0 : Int32)))).2) (by decide) (by decide) kq) ?_
      show Ogo p e below _ (T5.setTop (mkF m 164 #[.val (.long q1), .second, .val (.int p2), .val (.int p3), .val (.int b0), .val (.int b1), .val (.int b2), .val (.int (0 : Int32)), .val (.int (0 : Int32)), .val (.int y0), .val (.int y1), .val (.int y2), .val (.ref ba), .val (.ref bv), .val (.ref r1), .unset] []))
      refine own_via (fun tq kq => XS.iload X5.here hx rfl (hb hby at_164) rfl kq) ?_
      show Ogo p e below _ (T5.setTop (mkF m 166 #[.val (.long q1), .second, .val (.int p2), .val (.int p3), .val (.int b0), .val (.int b1), .val (.int b2), .val (.int (0 : Int32)), .val (.int (0 : Int32)), .val (.int y0), .val (.int y1), .val (.int y2), .val (.ref ba), .val (.ref bv), .val (.ref r1), .unset] [(.int (0 : Int32))]))
      refine own_via (fun tq kq => XS.iconst X5.here hx rfl (hb hby at_166) kq) ?_
      show Ogo p e below _ (T5.setTop (mkF m 167 #[.val (.long q1), .second, .val (.int p2), .val (.int p3), .val (.int b0), .val (.int b1), .val (.int b2), .val (.int (0 : Int32)), .val (.int (0 : Int32)), .val (.int y0), .val (.int y1), .val (.int y2), .val (.ref ba), .val (.ref bv), .val (.ref r1), .unset] [(.int (1 : Int32)), (.int (0 : Int32))]))
      refine own_via (fun tq kq => XS.icmpYes X5.here hx rfl (pc0 := 167) (pc' := 181) rfl (hb hby at_167) rfl (tlt ((by decide) : (0 : Int32) < (1 : Int32))).1 (by decide) (by decide) kq) ?_
      show Ogo p e below _ (T5.setTop (mkF m 181 #[.val (.long q1), .second, .val (.int p2), .val (.int p3), .val (.int b0), .val (.int b1), .val (.int b2), .val (.int (0 : Int32)), .val (.int (0 : Int32)), .val (.int y0), .val (.int y1), .val (.int y2), .val (.ref ba), .val (.ref bv), .val (.ref r1), .unset] []))
      refine own_via (fun tq kq => XS.aload X5.here hx rfl (hb hby at_181) rfl rfl kq) ?_
      show Ogo p e below _ (T5.setTop (mkF m 183 #[.val (.long q1), .second, .val (.int p2), .val (.int p3), .val (.int b0), .val (.int b1), .val (.int b2), .val (.int (0 : Int32)), .val (.int (0 : Int32)), .val (.int y0), .val (.int y1), .val (.int y2), .val (.ref ba), .val (.ref bv), .val (.ref r1), .unset] [(.ref bv)]))
      refine own_callV X5 hx hZ hown (hw _ (List.mem_of_getElem? (i := 14) rfl)) (hw _ (List.mem_of_getElem? (i := 15) rfl)) (hw _ (List.mem_of_getElem? (i := 17) rfl)) (hw _ (List.mem_of_getElem? (i := 16) rfl)) (hw _ (List.mem_of_getElem? (i := 3) rfl)) (hw _ (List.mem_of_getElem? (i := 18) rfl)) (notFace_of_selects (args := #[]) (mvT hZ (hw _ (List.mem_of_getElem? (i := 17) rfl)))) (by decide) (rm_by hw bv ba 0 (own_f y0 y1 y2) T4.heap n0 F_bytes_bv A_ba E_ba (fun j _ => hft j) (by decide) zs) rfl hk5 E_bv (W := 0) (by decide) (by decide) (by decide) (by decide) (by rw [hml]; rfl) (b := bv) (argsL := []) (rest := []) (lenOf pd_1 rfl) rfl (Nat.le_of_eq rfl) (hb hby at_183) ?_
      rintro _ T6 L6 X6 ⟨r2, rfl, Nq, Kc, hsz, A_r2, E_r2⟩
      have N := N.app Nq
      have lt_ba_r2 : ba < r2 := Nat.lt_of_lt_of_le E_ba.lt hsz
      have lt_bv_r2 : bv < r2 := Nat.lt_of_lt_of_le E_bv.lt hsz
      have lt_r1_r2 : r1 < r2 := Nat.lt_of_lt_of_le E_r1.lt hsz
      have g_r2 : n0 ≤ r2 := Nat.le_trans zs hsz
      have A_ba := A_ba.keep Kc nin0
      have E_ba := E_ba.keep Kc
      have E_bv := E_bv.keep Kc
      have F_bytes_bv := F_bytes_bv.keep Kc nin0
      have A_r1 := A_r1.keep Kc nin0
      have E_r1 := E_r1.keep Kc
      have zs := Nat.le_trans zs Kc.1
      show Ogo p e below _ (T6.setTop (mkF m 186 #[.val (.long q1), .second, .val (.int p2), .val (.int p3), .val (.int b0), .val (.int b1), .val (.int b2), .val (.int (0 : Int32)), .val (.int (0 : Int32)), .val (.int y0), .val (.int y1), .val (.int y2), .val (.ref ba), .val (.ref bv), .val (.ref r1), .unset] [(.ref r2)]))
      refine own_via (fun tq kq => XS.astore X6.here hx rfl (hb hby at_186) rfl rfl (l' := #[.val (.long q1), .second, .val (.int p2), .val (.int p3), .val (.int b0), .val (.int b1), .val (.int b2), .val (.int (0 : Int32)), .val (.int (0 : Int32)), .val (.int y0), .val (.int y1), .val (.int y2), .val (.ref ba), .val (.ref bv), .val (.ref r1), .val (.ref r2)]) rfl kq) ?_
      show Ogo p e below _ (T6.setTop (mkF m 188 #[.val (.long q1), .second, .val (.int p2), .val (.int p3), .val (.int b0), .val (.int b1), .val (.int b2), .val (.int (0 : Int32)), .val (.int (0 : Int32)), .val (.int y0), .val (.int y1), .val (.int y2), .val (.ref ba), .val (.ref bv), .val (.ref r1), .val (.ref r2)] []))
      refine own_via (fun tq kq => XS.aload X6.here hx rfl (hb hby at_188) rfl rfl kq) ?_
      show Ogo p e below _ (T6.setTop (mkF m 190 #[.val (.long q1), .second, .val (.int p2), .val (.int p3), .val (.int b0), .val (.int b1), .val (.int b2), .val (.int (0 : Int32)), .val (.int (0 : Int32)), .val (.int y0), .val (.int y1), .val (.int y2), .val (.ref ba), .val (.ref bv), .val (.ref r1), .val (.ref r2)] [(.ref r2)]))
      refine own_via (fun tq kq => XS.ifnonnullYes X6.here hx rfl (pc0 := 190) (pc' := 195) rfl (hb hby at_190) rfl (by decide) (by decide) kq) ?_
      show Ogo p e below _ (T6.setTop (mkF m 195 #[.val (.long q1), .second, .val (.int p2), .val (.int p3), .val (.int b0), .val (.int b1), .val (.int b2), .val (.int (0 : Int32)), .val (.int (0 : Int32)), .val (.int y0), .val (.int y1), .val (.int y2), .val (.ref ba), .val (.ref bv), .val (.ref r1), .val (.ref r2)] []))
      refine own_via (fun tq kq => XS.aload X6.here hx rfl (hb hby at_195) rfl rfl kq) ?_
      show Ogo p e below _ (T6.setTop (mkF m 197 #[.val (.long q1), .second, .val (.int p2), .val (.int p3), .val (.int b0), .val (.int b1), .val (.int b2), .val (.int (0 : Int32)), .val (.int (0 : Int32)), .val (.int y0), .val (.int y1), .val (.int y2), .val (.ref ba), .val (.ref bv), .val (.ref r1), .val (.ref r2)] [(.ref r2)]))
      refine own_via (fun tq kq => XS.aload X6.here hx rfl (hb hby at_197) rfl rfl kq) ?_
      show Ogo p e below _ (T6.setTop (mkF m 199 #[.val (.long q1), .second, .val (.int p2), .val (.int p3), .val (.int b0), .val (.int b1), .val (.int b2), .val (.int (0 : Int32)), .val (.int (0 : Int32)), .val (.int y0), .val (.int y1), .val (.int y2), .val (.ref ba), .val (.ref bv), .val (.ref r1), .val (.ref r2)] [(.ref ba), (.ref r2)]))
      refine own_via (fun tq kq => Jvm.RoadKit.acmp (g := (mkF m 199 #[.val (.long q1), .second, .val (.int p2), .val (.int p3), .val (.int b0), .val (.int b1), .val (.int b2), .val (.int (0 : Int32)), .val (.int (0 : Int32)), .val (.int y0), .val (.int y1), .val (.int y2), .val (.ref ba), .val (.ref bv), .val (.ref r1), .val (.ref r2)] [(.ref ba), (.ref r2)])) X6 hx rfl rfl rfl (pc0 := 199) (pc' := 202) (same := false) rfl (hb hby at_199) rfl (decide_eq_false fun q => (Nat.ne_of_gt lt_ba_r2) (Value.ref.inj q)) (by decide) (by decide) kq) ?_
      show Ogo p e below _ (T6.setTop (mkF m 202 #[.val (.long q1), .second, .val (.int p2), .val (.int p3), .val (.int b0), .val (.int b1), .val (.int b2), .val (.int (0 : Int32)), .val (.int (0 : Int32)), .val (.int y0), .val (.int y1), .val (.int y2), .val (.ref ba), .val (.ref bv), .val (.ref r1), .val (.ref r2)] []))
      refine own_via (fun tq kq => XS.aload X6.here hx rfl (hb hby at_202) rfl rfl kq) ?_
      show Ogo p e below _ (T6.setTop (mkF m 204 #[.val (.long q1), .second, .val (.int p2), .val (.int p3), .val (.int b0), .val (.int b1), .val (.int b2), .val (.int (0 : Int32)), .val (.int (0 : Int32)), .val (.int y0), .val (.int y1), .val (.int y2), .val (.ref ba), .val (.ref bv), .val (.ref r1), .val (.ref r2)] [(.ref r2)]))
      refine own_via (fun tq kq => XS.aload X6.here hx rfl (hb hby at_204) rfl rfl kq) ?_
      show Ogo p e below _ (T6.setTop (mkF m 206 #[.val (.long q1), .second, .val (.int p2), .val (.int p3), .val (.int b0), .val (.int b1), .val (.int b2), .val (.int (0 : Int32)), .val (.int (0 : Int32)), .val (.int y0), .val (.int y1), .val (.int y2), .val (.ref ba), .val (.ref bv), .val (.ref r1), .val (.ref r2)] [(.ref r1), (.ref r2)]))
      refine own_via (fun tq kq => Jvm.RoadKit.acmp (g := (mkF m 206 #[.val (.long q1), .second, .val (.int p2), .val (.int p3), .val (.int b0), .val (.int b1), .val (.int b2), .val (.int (0 : Int32)), .val (.int (0 : Int32)), .val (.int y0), .val (.int y1), .val (.int y2), .val (.ref ba), .val (.ref bv), .val (.ref r1), .val (.ref r2)] [(.ref r1), (.ref r2)])) X6 hx rfl rfl rfl (pc0 := 206) (pc' := 211) (same := false) rfl (hb hby at_206) rfl (decide_eq_false fun q => (Nat.ne_of_gt lt_r1_r2) (Value.ref.inj q)) (by decide) (by decide) kq) ?_
      show Ogo p e below _ (T6.setTop (mkF m 211 #[.val (.long q1), .second, .val (.int p2), .val (.int p3), .val (.int b0), .val (.int b1), .val (.int b2), .val (.int (0 : Int32)), .val (.int (0 : Int32)), .val (.int y0), .val (.int y1), .val (.int y2), .val (.ref ba), .val (.ref bv), .val (.ref r1), .val (.ref r2)] []))
      refine own_via (fun tq kq => XS.aload X6.here hx rfl (hb hby at_211) rfl rfl kq) ?_
      show Ogo p e below _ (T6.setTop (mkF m 213 #[.val (.long q1), .second, .val (.int p2), .val (.int p3), .val (.int b0), .val (.int b1), .val (.int b2), .val (.int (0 : Int32)), .val (.int (0 : Int32)), .val (.int y0), .val (.int y1), .val (.int y2), .val (.ref ba), .val (.ref bv), .val (.ref r1), .val (.ref r2)] [(.ref r2)]))
      refine own_via (fun tq kq => XS.iload X6.here hx rfl (hb hby at_213) rfl kq) ?_
      show Ogo p e below _ (T6.setTop (mkF m 215 #[.val (.long q1), .second, .val (.int p2), .val (.int p3), .val (.int b0), .val (.int b1), .val (.int b2), .val (.int (0 : Int32)), .val (.int (0 : Int32)), .val (.int y0), .val (.int y1), .val (.int y2), .val (.ref ba), .val (.ref bv), .val (.ref r1), .val (.ref r2)] [(.int (0 : Int32)), (.ref r2)]))
      refine own_via (fun tq kq => XS.iload X6.here hx rfl (hb hby at_215) rfl kq) ?_
      show Ogo p e below _ (T6.setTop (mkF m 217 #[.val (.long q1), .second, .val (.int p2), .val (.int p3), .val (.int b0), .val (.int b1), .val (.int b2), .val (.int (0 : Int32)), .val (.int (0 : Int32)), .val (.int y0), .val (.int y1), .val (.int y2), .val (.ref ba), .val (.ref bv), .val (.ref r1), .val (.ref r2)] [(.int y0), (.int (0 : Int32)), (.ref r2)]))
      refine own_via (fun tq kq => XS.iload X6.here hx rfl (hb hby at_217) rfl kq) ?_
      show Ogo p e below _ (T6.setTop (mkF m 219 #[.val (.long q1), .second, .val (.int p2), .val (.int p3), .val (.int b0), .val (.int b1), .val (.int b2), .val (.int (0 : Int32)), .val (.int (0 : Int32)), .val (.int y0), .val (.int y1), .val (.int y2), .val (.ref ba), .val (.ref bv), .val (.ref r1), .val (.ref r2)] [(.int y1), (.int y0), (.int (0 : Int32)), (.ref r2)]))
      refine own_via (fun tq kq => XS.iload X6.here hx rfl (hb hby at_219) rfl kq) ?_
      show Ogo p e below _ (T6.setTop (mkF m 221 #[.val (.long q1), .second, .val (.int p2), .val (.int p3), .val (.int b0), .val (.int b1), .val (.int b2), .val (.int (0 : Int32)), .val (.int (0 : Int32)), .val (.int y0), .val (.int y1), .val (.int y2), .val (.ref ba), .val (.ref bv), .val (.ref r1), .val (.ref r2)] [(.int y2), (.int y1), (.int y0), (.int (0 : Int32)), (.ref r2)]))
      refine own_callS X6 hx hZ hown (hw _ (List.mem_of_getElem? (i := 28) rfl)) (hw _ (List.mem_of_getElem? (i := 29) rfl)) (hw _ (List.mem_of_getElem? (i := 30) rfl)) (hw _ (List.mem_of_getElem? (i := 31) rfl)) (by decide) (rm_sm hw r2 (0 : Int32) y0 y1 y2 0 _ T6.heap n0 A_r2 rfl (fun _ => rfl) (fun _ => rfl) (fun _ => rfl)) rfl rfl (W := 0) (by decide) (by decide) (by decide) (by decide) (by rw [hml]; rfl) (argsL := [(.ref r2), (.int (0 : Int32)), (.int y0), (.int y1), (.int y2)]) (rest := []) (lenOf pd_2 rfl) rfl (Nat.le_of_eq rfl) (hb hby at_221) ?_
      rintro _ T7 L7 X7 ⟨rfl, Nq, hk⟩
      have N := N.app Nq
      have hk7 := hk
      show Ogo p e below _ (T7.setTop (mkF m 224 #[.val (.long q1), .second, .val (.int p2), .val (.int p3), .val (.int b0), .val (.int b1), .val (.int b2), .val (.int (0 : Int32)), .val (.int (0 : Int32)), .val (.int y0), .val (.int y1), .val (.int y2), .val (.ref ba), .val (.ref bv), .val (.ref r1), .val (.ref r2)] [(.int (1 : Int32))]))
      refine own_via (fun tq kq => XS.ifYes X7.here hx rfl (pc0 := 224) (pc' := 229) rfl (hb hby at_224) rfl ((if0 _ _).trans (feq ((by decide) : ¬ ((1 : Int32) = (0 : Int32)))).2) (by decide) (by decide) kq) ?_
      show Ogo p e below _ (T7.setTop (mkF m 229 #[.val (.long q1), .second, .val (.int p2), .val (.int p3), .val (.int b0), .val (.int b1), .val (.int b2), .val (.int (0 : Int32)), .val (.int (0 : Int32)), .val (.int y0), .val (.int y1), .val (.int y2), .val (.ref ba), .val (.ref bv), .val (.ref r1), .val (.ref r2)] []))
      refine own_via (fun tq kq => XS.aload X7.here hx rfl (hb hby at_229) rfl rfl kq) ?_
      show Ogo p e below _ (T7.setTop (mkF m 231 #[.val (.long q1), .second, .val (.int p2), .val (.int p3), .val (.int b0), .val (.int b1), .val (.int b2), .val (.int (0 : Int32)), .val (.int (0 : Int32)), .val (.int y0), .val (.int y1), .val (.int y2), .val (.ref ba), .val (.ref bv), .val (.ref r1), .val (.ref r2)] [(.ref ba)]))
      refine own_via (fun tq kq => XS.iload X7.here hx rfl (hb hby at_231) rfl kq) ?_
      show Ogo p e below _ (T7.setTop (mkF m 233 #[.val (.long q1), .second, .val (.int p2), .val (.int p3), .val (.int b0), .val (.int b1), .val (.int b2), .val (.int (0 : Int32)), .val (.int (0 : Int32)), .val (.int y0), .val (.int y1), .val (.int y2), .val (.ref ba), .val (.ref bv), .val (.ref r1), .val (.ref r2)] [(.int (0 : Int32)), (.ref ba)]))
      refine own_via (fun tq kq => XS.iload X7.here hx rfl (hb hby at_233) rfl kq) ?_
      show Ogo p e below _ (T7.setTop (mkF m 235 #[.val (.long q1), .second, .val (.int p2), .val (.int p3), .val (.int b0), .val (.int b1), .val (.int b2), .val (.int (0 : Int32)), .val (.int (0 : Int32)), .val (.int y0), .val (.int y1), .val (.int y2), .val (.ref ba), .val (.ref bv), .val (.ref r1), .val (.ref r2)] [(.int y0), (.int (0 : Int32)), (.ref ba)]))
      refine own_via (fun tq kq => XS.iload X7.here hx rfl (hb hby at_235) rfl kq) ?_
      show Ogo p e below _ (T7.setTop (mkF m 237 #[.val (.long q1), .second, .val (.int p2), .val (.int p3), .val (.int b0), .val (.int b1), .val (.int b2), .val (.int (0 : Int32)), .val (.int (0 : Int32)), .val (.int y0), .val (.int y1), .val (.int y2), .val (.ref ba), .val (.ref bv), .val (.ref r1), .val (.ref r2)] [(.int y1), (.int y0), (.int (0 : Int32)), (.ref ba)]))
      refine own_via (fun tq kq => XS.iload X7.here hx rfl (hb hby at_237) rfl kq) ?_
      show Ogo p e below _ (T7.setTop (mkF m 239 #[.val (.long q1), .second, .val (.int p2), .val (.int p3), .val (.int b0), .val (.int b1), .val (.int b2), .val (.int (0 : Int32)), .val (.int (0 : Int32)), .val (.int y0), .val (.int y1), .val (.int y2), .val (.ref ba), .val (.ref bv), .val (.ref r1), .val (.ref r2)] [(.int y2), (.int y1), (.int y0), (.int (0 : Int32)), (.ref ba)]))
      refine own_callS X7 hx hZ hown (hw _ (List.mem_of_getElem? (i := 28) rfl)) (hw _ (List.mem_of_getElem? (i := 29) rfl)) (hw _ (List.mem_of_getElem? (i := 30) rfl)) (hw _ (List.mem_of_getElem? (i := 31) rfl)) (by decide) (rm_sm hw ba (0 : Int32) y0 y1 y2 0 _ T6.heap n0 A_ba rfl (fun _ => rfl) (fun _ => rfl) (fun _ => rfl)) rfl hk7 (W := 0) (by decide) (by decide) (by decide) (by decide) (by rw [hml]; rfl) (argsL := [(.ref ba), (.int (0 : Int32)), (.int y0), (.int y1), (.int y2)]) (rest := []) (lenOf pd_2 rfl) rfl (Nat.le_of_eq rfl) (hb hby at_239) ?_
      rintro _ T8 L8 X8 ⟨rfl, Nq, hk⟩
      have N := N.app Nq
      have hk8 := hk
      show Ogo p e below _ (T8.setTop (mkF m 242 #[.val (.long q1), .second, .val (.int p2), .val (.int p3), .val (.int b0), .val (.int b1), .val (.int b2), .val (.int (0 : Int32)), .val (.int (0 : Int32)), .val (.int y0), .val (.int y1), .val (.int y2), .val (.ref ba), .val (.ref bv), .val (.ref r1), .val (.ref r2)] [(.int (1 : Int32))]))
      exact own_out X8 hlk (fun h => by rw [hret] at h; cases h) (by decide) (by decide) (by first | exact ⟨rfl, N⟩ | (rw [hk8]; exact ⟨rfl, N⟩)) (fun fs hr => retN X8 hx (t := .boolean) hret (by simp) (hb hby at_242) hr)
    · show Ogo p e below _ (s₁.setTop (mkF m 33 #[.val (.long q1), .second, .val (.int p2), .val (.int p3), .val (.int b0), .val (.int b1), .val (.int b2), .val (.int (0 : Int32)), .val (.int (1 : Int32)), .val (.int y0), .val (.int y1), .val (.int y2), .unset, .unset, .unset, .unset] []))
      refine own_via (fun tq kq => XS.aconstNull X0.here hx rfl (hb hby at_33) kq) ?_
      show Ogo p e below _ (s₁.setTop (mkF m 34 #[.val (.long q1), .second, .val (.int p2), .val (.int p3), .val (.int b0), .val (.int b1), .val (.int b2), .val (.int (0 : Int32)), .val (.int (1 : Int32)), .val (.int y0), .val (.int y1), .val (.int y2), .unset, .unset, .unset, .unset] [.null]))
      refine own_via (fun tq kq => XS.astore X0.here hx rfl (hb hby at_34) rfl rfl (l' := #[.val (.long q1), .second, .val (.int p2), .val (.int p3), .val (.int b0), .val (.int b1), .val (.int b2), .val (.int (0 : Int32)), .val (.int (1 : Int32)), .val (.int y0), .val (.int y1), .val (.int y2), .val .null, .unset, .unset, .unset]) rfl kq) ?_
      show Ogo p e below _ (s₁.setTop (mkF m 36 #[.val (.long q1), .second, .val (.int p2), .val (.int p3), .val (.int b0), .val (.int b1), .val (.int b2), .val (.int (0 : Int32)), .val (.int (1 : Int32)), .val (.int y0), .val (.int y1), .val (.int y2), .val .null, .unset, .unset, .unset] []))
      refine own_via (fun tq kq => XS.iload X0.here hx rfl (hb hby at_36) rfl kq) ?_
      show Ogo p e below _ (s₁.setTop (mkF m 38 #[.val (.long q1), .second, .val (.int p2), .val (.int p3), .val (.int b0), .val (.int b1), .val (.int b2), .val (.int (0 : Int32)), .val (.int (1 : Int32)), .val (.int y0), .val (.int y1), .val (.int y2), .val .null, .unset, .unset, .unset] [(.int (0 : Int32))]))
      refine own_via (fun tq kq => XS.ifNo X0.here hx rfl (hb hby at_38) rfl ((if0 _ _).trans (teq ((by decide) : (0 : Int32) = (0 : Int32))).2) kq) ?_
      show Ogo p e below _ (s₁.setTop (mkF m 41 #[.val (.long q1), .second, .val (.int p2), .val (.int p3), .val (.int b0), .val (.int b1), .val (.int b2), .val (.int (0 : Int32)), .val (.int (1 : Int32)), .val (.int y0), .val (.int y1), .val (.int y2), .val .null, .unset, .unset, .unset] []))
      refine own_via (fun tq kq => XS.iload X0.here hx rfl (hb hby at_41) rfl kq) ?_
      show Ogo p e below _ (s₁.setTop (mkF m 43 #[.val (.long q1), .second, .val (.int p2), .val (.int p3), .val (.int b0), .val (.int b1), .val (.int b2), .val (.int (0 : Int32)), .val (.int (1 : Int32)), .val (.int y0), .val (.int y1), .val (.int y2), .val .null, .unset, .unset, .unset] [(.int (1 : Int32))]))
      obtain ⟨T9, h9, k9, X9, e9, E9, A9, Ea9, st9⟩ := newPE X0 hx hZ (hw _ (List.mem_of_getElem? (i := 0) rfl)) e0 (g := (mkF m 43 #[.val (.long q1), .second, .val (.int p2), .val (.int p3), .val (.int b0), .val (.int b1), .val (.int b2), .val (.int (0 : Int32)), .val (.int (1 : Int32)), .val (.int y0), .val (.int y1), .val (.int y2), .val .null, .unset, .unset, .unset] [(.int (1 : Int32))])) rfl (hb hby at_43) rfl (by decide) (cap := 1) (by decide) (by decide) (by decide) (by decide) (ad := "[B") (by decide)
      refine own_via st9 ?_
      obtain ⟨ba, g9⟩ : ∃ z, z = h0.size := ⟨_, rfl⟩
      rw [← g9]
      rw [← g9] at A9 Ea9
      have g_ba : n0 ≤ ba := by rw [g9]; exact zs
      have zs := Nat.le_trans zs E9.1
      have A_ba : Oar Z h9 ba .byte 1 (fun _ => defaultValue .byte) := Oar.new A9 (by decide) rfl
      have E_ba := Ea9
      show Ogo p e below _ (T9.setTop (mkF m 45 #[.val (.long q1), .second, .val (.int p2), .val (.int p3), .val (.int b0), .val (.int b1), .val (.int b2), .val (.int (0 : Int32)), .val (.int (1 : Int32)), .val (.int y0), .val (.int y1), .val (.int y2), .val .null, .unset, .unset, .unset] [(.ref ba)]))
      refine own_via (fun tq kq => XS.astore X9.here hx rfl (hb hby at_45) rfl rfl (l' := #[.val (.long q1), .second, .val (.int p2), .val (.int p3), .val (.int b0), .val (.int b1), .val (.int b2), .val (.int (0 : Int32)), .val (.int (1 : Int32)), .val (.int y0), .val (.int y1), .val (.int y2), .val (.ref ba), .unset, .unset, .unset]) rfl kq) ?_
      show Ogo p e below _ (T9.setTop (mkF m 47 #[.val (.long q1), .second, .val (.int p2), .val (.int p3), .val (.int b0), .val (.int b1), .val (.int b2), .val (.int (0 : Int32)), .val (.int (1 : Int32)), .val (.int y0), .val (.int y1), .val (.int y2), .val (.ref ba), .unset, .unset, .unset] []))
      refine own_via (fun tq kq => XS.iload X9.here hx rfl (hb hby at_47) rfl kq) ?_
      show Ogo p e below _ (T9.setTop (mkF m 49 #[.val (.long q1), .second, .val (.int p2), .val (.int p3), .val (.int b0), .val (.int b1), .val (.int b2), .val (.int (0 : Int32)), .val (.int (1 : Int32)), .val (.int y0), .val (.int y1), .val (.int y2), .val (.ref ba), .unset, .unset, .unset] [(.int (1 : Int32))]))
      refine own_via (fun tq kq => XS.iconst X9.here hx rfl (hb hby at_49) kq) ?_
      show Ogo p e below _ (T9.setTop (mkF m 50 #[.val (.long q1), .second, .val (.int p2), .val (.int p3), .val (.int b0), .val (.int b1), .val (.int b2), .val (.int (0 : Int32)), .val (.int (1 : Int32)), .val (.int y0), .val (.int y1), .val (.int y2), .val (.ref ba), .unset, .unset, .unset] [(.int (1 : Int32)), (.int (1 : Int32))]))
      refine own_via (fun tq kq => XS.icmpNo X9.here hx rfl (hb hby at_50) rfl (flt ((by decide) : ¬ ((1 : Int32) < (1 : Int32)))).1 kq) ?_
      show Ogo p e below _ (T9.setTop (mkF m 53 #[.val (.long q1), .second, .val (.int p2), .val (.int p3), .val (.int b0), .val (.int b1), .val (.int b2), .val (.int (0 : Int32)), .val (.int (1 : Int32)), .val (.int y0), .val (.int y1), .val (.int y2), .val (.ref ba), .unset, .unset, .unset] []))
      refine own_via (fun tq kq => XS.aload X9.here hx rfl (hb hby at_53) rfl rfl kq) ?_
      show Ogo p e below _ (T9.setTop (mkF m 55 #[.val (.long q1), .second, .val (.int p2), .val (.int p3), .val (.int b0), .val (.int b1), .val (.int b2), .val (.int (0 : Int32)), .val (.int (1 : Int32)), .val (.int y0), .val (.int y1), .val (.int y2), .val (.ref ba), .unset, .unset, .unset] [(.ref ba)]))
      refine own_via (fun tq kq => XS.iconst X9.here hx rfl (hb hby at_55) kq) ?_
      show Ogo p e below _ (T9.setTop (mkF m 56 #[.val (.long q1), .second, .val (.int p2), .val (.int p3), .val (.int b0), .val (.int b1), .val (.int b2), .val (.int (0 : Int32)), .val (.int (1 : Int32)), .val (.int y0), .val (.int y1), .val (.int y2), .val (.ref ba), .unset, .unset, .unset] [(.int (0 : Int32)), (.ref ba)]))
      refine own_via (fun tq kq => XS.iload X9.here hx rfl (hb hby at_56) rfl kq) ?_
      show Ogo p e below _ (T9.setTop (mkF m 58 #[.val (.long q1), .second, .val (.int p2), .val (.int p3), .val (.int b0), .val (.int b1), .val (.int b2), .val (.int (0 : Int32)), .val (.int (1 : Int32)), .val (.int y0), .val (.int y1), .val (.int y2), .val (.ref ba), .unset, .unset, .unset] [(.int y0), (.int (0 : Int32)), (.ref ba)]))
      obtain ⟨T10, h10, X10, e10, W10, A_ba', st10⟩ := own_bast X9 hx hZ e9 A_ba (x := y0) (j := (0 : Int32)) (i := 0) (by decide) (by decide) (pc := 58) (Ls := #[.val (.long q1), .second, .val (.int p2), .val (.int p3), .val (.int b0), .val (.int b1), .val (.int b2), .val (.int (0 : Int32)), .val (.int (1 : Int32)), .val (.int y0), .val (.int y1), .val (.int y2), .val (.ref ba), .unset, .unset, .unset]) (rest := []) (hb hby at_58)
      refine own_via st10 ?_
      have E_ba := E_ba.wr W10
      have zs := Nat.le_trans zs (Keep.of_wr W10).1
      have N := Fr.snoc X10 N g_ba
      have A_ba := A_ba'
      show Ogo p e below _ (T10.setTop (mkF m 59 #[.val (.long q1), .second, .val (.int p2), .val (.int p3), .val (.int b0), .val (.int b1), .val (.int b2), .val (.int (0 : Int32)), .val (.int (1 : Int32)), .val (.int y0), .val (.int y1), .val (.int y2), .val (.ref ba), .unset, .unset, .unset] []))
      refine own_via (fun tq kq => XS.iload X10.here hx rfl (hb hby at_59) rfl kq) ?_
      show Ogo p e below _ (T10.setTop (mkF m 61 #[.val (.long q1), .second, .val (.int p2), .val (.int p3), .val (.int b0), .val (.int b1), .val (.int b2), .val (.int (0 : Int32)), .val (.int (1 : Int32)), .val (.int y0), .val (.int y1), .val (.int y2), .val (.ref ba), .unset, .unset, .unset] [(.int (1 : Int32))]))
      refine own_via (fun tq kq => XS.iconst X10.here hx rfl (hb hby at_61) kq) ?_
      show Ogo p e below _ (T10.setTop (mkF m 62 #[.val (.long q1), .second, .val (.int p2), .val (.int p3), .val (.int b0), .val (.int b1), .val (.int b2), .val (.int (0 : Int32)), .val (.int (1 : Int32)), .val (.int y0), .val (.int y1), .val (.int y2), .val (.ref ba), .unset, .unset, .unset] [(.int (2 : Int32)), (.int (1 : Int32))]))
      refine own_via (fun tq kq => XS.icmpYes X10.here hx rfl (pc0 := 62) (pc' := 71) rfl (hb hby at_62) rfl (tlt ((by decide) : (1 : Int32) < (2 : Int32))).1 (by decide) (by decide) kq) ?_
      show Ogo p e below _ (T10.setTop (mkF m 71 #[.val (.long q1), .second, .val (.int p2), .val (.int p3), .val (.int b0), .val (.int b1), .val (.int b2), .val (.int (0 : Int32)), .val (.int (1 : Int32)), .val (.int y0), .val (.int y1), .val (.int y2), .val (.ref ba), .unset, .unset, .unset] []))
      refine own_via (fun tq kq => XS.iload X10.here hx rfl (hb hby at_71) rfl kq) ?_
      show Ogo p e below _ (T10.setTop (mkF m 73 #[.val (.long q1), .second, .val (.int p2), .val (.int p3), .val (.int b0), .val (.int b1), .val (.int b2), .val (.int (0 : Int32)), .val (.int (1 : Int32)), .val (.int y0), .val (.int y1), .val (.int y2), .val (.ref ba), .unset, .unset, .unset] [(.int (1 : Int32))]))
      refine own_via (fun tq kq => XS.iconst X10.here hx rfl (hb hby at_73) kq) ?_
      show Ogo p e below _ (T10.setTop (mkF m 74 #[.val (.long q1), .second, .val (.int p2), .val (.int p3), .val (.int b0), .val (.int b1), .val (.int b2), .val (.int (0 : Int32)), .val (.int (1 : Int32)), .val (.int y0), .val (.int y1), .val (.int y2), .val (.ref ba), .unset, .unset, .unset] [(.int (3 : Int32)), (.int (1 : Int32))]))
      refine own_via (fun tq kq => XS.icmpYes X10.here hx rfl (pc0 := 74) (pc' := 83) rfl (hb hby at_74) rfl (tlt ((by decide) : (1 : Int32) < (3 : Int32))).1 (by decide) (by decide) kq) ?_
      show Ogo p e below _ (T10.setTop (mkF m 83 #[.val (.long q1), .second, .val (.int p2), .val (.int p3), .val (.int b0), .val (.int b1), .val (.int b2), .val (.int (0 : Int32)), .val (.int (1 : Int32)), .val (.int y0), .val (.int y1), .val (.int y2), .val (.ref ba), .unset, .unset, .unset] []))
      have A_ba := A_ba.cast (f' := own_f y0 y1 y2) (by intro j hj; rcases j with _ | _ | _ | j <;> first | omega | simp [own_f, hk0, hk1, hk2])
      obtain ⟨T11, h11, X11, e11, E11, A11, D11, -, st11⟩ := newO X10 hx hZ hown (hw _ (List.mem_of_getElem? (i := 1) rfl)) (hw _ (List.mem_of_getElem? (i := 2) rfl)) (hw _ (List.mem_of_getElem? (i := 3) rfl)) e10 (g := (mkF m 83 #[.val (.long q1), .second, .val (.int p2), .val (.int p3), .val (.int b0), .val (.int b1), .val (.int b2), .val (.int (0 : Int32)), .val (.int (1 : Int32)), .val (.int y0), .val (.int y1), .val (.int y2), .val (.ref ba), .unset, .unset, .unset] [])) rfl (hb hby at_83) (by decide) (by decide)
      refine own_via st11 ?_
      obtain ⟨bv, g11⟩ : ∃ z, z = h10.size := ⟨_, rfl⟩
      rw [← g11]
      rw [← g11] at A11 D11
      have lt_ba_bv : ba < bv := by rw [g11]; exact A_ba.lt
      have g_bv : n0 ≤ bv := by rw [g11]; exact zs
      have A_ba := A_ba.ext E11
      have E_ba := E_ba.ext E11
      have zs := Nat.le_trans zs E11.1
      have E_bv := A11
      have F_revision_bv : Fld Z h11 bv "com/example/keep_posted/keepposted/client/Value" "revision" "J" (.long (0 : Int64)) := D11 (Or.inr (hw _ (List.mem_of_getElem? (i := 11) rfl))) (ty := .long) (by decide)
      have F_bytes_bv : Fld Z h11 bv "com/example/keep_posted/keepposted/client/Value" "bytes" "[B" .null := D11 (Or.inr (hw _ (List.mem_of_getElem? (i := 13) rfl))) (ty := (.array .byte)) (by decide)
      show Ogo p e below _ (T11.setTop (mkF m 86 #[.val (.long q1), .second, .val (.int p2), .val (.int p3), .val (.int b0), .val (.int b1), .val (.int b2), .val (.int (0 : Int32)), .val (.int (1 : Int32)), .val (.int y0), .val (.int y1), .val (.int y2), .val (.ref ba), .unset, .unset, .unset] [(.ref bv)]))
      refine own_via (fun tq kq => XS.dup X11.here hx rfl (hb hby at_86) rfl rfl kq) ?_
      show Ogo p e below _ (T11.setTop (mkF m 87 #[.val (.long q1), .second, .val (.int p2), .val (.int p3), .val (.int b0), .val (.int b1), .val (.int b2), .val (.int (0 : Int32)), .val (.int (1 : Int32)), .val (.int y0), .val (.int y1), .val (.int y2), .val (.ref ba), .unset, .unset, .unset] [(.ref bv), (.ref bv)]))
      refine own_via (fun tq kq => XS.lloadN X11.here hx rfl (hb hby at_87) rfl kq) ?_
      show Ogo p e below _ (T11.setTop (mkF m 88 #[.val (.long q1), .second, .val (.int p2), .val (.int p3), .val (.int b0), .val (.int b1), .val (.int b2), .val (.int (0 : Int32)), .val (.int (1 : Int32)), .val (.int y0), .val (.int y1), .val (.int y2), .val (.ref ba), .unset, .unset, .unset] [(.long q1), (.ref bv), (.ref bv)]))
      refine own_via (fun tq kq => XS.aload X11.here hx rfl (hb hby at_88) rfl rfl kq) ?_
      show Ogo p e below _ (T11.setTop (mkF m 90 #[.val (.long q1), .second, .val (.int p2), .val (.int p3), .val (.int b0), .val (.int b1), .val (.int b2), .val (.int (0 : Int32)), .val (.int (1 : Int32)), .val (.int y0), .val (.int y1), .val (.int y2), .val (.ref ba), .unset, .unset, .unset] [(.ref ba), (.long q1), (.ref bv), (.ref bv)]))
      refine own_callI X11 hx hZ rfl hown (hw _ (List.mem_of_getElem? (i := 4) rfl)) (hw _ (List.mem_of_getElem? (i := 5) rfl)) (hw _ (List.mem_of_getElem? (i := 3) rfl)) (hw _ (List.mem_of_getElem? (i := 6) rfl)) (by decide) (rm_vi hw bv q1 ba h11 n0 E_bv F_revision_bv F_bytes_bv g_bv) rfl e11 (W := 1) (by decide) (by decide) (by decide) (by decide) (by rw [hml]; rfl) (a := bv) (argsL := [(.long q1), (.ref ba)]) (rest := [(.ref bv)]) (lenOf pd_0 rfl) rfl (Nat.le_of_eq rfl) (hb hby at_90) ?_
      rintro _ T12 L12 X12 ⟨rfl, Nq, Kc, F_bytes_bv⟩
      have N := N.app Nq
      have A_ba := A_ba.keep Kc (ninS (Nat.ne_of_lt lt_ba_bv) nin0)
      have E_ba := E_ba.keep Kc
      have E_bv := E_bv.keep Kc
      have zs := Nat.le_trans zs Kc.1
      show Ogo p e below _ (T12.setTop (mkF m 93 #[.val (.long q1), .second, .val (.int p2), .val (.int p3), .val (.int b0), .val (.int b1), .val (.int b2), .val (.int (0 : Int32)), .val (.int (1 : Int32)), .val (.int y0), .val (.int y1), .val (.int y2), .val (.ref ba), .unset, .unset, .unset] [(.ref bv)]))
      refine own_via (fun tq kq => XS.astore X12.here hx rfl (hb hby at_93) rfl rfl (l' := #[.val (.long q1), .second, .val (.int p2), .val (.int p3), .val (.int b0), .val (.int b1), .val (.int b2), .val (.int (0 : Int32)), .val (.int (1 : Int32)), .val (.int y0), .val (.int y1), .val (.int y2), .val (.ref ba), .val (.ref bv), .unset, .unset]) rfl kq) ?_
      show Ogo p e below _ (T12.setTop (mkF m 95 #[.val (.long q1), .second, .val (.int p2), .val (.int p3), .val (.int b0), .val (.int b1), .val (.int b2), .val (.int (0 : Int32)), .val (.int (1 : Int32)), .val (.int y0), .val (.int y1), .val (.int y2), .val (.ref ba), .val (.ref bv), .unset, .unset] []))
      refine own_via (fun tq kq => XS.aload X12.here hx rfl (hb hby at_95) rfl rfl kq) ?_
      show Ogo p e below _ (T12.setTop (mkF m 97 #[.val (.long q1), .second, .val (.int p2), .val (.int p3), .val (.int b0), .val (.int b1), .val (.int b2), .val (.int (0 : Int32)), .val (.int (1 : Int32)), .val (.int y0), .val (.int y1), .val (.int y2), .val (.ref ba), .val (.ref bv), .unset, .unset] [(.ref bv)]))
      refine own_callV X12 hx hZ hown (hw _ (List.mem_of_getElem? (i := 14) rfl)) (hw _ (List.mem_of_getElem? (i := 15) rfl)) (hw _ (List.mem_of_getElem? (i := 17) rfl)) (hw _ (List.mem_of_getElem? (i := 16) rfl)) (hw _ (List.mem_of_getElem? (i := 3) rfl)) (hw _ (List.mem_of_getElem? (i := 18) rfl)) (notFace_of_selects (args := #[]) (mvT hZ (hw _ (List.mem_of_getElem? (i := 17) rfl)))) (by decide) (rm_by hw bv ba 1 (own_f y0 y1 y2) T12.heap n0 F_bytes_bv A_ba E_ba (fun j _ => hft j) (by decide) zs) rfl rfl E_bv (W := 0) (by decide) (by decide) (by decide) (by decide) (by rw [hml]; rfl) (b := bv) (argsL := []) (rest := []) (lenOf pd_1 rfl) rfl (Nat.le_of_eq rfl) (hb hby at_97) ?_
      rintro _ T13 L13 X13 ⟨r1, rfl, Nq, Kc, hsz, A_r1, E_r1⟩
      have N := N.app Nq
      have lt_ba_r1 : ba < r1 := Nat.lt_of_lt_of_le E_ba.lt hsz
      have lt_bv_r1 : bv < r1 := Nat.lt_of_lt_of_le E_bv.lt hsz
      have g_r1 : n0 ≤ r1 := Nat.le_trans zs hsz
      have A_ba := A_ba.keep Kc nin0
      have E_ba := E_ba.keep Kc
      have E_bv := E_bv.keep Kc
      have F_bytes_bv := F_bytes_bv.keep Kc nin0
      have zs := Nat.le_trans zs Kc.1
      show Ogo p e below _ (T13.setTop (mkF m 100 #[.val (.long q1), .second, .val (.int p2), .val (.int p3), .val (.int b0), .val (.int b1), .val (.int b2), .val (.int (0 : Int32)), .val (.int (1 : Int32)), .val (.int y0), .val (.int y1), .val (.int y2), .val (.ref ba), .val (.ref bv), .unset, .unset] [(.ref r1)]))
      refine own_via (fun tq kq => XS.astore X13.here hx rfl (hb hby at_100) rfl rfl (l' := #[.val (.long q1), .second, .val (.int p2), .val (.int p3), .val (.int b0), .val (.int b1), .val (.int b2), .val (.int (0 : Int32)), .val (.int (1 : Int32)), .val (.int y0), .val (.int y1), .val (.int y2), .val (.ref ba), .val (.ref bv), .val (.ref r1), .unset]) rfl kq) ?_
      show Ogo p e below _ (T13.setTop (mkF m 102 #[.val (.long q1), .second, .val (.int p2), .val (.int p3), .val (.int b0), .val (.int b1), .val (.int b2), .val (.int (0 : Int32)), .val (.int (1 : Int32)), .val (.int y0), .val (.int y1), .val (.int y2), .val (.ref ba), .val (.ref bv), .val (.ref r1), .unset] []))
      refine own_via (fun tq kq => XS.iload X13.here hx rfl (hb hby at_102) rfl kq) ?_
      show Ogo p e below _ (T13.setTop (mkF m 104 #[.val (.long q1), .second, .val (.int p2), .val (.int p3), .val (.int b0), .val (.int b1), .val (.int b2), .val (.int (0 : Int32)), .val (.int (1 : Int32)), .val (.int y0), .val (.int y1), .val (.int y2), .val (.ref ba), .val (.ref bv), .val (.ref r1), .unset] [(.int (0 : Int32))]))
      refine own_via (fun tq kq => XS.ifYes X13.here hx rfl (pc0 := 104) (pc' := 130) rfl (hb hby at_104) rfl ((if0 _ _).trans (teq ((by decide) : (0 : Int32) = (0 : Int32))).1) (by decide) (by decide) kq) ?_
      show Ogo p e below _ (T13.setTop (mkF m 130 #[.val (.long q1), .second, .val (.int p2), .val (.int p3), .val (.int b0), .val (.int b1), .val (.int b2), .val (.int (0 : Int32)), .val (.int (1 : Int32)), .val (.int y0), .val (.int y1), .val (.int y2), .val (.ref ba), .val (.ref bv), .val (.ref r1), .unset] []))
      refine own_via (fun tq kq => XS.aload X13.here hx rfl (hb hby at_130) rfl rfl kq) ?_
      show Ogo p e below _ (T13.setTop (mkF m 132 #[.val (.long q1), .second, .val (.int p2), .val (.int p3), .val (.int b0), .val (.int b1), .val (.int b2), .val (.int (0 : Int32)), .val (.int (1 : Int32)), .val (.int y0), .val (.int y1), .val (.int y2), .val (.ref ba), .val (.ref bv), .val (.ref r1), .unset] [(.ref r1)]))
      refine own_via (fun tq kq => XS.ifnonnullYes X13.here hx rfl (pc0 := 132) (pc' := 137) rfl (hb hby at_132) rfl (by decide) (by decide) kq) ?_
      show Ogo p e below _ (T13.setTop (mkF m 137 #[.val (.long q1), .second, .val (.int p2), .val (.int p3), .val (.int b0), .val (.int b1), .val (.int b2), .val (.int (0 : Int32)), .val (.int (1 : Int32)), .val (.int y0), .val (.int y1), .val (.int y2), .val (.ref ba), .val (.ref bv), .val (.ref r1), .unset] []))
      refine own_via (fun tq kq => XS.aload X13.here hx rfl (hb hby at_137) rfl rfl kq) ?_
      show Ogo p e below _ (T13.setTop (mkF m 139 #[.val (.long q1), .second, .val (.int p2), .val (.int p3), .val (.int b0), .val (.int b1), .val (.int b2), .val (.int (0 : Int32)), .val (.int (1 : Int32)), .val (.int y0), .val (.int y1), .val (.int y2), .val (.ref ba), .val (.ref bv), .val (.ref r1), .unset] [(.ref r1)]))
      refine own_via (fun tq kq => XS.aload X13.here hx rfl (hb hby at_139) rfl rfl kq) ?_
      show Ogo p e below _ (T13.setTop (mkF m 141 #[.val (.long q1), .second, .val (.int p2), .val (.int p3), .val (.int b0), .val (.int b1), .val (.int b2), .val (.int (0 : Int32)), .val (.int (1 : Int32)), .val (.int y0), .val (.int y1), .val (.int y2), .val (.ref ba), .val (.ref bv), .val (.ref r1), .unset] [(.ref ba), (.ref r1)]))
      refine own_via (fun tq kq => Jvm.RoadKit.acmp (g := (mkF m 141 #[.val (.long q1), .second, .val (.int p2), .val (.int p3), .val (.int b0), .val (.int b1), .val (.int b2), .val (.int (0 : Int32)), .val (.int (1 : Int32)), .val (.int y0), .val (.int y1), .val (.int y2), .val (.ref ba), .val (.ref bv), .val (.ref r1), .unset] [(.ref ba), (.ref r1)])) X13 hx rfl rfl rfl (pc0 := 141) (pc' := 146) (same := false) rfl (hb hby at_141) rfl (decide_eq_false fun q => (Nat.ne_of_gt lt_ba_r1) (Value.ref.inj q)) (by decide) (by decide) kq) ?_
      show Ogo p e below _ (T13.setTop (mkF m 146 #[.val (.long q1), .second, .val (.int p2), .val (.int p3), .val (.int b0), .val (.int b1), .val (.int b2), .val (.int (0 : Int32)), .val (.int (1 : Int32)), .val (.int y0), .val (.int y1), .val (.int y2), .val (.ref ba), .val (.ref bv), .val (.ref r1), .unset] []))
      refine own_via (fun tq kq => XS.aload X13.here hx rfl (hb hby at_146) rfl rfl kq) ?_
      show Ogo p e below _ (T13.setTop (mkF m 148 #[.val (.long q1), .second, .val (.int p2), .val (.int p3), .val (.int b0), .val (.int b1), .val (.int b2), .val (.int (0 : Int32)), .val (.int (1 : Int32)), .val (.int y0), .val (.int y1), .val (.int y2), .val (.ref ba), .val (.ref bv), .val (.ref r1), .unset] [(.ref r1)]))
      refine own_via (fun tq kq => XS.iload X13.here hx rfl (hb hby at_148) rfl kq) ?_
      show Ogo p e below _ (T13.setTop (mkF m 150 #[.val (.long q1), .second, .val (.int p2), .val (.int p3), .val (.int b0), .val (.int b1), .val (.int b2), .val (.int (0 : Int32)), .val (.int (1 : Int32)), .val (.int y0), .val (.int y1), .val (.int y2), .val (.ref ba), .val (.ref bv), .val (.ref r1), .unset] [(.int (1 : Int32)), (.ref r1)]))
      refine own_via (fun tq kq => XS.iload X13.here hx rfl (hb hby at_150) rfl kq) ?_
      show Ogo p e below _ (T13.setTop (mkF m 152 #[.val (.long q1), .second, .val (.int p2), .val (.int p3), .val (.int b0), .val (.int b1), .val (.int b2), .val (.int (0 : Int32)), .val (.int (1 : Int32)), .val (.int y0), .val (.int y1), .val (.int y2), .val (.ref ba), .val (.ref bv), .val (.ref r1), .unset] [(.int y0), (.int (1 : Int32)), (.ref r1)]))
      refine own_via (fun tq kq => XS.iload X13.here hx rfl (hb hby at_152) rfl kq) ?_
      show Ogo p e below _ (T13.setTop (mkF m 154 #[.val (.long q1), .second, .val (.int p2), .val (.int p3), .val (.int b0), .val (.int b1), .val (.int b2), .val (.int (0 : Int32)), .val (.int (1 : Int32)), .val (.int y0), .val (.int y1), .val (.int y2), .val (.ref ba), .val (.ref bv), .val (.ref r1), .unset] [(.int y1), (.int y0), (.int (1 : Int32)), (.ref r1)]))
      refine own_via (fun tq kq => XS.iload X13.here hx rfl (hb hby at_154) rfl kq) ?_
      show Ogo p e below _ (T13.setTop (mkF m 156 #[.val (.long q1), .second, .val (.int p2), .val (.int p3), .val (.int b0), .val (.int b1), .val (.int b2), .val (.int (0 : Int32)), .val (.int (1 : Int32)), .val (.int y0), .val (.int y1), .val (.int y2), .val (.ref ba), .val (.ref bv), .val (.ref r1), .unset] [(.int y2), (.int y1), (.int y0), (.int (1 : Int32)), (.ref r1)]))
      refine own_callS X13 hx hZ hown (hw _ (List.mem_of_getElem? (i := 28) rfl)) (hw _ (List.mem_of_getElem? (i := 29) rfl)) (hw _ (List.mem_of_getElem? (i := 30) rfl)) (hw _ (List.mem_of_getElem? (i := 31) rfl)) (by decide) (rm_sm hw r1 (1 : Int32) y0 y1 y2 1 _ T13.heap n0 A_r1 rfl (fun _ => rfl) (fun _ => rfl) (fun _ => rfl)) rfl rfl (W := 0) (by decide) (by decide) (by decide) (by decide) (by rw [hml]; rfl) (argsL := [(.ref r1), (.int (1 : Int32)), (.int y0), (.int y1), (.int y2)]) (rest := []) (lenOf pd_2 rfl) rfl (Nat.le_of_eq rfl) (hb hby at_156) ?_
      rintro _ T14 L14 X14 ⟨rfl, Nq, hk⟩
      have N := N.app Nq
      have hk14 := hk
      show Ogo p e below _ (T14.setTop (mkF m 159 #[.val (.long q1), .second, .val (.int p2), .val (.int p3), .val (.int b0), .val (.int b1), .val (.int b2), .val (.int (0 : Int32)), .val (.int (1 : Int32)), .val (.int y0), .val (.int y1), .val (.int y2), .val (.ref ba), .val (.ref bv), .val (.ref r1), .unset] [(.int (1 : Int32))]))
      refine own_via (fun tq kq => XS.ifYes X14.here hx rfl (pc0 := 159) (pc' := 164) rfl (hb hby at_159) rfl ((if0 _ _).trans (feq ((by decide) : ¬ ((1 : Int32) = (0 : Int32)))).2) (by decide) (by decide) kq) ?_
      show Ogo p e below _ (T14.setTop (mkF m 164 #[.val (.long q1), .second, .val (.int p2), .val (.int p3), .val (.int b0), .val (.int b1), .val (.int b2), .val (.int (0 : Int32)), .val (.int (1 : Int32)), .val (.int y0), .val (.int y1), .val (.int y2), .val (.ref ba), .val (.ref bv), .val (.ref r1), .unset] []))
      refine own_via (fun tq kq => XS.iload X14.here hx rfl (hb hby at_164) rfl kq) ?_
      show Ogo p e below _ (T14.setTop (mkF m 166 #[.val (.long q1), .second, .val (.int p2), .val (.int p3), .val (.int b0), .val (.int b1), .val (.int b2), .val (.int (0 : Int32)), .val (.int (1 : Int32)), .val (.int y0), .val (.int y1), .val (.int y2), .val (.ref ba), .val (.ref bv), .val (.ref r1), .unset] [(.int (1 : Int32))]))
      refine own_via (fun tq kq => XS.iconst X14.here hx rfl (hb hby at_166) kq) ?_
      show Ogo p e below _ (T14.setTop (mkF m 167 #[.val (.long q1), .second, .val (.int p2), .val (.int p3), .val (.int b0), .val (.int b1), .val (.int b2), .val (.int (0 : Int32)), .val (.int (1 : Int32)), .val (.int y0), .val (.int y1), .val (.int y2), .val (.ref ba), .val (.ref bv), .val (.ref r1), .unset] [(.int (1 : Int32)), (.int (1 : Int32))]))
      refine own_via (fun tq kq => XS.icmpNo X14.here hx rfl (hb hby at_167) rfl (flt ((by decide) : ¬ ((1 : Int32) < (1 : Int32)))).1 kq) ?_
      show Ogo p e below _ (T14.setTop (mkF m 170 #[.val (.long q1), .second, .val (.int p2), .val (.int p3), .val (.int b0), .val (.int b1), .val (.int b2), .val (.int (0 : Int32)), .val (.int (1 : Int32)), .val (.int y0), .val (.int y1), .val (.int y2), .val (.ref ba), .val (.ref bv), .val (.ref r1), .unset] []))
      refine own_via (fun tq kq => XS.aload X14.here hx rfl (hb hby at_170) rfl rfl kq) ?_
      show Ogo p e below _ (T14.setTop (mkF m 172 #[.val (.long q1), .second, .val (.int p2), .val (.int p3), .val (.int b0), .val (.int b1), .val (.int b2), .val (.int (0 : Int32)), .val (.int (1 : Int32)), .val (.int y0), .val (.int y1), .val (.int y2), .val (.ref ba), .val (.ref bv), .val (.ref r1), .unset] [(.ref r1)]))
      refine own_via (fun tq kq => XS.iconst X14.here hx rfl (hb hby at_172) kq) ?_
      show Ogo p e below _ (T14.setTop (mkF m 173 #[.val (.long q1), .second, .val (.int p2), .val (.int p3), .val (.int b0), .val (.int b1), .val (.int b2), .val (.int (0 : Int32)), .val (.int (1 : Int32)), .val (.int y0), .val (.int y1), .val (.int y2), .val (.ref ba), .val (.ref bv), .val (.ref r1), .unset] [(.int (0 : Int32)), (.ref r1)]))
      refine own_via (fun tq kq => XS.aload X14.here hx rfl (hb hby at_173) rfl rfl kq) ?_
      show Ogo p e below _ (T14.setTop (mkF m 175 #[.val (.long q1), .second, .val (.int p2), .val (.int p3), .val (.int b0), .val (.int b1), .val (.int b2), .val (.int (0 : Int32)), .val (.int (1 : Int32)), .val (.int y0), .val (.int y1), .val (.int y2), .val (.ref ba), .val (.ref bv), .val (.ref r1), .unset] [(.ref r1), (.int (0 : Int32)), (.ref r1)]))
      refine own_via (fun tq kq => XS.iconst X14.here hx rfl (hb hby at_175) kq) ?_
      show Ogo p e below _ (T14.setTop (mkF m 176 #[.val (.long q1), .second, .val (.int p2), .val (.int p3), .val (.int b0), .val (.int b1), .val (.int b2), .val (.int (0 : Int32)), .val (.int (1 : Int32)), .val (.int y0), .val (.int y1), .val (.int y2), .val (.ref ba), .val (.ref bv), .val (.ref r1), .unset] [(.int (0 : Int32)), (.ref r1), (.int (0 : Int32)), (.ref r1)]))
      refine own_bald X14 hx hZ hk14 A_r1 (j := (0 : Int32)) (i := 0) (v := (.int y0)) (by decide) (by decide) rfl (hb hby at_176) ?_
      show Ogo p e below _ (T14.setTop (mkF m 177 #[.val (.long q1), .second, .val (.int p2), .val (.int p3), .val (.int b0), .val (.int b1), .val (.int b2), .val (.int (0 : Int32)), .val (.int (1 : Int32)), .val (.int y0), .val (.int y1), .val (.int y2), .val (.ref ba), .val (.ref bv), .val (.ref r1), .unset] [(.int y0), (.int (0 : Int32)), (.ref r1)]))
      refine own_via (fun tq kq => XS.iconst X14.here hx rfl (hb hby at_177) kq) ?_
      show Ogo p e below _ (T14.setTop (mkF m 178 #[.val (.long q1), .second, .val (.int p2), .val (.int p3), .val (.int b0), .val (.int b1), .val (.int b2), .val (.int (0 : Int32)), .val (.int (1 : Int32)), .val (.int y0), .val (.int y1), .val (.int y2), .val (.ref ba), .val (.ref bv), .val (.ref r1), .unset] [(.int (1 : Int32)), (.int y0), (.int (0 : Int32)), (.ref r1)]))
      refine own_via (fun tq kq => XS.iadd X14.here hx rfl (hb hby at_178) rfl kq) ?_
      show Ogo p e below _ (T14.setTop (mkF m 179 #[.val (.long q1), .second, .val (.int p2), .val (.int p3), .val (.int b0), .val (.int b1), .val (.int b2), .val (.int (0 : Int32)), .val (.int (1 : Int32)), .val (.int y0), .val (.int y1), .val (.int y2), .val (.ref ba), .val (.ref bv), .val (.ref r1), .unset] [(.int (y0 + (1 : Int32))), (.int (0 : Int32)), (.ref r1)]))
      refine own_via (fun tq kq => XS.i2b X14.here hx rfl (hb hby at_179) rfl kq) ?_
      show Ogo p e below _ (T14.setTop (mkF m 180 #[.val (.long q1), .second, .val (.int p2), .val (.int p3), .val (.int b0), .val (.int b1), .val (.int b2), .val (.int (0 : Int32)), .val (.int (1 : Int32)), .val (.int y0), .val (.int y1), .val (.int y2), .val (.ref ba), .val (.ref bv), .val (.ref r1), .unset] [(.int ((y0 + (1 : Int32)).toInt8.toInt32)), (.int (0 : Int32)), (.ref r1)]))
      obtain ⟨T15, h15, X15, e15, W15, A_r1', st15⟩ := own_bast X14 hx hZ hk14 A_r1 (x := ((y0 + (1 : Int32)).toInt8.toInt32)) (j := (0 : Int32)) (i := 0) (by decide) (by decide) (pc := 180) (Ls := #[.val (.long q1), .second, .val (.int p2), .val (.int p3), .val (.int b0), .val (.int b1), .val (.int b2), .val (.int (0 : Int32)), .val (.int (1 : Int32)), .val (.int y0), .val (.int y1), .val (.int y2), .val (.ref ba), .val (.ref bv), .val (.ref r1), .unset]) (rest := []) (hb hby at_180)
      refine own_via st15 ?_
      have A_ba := A_ba.other W15 (Nat.ne_of_lt lt_ba_r1)
      have E_ba := E_ba.wr W15
      have E_bv := E_bv.wr W15
      have F_bytes_bv := F_bytes_bv.other W15 (Or.inl (Nat.ne_of_lt lt_bv_r1))
      have E_r1 := E_r1.wr W15
      have zs := Nat.le_trans zs (Keep.of_wr W15).1
      have N := Fr.snoc X15 N g_r1
      have A_r1 := A_r1'
      show Ogo p e below _ (T15.setTop (mkF m 181 #[.val (.long q1), .second, .val (.int p2), .val (.int p3), .val (.int b0), .val (.int b1), .val (.int b2), .val (.int (0 : Int32)), .val (.int (1 : Int32)), .val (.int y0), .val (.int y1), .val (.int y2), .val (.ref ba), .val (.ref bv), .val (.ref r1), .unset] []))
      refine own_via (fun tq kq => XS.aload X15.here hx rfl (hb hby at_181) rfl rfl kq) ?_
      show Ogo p e below _ (T15.setTop (mkF m 183 #[.val (.long q1), .second, .val (.int p2), .val (.int p3), .val (.int b0), .val (.int b1), .val (.int b2), .val (.int (0 : Int32)), .val (.int (1 : Int32)), .val (.int y0), .val (.int y1), .val (.int y2), .val (.ref ba), .val (.ref bv), .val (.ref r1), .unset] [(.ref bv)]))
      refine own_callV X15 hx hZ hown (hw _ (List.mem_of_getElem? (i := 14) rfl)) (hw _ (List.mem_of_getElem? (i := 15) rfl)) (hw _ (List.mem_of_getElem? (i := 17) rfl)) (hw _ (List.mem_of_getElem? (i := 16) rfl)) (hw _ (List.mem_of_getElem? (i := 3) rfl)) (hw _ (List.mem_of_getElem? (i := 18) rfl)) (notFace_of_selects (args := #[]) (mvT hZ (hw _ (List.mem_of_getElem? (i := 17) rfl)))) (by decide) (rm_by hw bv ba 1 (own_f y0 y1 y2) h15 n0 F_bytes_bv A_ba E_ba (fun j _ => hft j) (by decide) zs) rfl e15 E_bv (W := 0) (by decide) (by decide) (by decide) (by decide) (by rw [hml]; rfl) (b := bv) (argsL := []) (rest := []) (lenOf pd_1 rfl) rfl (Nat.le_of_eq rfl) (hb hby at_183) ?_
      rintro _ T16 L16 X16 ⟨r2, rfl, Nq, Kc, hsz, A_r2, E_r2⟩
      have N := N.app Nq
      have lt_ba_r2 : ba < r2 := Nat.lt_of_lt_of_le E_ba.lt hsz
      have lt_bv_r2 : bv < r2 := Nat.lt_of_lt_of_le E_bv.lt hsz
      have lt_r1_r2 : r1 < r2 := Nat.lt_of_lt_of_le E_r1.lt hsz
      have g_r2 : n0 ≤ r2 := Nat.le_trans zs hsz
      have A_ba := A_ba.keep Kc nin0
      have E_ba := E_ba.keep Kc
      have E_bv := E_bv.keep Kc
      have F_bytes_bv := F_bytes_bv.keep Kc nin0
      have A_r1 := A_r1.keep Kc nin0
      have E_r1 := E_r1.keep Kc
      have zs := Nat.le_trans zs Kc.1
      show Ogo p e below _ (T16.setTop (mkF m 186 #[.val (.long q1), .second, .val (.int p2), .val (.int p3), .val (.int b0), .val (.int b1), .val (.int b2), .val (.int (0 : Int32)), .val (.int (1 : Int32)), .val (.int y0), .val (.int y1), .val (.int y2), .val (.ref ba), .val (.ref bv), .val (.ref r1), .unset] [(.ref r2)]))
      refine own_via (fun tq kq => XS.astore X16.here hx rfl (hb hby at_186) rfl rfl (l' := #[.val (.long q1), .second, .val (.int p2), .val (.int p3), .val (.int b0), .val (.int b1), .val (.int b2), .val (.int (0 : Int32)), .val (.int (1 : Int32)), .val (.int y0), .val (.int y1), .val (.int y2), .val (.ref ba), .val (.ref bv), .val (.ref r1), .val (.ref r2)]) rfl kq) ?_
      show Ogo p e below _ (T16.setTop (mkF m 188 #[.val (.long q1), .second, .val (.int p2), .val (.int p3), .val (.int b0), .val (.int b1), .val (.int b2), .val (.int (0 : Int32)), .val (.int (1 : Int32)), .val (.int y0), .val (.int y1), .val (.int y2), .val (.ref ba), .val (.ref bv), .val (.ref r1), .val (.ref r2)] []))
      refine own_via (fun tq kq => XS.aload X16.here hx rfl (hb hby at_188) rfl rfl kq) ?_
      show Ogo p e below _ (T16.setTop (mkF m 190 #[.val (.long q1), .second, .val (.int p2), .val (.int p3), .val (.int b0), .val (.int b1), .val (.int b2), .val (.int (0 : Int32)), .val (.int (1 : Int32)), .val (.int y0), .val (.int y1), .val (.int y2), .val (.ref ba), .val (.ref bv), .val (.ref r1), .val (.ref r2)] [(.ref r2)]))
      refine own_via (fun tq kq => XS.ifnonnullYes X16.here hx rfl (pc0 := 190) (pc' := 195) rfl (hb hby at_190) rfl (by decide) (by decide) kq) ?_
      show Ogo p e below _ (T16.setTop (mkF m 195 #[.val (.long q1), .second, .val (.int p2), .val (.int p3), .val (.int b0), .val (.int b1), .val (.int b2), .val (.int (0 : Int32)), .val (.int (1 : Int32)), .val (.int y0), .val (.int y1), .val (.int y2), .val (.ref ba), .val (.ref bv), .val (.ref r1), .val (.ref r2)] []))
      refine own_via (fun tq kq => XS.aload X16.here hx rfl (hb hby at_195) rfl rfl kq) ?_
      show Ogo p e below _ (T16.setTop (mkF m 197 #[.val (.long q1), .second, .val (.int p2), .val (.int p3), .val (.int b0), .val (.int b1), .val (.int b2), .val (.int (0 : Int32)), .val (.int (1 : Int32)), .val (.int y0), .val (.int y1), .val (.int y2), .val (.ref ba), .val (.ref bv), .val (.ref r1), .val (.ref r2)] [(.ref r2)]))
      refine own_via (fun tq kq => XS.aload X16.here hx rfl (hb hby at_197) rfl rfl kq) ?_
      show Ogo p e below _ (T16.setTop (mkF m 199 #[.val (.long q1), .second, .val (.int p2), .val (.int p3), .val (.int b0), .val (.int b1), .val (.int b2), .val (.int (0 : Int32)), .val (.int (1 : Int32)), .val (.int y0), .val (.int y1), .val (.int y2), .val (.ref ba), .val (.ref bv), .val (.ref r1), .val (.ref r2)] [(.ref ba), (.ref r2)]))
      refine own_via (fun tq kq => Jvm.RoadKit.acmp (g := (mkF m 199 #[.val (.long q1), .second, .val (.int p2), .val (.int p3), .val (.int b0), .val (.int b1), .val (.int b2), .val (.int (0 : Int32)), .val (.int (1 : Int32)), .val (.int y0), .val (.int y1), .val (.int y2), .val (.ref ba), .val (.ref bv), .val (.ref r1), .val (.ref r2)] [(.ref ba), (.ref r2)])) X16 hx rfl rfl rfl (pc0 := 199) (pc' := 202) (same := false) rfl (hb hby at_199) rfl (decide_eq_false fun q => (Nat.ne_of_gt lt_ba_r2) (Value.ref.inj q)) (by decide) (by decide) kq) ?_
      show Ogo p e below _ (T16.setTop (mkF m 202 #[.val (.long q1), .second, .val (.int p2), .val (.int p3), .val (.int b0), .val (.int b1), .val (.int b2), .val (.int (0 : Int32)), .val (.int (1 : Int32)), .val (.int y0), .val (.int y1), .val (.int y2), .val (.ref ba), .val (.ref bv), .val (.ref r1), .val (.ref r2)] []))
      refine own_via (fun tq kq => XS.aload X16.here hx rfl (hb hby at_202) rfl rfl kq) ?_
      show Ogo p e below _ (T16.setTop (mkF m 204 #[.val (.long q1), .second, .val (.int p2), .val (.int p3), .val (.int b0), .val (.int b1), .val (.int b2), .val (.int (0 : Int32)), .val (.int (1 : Int32)), .val (.int y0), .val (.int y1), .val (.int y2), .val (.ref ba), .val (.ref bv), .val (.ref r1), .val (.ref r2)] [(.ref r2)]))
      refine own_via (fun tq kq => XS.aload X16.here hx rfl (hb hby at_204) rfl rfl kq) ?_
      show Ogo p e below _ (T16.setTop (mkF m 206 #[.val (.long q1), .second, .val (.int p2), .val (.int p3), .val (.int b0), .val (.int b1), .val (.int b2), .val (.int (0 : Int32)), .val (.int (1 : Int32)), .val (.int y0), .val (.int y1), .val (.int y2), .val (.ref ba), .val (.ref bv), .val (.ref r1), .val (.ref r2)] [(.ref r1), (.ref r2)]))
      refine own_via (fun tq kq => Jvm.RoadKit.acmp (g := (mkF m 206 #[.val (.long q1), .second, .val (.int p2), .val (.int p3), .val (.int b0), .val (.int b1), .val (.int b2), .val (.int (0 : Int32)), .val (.int (1 : Int32)), .val (.int y0), .val (.int y1), .val (.int y2), .val (.ref ba), .val (.ref bv), .val (.ref r1), .val (.ref r2)] [(.ref r1), (.ref r2)])) X16 hx rfl rfl rfl (pc0 := 206) (pc' := 211) (same := false) rfl (hb hby at_206) rfl (decide_eq_false fun q => (Nat.ne_of_gt lt_r1_r2) (Value.ref.inj q)) (by decide) (by decide) kq) ?_
      show Ogo p e below _ (T16.setTop (mkF m 211 #[.val (.long q1), .second, .val (.int p2), .val (.int p3), .val (.int b0), .val (.int b1), .val (.int b2), .val (.int (0 : Int32)), .val (.int (1 : Int32)), .val (.int y0), .val (.int y1), .val (.int y2), .val (.ref ba), .val (.ref bv), .val (.ref r1), .val (.ref r2)] []))
      refine own_via (fun tq kq => XS.aload X16.here hx rfl (hb hby at_211) rfl rfl kq) ?_
      show Ogo p e below _ (T16.setTop (mkF m 213 #[.val (.long q1), .second, .val (.int p2), .val (.int p3), .val (.int b0), .val (.int b1), .val (.int b2), .val (.int (0 : Int32)), .val (.int (1 : Int32)), .val (.int y0), .val (.int y1), .val (.int y2), .val (.ref ba), .val (.ref bv), .val (.ref r1), .val (.ref r2)] [(.ref r2)]))
      refine own_via (fun tq kq => XS.iload X16.here hx rfl (hb hby at_213) rfl kq) ?_
      show Ogo p e below _ (T16.setTop (mkF m 215 #[.val (.long q1), .second, .val (.int p2), .val (.int p3), .val (.int b0), .val (.int b1), .val (.int b2), .val (.int (0 : Int32)), .val (.int (1 : Int32)), .val (.int y0), .val (.int y1), .val (.int y2), .val (.ref ba), .val (.ref bv), .val (.ref r1), .val (.ref r2)] [(.int (1 : Int32)), (.ref r2)]))
      refine own_via (fun tq kq => XS.iload X16.here hx rfl (hb hby at_215) rfl kq) ?_
      show Ogo p e below _ (T16.setTop (mkF m 217 #[.val (.long q1), .second, .val (.int p2), .val (.int p3), .val (.int b0), .val (.int b1), .val (.int b2), .val (.int (0 : Int32)), .val (.int (1 : Int32)), .val (.int y0), .val (.int y1), .val (.int y2), .val (.ref ba), .val (.ref bv), .val (.ref r1), .val (.ref r2)] [(.int y0), (.int (1 : Int32)), (.ref r2)]))
      refine own_via (fun tq kq => XS.iload X16.here hx rfl (hb hby at_217) rfl kq) ?_
      show Ogo p e below _ (T16.setTop (mkF m 219 #[.val (.long q1), .second, .val (.int p2), .val (.int p3), .val (.int b0), .val (.int b1), .val (.int b2), .val (.int (0 : Int32)), .val (.int (1 : Int32)), .val (.int y0), .val (.int y1), .val (.int y2), .val (.ref ba), .val (.ref bv), .val (.ref r1), .val (.ref r2)] [(.int y1), (.int y0), (.int (1 : Int32)), (.ref r2)]))
      refine own_via (fun tq kq => XS.iload X16.here hx rfl (hb hby at_219) rfl kq) ?_
      show Ogo p e below _ (T16.setTop (mkF m 221 #[.val (.long q1), .second, .val (.int p2), .val (.int p3), .val (.int b0), .val (.int b1), .val (.int b2), .val (.int (0 : Int32)), .val (.int (1 : Int32)), .val (.int y0), .val (.int y1), .val (.int y2), .val (.ref ba), .val (.ref bv), .val (.ref r1), .val (.ref r2)] [(.int y2), (.int y1), (.int y0), (.int (1 : Int32)), (.ref r2)]))
      refine own_callS X16 hx hZ hown (hw _ (List.mem_of_getElem? (i := 28) rfl)) (hw _ (List.mem_of_getElem? (i := 29) rfl)) (hw _ (List.mem_of_getElem? (i := 30) rfl)) (hw _ (List.mem_of_getElem? (i := 31) rfl)) (by decide) (rm_sm hw r2 (1 : Int32) y0 y1 y2 1 _ T16.heap n0 A_r2 rfl (fun _ => rfl) (fun _ => rfl) (fun _ => rfl)) rfl rfl (W := 0) (by decide) (by decide) (by decide) (by decide) (by rw [hml]; rfl) (argsL := [(.ref r2), (.int (1 : Int32)), (.int y0), (.int y1), (.int y2)]) (rest := []) (lenOf pd_2 rfl) rfl (Nat.le_of_eq rfl) (hb hby at_221) ?_
      rintro _ T17 L17 X17 ⟨rfl, Nq, hk⟩
      have N := N.app Nq
      have hk17 := hk
      show Ogo p e below _ (T17.setTop (mkF m 224 #[.val (.long q1), .second, .val (.int p2), .val (.int p3), .val (.int b0), .val (.int b1), .val (.int b2), .val (.int (0 : Int32)), .val (.int (1 : Int32)), .val (.int y0), .val (.int y1), .val (.int y2), .val (.ref ba), .val (.ref bv), .val (.ref r1), .val (.ref r2)] [(.int (1 : Int32))]))
      refine own_via (fun tq kq => XS.ifYes X17.here hx rfl (pc0 := 224) (pc' := 229) rfl (hb hby at_224) rfl ((if0 _ _).trans (feq ((by decide) : ¬ ((1 : Int32) = (0 : Int32)))).2) (by decide) (by decide) kq) ?_
      show Ogo p e below _ (T17.setTop (mkF m 229 #[.val (.long q1), .second, .val (.int p2), .val (.int p3), .val (.int b0), .val (.int b1), .val (.int b2), .val (.int (0 : Int32)), .val (.int (1 : Int32)), .val (.int y0), .val (.int y1), .val (.int y2), .val (.ref ba), .val (.ref bv), .val (.ref r1), .val (.ref r2)] []))
      refine own_via (fun tq kq => XS.aload X17.here hx rfl (hb hby at_229) rfl rfl kq) ?_
      show Ogo p e below _ (T17.setTop (mkF m 231 #[.val (.long q1), .second, .val (.int p2), .val (.int p3), .val (.int b0), .val (.int b1), .val (.int b2), .val (.int (0 : Int32)), .val (.int (1 : Int32)), .val (.int y0), .val (.int y1), .val (.int y2), .val (.ref ba), .val (.ref bv), .val (.ref r1), .val (.ref r2)] [(.ref ba)]))
      refine own_via (fun tq kq => XS.iload X17.here hx rfl (hb hby at_231) rfl kq) ?_
      show Ogo p e below _ (T17.setTop (mkF m 233 #[.val (.long q1), .second, .val (.int p2), .val (.int p3), .val (.int b0), .val (.int b1), .val (.int b2), .val (.int (0 : Int32)), .val (.int (1 : Int32)), .val (.int y0), .val (.int y1), .val (.int y2), .val (.ref ba), .val (.ref bv), .val (.ref r1), .val (.ref r2)] [(.int (1 : Int32)), (.ref ba)]))
      refine own_via (fun tq kq => XS.iload X17.here hx rfl (hb hby at_233) rfl kq) ?_
      show Ogo p e below _ (T17.setTop (mkF m 235 #[.val (.long q1), .second, .val (.int p2), .val (.int p3), .val (.int b0), .val (.int b1), .val (.int b2), .val (.int (0 : Int32)), .val (.int (1 : Int32)), .val (.int y0), .val (.int y1), .val (.int y2), .val (.ref ba), .val (.ref bv), .val (.ref r1), .val (.ref r2)] [(.int y0), (.int (1 : Int32)), (.ref ba)]))
      refine own_via (fun tq kq => XS.iload X17.here hx rfl (hb hby at_235) rfl kq) ?_
      show Ogo p e below _ (T17.setTop (mkF m 237 #[.val (.long q1), .second, .val (.int p2), .val (.int p3), .val (.int b0), .val (.int b1), .val (.int b2), .val (.int (0 : Int32)), .val (.int (1 : Int32)), .val (.int y0), .val (.int y1), .val (.int y2), .val (.ref ba), .val (.ref bv), .val (.ref r1), .val (.ref r2)] [(.int y1), (.int y0), (.int (1 : Int32)), (.ref ba)]))
      refine own_via (fun tq kq => XS.iload X17.here hx rfl (hb hby at_237) rfl kq) ?_
      show Ogo p e below _ (T17.setTop (mkF m 239 #[.val (.long q1), .second, .val (.int p2), .val (.int p3), .val (.int b0), .val (.int b1), .val (.int b2), .val (.int (0 : Int32)), .val (.int (1 : Int32)), .val (.int y0), .val (.int y1), .val (.int y2), .val (.ref ba), .val (.ref bv), .val (.ref r1), .val (.ref r2)] [(.int y2), (.int y1), (.int y0), (.int (1 : Int32)), (.ref ba)]))
      refine own_callS X17 hx hZ hown (hw _ (List.mem_of_getElem? (i := 28) rfl)) (hw _ (List.mem_of_getElem? (i := 29) rfl)) (hw _ (List.mem_of_getElem? (i := 30) rfl)) (hw _ (List.mem_of_getElem? (i := 31) rfl)) (by decide) (rm_sm hw ba (1 : Int32) y0 y1 y2 1 _ T16.heap n0 A_ba rfl (fun _ => rfl) (fun _ => rfl) (fun _ => rfl)) rfl hk17 (W := 0) (by decide) (by decide) (by decide) (by decide) (by rw [hml]; rfl) (argsL := [(.ref ba), (.int (1 : Int32)), (.int y0), (.int y1), (.int y2)]) (rest := []) (lenOf pd_2 rfl) rfl (Nat.le_of_eq rfl) (hb hby at_239) ?_
      rintro _ T18 L18 X18 ⟨rfl, Nq, hk⟩
      have N := N.app Nq
      have hk18 := hk
      show Ogo p e below _ (T18.setTop (mkF m 242 #[.val (.long q1), .second, .val (.int p2), .val (.int p3), .val (.int b0), .val (.int b1), .val (.int b2), .val (.int (0 : Int32)), .val (.int (1 : Int32)), .val (.int y0), .val (.int y1), .val (.int y2), .val (.ref ba), .val (.ref bv), .val (.ref r1), .val (.ref r2)] [(.int (1 : Int32))]))
      exact own_out X18 hlk (fun h => by rw [hret] at h; cases h) (by decide) (by decide) (by first | exact ⟨rfl, N⟩ | (rw [hk18]; exact ⟨rfl, N⟩)) (fun fs hr => retN X18 hx (t := .boolean) hret (by simp) (hb hby at_242) hr)
    · show Ogo p e below _ (s₁.setTop (mkF m 33 #[.val (.long q1), .second, .val (.int p2), .val (.int p3), .val (.int b0), .val (.int b1), .val (.int b2), .val (.int (0 : Int32)), .val (.int (2 : Int32)), .val (.int y0), .val (.int y1), .val (.int y2), .unset, .unset, .unset, .unset] []))
      refine own_via (fun tq kq => XS.aconstNull X0.here hx rfl (hb hby at_33) kq) ?_
      show Ogo p e below _ (s₁.setTop (mkF m 34 #[.val (.long q1), .second, .val (.int p2), .val (.int p3), .val (.int b0), .val (.int b1), .val (.int b2), .val (.int (0 : Int32)), .val (.int (2 : Int32)), .val (.int y0), .val (.int y1), .val (.int y2), .unset, .unset, .unset, .unset] [.null]))
      refine own_via (fun tq kq => XS.astore X0.here hx rfl (hb hby at_34) rfl rfl (l' := #[.val (.long q1), .second, .val (.int p2), .val (.int p3), .val (.int b0), .val (.int b1), .val (.int b2), .val (.int (0 : Int32)), .val (.int (2 : Int32)), .val (.int y0), .val (.int y1), .val (.int y2), .val .null, .unset, .unset, .unset]) rfl kq) ?_
      show Ogo p e below _ (s₁.setTop (mkF m 36 #[.val (.long q1), .second, .val (.int p2), .val (.int p3), .val (.int b0), .val (.int b1), .val (.int b2), .val (.int (0 : Int32)), .val (.int (2 : Int32)), .val (.int y0), .val (.int y1), .val (.int y2), .val .null, .unset, .unset, .unset] []))
      refine own_via (fun tq kq => XS.iload X0.here hx rfl (hb hby at_36) rfl kq) ?_
      show Ogo p e below _ (s₁.setTop (mkF m 38 #[.val (.long q1), .second, .val (.int p2), .val (.int p3), .val (.int b0), .val (.int b1), .val (.int b2), .val (.int (0 : Int32)), .val (.int (2 : Int32)), .val (.int y0), .val (.int y1), .val (.int y2), .val .null, .unset, .unset, .unset] [(.int (0 : Int32))]))
      refine own_via (fun tq kq => XS.ifNo X0.here hx rfl (hb hby at_38) rfl ((if0 _ _).trans (teq ((by decide) : (0 : Int32) = (0 : Int32))).2) kq) ?_
      show Ogo p e below _ (s₁.setTop (mkF m 41 #[.val (.long q1), .second, .val (.int p2), .val (.int p3), .val (.int b0), .val (.int b1), .val (.int b2), .val (.int (0 : Int32)), .val (.int (2 : Int32)), .val (.int y0), .val (.int y1), .val (.int y2), .val .null, .unset, .unset, .unset] []))
      refine own_via (fun tq kq => XS.iload X0.here hx rfl (hb hby at_41) rfl kq) ?_
      show Ogo p e below _ (s₁.setTop (mkF m 43 #[.val (.long q1), .second, .val (.int p2), .val (.int p3), .val (.int b0), .val (.int b1), .val (.int b2), .val (.int (0 : Int32)), .val (.int (2 : Int32)), .val (.int y0), .val (.int y1), .val (.int y2), .val .null, .unset, .unset, .unset] [(.int (2 : Int32))]))
      obtain ⟨T19, h19, k19, X19, e19, E19, A19, Ea19, st19⟩ := newPE X0 hx hZ (hw _ (List.mem_of_getElem? (i := 0) rfl)) e0 (g := (mkF m 43 #[.val (.long q1), .second, .val (.int p2), .val (.int p3), .val (.int b0), .val (.int b1), .val (.int b2), .val (.int (0 : Int32)), .val (.int (2 : Int32)), .val (.int y0), .val (.int y1), .val (.int y2), .val .null, .unset, .unset, .unset] [(.int (2 : Int32))])) rfl (hb hby at_43) rfl (by decide) (cap := 2) (by decide) (by decide) (by decide) (by decide) (ad := "[B") (by decide)
      refine own_via st19 ?_
      obtain ⟨ba, g19⟩ : ∃ z, z = h0.size := ⟨_, rfl⟩
      rw [← g19]
      rw [← g19] at A19 Ea19
      have g_ba : n0 ≤ ba := by rw [g19]; exact zs
      have zs := Nat.le_trans zs E19.1
      have A_ba : Oar Z h19 ba .byte 2 (fun _ => defaultValue .byte) := Oar.new A19 (by decide) rfl
      have E_ba := Ea19
      show Ogo p e below _ (T19.setTop (mkF m 45 #[.val (.long q1), .second, .val (.int p2), .val (.int p3), .val (.int b0), .val (.int b1), .val (.int b2), .val (.int (0 : Int32)), .val (.int (2 : Int32)), .val (.int y0), .val (.int y1), .val (.int y2), .val .null, .unset, .unset, .unset] [(.ref ba)]))
      refine own_via (fun tq kq => XS.astore X19.here hx rfl (hb hby at_45) rfl rfl (l' := #[.val (.long q1), .second, .val (.int p2), .val (.int p3), .val (.int b0), .val (.int b1), .val (.int b2), .val (.int (0 : Int32)), .val (.int (2 : Int32)), .val (.int y0), .val (.int y1), .val (.int y2), .val (.ref ba), .unset, .unset, .unset]) rfl kq) ?_
      show Ogo p e below _ (T19.setTop (mkF m 47 #[.val (.long q1), .second, .val (.int p2), .val (.int p3), .val (.int b0), .val (.int b1), .val (.int b2), .val (.int (0 : Int32)), .val (.int (2 : Int32)), .val (.int y0), .val (.int y1), .val (.int y2), .val (.ref ba), .unset, .unset, .unset] []))
      refine own_via (fun tq kq => XS.iload X19.here hx rfl (hb hby at_47) rfl kq) ?_
      show Ogo p e below _ (T19.setTop (mkF m 49 #[.val (.long q1), .second, .val (.int p2), .val (.int p3), .val (.int b0), .val (.int b1), .val (.int b2), .val (.int (0 : Int32)), .val (.int (2 : Int32)), .val (.int y0), .val (.int y1), .val (.int y2), .val (.ref ba), .unset, .unset, .unset] [(.int (2 : Int32))]))
      refine own_via (fun tq kq => XS.iconst X19.here hx rfl (hb hby at_49) kq) ?_
      show Ogo p e below _ (T19.setTop (mkF m 50 #[.val (.long q1), .second, .val (.int p2), .val (.int p3), .val (.int b0), .val (.int b1), .val (.int b2), .val (.int (0 : Int32)), .val (.int (2 : Int32)), .val (.int y0), .val (.int y1), .val (.int y2), .val (.ref ba), .unset, .unset, .unset] [(.int (1 : Int32)), (.int (2 : Int32))]))
      refine own_via (fun tq kq => XS.icmpNo X19.here hx rfl (hb hby at_50) rfl (flt ((by decide) : ¬ ((2 : Int32) < (1 : Int32)))).1 kq) ?_
      show Ogo p e below _ (T19.setTop (mkF m 53 #[.val (.long q1), .second, .val (.int p2), .val (.int p3), .val (.int b0), .val (.int b1), .val (.int b2), .val (.int (0 : Int32)), .val (.int (2 : Int32)), .val (.int y0), .val (.int y1), .val (.int y2), .val (.ref ba), .unset, .unset, .unset] []))
      refine own_via (fun tq kq => XS.aload X19.here hx rfl (hb hby at_53) rfl rfl kq) ?_
      show Ogo p e below _ (T19.setTop (mkF m 55 #[.val (.long q1), .second, .val (.int p2), .val (.int p3), .val (.int b0), .val (.int b1), .val (.int b2), .val (.int (0 : Int32)), .val (.int (2 : Int32)), .val (.int y0), .val (.int y1), .val (.int y2), .val (.ref ba), .unset, .unset, .unset] [(.ref ba)]))
      refine own_via (fun tq kq => XS.iconst X19.here hx rfl (hb hby at_55) kq) ?_
      show Ogo p e below _ (T19.setTop (mkF m 56 #[.val (.long q1), .second, .val (.int p2), .val (.int p3), .val (.int b0), .val (.int b1), .val (.int b2), .val (.int (0 : Int32)), .val (.int (2 : Int32)), .val (.int y0), .val (.int y1), .val (.int y2), .val (.ref ba), .unset, .unset, .unset] [(.int (0 : Int32)), (.ref ba)]))
      refine own_via (fun tq kq => XS.iload X19.here hx rfl (hb hby at_56) rfl kq) ?_
      show Ogo p e below _ (T19.setTop (mkF m 58 #[.val (.long q1), .second, .val (.int p2), .val (.int p3), .val (.int b0), .val (.int b1), .val (.int b2), .val (.int (0 : Int32)), .val (.int (2 : Int32)), .val (.int y0), .val (.int y1), .val (.int y2), .val (.ref ba), .unset, .unset, .unset] [(.int y0), (.int (0 : Int32)), (.ref ba)]))
      obtain ⟨T20, h20, X20, e20, W20, A_ba', st20⟩ := own_bast X19 hx hZ e19 A_ba (x := y0) (j := (0 : Int32)) (i := 0) (by decide) (by decide) (pc := 58) (Ls := #[.val (.long q1), .second, .val (.int p2), .val (.int p3), .val (.int b0), .val (.int b1), .val (.int b2), .val (.int (0 : Int32)), .val (.int (2 : Int32)), .val (.int y0), .val (.int y1), .val (.int y2), .val (.ref ba), .unset, .unset, .unset]) (rest := []) (hb hby at_58)
      refine own_via st20 ?_
      have E_ba := E_ba.wr W20
      have zs := Nat.le_trans zs (Keep.of_wr W20).1
      have N := Fr.snoc X20 N g_ba
      have A_ba := A_ba'
      show Ogo p e below _ (T20.setTop (mkF m 59 #[.val (.long q1), .second, .val (.int p2), .val (.int p3), .val (.int b0), .val (.int b1), .val (.int b2), .val (.int (0 : Int32)), .val (.int (2 : Int32)), .val (.int y0), .val (.int y1), .val (.int y2), .val (.ref ba), .unset, .unset, .unset] []))
      refine own_via (fun tq kq => XS.iload X20.here hx rfl (hb hby at_59) rfl kq) ?_
      show Ogo p e below _ (T20.setTop (mkF m 61 #[.val (.long q1), .second, .val (.int p2), .val (.int p3), .val (.int b0), .val (.int b1), .val (.int b2), .val (.int (0 : Int32)), .val (.int (2 : Int32)), .val (.int y0), .val (.int y1), .val (.int y2), .val (.ref ba), .unset, .unset, .unset] [(.int (2 : Int32))]))
      refine own_via (fun tq kq => XS.iconst X20.here hx rfl (hb hby at_61) kq) ?_
      show Ogo p e below _ (T20.setTop (mkF m 62 #[.val (.long q1), .second, .val (.int p2), .val (.int p3), .val (.int b0), .val (.int b1), .val (.int b2), .val (.int (0 : Int32)), .val (.int (2 : Int32)), .val (.int y0), .val (.int y1), .val (.int y2), .val (.ref ba), .unset, .unset, .unset] [(.int (2 : Int32)), (.int (2 : Int32))]))
      refine own_via (fun tq kq => XS.icmpNo X20.here hx rfl (hb hby at_62) rfl (flt ((by decide) : ¬ ((2 : Int32) < (2 : Int32)))).1 kq) ?_
      show Ogo p e below _ (T20.setTop (mkF m 65 #[.val (.long q1), .second, .val (.int p2), .val (.int p3), .val (.int b0), .val (.int b1), .val (.int b2), .val (.int (0 : Int32)), .val (.int (2 : Int32)), .val (.int y0), .val (.int y1), .val (.int y2), .val (.ref ba), .unset, .unset, .unset] []))
      refine own_via (fun tq kq => XS.aload X20.here hx rfl (hb hby at_65) rfl rfl kq) ?_
      show Ogo p e below _ (T20.setTop (mkF m 67 #[.val (.long q1), .second, .val (.int p2), .val (.int p3), .val (.int b0), .val (.int b1), .val (.int b2), .val (.int (0 : Int32)), .val (.int (2 : Int32)), .val (.int y0), .val (.int y1), .val (.int y2), .val (.ref ba), .unset, .unset, .unset] [(.ref ba)]))
      refine own_via (fun tq kq => XS.iconst X20.here hx rfl (hb hby at_67) kq) ?_
      show Ogo p e below _ (T20.setTop (mkF m 68 #[.val (.long q1), .second, .val (.int p2), .val (.int p3), .val (.int b0), .val (.int b1), .val (.int b2), .val (.int (0 : Int32)), .val (.int (2 : Int32)), .val (.int y0), .val (.int y1), .val (.int y2), .val (.ref ba), .unset, .unset, .unset] [(.int (1 : Int32)), (.ref ba)]))
      refine own_via (fun tq kq => XS.iload X20.here hx rfl (hb hby at_68) rfl kq) ?_
      show Ogo p e below _ (T20.setTop (mkF m 70 #[.val (.long q1), .second, .val (.int p2), .val (.int p3), .val (.int b0), .val (.int b1), .val (.int b2), .val (.int (0 : Int32)), .val (.int (2 : Int32)), .val (.int y0), .val (.int y1), .val (.int y2), .val (.ref ba), .unset, .unset, .unset] [(.int y1), (.int (1 : Int32)), (.ref ba)]))
      obtain ⟨T21, h21, X21, e21, W21, A_ba', st21⟩ := own_bast X20 hx hZ e20 A_ba (x := y1) (j := (1 : Int32)) (i := 1) (by decide) (by decide) (pc := 70) (Ls := #[.val (.long q1), .second, .val (.int p2), .val (.int p3), .val (.int b0), .val (.int b1), .val (.int b2), .val (.int (0 : Int32)), .val (.int (2 : Int32)), .val (.int y0), .val (.int y1), .val (.int y2), .val (.ref ba), .unset, .unset, .unset]) (rest := []) (hb hby at_70)
      refine own_via st21 ?_
      have E_ba := E_ba.wr W21
      have zs := Nat.le_trans zs (Keep.of_wr W21).1
      have N := Fr.snoc X21 N g_ba
      have A_ba := A_ba'
      show Ogo p e below _ (T21.setTop (mkF m 71 #[.val (.long q1), .second, .val (.int p2), .val (.int p3), .val (.int b0), .val (.int b1), .val (.int b2), .val (.int (0 : Int32)), .val (.int (2 : Int32)), .val (.int y0), .val (.int y1), .val (.int y2), .val (.ref ba), .unset, .unset, .unset] []))
      refine own_via (fun tq kq => XS.iload X21.here hx rfl (hb hby at_71) rfl kq) ?_
      show Ogo p e below _ (T21.setTop (mkF m 73 #[.val (.long q1), .second, .val (.int p2), .val (.int p3), .val (.int b0), .val (.int b1), .val (.int b2), .val (.int (0 : Int32)), .val (.int (2 : Int32)), .val (.int y0), .val (.int y1), .val (.int y2), .val (.ref ba), .unset, .unset, .unset] [(.int (2 : Int32))]))
      refine own_via (fun tq kq => XS.iconst X21.here hx rfl (hb hby at_73) kq) ?_
      show Ogo p e below _ (T21.setTop (mkF m 74 #[.val (.long q1), .second, .val (.int p2), .val (.int p3), .val (.int b0), .val (.int b1), .val (.int b2), .val (.int (0 : Int32)), .val (.int (2 : Int32)), .val (.int y0), .val (.int y1), .val (.int y2), .val (.ref ba), .unset, .unset, .unset] [(.int (3 : Int32)), (.int (2 : Int32))]))
      refine own_via (fun tq kq => XS.icmpYes X21.here hx rfl (pc0 := 74) (pc' := 83) rfl (hb hby at_74) rfl (tlt ((by decide) : (2 : Int32) < (3 : Int32))).1 (by decide) (by decide) kq) ?_
      show Ogo p e below _ (T21.setTop (mkF m 83 #[.val (.long q1), .second, .val (.int p2), .val (.int p3), .val (.int b0), .val (.int b1), .val (.int b2), .val (.int (0 : Int32)), .val (.int (2 : Int32)), .val (.int y0), .val (.int y1), .val (.int y2), .val (.ref ba), .unset, .unset, .unset] []))
      have A_ba := A_ba.cast (f' := own_f y0 y1 y2) (by intro j hj; rcases j with _ | _ | _ | j <;> first | omega | simp [own_f, hk0, hk1, hk2])
      obtain ⟨T22, h22, X22, e22, E22, A22, D22, -, st22⟩ := newO X21 hx hZ hown (hw _ (List.mem_of_getElem? (i := 1) rfl)) (hw _ (List.mem_of_getElem? (i := 2) rfl)) (hw _ (List.mem_of_getElem? (i := 3) rfl)) e21 (g := (mkF m 83 #[.val (.long q1), .second, .val (.int p2), .val (.int p3), .val (.int b0), .val (.int b1), .val (.int b2), .val (.int (0 : Int32)), .val (.int (2 : Int32)), .val (.int y0), .val (.int y1), .val (.int y2), .val (.ref ba), .unset, .unset, .unset] [])) rfl (hb hby at_83) (by decide) (by decide)
      refine own_via st22 ?_
      obtain ⟨bv, g22⟩ : ∃ z, z = h21.size := ⟨_, rfl⟩
      rw [← g22]
      rw [← g22] at A22 D22
      have lt_ba_bv : ba < bv := by rw [g22]; exact A_ba.lt
      have g_bv : n0 ≤ bv := by rw [g22]; exact zs
      have A_ba := A_ba.ext E22
      have E_ba := E_ba.ext E22
      have zs := Nat.le_trans zs E22.1
      have E_bv := A22
      have F_revision_bv : Fld Z h22 bv "com/example/keep_posted/keepposted/client/Value" "revision" "J" (.long (0 : Int64)) := D22 (Or.inr (hw _ (List.mem_of_getElem? (i := 11) rfl))) (ty := .long) (by decide)
      have F_bytes_bv : Fld Z h22 bv "com/example/keep_posted/keepposted/client/Value" "bytes" "[B" .null := D22 (Or.inr (hw _ (List.mem_of_getElem? (i := 13) rfl))) (ty := (.array .byte)) (by decide)
      show Ogo p e below _ (T22.setTop (mkF m 86 #[.val (.long q1), .second, .val (.int p2), .val (.int p3), .val (.int b0), .val (.int b1), .val (.int b2), .val (.int (0 : Int32)), .val (.int (2 : Int32)), .val (.int y0), .val (.int y1), .val (.int y2), .val (.ref ba), .unset, .unset, .unset] [(.ref bv)]))
      refine own_via (fun tq kq => XS.dup X22.here hx rfl (hb hby at_86) rfl rfl kq) ?_
      show Ogo p e below _ (T22.setTop (mkF m 87 #[.val (.long q1), .second, .val (.int p2), .val (.int p3), .val (.int b0), .val (.int b1), .val (.int b2), .val (.int (0 : Int32)), .val (.int (2 : Int32)), .val (.int y0), .val (.int y1), .val (.int y2), .val (.ref ba), .unset, .unset, .unset] [(.ref bv), (.ref bv)]))
      refine own_via (fun tq kq => XS.lloadN X22.here hx rfl (hb hby at_87) rfl kq) ?_
      show Ogo p e below _ (T22.setTop (mkF m 88 #[.val (.long q1), .second, .val (.int p2), .val (.int p3), .val (.int b0), .val (.int b1), .val (.int b2), .val (.int (0 : Int32)), .val (.int (2 : Int32)), .val (.int y0), .val (.int y1), .val (.int y2), .val (.ref ba), .unset, .unset, .unset] [(.long q1), (.ref bv), (.ref bv)]))
      refine own_via (fun tq kq => XS.aload X22.here hx rfl (hb hby at_88) rfl rfl kq) ?_
      show Ogo p e below _ (T22.setTop (mkF m 90 #[.val (.long q1), .second, .val (.int p2), .val (.int p3), .val (.int b0), .val (.int b1), .val (.int b2), .val (.int (0 : Int32)), .val (.int (2 : Int32)), .val (.int y0), .val (.int y1), .val (.int y2), .val (.ref ba), .unset, .unset, .unset] [(.ref ba), (.long q1), (.ref bv), (.ref bv)]))
      refine own_callI X22 hx hZ rfl hown (hw _ (List.mem_of_getElem? (i := 4) rfl)) (hw _ (List.mem_of_getElem? (i := 5) rfl)) (hw _ (List.mem_of_getElem? (i := 3) rfl)) (hw _ (List.mem_of_getElem? (i := 6) rfl)) (by decide) (rm_vi hw bv q1 ba h22 n0 E_bv F_revision_bv F_bytes_bv g_bv) rfl e22 (W := 1) (by decide) (by decide) (by decide) (by decide) (by rw [hml]; rfl) (a := bv) (argsL := [(.long q1), (.ref ba)]) (rest := [(.ref bv)]) (lenOf pd_0 rfl) rfl (Nat.le_of_eq rfl) (hb hby at_90) ?_
      rintro _ T23 L23 X23 ⟨rfl, Nq, Kc, F_bytes_bv⟩
      have N := N.app Nq
      have A_ba := A_ba.keep Kc (ninS (Nat.ne_of_lt lt_ba_bv) nin0)
      have E_ba := E_ba.keep Kc
      have E_bv := E_bv.keep Kc
      have zs := Nat.le_trans zs Kc.1
      show Ogo p e below _ (T23.setTop (mkF m 93 #[.val (.long q1), .second, .val (.int p2), .val (.int p3), .val (.int b0), .val (.int b1), .val (.int b2), .val (.int (0 : Int32)), .val (.int (2 : Int32)), .val (.int y0), .val (.int y1), .val (.int y2), .val (.ref ba), .unset, .unset, .unset] [(.ref bv)]))
      refine own_via (fun tq kq => XS.astore X23.here hx rfl (hb hby at_93) rfl rfl (l' := #[.val (.long q1), .second, .val (.int p2), .val (.int p3), .val (.int b0), .val (.int b1), .val (.int b2), .val (.int (0 : Int32)), .val (.int (2 : Int32)), .val (.int y0), .val (.int y1), .val (.int y2), .val (.ref ba), .val (.ref bv), .unset, .unset]) rfl kq) ?_
      show Ogo p e below _ (T23.setTop (mkF m 95 #[.val (.long q1), .second, .val (.int p2), .val (.int p3), .val (.int b0), .val (.int b1), .val (.int b2), .val (.int (0 : Int32)), .val (.int (2 : Int32)), .val (.int y0), .val (.int y1), .val (.int y2), .val (.ref ba), .val (.ref bv), .unset, .unset] []))
      refine own_via (fun tq kq => XS.aload X23.here hx rfl (hb hby at_95) rfl rfl kq) ?_
      show Ogo p e below _ (T23.setTop (mkF m 97 #[.val (.long q1), .second, .val (.int p2), .val (.int p3), .val (.int b0), .val (.int b1), .val (.int b2), .val (.int (0 : Int32)), .val (.int (2 : Int32)), .val (.int y0), .val (.int y1), .val (.int y2), .val (.ref ba), .val (.ref bv), .unset, .unset] [(.ref bv)]))
      refine own_callV X23 hx hZ hown (hw _ (List.mem_of_getElem? (i := 14) rfl)) (hw _ (List.mem_of_getElem? (i := 15) rfl)) (hw _ (List.mem_of_getElem? (i := 17) rfl)) (hw _ (List.mem_of_getElem? (i := 16) rfl)) (hw _ (List.mem_of_getElem? (i := 3) rfl)) (hw _ (List.mem_of_getElem? (i := 18) rfl)) (notFace_of_selects (args := #[]) (mvT hZ (hw _ (List.mem_of_getElem? (i := 17) rfl)))) (by decide) (rm_by hw bv ba 2 (own_f y0 y1 y2) T23.heap n0 F_bytes_bv A_ba E_ba (fun j _ => hft j) (by decide) zs) rfl rfl E_bv (W := 0) (by decide) (by decide) (by decide) (by decide) (by rw [hml]; rfl) (b := bv) (argsL := []) (rest := []) (lenOf pd_1 rfl) rfl (Nat.le_of_eq rfl) (hb hby at_97) ?_
      rintro _ T24 L24 X24 ⟨r1, rfl, Nq, Kc, hsz, A_r1, E_r1⟩
      have N := N.app Nq
      have lt_ba_r1 : ba < r1 := Nat.lt_of_lt_of_le E_ba.lt hsz
      have lt_bv_r1 : bv < r1 := Nat.lt_of_lt_of_le E_bv.lt hsz
      have g_r1 : n0 ≤ r1 := Nat.le_trans zs hsz
      have A_ba := A_ba.keep Kc nin0
      have E_ba := E_ba.keep Kc
      have E_bv := E_bv.keep Kc
      have F_bytes_bv := F_bytes_bv.keep Kc nin0
      have zs := Nat.le_trans zs Kc.1
      show Ogo p e below _ (T24.setTop (mkF m 100 #[.val (.long q1), .second, .val (.int p2), .val (.int p3), .val (.int b0), .val (.int b1), .val (.int b2), .val (.int (0 : Int32)), .val (.int (2 : Int32)), .val (.int y0), .val (.int y1), .val (.int y2), .val (.ref ba), .val (.ref bv), .unset, .unset] [(.ref r1)]))
      refine own_via (fun tq kq => XS.astore X24.here hx rfl (hb hby at_100) rfl rfl (l' := #[.val (.long q1), .second, .val (.int p2), .val (.int p3), .val (.int b0), .val (.int b1), .val (.int b2), .val (.int (0 : Int32)), .val (.int (2 : Int32)), .val (.int y0), .val (.int y1), .val (.int y2), .val (.ref ba), .val (.ref bv), .val (.ref r1), .unset]) rfl kq) ?_
      show Ogo p e below _ (T24.setTop (mkF m 102 #[.val (.long q1), .second, .val (.int p2), .val (.int p3), .val (.int b0), .val (.int b1), .val (.int b2), .val (.int (0 : Int32)), .val (.int (2 : Int32)), .val (.int y0), .val (.int y1), .val (.int y2), .val (.ref ba), .val (.ref bv), .val (.ref r1), .unset] []))
      refine own_via (fun tq kq => XS.iload X24.here hx rfl (hb hby at_102) rfl kq) ?_
      show Ogo p e below _ (T24.setTop (mkF m 104 #[.val (.long q1), .second, .val (.int p2), .val (.int p3), .val (.int b0), .val (.int b1), .val (.int b2), .val (.int (0 : Int32)), .val (.int (2 : Int32)), .val (.int y0), .val (.int y1), .val (.int y2), .val (.ref ba), .val (.ref bv), .val (.ref r1), .unset] [(.int (0 : Int32))]))
      refine own_via (fun tq kq => XS.ifYes X24.here hx rfl (pc0 := 104) (pc' := 130) rfl (hb hby at_104) rfl ((if0 _ _).trans (teq ((by decide) : (0 : Int32) = (0 : Int32))).1) (by decide) (by decide) kq) ?_
      show Ogo p e below _ (T24.setTop (mkF m 130 #[.val (.long q1), .second, .val (.int p2), .val (.int p3), .val (.int b0), .val (.int b1), .val (.int b2), .val (.int (0 : Int32)), .val (.int (2 : Int32)), .val (.int y0), .val (.int y1), .val (.int y2), .val (.ref ba), .val (.ref bv), .val (.ref r1), .unset] []))
      refine own_via (fun tq kq => XS.aload X24.here hx rfl (hb hby at_130) rfl rfl kq) ?_
      show Ogo p e below _ (T24.setTop (mkF m 132 #[.val (.long q1), .second, .val (.int p2), .val (.int p3), .val (.int b0), .val (.int b1), .val (.int b2), .val (.int (0 : Int32)), .val (.int (2 : Int32)), .val (.int y0), .val (.int y1), .val (.int y2), .val (.ref ba), .val (.ref bv), .val (.ref r1), .unset] [(.ref r1)]))
      refine own_via (fun tq kq => XS.ifnonnullYes X24.here hx rfl (pc0 := 132) (pc' := 137) rfl (hb hby at_132) rfl (by decide) (by decide) kq) ?_
      show Ogo p e below _ (T24.setTop (mkF m 137 #[.val (.long q1), .second, .val (.int p2), .val (.int p3), .val (.int b0), .val (.int b1), .val (.int b2), .val (.int (0 : Int32)), .val (.int (2 : Int32)), .val (.int y0), .val (.int y1), .val (.int y2), .val (.ref ba), .val (.ref bv), .val (.ref r1), .unset] []))
      refine own_via (fun tq kq => XS.aload X24.here hx rfl (hb hby at_137) rfl rfl kq) ?_
      show Ogo p e below _ (T24.setTop (mkF m 139 #[.val (.long q1), .second, .val (.int p2), .val (.int p3), .val (.int b0), .val (.int b1), .val (.int b2), .val (.int (0 : Int32)), .val (.int (2 : Int32)), .val (.int y0), .val (.int y1), .val (.int y2), .val (.ref ba), .val (.ref bv), .val (.ref r1), .unset] [(.ref r1)]))
      refine own_via (fun tq kq => XS.aload X24.here hx rfl (hb hby at_139) rfl rfl kq) ?_
      show Ogo p e below _ (T24.setTop (mkF m 141 #[.val (.long q1), .second, .val (.int p2), .val (.int p3), .val (.int b0), .val (.int b1), .val (.int b2), .val (.int (0 : Int32)), .val (.int (2 : Int32)), .val (.int y0), .val (.int y1), .val (.int y2), .val (.ref ba), .val (.ref bv), .val (.ref r1), .unset] [(.ref ba), (.ref r1)]))
      refine own_via (fun tq kq => Jvm.RoadKit.acmp (g := (mkF m 141 #[.val (.long q1), .second, .val (.int p2), .val (.int p3), .val (.int b0), .val (.int b1), .val (.int b2), .val (.int (0 : Int32)), .val (.int (2 : Int32)), .val (.int y0), .val (.int y1), .val (.int y2), .val (.ref ba), .val (.ref bv), .val (.ref r1), .unset] [(.ref ba), (.ref r1)])) X24 hx rfl rfl rfl (pc0 := 141) (pc' := 146) (same := false) rfl (hb hby at_141) rfl (decide_eq_false fun q => (Nat.ne_of_gt lt_ba_r1) (Value.ref.inj q)) (by decide) (by decide) kq) ?_
      show Ogo p e below _ (T24.setTop (mkF m 146 #[.val (.long q1), .second, .val (.int p2), .val (.int p3), .val (.int b0), .val (.int b1), .val (.int b2), .val (.int (0 : Int32)), .val (.int (2 : Int32)), .val (.int y0), .val (.int y1), .val (.int y2), .val (.ref ba), .val (.ref bv), .val (.ref r1), .unset] []))
      refine own_via (fun tq kq => XS.aload X24.here hx rfl (hb hby at_146) rfl rfl kq) ?_
      show Ogo p e below _ (T24.setTop (mkF m 148 #[.val (.long q1), .second, .val (.int p2), .val (.int p3), .val (.int b0), .val (.int b1), .val (.int b2), .val (.int (0 : Int32)), .val (.int (2 : Int32)), .val (.int y0), .val (.int y1), .val (.int y2), .val (.ref ba), .val (.ref bv), .val (.ref r1), .unset] [(.ref r1)]))
      refine own_via (fun tq kq => XS.iload X24.here hx rfl (hb hby at_148) rfl kq) ?_
      show Ogo p e below _ (T24.setTop (mkF m 150 #[.val (.long q1), .second, .val (.int p2), .val (.int p3), .val (.int b0), .val (.int b1), .val (.int b2), .val (.int (0 : Int32)), .val (.int (2 : Int32)), .val (.int y0), .val (.int y1), .val (.int y2), .val (.ref ba), .val (.ref bv), .val (.ref r1), .unset] [(.int (2 : Int32)), (.ref r1)]))
      refine own_via (fun tq kq => XS.iload X24.here hx rfl (hb hby at_150) rfl kq) ?_
      show Ogo p e below _ (T24.setTop (mkF m 152 #[.val (.long q1), .second, .val (.int p2), .val (.int p3), .val (.int b0), .val (.int b1), .val (.int b2), .val (.int (0 : Int32)), .val (.int (2 : Int32)), .val (.int y0), .val (.int y1), .val (.int y2), .val (.ref ba), .val (.ref bv), .val (.ref r1), .unset] [(.int y0), (.int (2 : Int32)), (.ref r1)]))
      refine own_via (fun tq kq => XS.iload X24.here hx rfl (hb hby at_152) rfl kq) ?_
      show Ogo p e below _ (T24.setTop (mkF m 154 #[.val (.long q1), .second, .val (.int p2), .val (.int p3), .val (.int b0), .val (.int b1), .val (.int b2), .val (.int (0 : Int32)), .val (.int (2 : Int32)), .val (.int y0), .val (.int y1), .val (.int y2), .val (.ref ba), .val (.ref bv), .val (.ref r1), .unset] [(.int y1), (.int y0), (.int (2 : Int32)), (.ref r1)]))
      refine own_via (fun tq kq => XS.iload X24.here hx rfl (hb hby at_154) rfl kq) ?_
      show Ogo p e below _ (T24.setTop (mkF m 156 #[.val (.long q1), .second, .val (.int p2), .val (.int p3), .val (.int b0), .val (.int b1), .val (.int b2), .val (.int (0 : Int32)), .val (.int (2 : Int32)), .val (.int y0), .val (.int y1), .val (.int y2), .val (.ref ba), .val (.ref bv), .val (.ref r1), .unset] [(.int y2), (.int y1), (.int y0), (.int (2 : Int32)), (.ref r1)]))
      refine own_callS X24 hx hZ hown (hw _ (List.mem_of_getElem? (i := 28) rfl)) (hw _ (List.mem_of_getElem? (i := 29) rfl)) (hw _ (List.mem_of_getElem? (i := 30) rfl)) (hw _ (List.mem_of_getElem? (i := 31) rfl)) (by decide) (rm_sm hw r1 (2 : Int32) y0 y1 y2 2 _ T24.heap n0 A_r1 rfl (fun _ => rfl) (fun _ => rfl) (fun _ => rfl)) rfl rfl (W := 0) (by decide) (by decide) (by decide) (by decide) (by rw [hml]; rfl) (argsL := [(.ref r1), (.int (2 : Int32)), (.int y0), (.int y1), (.int y2)]) (rest := []) (lenOf pd_2 rfl) rfl (Nat.le_of_eq rfl) (hb hby at_156) ?_
      rintro _ T25 L25 X25 ⟨rfl, Nq, hk⟩
      have N := N.app Nq
      have hk25 := hk
      show Ogo p e below _ (T25.setTop (mkF m 159 #[.val (.long q1), .second, .val (.int p2), .val (.int p3), .val (.int b0), .val (.int b1), .val (.int b2), .val (.int (0 : Int32)), .val (.int (2 : Int32)), .val (.int y0), .val (.int y1), .val (.int y2), .val (.ref ba), .val (.ref bv), .val (.ref r1), .unset] [(.int (1 : Int32))]))
      refine own_via (fun tq kq => XS.ifYes X25.here hx rfl (pc0 := 159) (pc' := 164) rfl (hb hby at_159) rfl ((if0 _ _).trans (feq ((by decide) : ¬ ((1 : Int32) = (0 : Int32)))).2) (by decide) (by decide) kq) ?_
      show Ogo p e below _ (T25.setTop (mkF m 164 #[.val (.long q1), .second, .val (.int p2), .val (.int p3), .val (.int b0), .val (.int b1), .val (.int b2), .val (.int (0 : Int32)), .val (.int (2 : Int32)), .val (.int y0), .val (.int y1), .val (.int y2), .val (.ref ba), .val (.ref bv), .val (.ref r1), .unset] []))
      refine own_via (fun tq kq => XS.iload X25.here hx rfl (hb hby at_164) rfl kq) ?_
      show Ogo p e below _ (T25.setTop (mkF m 166 #[.val (.long q1), .second, .val (.int p2), .val (.int p3), .val (.int b0), .val (.int b1), .val (.int b2), .val (.int (0 : Int32)), .val (.int (2 : Int32)), .val (.int y0), .val (.int y1), .val (.int y2), .val (.ref ba), .val (.ref bv), .val (.ref r1), .unset] [(.int (2 : Int32))]))
      refine own_via (fun tq kq => XS.iconst X25.here hx rfl (hb hby at_166) kq) ?_
      show Ogo p e below _ (T25.setTop (mkF m 167 #[.val (.long q1), .second, .val (.int p2), .val (.int p3), .val (.int b0), .val (.int b1), .val (.int b2), .val (.int (0 : Int32)), .val (.int (2 : Int32)), .val (.int y0), .val (.int y1), .val (.int y2), .val (.ref ba), .val (.ref bv), .val (.ref r1), .unset] [(.int (1 : Int32)), (.int (2 : Int32))]))
      refine own_via (fun tq kq => XS.icmpNo X25.here hx rfl (hb hby at_167) rfl (flt ((by decide) : ¬ ((2 : Int32) < (1 : Int32)))).1 kq) ?_
      show Ogo p e below _ (T25.setTop (mkF m 170 #[.val (.long q1), .second, .val (.int p2), .val (.int p3), .val (.int b0), .val (.int b1), .val (.int b2), .val (.int (0 : Int32)), .val (.int (2 : Int32)), .val (.int y0), .val (.int y1), .val (.int y2), .val (.ref ba), .val (.ref bv), .val (.ref r1), .unset] []))
      refine own_via (fun tq kq => XS.aload X25.here hx rfl (hb hby at_170) rfl rfl kq) ?_
      show Ogo p e below _ (T25.setTop (mkF m 172 #[.val (.long q1), .second, .val (.int p2), .val (.int p3), .val (.int b0), .val (.int b1), .val (.int b2), .val (.int (0 : Int32)), .val (.int (2 : Int32)), .val (.int y0), .val (.int y1), .val (.int y2), .val (.ref ba), .val (.ref bv), .val (.ref r1), .unset] [(.ref r1)]))
      refine own_via (fun tq kq => XS.iconst X25.here hx rfl (hb hby at_172) kq) ?_
      show Ogo p e below _ (T25.setTop (mkF m 173 #[.val (.long q1), .second, .val (.int p2), .val (.int p3), .val (.int b0), .val (.int b1), .val (.int b2), .val (.int (0 : Int32)), .val (.int (2 : Int32)), .val (.int y0), .val (.int y1), .val (.int y2), .val (.ref ba), .val (.ref bv), .val (.ref r1), .unset] [(.int (0 : Int32)), (.ref r1)]))
      refine own_via (fun tq kq => XS.aload X25.here hx rfl (hb hby at_173) rfl rfl kq) ?_
      show Ogo p e below _ (T25.setTop (mkF m 175 #[.val (.long q1), .second, .val (.int p2), .val (.int p3), .val (.int b0), .val (.int b1), .val (.int b2), .val (.int (0 : Int32)), .val (.int (2 : Int32)), .val (.int y0), .val (.int y1), .val (.int y2), .val (.ref ba), .val (.ref bv), .val (.ref r1), .unset] [(.ref r1), (.int (0 : Int32)), (.ref r1)]))
      refine own_via (fun tq kq => XS.iconst X25.here hx rfl (hb hby at_175) kq) ?_
      show Ogo p e below _ (T25.setTop (mkF m 176 #[.val (.long q1), .second, .val (.int p2), .val (.int p3), .val (.int b0), .val (.int b1), .val (.int b2), .val (.int (0 : Int32)), .val (.int (2 : Int32)), .val (.int y0), .val (.int y1), .val (.int y2), .val (.ref ba), .val (.ref bv), .val (.ref r1), .unset] [(.int (0 : Int32)), (.ref r1), (.int (0 : Int32)), (.ref r1)]))
      refine own_bald X25 hx hZ hk25 A_r1 (j := (0 : Int32)) (i := 0) (v := (.int y0)) (by decide) (by decide) rfl (hb hby at_176) ?_
      show Ogo p e below _ (T25.setTop (mkF m 177 #[.val (.long q1), .second, .val (.int p2), .val (.int p3), .val (.int b0), .val (.int b1), .val (.int b2), .val (.int (0 : Int32)), .val (.int (2 : Int32)), .val (.int y0), .val (.int y1), .val (.int y2), .val (.ref ba), .val (.ref bv), .val (.ref r1), .unset] [(.int y0), (.int (0 : Int32)), (.ref r1)]))
      refine own_via (fun tq kq => XS.iconst X25.here hx rfl (hb hby at_177) kq) ?_
      show Ogo p e below _ (T25.setTop (mkF m 178 #[.val (.long q1), .second, .val (.int p2), .val (.int p3), .val (.int b0), .val (.int b1), .val (.int b2), .val (.int (0 : Int32)), .val (.int (2 : Int32)), .val (.int y0), .val (.int y1), .val (.int y2), .val (.ref ba), .val (.ref bv), .val (.ref r1), .unset] [(.int (1 : Int32)), (.int y0), (.int (0 : Int32)), (.ref r1)]))
      refine own_via (fun tq kq => XS.iadd X25.here hx rfl (hb hby at_178) rfl kq) ?_
      show Ogo p e below _ (T25.setTop (mkF m 179 #[.val (.long q1), .second, .val (.int p2), .val (.int p3), .val (.int b0), .val (.int b1), .val (.int b2), .val (.int (0 : Int32)), .val (.int (2 : Int32)), .val (.int y0), .val (.int y1), .val (.int y2), .val (.ref ba), .val (.ref bv), .val (.ref r1), .unset] [(.int (y0 + (1 : Int32))), (.int (0 : Int32)), (.ref r1)]))
      refine own_via (fun tq kq => XS.i2b X25.here hx rfl (hb hby at_179) rfl kq) ?_
      show Ogo p e below _ (T25.setTop (mkF m 180 #[.val (.long q1), .second, .val (.int p2), .val (.int p3), .val (.int b0), .val (.int b1), .val (.int b2), .val (.int (0 : Int32)), .val (.int (2 : Int32)), .val (.int y0), .val (.int y1), .val (.int y2), .val (.ref ba), .val (.ref bv), .val (.ref r1), .unset] [(.int ((y0 + (1 : Int32)).toInt8.toInt32)), (.int (0 : Int32)), (.ref r1)]))
      obtain ⟨T26, h26, X26, e26, W26, A_r1', st26⟩ := own_bast X25 hx hZ hk25 A_r1 (x := ((y0 + (1 : Int32)).toInt8.toInt32)) (j := (0 : Int32)) (i := 0) (by decide) (by decide) (pc := 180) (Ls := #[.val (.long q1), .second, .val (.int p2), .val (.int p3), .val (.int b0), .val (.int b1), .val (.int b2), .val (.int (0 : Int32)), .val (.int (2 : Int32)), .val (.int y0), .val (.int y1), .val (.int y2), .val (.ref ba), .val (.ref bv), .val (.ref r1), .unset]) (rest := []) (hb hby at_180)
      refine own_via st26 ?_
      have A_ba := A_ba.other W26 (Nat.ne_of_lt lt_ba_r1)
      have E_ba := E_ba.wr W26
      have E_bv := E_bv.wr W26
      have F_bytes_bv := F_bytes_bv.other W26 (Or.inl (Nat.ne_of_lt lt_bv_r1))
      have E_r1 := E_r1.wr W26
      have zs := Nat.le_trans zs (Keep.of_wr W26).1
      have N := Fr.snoc X26 N g_r1
      have A_r1 := A_r1'
      show Ogo p e below _ (T26.setTop (mkF m 181 #[.val (.long q1), .second, .val (.int p2), .val (.int p3), .val (.int b0), .val (.int b1), .val (.int b2), .val (.int (0 : Int32)), .val (.int (2 : Int32)), .val (.int y0), .val (.int y1), .val (.int y2), .val (.ref ba), .val (.ref bv), .val (.ref r1), .unset] []))
      refine own_via (fun tq kq => XS.aload X26.here hx rfl (hb hby at_181) rfl rfl kq) ?_
      show Ogo p e below _ (T26.setTop (mkF m 183 #[.val (.long q1), .second, .val (.int p2), .val (.int p3), .val (.int b0), .val (.int b1), .val (.int b2), .val (.int (0 : Int32)), .val (.int (2 : Int32)), .val (.int y0), .val (.int y1), .val (.int y2), .val (.ref ba), .val (.ref bv), .val (.ref r1), .unset] [(.ref bv)]))
      refine own_callV X26 hx hZ hown (hw _ (List.mem_of_getElem? (i := 14) rfl)) (hw _ (List.mem_of_getElem? (i := 15) rfl)) (hw _ (List.mem_of_getElem? (i := 17) rfl)) (hw _ (List.mem_of_getElem? (i := 16) rfl)) (hw _ (List.mem_of_getElem? (i := 3) rfl)) (hw _ (List.mem_of_getElem? (i := 18) rfl)) (notFace_of_selects (args := #[]) (mvT hZ (hw _ (List.mem_of_getElem? (i := 17) rfl)))) (by decide) (rm_by hw bv ba 2 (own_f y0 y1 y2) h26 n0 F_bytes_bv A_ba E_ba (fun j _ => hft j) (by decide) zs) rfl e26 E_bv (W := 0) (by decide) (by decide) (by decide) (by decide) (by rw [hml]; rfl) (b := bv) (argsL := []) (rest := []) (lenOf pd_1 rfl) rfl (Nat.le_of_eq rfl) (hb hby at_183) ?_
      rintro _ T27 L27 X27 ⟨r2, rfl, Nq, Kc, hsz, A_r2, E_r2⟩
      have N := N.app Nq
      have lt_ba_r2 : ba < r2 := Nat.lt_of_lt_of_le E_ba.lt hsz
      have lt_bv_r2 : bv < r2 := Nat.lt_of_lt_of_le E_bv.lt hsz
      have lt_r1_r2 : r1 < r2 := Nat.lt_of_lt_of_le E_r1.lt hsz
      have g_r2 : n0 ≤ r2 := Nat.le_trans zs hsz
      have A_ba := A_ba.keep Kc nin0
      have E_ba := E_ba.keep Kc
      have E_bv := E_bv.keep Kc
      have F_bytes_bv := F_bytes_bv.keep Kc nin0
      have A_r1 := A_r1.keep Kc nin0
      have E_r1 := E_r1.keep Kc
      have zs := Nat.le_trans zs Kc.1
      show Ogo p e below _ (T27.setTop (mkF m 186 #[.val (.long q1), .second, .val (.int p2), .val (.int p3), .val (.int b0), .val (.int b1), .val (.int b2), .val (.int (0 : Int32)), .val (.int (2 : Int32)), .val (.int y0), .val (.int y1), .val (.int y2), .val (.ref ba), .val (.ref bv), .val (.ref r1), .unset] [(.ref r2)]))
      refine own_via (fun tq kq => XS.astore X27.here hx rfl (hb hby at_186) rfl rfl (l' := #[.val (.long q1), .second, .val (.int p2), .val (.int p3), .val (.int b0), .val (.int b1), .val (.int b2), .val (.int (0 : Int32)), .val (.int (2 : Int32)), .val (.int y0), .val (.int y1), .val (.int y2), .val (.ref ba), .val (.ref bv), .val (.ref r1), .val (.ref r2)]) rfl kq) ?_
      show Ogo p e below _ (T27.setTop (mkF m 188 #[.val (.long q1), .second, .val (.int p2), .val (.int p3), .val (.int b0), .val (.int b1), .val (.int b2), .val (.int (0 : Int32)), .val (.int (2 : Int32)), .val (.int y0), .val (.int y1), .val (.int y2), .val (.ref ba), .val (.ref bv), .val (.ref r1), .val (.ref r2)] []))
      refine own_via (fun tq kq => XS.aload X27.here hx rfl (hb hby at_188) rfl rfl kq) ?_
      show Ogo p e below _ (T27.setTop (mkF m 190 #[.val (.long q1), .second, .val (.int p2), .val (.int p3), .val (.int b0), .val (.int b1), .val (.int b2), .val (.int (0 : Int32)), .val (.int (2 : Int32)), .val (.int y0), .val (.int y1), .val (.int y2), .val (.ref ba), .val (.ref bv), .val (.ref r1), .val (.ref r2)] [(.ref r2)]))
      refine own_via (fun tq kq => XS.ifnonnullYes X27.here hx rfl (pc0 := 190) (pc' := 195) rfl (hb hby at_190) rfl (by decide) (by decide) kq) ?_
      show Ogo p e below _ (T27.setTop (mkF m 195 #[.val (.long q1), .second, .val (.int p2), .val (.int p3), .val (.int b0), .val (.int b1), .val (.int b2), .val (.int (0 : Int32)), .val (.int (2 : Int32)), .val (.int y0), .val (.int y1), .val (.int y2), .val (.ref ba), .val (.ref bv), .val (.ref r1), .val (.ref r2)] []))
      refine own_via (fun tq kq => XS.aload X27.here hx rfl (hb hby at_195) rfl rfl kq) ?_
      show Ogo p e below _ (T27.setTop (mkF m 197 #[.val (.long q1), .second, .val (.int p2), .val (.int p3), .val (.int b0), .val (.int b1), .val (.int b2), .val (.int (0 : Int32)), .val (.int (2 : Int32)), .val (.int y0), .val (.int y1), .val (.int y2), .val (.ref ba), .val (.ref bv), .val (.ref r1), .val (.ref r2)] [(.ref r2)]))
      refine own_via (fun tq kq => XS.aload X27.here hx rfl (hb hby at_197) rfl rfl kq) ?_
      show Ogo p e below _ (T27.setTop (mkF m 199 #[.val (.long q1), .second, .val (.int p2), .val (.int p3), .val (.int b0), .val (.int b1), .val (.int b2), .val (.int (0 : Int32)), .val (.int (2 : Int32)), .val (.int y0), .val (.int y1), .val (.int y2), .val (.ref ba), .val (.ref bv), .val (.ref r1), .val (.ref r2)] [(.ref ba), (.ref r2)]))
      refine own_via (fun tq kq => Jvm.RoadKit.acmp (g := (mkF m 199 #[.val (.long q1), .second, .val (.int p2), .val (.int p3), .val (.int b0), .val (.int b1), .val (.int b2), .val (.int (0 : Int32)), .val (.int (2 : Int32)), .val (.int y0), .val (.int y1), .val (.int y2), .val (.ref ba), .val (.ref bv), .val (.ref r1), .val (.ref r2)] [(.ref ba), (.ref r2)])) X27 hx rfl rfl rfl (pc0 := 199) (pc' := 202) (same := false) rfl (hb hby at_199) rfl (decide_eq_false fun q => (Nat.ne_of_gt lt_ba_r2) (Value.ref.inj q)) (by decide) (by decide) kq) ?_
      show Ogo p e below _ (T27.setTop (mkF m 202 #[.val (.long q1), .second, .val (.int p2), .val (.int p3), .val (.int b0), .val (.int b1), .val (.int b2), .val (.int (0 : Int32)), .val (.int (2 : Int32)), .val (.int y0), .val (.int y1), .val (.int y2), .val (.ref ba), .val (.ref bv), .val (.ref r1), .val (.ref r2)] []))
      refine own_via (fun tq kq => XS.aload X27.here hx rfl (hb hby at_202) rfl rfl kq) ?_
      show Ogo p e below _ (T27.setTop (mkF m 204 #[.val (.long q1), .second, .val (.int p2), .val (.int p3), .val (.int b0), .val (.int b1), .val (.int b2), .val (.int (0 : Int32)), .val (.int (2 : Int32)), .val (.int y0), .val (.int y1), .val (.int y2), .val (.ref ba), .val (.ref bv), .val (.ref r1), .val (.ref r2)] [(.ref r2)]))
      refine own_via (fun tq kq => XS.aload X27.here hx rfl (hb hby at_204) rfl rfl kq) ?_
      show Ogo p e below _ (T27.setTop (mkF m 206 #[.val (.long q1), .second, .val (.int p2), .val (.int p3), .val (.int b0), .val (.int b1), .val (.int b2), .val (.int (0 : Int32)), .val (.int (2 : Int32)), .val (.int y0), .val (.int y1), .val (.int y2), .val (.ref ba), .val (.ref bv), .val (.ref r1), .val (.ref r2)] [(.ref r1), (.ref r2)]))
      refine own_via (fun tq kq => Jvm.RoadKit.acmp (g := (mkF m 206 #[.val (.long q1), .second, .val (.int p2), .val (.int p3), .val (.int b0), .val (.int b1), .val (.int b2), .val (.int (0 : Int32)), .val (.int (2 : Int32)), .val (.int y0), .val (.int y1), .val (.int y2), .val (.ref ba), .val (.ref bv), .val (.ref r1), .val (.ref r2)] [(.ref r1), (.ref r2)])) X27 hx rfl rfl rfl (pc0 := 206) (pc' := 211) (same := false) rfl (hb hby at_206) rfl (decide_eq_false fun q => (Nat.ne_of_gt lt_r1_r2) (Value.ref.inj q)) (by decide) (by decide) kq) ?_
      show Ogo p e below _ (T27.setTop (mkF m 211 #[.val (.long q1), .second, .val (.int p2), .val (.int p3), .val (.int b0), .val (.int b1), .val (.int b2), .val (.int (0 : Int32)), .val (.int (2 : Int32)), .val (.int y0), .val (.int y1), .val (.int y2), .val (.ref ba), .val (.ref bv), .val (.ref r1), .val (.ref r2)] []))
      refine own_via (fun tq kq => XS.aload X27.here hx rfl (hb hby at_211) rfl rfl kq) ?_
      show Ogo p e below _ (T27.setTop (mkF m 213 #[.val (.long q1), .second, .val (.int p2), .val (.int p3), .val (.int b0), .val (.int b1), .val (.int b2), .val (.int (0 : Int32)), .val (.int (2 : Int32)), .val (.int y0), .val (.int y1), .val (.int y2), .val (.ref ba), .val (.ref bv), .val (.ref r1), .val (.ref r2)] [(.ref r2)]))
      refine own_via (fun tq kq => XS.iload X27.here hx rfl (hb hby at_213) rfl kq) ?_
      show Ogo p e below _ (T27.setTop (mkF m 215 #[.val (.long q1), .second, .val (.int p2), .val (.int p3), .val (.int b0), .val (.int b1), .val (.int b2), .val (.int (0 : Int32)), .val (.int (2 : Int32)), .val (.int y0), .val (.int y1), .val (.int y2), .val (.ref ba), .val (.ref bv), .val (.ref r1), .val (.ref r2)] [(.int (2 : Int32)), (.ref r2)]))
      refine own_via (fun tq kq => XS.iload X27.here hx rfl (hb hby at_215) rfl kq) ?_
      show Ogo p e below _ (T27.setTop (mkF m 217 #[.val (.long q1), .second, .val (.int p2), .val (.int p3), .val (.int b0), .val (.int b1), .val (.int b2), .val (.int (0 : Int32)), .val (.int (2 : Int32)), .val (.int y0), .val (.int y1), .val (.int y2), .val (.ref ba), .val (.ref bv), .val (.ref r1), .val (.ref r2)] [(.int y0), (.int (2 : Int32)), (.ref r2)]))
      refine own_via (fun tq kq => XS.iload X27.here hx rfl (hb hby at_217) rfl kq) ?_
      show Ogo p e below _ (T27.setTop (mkF m 219 #[.val (.long q1), .second, .val (.int p2), .val (.int p3), .val (.int b0), .val (.int b1), .val (.int b2), .val (.int (0 : Int32)), .val (.int (2 : Int32)), .val (.int y0), .val (.int y1), .val (.int y2), .val (.ref ba), .val (.ref bv), .val (.ref r1), .val (.ref r2)] [(.int y1), (.int y0), (.int (2 : Int32)), (.ref r2)]))
      refine own_via (fun tq kq => XS.iload X27.here hx rfl (hb hby at_219) rfl kq) ?_
      show Ogo p e below _ (T27.setTop (mkF m 221 #[.val (.long q1), .second, .val (.int p2), .val (.int p3), .val (.int b0), .val (.int b1), .val (.int b2), .val (.int (0 : Int32)), .val (.int (2 : Int32)), .val (.int y0), .val (.int y1), .val (.int y2), .val (.ref ba), .val (.ref bv), .val (.ref r1), .val (.ref r2)] [(.int y2), (.int y1), (.int y0), (.int (2 : Int32)), (.ref r2)]))
      refine own_callS X27 hx hZ hown (hw _ (List.mem_of_getElem? (i := 28) rfl)) (hw _ (List.mem_of_getElem? (i := 29) rfl)) (hw _ (List.mem_of_getElem? (i := 30) rfl)) (hw _ (List.mem_of_getElem? (i := 31) rfl)) (by decide) (rm_sm hw r2 (2 : Int32) y0 y1 y2 2 _ T27.heap n0 A_r2 rfl (fun _ => rfl) (fun _ => rfl) (fun _ => rfl)) rfl rfl (W := 0) (by decide) (by decide) (by decide) (by decide) (by rw [hml]; rfl) (argsL := [(.ref r2), (.int (2 : Int32)), (.int y0), (.int y1), (.int y2)]) (rest := []) (lenOf pd_2 rfl) rfl (Nat.le_of_eq rfl) (hb hby at_221) ?_
      rintro _ T28 L28 X28 ⟨rfl, Nq, hk⟩
      have N := N.app Nq
      have hk28 := hk
      show Ogo p e below _ (T28.setTop (mkF m 224 #[.val (.long q1), .second, .val (.int p2), .val (.int p3), .val (.int b0), .val (.int b1), .val (.int b2), .val (.int (0 : Int32)), .val (.int (2 : Int32)), .val (.int y0), .val (.int y1), .val (.int y2), .val (.ref ba), .val (.ref bv), .val (.ref r1), .val (.ref r2)] [(.int (1 : Int32))]))
      refine own_via (fun tq kq => XS.ifYes X28.here hx rfl (pc0 := 224) (pc' := 229) rfl (hb hby at_224) rfl ((if0 _ _).trans (feq ((by decide) : ¬ ((1 : Int32) = (0 : Int32)))).2) (by decide) (by decide) kq) ?_
      show Ogo p e below _ (T28.setTop (mkF m 229 #[.val (.long q1), .second, .val (.int p2), .val (.int p3), .val (.int b0), .val (.int b1), .val (.int b2), .val (.int (0 : Int32)), .val (.int (2 : Int32)), .val (.int y0), .val (.int y1), .val (.int y2), .val (.ref ba), .val (.ref bv), .val (.ref r1), .val (.ref r2)] []))
      refine own_via (fun tq kq => XS.aload X28.here hx rfl (hb hby at_229) rfl rfl kq) ?_
      show Ogo p e below _ (T28.setTop (mkF m 231 #[.val (.long q1), .second, .val (.int p2), .val (.int p3), .val (.int b0), .val (.int b1), .val (.int b2), .val (.int (0 : Int32)), .val (.int (2 : Int32)), .val (.int y0), .val (.int y1), .val (.int y2), .val (.ref ba), .val (.ref bv), .val (.ref r1), .val (.ref r2)] [(.ref ba)]))
      refine own_via (fun tq kq => XS.iload X28.here hx rfl (hb hby at_231) rfl kq) ?_
      show Ogo p e below _ (T28.setTop (mkF m 233 #[.val (.long q1), .second, .val (.int p2), .val (.int p3), .val (.int b0), .val (.int b1), .val (.int b2), .val (.int (0 : Int32)), .val (.int (2 : Int32)), .val (.int y0), .val (.int y1), .val (.int y2), .val (.ref ba), .val (.ref bv), .val (.ref r1), .val (.ref r2)] [(.int (2 : Int32)), (.ref ba)]))
      refine own_via (fun tq kq => XS.iload X28.here hx rfl (hb hby at_233) rfl kq) ?_
      show Ogo p e below _ (T28.setTop (mkF m 235 #[.val (.long q1), .second, .val (.int p2), .val (.int p3), .val (.int b0), .val (.int b1), .val (.int b2), .val (.int (0 : Int32)), .val (.int (2 : Int32)), .val (.int y0), .val (.int y1), .val (.int y2), .val (.ref ba), .val (.ref bv), .val (.ref r1), .val (.ref r2)] [(.int y0), (.int (2 : Int32)), (.ref ba)]))
      refine own_via (fun tq kq => XS.iload X28.here hx rfl (hb hby at_235) rfl kq) ?_
      show Ogo p e below _ (T28.setTop (mkF m 237 #[.val (.long q1), .second, .val (.int p2), .val (.int p3), .val (.int b0), .val (.int b1), .val (.int b2), .val (.int (0 : Int32)), .val (.int (2 : Int32)), .val (.int y0), .val (.int y1), .val (.int y2), .val (.ref ba), .val (.ref bv), .val (.ref r1), .val (.ref r2)] [(.int y1), (.int y0), (.int (2 : Int32)), (.ref ba)]))
      refine own_via (fun tq kq => XS.iload X28.here hx rfl (hb hby at_237) rfl kq) ?_
      show Ogo p e below _ (T28.setTop (mkF m 239 #[.val (.long q1), .second, .val (.int p2), .val (.int p3), .val (.int b0), .val (.int b1), .val (.int b2), .val (.int (0 : Int32)), .val (.int (2 : Int32)), .val (.int y0), .val (.int y1), .val (.int y2), .val (.ref ba), .val (.ref bv), .val (.ref r1), .val (.ref r2)] [(.int y2), (.int y1), (.int y0), (.int (2 : Int32)), (.ref ba)]))
      refine own_callS X28 hx hZ hown (hw _ (List.mem_of_getElem? (i := 28) rfl)) (hw _ (List.mem_of_getElem? (i := 29) rfl)) (hw _ (List.mem_of_getElem? (i := 30) rfl)) (hw _ (List.mem_of_getElem? (i := 31) rfl)) (by decide) (rm_sm hw ba (2 : Int32) y0 y1 y2 2 _ T27.heap n0 A_ba rfl (fun _ => rfl) (fun _ => rfl) (fun _ => rfl)) rfl hk28 (W := 0) (by decide) (by decide) (by decide) (by decide) (by rw [hml]; rfl) (argsL := [(.ref ba), (.int (2 : Int32)), (.int y0), (.int y1), (.int y2)]) (rest := []) (lenOf pd_2 rfl) rfl (Nat.le_of_eq rfl) (hb hby at_239) ?_
      rintro _ T29 L29 X29 ⟨rfl, Nq, hk⟩
      have N := N.app Nq
      have hk29 := hk
      show Ogo p e below _ (T29.setTop (mkF m 242 #[.val (.long q1), .second, .val (.int p2), .val (.int p3), .val (.int b0), .val (.int b1), .val (.int b2), .val (.int (0 : Int32)), .val (.int (2 : Int32)), .val (.int y0), .val (.int y1), .val (.int y2), .val (.ref ba), .val (.ref bv), .val (.ref r1), .val (.ref r2)] [(.int (1 : Int32))]))
      exact own_out X29 hlk (fun h => by rw [hret] at h; cases h) (by decide) (by decide) (by first | exact ⟨rfl, N⟩ | (rw [hk29]; exact ⟨rfl, N⟩)) (fun fs hr => retN X29 hx (t := .boolean) hret (by simp) (hb hby at_242) hr)
    · show Ogo p e below _ (s₁.setTop (mkF m 33 #[.val (.long q1), .second, .val (.int p2), .val (.int p3), .val (.int b0), .val (.int b1), .val (.int b2), .val (.int (0 : Int32)), .val (.int (3 : Int32)), .val (.int y0), .val (.int y1), .val (.int y2), .unset, .unset, .unset, .unset] []))
      refine own_via (fun tq kq => XS.aconstNull X0.here hx rfl (hb hby at_33) kq) ?_
      show Ogo p e below _ (s₁.setTop (mkF m 34 #[.val (.long q1), .second, .val (.int p2), .val (.int p3), .val (.int b0), .val (.int b1), .val (.int b2), .val (.int (0 : Int32)), .val (.int (3 : Int32)), .val (.int y0), .val (.int y1), .val (.int y2), .unset, .unset, .unset, .unset] [.null]))
      refine own_via (fun tq kq => XS.astore X0.here hx rfl (hb hby at_34) rfl rfl (l' := #[.val (.long q1), .second, .val (.int p2), .val (.int p3), .val (.int b0), .val (.int b1), .val (.int b2), .val (.int (0 : Int32)), .val (.int (3 : Int32)), .val (.int y0), .val (.int y1), .val (.int y2), .val .null, .unset, .unset, .unset]) rfl kq) ?_
      show Ogo p e below _ (s₁.setTop (mkF m 36 #[.val (.long q1), .second, .val (.int p2), .val (.int p3), .val (.int b0), .val (.int b1), .val (.int b2), .val (.int (0 : Int32)), .val (.int (3 : Int32)), .val (.int y0), .val (.int y1), .val (.int y2), .val .null, .unset, .unset, .unset] []))
      refine own_via (fun tq kq => XS.iload X0.here hx rfl (hb hby at_36) rfl kq) ?_
      show Ogo p e below _ (s₁.setTop (mkF m 38 #[.val (.long q1), .second, .val (.int p2), .val (.int p3), .val (.int b0), .val (.int b1), .val (.int b2), .val (.int (0 : Int32)), .val (.int (3 : Int32)), .val (.int y0), .val (.int y1), .val (.int y2), .val .null, .unset, .unset, .unset] [(.int (0 : Int32))]))
      refine own_via (fun tq kq => XS.ifNo X0.here hx rfl (hb hby at_38) rfl ((if0 _ _).trans (teq ((by decide) : (0 : Int32) = (0 : Int32))).2) kq) ?_
      show Ogo p e below _ (s₁.setTop (mkF m 41 #[.val (.long q1), .second, .val (.int p2), .val (.int p3), .val (.int b0), .val (.int b1), .val (.int b2), .val (.int (0 : Int32)), .val (.int (3 : Int32)), .val (.int y0), .val (.int y1), .val (.int y2), .val .null, .unset, .unset, .unset] []))
      refine own_via (fun tq kq => XS.iload X0.here hx rfl (hb hby at_41) rfl kq) ?_
      show Ogo p e below _ (s₁.setTop (mkF m 43 #[.val (.long q1), .second, .val (.int p2), .val (.int p3), .val (.int b0), .val (.int b1), .val (.int b2), .val (.int (0 : Int32)), .val (.int (3 : Int32)), .val (.int y0), .val (.int y1), .val (.int y2), .val .null, .unset, .unset, .unset] [(.int (3 : Int32))]))
      obtain ⟨T30, h30, k30, X30, e30, E30, A30, Ea30, st30⟩ := newPE X0 hx hZ (hw _ (List.mem_of_getElem? (i := 0) rfl)) e0 (g := (mkF m 43 #[.val (.long q1), .second, .val (.int p2), .val (.int p3), .val (.int b0), .val (.int b1), .val (.int b2), .val (.int (0 : Int32)), .val (.int (3 : Int32)), .val (.int y0), .val (.int y1), .val (.int y2), .val .null, .unset, .unset, .unset] [(.int (3 : Int32))])) rfl (hb hby at_43) rfl (by decide) (cap := 3) (by decide) (by decide) (by decide) (by decide) (ad := "[B") (by decide)
      refine own_via st30 ?_
      obtain ⟨ba, g30⟩ : ∃ z, z = h0.size := ⟨_, rfl⟩
      rw [← g30]
      rw [← g30] at A30 Ea30
      have g_ba : n0 ≤ ba := by rw [g30]; exact zs
      have zs := Nat.le_trans zs E30.1
      have A_ba : Oar Z h30 ba .byte 3 (fun _ => defaultValue .byte) := Oar.new A30 (by decide) rfl
      have E_ba := Ea30
      show Ogo p e below _ (T30.setTop (mkF m 45 #[.val (.long q1), .second, .val (.int p2), .val (.int p3), .val (.int b0), .val (.int b1), .val (.int b2), .val (.int (0 : Int32)), .val (.int (3 : Int32)), .val (.int y0), .val (.int y1), .val (.int y2), .val .null, .unset, .unset, .unset] [(.ref ba)]))
      refine own_via (fun tq kq => XS.astore X30.here hx rfl (hb hby at_45) rfl rfl (l' := #[.val (.long q1), .second, .val (.int p2), .val (.int p3), .val (.int b0), .val (.int b1), .val (.int b2), .val (.int (0 : Int32)), .val (.int (3 : Int32)), .val (.int y0), .val (.int y1), .val (.int y2), .val (.ref ba), .unset, .unset, .unset]) rfl kq) ?_
      show Ogo p e below _ (T30.setTop (mkF m 47 #[.val (.long q1), .second, .val (.int p2), .val (.int p3), .val (.int b0), .val (.int b1), .val (.int b2), .val (.int (0 : Int32)), .val (.int (3 : Int32)), .val (.int y0), .val (.int y1), .val (.int y2), .val (.ref ba), .unset, .unset, .unset] []))
      refine own_via (fun tq kq => XS.iload X30.here hx rfl (hb hby at_47) rfl kq) ?_
      show Ogo p e below _ (T30.setTop (mkF m 49 #[.val (.long q1), .second, .val (.int p2), .val (.int p3), .val (.int b0), .val (.int b1), .val (.int b2), .val (.int (0 : Int32)), .val (.int (3 : Int32)), .val (.int y0), .val (.int y1), .val (.int y2), .val (.ref ba), .unset, .unset, .unset] [(.int (3 : Int32))]))
      refine own_via (fun tq kq => XS.iconst X30.here hx rfl (hb hby at_49) kq) ?_
      show Ogo p e below _ (T30.setTop (mkF m 50 #[.val (.long q1), .second, .val (.int p2), .val (.int p3), .val (.int b0), .val (.int b1), .val (.int b2), .val (.int (0 : Int32)), .val (.int (3 : Int32)), .val (.int y0), .val (.int y1), .val (.int y2), .val (.ref ba), .unset, .unset, .unset] [(.int (1 : Int32)), (.int (3 : Int32))]))
      refine own_via (fun tq kq => XS.icmpNo X30.here hx rfl (hb hby at_50) rfl (flt ((by decide) : ¬ ((3 : Int32) < (1 : Int32)))).1 kq) ?_
      show Ogo p e below _ (T30.setTop (mkF m 53 #[.val (.long q1), .second, .val (.int p2), .val (.int p3), .val (.int b0), .val (.int b1), .val (.int b2), .val (.int (0 : Int32)), .val (.int (3 : Int32)), .val (.int y0), .val (.int y1), .val (.int y2), .val (.ref ba), .unset, .unset, .unset] []))
      refine own_via (fun tq kq => XS.aload X30.here hx rfl (hb hby at_53) rfl rfl kq) ?_
      show Ogo p e below _ (T30.setTop (mkF m 55 #[.val (.long q1), .second, .val (.int p2), .val (.int p3), .val (.int b0), .val (.int b1), .val (.int b2), .val (.int (0 : Int32)), .val (.int (3 : Int32)), .val (.int y0), .val (.int y1), .val (.int y2), .val (.ref ba), .unset, .unset, .unset] [(.ref ba)]))
      refine own_via (fun tq kq => XS.iconst X30.here hx rfl (hb hby at_55) kq) ?_
      show Ogo p e below _ (T30.setTop (mkF m 56 #[.val (.long q1), .second, .val (.int p2), .val (.int p3), .val (.int b0), .val (.int b1), .val (.int b2), .val (.int (0 : Int32)), .val (.int (3 : Int32)), .val (.int y0), .val (.int y1), .val (.int y2), .val (.ref ba), .unset, .unset, .unset] [(.int (0 : Int32)), (.ref ba)]))
      refine own_via (fun tq kq => XS.iload X30.here hx rfl (hb hby at_56) rfl kq) ?_
      show Ogo p e below _ (T30.setTop (mkF m 58 #[.val (.long q1), .second, .val (.int p2), .val (.int p3), .val (.int b0), .val (.int b1), .val (.int b2), .val (.int (0 : Int32)), .val (.int (3 : Int32)), .val (.int y0), .val (.int y1), .val (.int y2), .val (.ref ba), .unset, .unset, .unset] [(.int y0), (.int (0 : Int32)), (.ref ba)]))
      obtain ⟨T31, h31, X31, e31, W31, A_ba', st31⟩ := own_bast X30 hx hZ e30 A_ba (x := y0) (j := (0 : Int32)) (i := 0) (by decide) (by decide) (pc := 58) (Ls := #[.val (.long q1), .second, .val (.int p2), .val (.int p3), .val (.int b0), .val (.int b1), .val (.int b2), .val (.int (0 : Int32)), .val (.int (3 : Int32)), .val (.int y0), .val (.int y1), .val (.int y2), .val (.ref ba), .unset, .unset, .unset]) (rest := []) (hb hby at_58)
      refine own_via st31 ?_
      have E_ba := E_ba.wr W31
      have zs := Nat.le_trans zs (Keep.of_wr W31).1
      have N := Fr.snoc X31 N g_ba
      have A_ba := A_ba'
      show Ogo p e below _ (T31.setTop (mkF m 59 #[.val (.long q1), .second, .val (.int p2), .val (.int p3), .val (.int b0), .val (.int b1), .val (.int b2), .val (.int (0 : Int32)), .val (.int (3 : Int32)), .val (.int y0), .val (.int y1), .val (.int y2), .val (.ref ba), .unset, .unset, .unset] []))
      refine own_via (fun tq kq => XS.iload X31.here hx rfl (hb hby at_59) rfl kq) ?_
      show Ogo p e below _ (T31.setTop (mkF m 61 #[.val (.long q1), .second, .val (.int p2), .val (.int p3), .val (.int b0), .val (.int b1), .val (.int b2), .val (.int (0 : Int32)), .val (.int (3 : Int32)), .val (.int y0), .val (.int y1), .val (.int y2), .val (.ref ba), .unset, .unset, .unset] [(.int (3 : Int32))]))
      refine own_via (fun tq kq => XS.iconst X31.here hx rfl (hb hby at_61) kq) ?_
      show Ogo p e below _ (T31.setTop (mkF m 62 #[.val (.long q1), .second, .val (.int p2), .val (.int p3), .val (.int b0), .val (.int b1), .val (.int b2), .val (.int (0 : Int32)), .val (.int (3 : Int32)), .val (.int y0), .val (.int y1), .val (.int y2), .val (.ref ba), .unset, .unset, .unset] [(.int (2 : Int32)), (.int (3 : Int32))]))
      refine own_via (fun tq kq => XS.icmpNo X31.here hx rfl (hb hby at_62) rfl (flt ((by decide) : ¬ ((3 : Int32) < (2 : Int32)))).1 kq) ?_
      show Ogo p e below _ (T31.setTop (mkF m 65 #[.val (.long q1), .second, .val (.int p2), .val (.int p3), .val (.int b0), .val (.int b1), .val (.int b2), .val (.int (0 : Int32)), .val (.int (3 : Int32)), .val (.int y0), .val (.int y1), .val (.int y2), .val (.ref ba), .unset, .unset, .unset] []))
      refine own_via (fun tq kq => XS.aload X31.here hx rfl (hb hby at_65) rfl rfl kq) ?_
      show Ogo p e below _ (T31.setTop (mkF m 67 #[.val (.long q1), .second, .val (.int p2), .val (.int p3), .val (.int b0), .val (.int b1), .val (.int b2), .val (.int (0 : Int32)), .val (.int (3 : Int32)), .val (.int y0), .val (.int y1), .val (.int y2), .val (.ref ba), .unset, .unset, .unset] [(.ref ba)]))
      refine own_via (fun tq kq => XS.iconst X31.here hx rfl (hb hby at_67) kq) ?_
      show Ogo p e below _ (T31.setTop (mkF m 68 #[.val (.long q1), .second, .val (.int p2), .val (.int p3), .val (.int b0), .val (.int b1), .val (.int b2), .val (.int (0 : Int32)), .val (.int (3 : Int32)), .val (.int y0), .val (.int y1), .val (.int y2), .val (.ref ba), .unset, .unset, .unset] [(.int (1 : Int32)), (.ref ba)]))
      refine own_via (fun tq kq => XS.iload X31.here hx rfl (hb hby at_68) rfl kq) ?_
      show Ogo p e below _ (T31.setTop (mkF m 70 #[.val (.long q1), .second, .val (.int p2), .val (.int p3), .val (.int b0), .val (.int b1), .val (.int b2), .val (.int (0 : Int32)), .val (.int (3 : Int32)), .val (.int y0), .val (.int y1), .val (.int y2), .val (.ref ba), .unset, .unset, .unset] [(.int y1), (.int (1 : Int32)), (.ref ba)]))
      obtain ⟨T32, h32, X32, e32, W32, A_ba', st32⟩ := own_bast X31 hx hZ e31 A_ba (x := y1) (j := (1 : Int32)) (i := 1) (by decide) (by decide) (pc := 70) (Ls := #[.val (.long q1), .second, .val (.int p2), .val (.int p3), .val (.int b0), .val (.int b1), .val (.int b2), .val (.int (0 : Int32)), .val (.int (3 : Int32)), .val (.int y0), .val (.int y1), .val (.int y2), .val (.ref ba), .unset, .unset, .unset]) (rest := []) (hb hby at_70)
      refine own_via st32 ?_
      have E_ba := E_ba.wr W32
      have zs := Nat.le_trans zs (Keep.of_wr W32).1
      have N := Fr.snoc X32 N g_ba
      have A_ba := A_ba'
      show Ogo p e below _ (T32.setTop (mkF m 71 #[.val (.long q1), .second, .val (.int p2), .val (.int p3), .val (.int b0), .val (.int b1), .val (.int b2), .val (.int (0 : Int32)), .val (.int (3 : Int32)), .val (.int y0), .val (.int y1), .val (.int y2), .val (.ref ba), .unset, .unset, .unset] []))
      refine own_via (fun tq kq => XS.iload X32.here hx rfl (hb hby at_71) rfl kq) ?_
      show Ogo p e below _ (T32.setTop (mkF m 73 #[.val (.long q1), .second, .val (.int p2), .val (.int p3), .val (.int b0), .val (.int b1), .val (.int b2), .val (.int (0 : Int32)), .val (.int (3 : Int32)), .val (.int y0), .val (.int y1), .val (.int y2), .val (.ref ba), .unset, .unset, .unset] [(.int (3 : Int32))]))
      refine own_via (fun tq kq => XS.iconst X32.here hx rfl (hb hby at_73) kq) ?_
      show Ogo p e below _ (T32.setTop (mkF m 74 #[.val (.long q1), .second, .val (.int p2), .val (.int p3), .val (.int b0), .val (.int b1), .val (.int b2), .val (.int (0 : Int32)), .val (.int (3 : Int32)), .val (.int y0), .val (.int y1), .val (.int y2), .val (.ref ba), .unset, .unset, .unset] [(.int (3 : Int32)), (.int (3 : Int32))]))
      refine own_via (fun tq kq => XS.icmpNo X32.here hx rfl (hb hby at_74) rfl (flt ((by decide) : ¬ ((3 : Int32) < (3 : Int32)))).1 kq) ?_
      show Ogo p e below _ (T32.setTop (mkF m 77 #[.val (.long q1), .second, .val (.int p2), .val (.int p3), .val (.int b0), .val (.int b1), .val (.int b2), .val (.int (0 : Int32)), .val (.int (3 : Int32)), .val (.int y0), .val (.int y1), .val (.int y2), .val (.ref ba), .unset, .unset, .unset] []))
      refine own_via (fun tq kq => XS.aload X32.here hx rfl (hb hby at_77) rfl rfl kq) ?_
      show Ogo p e below _ (T32.setTop (mkF m 79 #[.val (.long q1), .second, .val (.int p2), .val (.int p3), .val (.int b0), .val (.int b1), .val (.int b2), .val (.int (0 : Int32)), .val (.int (3 : Int32)), .val (.int y0), .val (.int y1), .val (.int y2), .val (.ref ba), .unset, .unset, .unset] [(.ref ba)]))
      refine own_via (fun tq kq => XS.iconst X32.here hx rfl (hb hby at_79) kq) ?_
      show Ogo p e below _ (T32.setTop (mkF m 80 #[.val (.long q1), .second, .val (.int p2), .val (.int p3), .val (.int b0), .val (.int b1), .val (.int b2), .val (.int (0 : Int32)), .val (.int (3 : Int32)), .val (.int y0), .val (.int y1), .val (.int y2), .val (.ref ba), .unset, .unset, .unset] [(.int (2 : Int32)), (.ref ba)]))
      refine own_via (fun tq kq => XS.iload X32.here hx rfl (hb hby at_80) rfl kq) ?_
      show Ogo p e below _ (T32.setTop (mkF m 82 #[.val (.long q1), .second, .val (.int p2), .val (.int p3), .val (.int b0), .val (.int b1), .val (.int b2), .val (.int (0 : Int32)), .val (.int (3 : Int32)), .val (.int y0), .val (.int y1), .val (.int y2), .val (.ref ba), .unset, .unset, .unset] [(.int y2), (.int (2 : Int32)), (.ref ba)]))
      obtain ⟨T33, h33, X33, e33, W33, A_ba', st33⟩ := own_bast X32 hx hZ e32 A_ba (x := y2) (j := (2 : Int32)) (i := 2) (by decide) (by decide) (pc := 82) (Ls := #[.val (.long q1), .second, .val (.int p2), .val (.int p3), .val (.int b0), .val (.int b1), .val (.int b2), .val (.int (0 : Int32)), .val (.int (3 : Int32)), .val (.int y0), .val (.int y1), .val (.int y2), .val (.ref ba), .unset, .unset, .unset]) (rest := []) (hb hby at_82)
      refine own_via st33 ?_
      have E_ba := E_ba.wr W33
      have zs := Nat.le_trans zs (Keep.of_wr W33).1
      have N := Fr.snoc X33 N g_ba
      have A_ba := A_ba'
      show Ogo p e below _ (T33.setTop (mkF m 83 #[.val (.long q1), .second, .val (.int p2), .val (.int p3), .val (.int b0), .val (.int b1), .val (.int b2), .val (.int (0 : Int32)), .val (.int (3 : Int32)), .val (.int y0), .val (.int y1), .val (.int y2), .val (.ref ba), .unset, .unset, .unset] []))
      have A_ba := A_ba.cast (f' := own_f y0 y1 y2) (by intro j hj; rcases j with _ | _ | _ | j <;> first | omega | simp [own_f, hk0, hk1, hk2])
      obtain ⟨T34, h34, X34, e34, E34, A34, D34, -, st34⟩ := newO X33 hx hZ hown (hw _ (List.mem_of_getElem? (i := 1) rfl)) (hw _ (List.mem_of_getElem? (i := 2) rfl)) (hw _ (List.mem_of_getElem? (i := 3) rfl)) e33 (g := (mkF m 83 #[.val (.long q1), .second, .val (.int p2), .val (.int p3), .val (.int b0), .val (.int b1), .val (.int b2), .val (.int (0 : Int32)), .val (.int (3 : Int32)), .val (.int y0), .val (.int y1), .val (.int y2), .val (.ref ba), .unset, .unset, .unset] [])) rfl (hb hby at_83) (by decide) (by decide)
      refine own_via st34 ?_
      obtain ⟨bv, g34⟩ : ∃ z, z = h33.size := ⟨_, rfl⟩
      rw [← g34]
      rw [← g34] at A34 D34
      have lt_ba_bv : ba < bv := by rw [g34]; exact A_ba.lt
      have g_bv : n0 ≤ bv := by rw [g34]; exact zs
      have A_ba := A_ba.ext E34
      have E_ba := E_ba.ext E34
      have zs := Nat.le_trans zs E34.1
      have E_bv := A34
      have F_revision_bv : Fld Z h34 bv "com/example/keep_posted/keepposted/client/Value" "revision" "J" (.long (0 : Int64)) := D34 (Or.inr (hw _ (List.mem_of_getElem? (i := 11) rfl))) (ty := .long) (by decide)
      have F_bytes_bv : Fld Z h34 bv "com/example/keep_posted/keepposted/client/Value" "bytes" "[B" .null := D34 (Or.inr (hw _ (List.mem_of_getElem? (i := 13) rfl))) (ty := (.array .byte)) (by decide)
      show Ogo p e below _ (T34.setTop (mkF m 86 #[.val (.long q1), .second, .val (.int p2), .val (.int p3), .val (.int b0), .val (.int b1), .val (.int b2), .val (.int (0 : Int32)), .val (.int (3 : Int32)), .val (.int y0), .val (.int y1), .val (.int y2), .val (.ref ba), .unset, .unset, .unset] [(.ref bv)]))
      refine own_via (fun tq kq => XS.dup X34.here hx rfl (hb hby at_86) rfl rfl kq) ?_
      show Ogo p e below _ (T34.setTop (mkF m 87 #[.val (.long q1), .second, .val (.int p2), .val (.int p3), .val (.int b0), .val (.int b1), .val (.int b2), .val (.int (0 : Int32)), .val (.int (3 : Int32)), .val (.int y0), .val (.int y1), .val (.int y2), .val (.ref ba), .unset, .unset, .unset] [(.ref bv), (.ref bv)]))
      refine own_via (fun tq kq => XS.lloadN X34.here hx rfl (hb hby at_87) rfl kq) ?_
      show Ogo p e below _ (T34.setTop (mkF m 88 #[.val (.long q1), .second, .val (.int p2), .val (.int p3), .val (.int b0), .val (.int b1), .val (.int b2), .val (.int (0 : Int32)), .val (.int (3 : Int32)), .val (.int y0), .val (.int y1), .val (.int y2), .val (.ref ba), .unset, .unset, .unset] [(.long q1), (.ref bv), (.ref bv)]))
      refine own_via (fun tq kq => XS.aload X34.here hx rfl (hb hby at_88) rfl rfl kq) ?_
      show Ogo p e below _ (T34.setTop (mkF m 90 #[.val (.long q1), .second, .val (.int p2), .val (.int p3), .val (.int b0), .val (.int b1), .val (.int b2), .val (.int (0 : Int32)), .val (.int (3 : Int32)), .val (.int y0), .val (.int y1), .val (.int y2), .val (.ref ba), .unset, .unset, .unset] [(.ref ba), (.long q1), (.ref bv), (.ref bv)]))
      refine own_callI X34 hx hZ rfl hown (hw _ (List.mem_of_getElem? (i := 4) rfl)) (hw _ (List.mem_of_getElem? (i := 5) rfl)) (hw _ (List.mem_of_getElem? (i := 3) rfl)) (hw _ (List.mem_of_getElem? (i := 6) rfl)) (by decide) (rm_vi hw bv q1 ba h34 n0 E_bv F_revision_bv F_bytes_bv g_bv) rfl e34 (W := 1) (by decide) (by decide) (by decide) (by decide) (by rw [hml]; rfl) (a := bv) (argsL := [(.long q1), (.ref ba)]) (rest := [(.ref bv)]) (lenOf pd_0 rfl) rfl (Nat.le_of_eq rfl) (hb hby at_90) ?_
      rintro _ T35 L35 X35 ⟨rfl, Nq, Kc, F_bytes_bv⟩
      have N := N.app Nq
      have A_ba := A_ba.keep Kc (ninS (Nat.ne_of_lt lt_ba_bv) nin0)
      have E_ba := E_ba.keep Kc
      have E_bv := E_bv.keep Kc
      have zs := Nat.le_trans zs Kc.1
      show Ogo p e below _ (T35.setTop (mkF m 93 #[.val (.long q1), .second, .val (.int p2), .val (.int p3), .val (.int b0), .val (.int b1), .val (.int b2), .val (.int (0 : Int32)), .val (.int (3 : Int32)), .val (.int y0), .val (.int y1), .val (.int y2), .val (.ref ba), .unset, .unset, .unset] [(.ref bv)]))
      refine own_via (fun tq kq => XS.astore X35.here hx rfl (hb hby at_93) rfl rfl (l' := #[.val (.long q1), .second, .val (.int p2), .val (.int p3), .val (.int b0), .val (.int b1), .val (.int b2), .val (.int (0 : Int32)), .val (.int (3 : Int32)), .val (.int y0), .val (.int y1), .val (.int y2), .val (.ref ba), .val (.ref bv), .unset, .unset]) rfl kq) ?_
      show Ogo p e below _ (T35.setTop (mkF m 95 #[.val (.long q1), .second, .val (.int p2), .val (.int p3), .val (.int b0), .val (.int b1), .val (.int b2), .val (.int (0 : Int32)), .val (.int (3 : Int32)), .val (.int y0), .val (.int y1), .val (.int y2), .val (.ref ba), .val (.ref bv), .unset, .unset] []))
      refine own_via (fun tq kq => XS.aload X35.here hx rfl (hb hby at_95) rfl rfl kq) ?_
      show Ogo p e below _ (T35.setTop (mkF m 97 #[.val (.long q1), .second, .val (.int p2), .val (.int p3), .val (.int b0), .val (.int b1), .val (.int b2), .val (.int (0 : Int32)), .val (.int (3 : Int32)), .val (.int y0), .val (.int y1), .val (.int y2), .val (.ref ba), .val (.ref bv), .unset, .unset] [(.ref bv)]))
      refine own_callV X35 hx hZ hown (hw _ (List.mem_of_getElem? (i := 14) rfl)) (hw _ (List.mem_of_getElem? (i := 15) rfl)) (hw _ (List.mem_of_getElem? (i := 17) rfl)) (hw _ (List.mem_of_getElem? (i := 16) rfl)) (hw _ (List.mem_of_getElem? (i := 3) rfl)) (hw _ (List.mem_of_getElem? (i := 18) rfl)) (notFace_of_selects (args := #[]) (mvT hZ (hw _ (List.mem_of_getElem? (i := 17) rfl)))) (by decide) (rm_by hw bv ba 3 (own_f y0 y1 y2) T35.heap n0 F_bytes_bv A_ba E_ba (fun j _ => hft j) (by decide) zs) rfl rfl E_bv (W := 0) (by decide) (by decide) (by decide) (by decide) (by rw [hml]; rfl) (b := bv) (argsL := []) (rest := []) (lenOf pd_1 rfl) rfl (Nat.le_of_eq rfl) (hb hby at_97) ?_
      rintro _ T36 L36 X36 ⟨r1, rfl, Nq, Kc, hsz, A_r1, E_r1⟩
      have N := N.app Nq
      have lt_ba_r1 : ba < r1 := Nat.lt_of_lt_of_le E_ba.lt hsz
      have lt_bv_r1 : bv < r1 := Nat.lt_of_lt_of_le E_bv.lt hsz
      have g_r1 : n0 ≤ r1 := Nat.le_trans zs hsz
      have A_ba := A_ba.keep Kc nin0
      have E_ba := E_ba.keep Kc
      have E_bv := E_bv.keep Kc
      have F_bytes_bv := F_bytes_bv.keep Kc nin0
      have zs := Nat.le_trans zs Kc.1
      show Ogo p e below _ (T36.setTop (mkF m 100 #[.val (.long q1), .second, .val (.int p2), .val (.int p3), .val (.int b0), .val (.int b1), .val (.int b2), .val (.int (0 : Int32)), .val (.int (3 : Int32)), .val (.int y0), .val (.int y1), .val (.int y2), .val (.ref ba), .val (.ref bv), .unset, .unset] [(.ref r1)]))
      refine own_via (fun tq kq => XS.astore X36.here hx rfl (hb hby at_100) rfl rfl (l' := #[.val (.long q1), .second, .val (.int p2), .val (.int p3), .val (.int b0), .val (.int b1), .val (.int b2), .val (.int (0 : Int32)), .val (.int (3 : Int32)), .val (.int y0), .val (.int y1), .val (.int y2), .val (.ref ba), .val (.ref bv), .val (.ref r1), .unset]) rfl kq) ?_
      show Ogo p e below _ (T36.setTop (mkF m 102 #[.val (.long q1), .second, .val (.int p2), .val (.int p3), .val (.int b0), .val (.int b1), .val (.int b2), .val (.int (0 : Int32)), .val (.int (3 : Int32)), .val (.int y0), .val (.int y1), .val (.int y2), .val (.ref ba), .val (.ref bv), .val (.ref r1), .unset] []))
      refine own_via (fun tq kq => XS.iload X36.here hx rfl (hb hby at_102) rfl kq) ?_
      show Ogo p e below _ (T36.setTop (mkF m 104 #[.val (.long q1), .second, .val (.int p2), .val (.int p3), .val (.int b0), .val (.int b1), .val (.int b2), .val (.int (0 : Int32)), .val (.int (3 : Int32)), .val (.int y0), .val (.int y1), .val (.int y2), .val (.ref ba), .val (.ref bv), .val (.ref r1), .unset] [(.int (0 : Int32))]))
      refine own_via (fun tq kq => XS.ifYes X36.here hx rfl (pc0 := 104) (pc' := 130) rfl (hb hby at_104) rfl ((if0 _ _).trans (teq ((by decide) : (0 : Int32) = (0 : Int32))).1) (by decide) (by decide) kq) ?_
      show Ogo p e below _ (T36.setTop (mkF m 130 #[.val (.long q1), .second, .val (.int p2), .val (.int p3), .val (.int b0), .val (.int b1), .val (.int b2), .val (.int (0 : Int32)), .val (.int (3 : Int32)), .val (.int y0), .val (.int y1), .val (.int y2), .val (.ref ba), .val (.ref bv), .val (.ref r1), .unset] []))
      refine own_via (fun tq kq => XS.aload X36.here hx rfl (hb hby at_130) rfl rfl kq) ?_
      show Ogo p e below _ (T36.setTop (mkF m 132 #[.val (.long q1), .second, .val (.int p2), .val (.int p3), .val (.int b0), .val (.int b1), .val (.int b2), .val (.int (0 : Int32)), .val (.int (3 : Int32)), .val (.int y0), .val (.int y1), .val (.int y2), .val (.ref ba), .val (.ref bv), .val (.ref r1), .unset] [(.ref r1)]))
      refine own_via (fun tq kq => XS.ifnonnullYes X36.here hx rfl (pc0 := 132) (pc' := 137) rfl (hb hby at_132) rfl (by decide) (by decide) kq) ?_
      show Ogo p e below _ (T36.setTop (mkF m 137 #[.val (.long q1), .second, .val (.int p2), .val (.int p3), .val (.int b0), .val (.int b1), .val (.int b2), .val (.int (0 : Int32)), .val (.int (3 : Int32)), .val (.int y0), .val (.int y1), .val (.int y2), .val (.ref ba), .val (.ref bv), .val (.ref r1), .unset] []))
      refine own_via (fun tq kq => XS.aload X36.here hx rfl (hb hby at_137) rfl rfl kq) ?_
      show Ogo p e below _ (T36.setTop (mkF m 139 #[.val (.long q1), .second, .val (.int p2), .val (.int p3), .val (.int b0), .val (.int b1), .val (.int b2), .val (.int (0 : Int32)), .val (.int (3 : Int32)), .val (.int y0), .val (.int y1), .val (.int y2), .val (.ref ba), .val (.ref bv), .val (.ref r1), .unset] [(.ref r1)]))
      refine own_via (fun tq kq => XS.aload X36.here hx rfl (hb hby at_139) rfl rfl kq) ?_
      show Ogo p e below _ (T36.setTop (mkF m 141 #[.val (.long q1), .second, .val (.int p2), .val (.int p3), .val (.int b0), .val (.int b1), .val (.int b2), .val (.int (0 : Int32)), .val (.int (3 : Int32)), .val (.int y0), .val (.int y1), .val (.int y2), .val (.ref ba), .val (.ref bv), .val (.ref r1), .unset] [(.ref ba), (.ref r1)]))
      refine own_via (fun tq kq => Jvm.RoadKit.acmp (g := (mkF m 141 #[.val (.long q1), .second, .val (.int p2), .val (.int p3), .val (.int b0), .val (.int b1), .val (.int b2), .val (.int (0 : Int32)), .val (.int (3 : Int32)), .val (.int y0), .val (.int y1), .val (.int y2), .val (.ref ba), .val (.ref bv), .val (.ref r1), .unset] [(.ref ba), (.ref r1)])) X36 hx rfl rfl rfl (pc0 := 141) (pc' := 146) (same := false) rfl (hb hby at_141) rfl (decide_eq_false fun q => (Nat.ne_of_gt lt_ba_r1) (Value.ref.inj q)) (by decide) (by decide) kq) ?_
      show Ogo p e below _ (T36.setTop (mkF m 146 #[.val (.long q1), .second, .val (.int p2), .val (.int p3), .val (.int b0), .val (.int b1), .val (.int b2), .val (.int (0 : Int32)), .val (.int (3 : Int32)), .val (.int y0), .val (.int y1), .val (.int y2), .val (.ref ba), .val (.ref bv), .val (.ref r1), .unset] []))
      refine own_via (fun tq kq => XS.aload X36.here hx rfl (hb hby at_146) rfl rfl kq) ?_
      show Ogo p e below _ (T36.setTop (mkF m 148 #[.val (.long q1), .second, .val (.int p2), .val (.int p3), .val (.int b0), .val (.int b1), .val (.int b2), .val (.int (0 : Int32)), .val (.int (3 : Int32)), .val (.int y0), .val (.int y1), .val (.int y2), .val (.ref ba), .val (.ref bv), .val (.ref r1), .unset] [(.ref r1)]))
      refine own_via (fun tq kq => XS.iload X36.here hx rfl (hb hby at_148) rfl kq) ?_
      show Ogo p e below _ (T36.setTop (mkF m 150 #[.val (.long q1), .second, .val (.int p2), .val (.int p3), .val (.int b0), .val (.int b1), .val (.int b2), .val (.int (0 : Int32)), .val (.int (3 : Int32)), .val (.int y0), .val (.int y1), .val (.int y2), .val (.ref ba), .val (.ref bv), .val (.ref r1), .unset] [(.int (3 : Int32)), (.ref r1)]))
      refine own_via (fun tq kq => XS.iload X36.here hx rfl (hb hby at_150) rfl kq) ?_
      show Ogo p e below _ (T36.setTop (mkF m 152 #[.val (.long q1), .second, .val (.int p2), .val (.int p3), .val (.int b0), .val (.int b1), .val (.int b2), .val (.int (0 : Int32)), .val (.int (3 : Int32)), .val (.int y0), .val (.int y1), .val (.int y2), .val (.ref ba), .val (.ref bv), .val (.ref r1), .unset] [(.int y0), (.int (3 : Int32)), (.ref r1)]))
      refine own_via (fun tq kq => XS.iload X36.here hx rfl (hb hby at_152) rfl kq) ?_
      show Ogo p e below _ (T36.setTop (mkF m 154 #[.val (.long q1), .second, .val (.int p2), .val (.int p3), .val (.int b0), .val (.int b1), .val (.int b2), .val (.int (0 : Int32)), .val (.int (3 : Int32)), .val (.int y0), .val (.int y1), .val (.int y2), .val (.ref ba), .val (.ref bv), .val (.ref r1), .unset] [(.int y1), (.int y0), (.int (3 : Int32)), (.ref r1)]))
      refine own_via (fun tq kq => XS.iload X36.here hx rfl (hb hby at_154) rfl kq) ?_
      show Ogo p e below _ (T36.setTop (mkF m 156 #[.val (.long q1), .second, .val (.int p2), .val (.int p3), .val (.int b0), .val (.int b1), .val (.int b2), .val (.int (0 : Int32)), .val (.int (3 : Int32)), .val (.int y0), .val (.int y1), .val (.int y2), .val (.ref ba), .val (.ref bv), .val (.ref r1), .unset] [(.int y2), (.int y1), (.int y0), (.int (3 : Int32)), (.ref r1)]))
      refine own_callS X36 hx hZ hown (hw _ (List.mem_of_getElem? (i := 28) rfl)) (hw _ (List.mem_of_getElem? (i := 29) rfl)) (hw _ (List.mem_of_getElem? (i := 30) rfl)) (hw _ (List.mem_of_getElem? (i := 31) rfl)) (by decide) (rm_sm hw r1 (3 : Int32) y0 y1 y2 3 _ T36.heap n0 A_r1 rfl (fun _ => rfl) (fun _ => rfl) (fun _ => rfl)) rfl rfl (W := 0) (by decide) (by decide) (by decide) (by decide) (by rw [hml]; rfl) (argsL := [(.ref r1), (.int (3 : Int32)), (.int y0), (.int y1), (.int y2)]) (rest := []) (lenOf pd_2 rfl) rfl (Nat.le_of_eq rfl) (hb hby at_156) ?_
      rintro _ T37 L37 X37 ⟨rfl, Nq, hk⟩
      have N := N.app Nq
      have hk37 := hk
      show Ogo p e below _ (T37.setTop (mkF m 159 #[.val (.long q1), .second, .val (.int p2), .val (.int p3), .val (.int b0), .val (.int b1), .val (.int b2), .val (.int (0 : Int32)), .val (.int (3 : Int32)), .val (.int y0), .val (.int y1), .val (.int y2), .val (.ref ba), .val (.ref bv), .val (.ref r1), .unset] [(.int (1 : Int32))]))
      refine own_via (fun tq kq => XS.ifYes X37.here hx rfl (pc0 := 159) (pc' := 164) rfl (hb hby at_159) rfl ((if0 _ _).trans (feq ((by decide) : ¬ ((1 : Int32) = (0 : Int32)))).2) (by decide) (by decide) kq) ?_
      show Ogo p e below _ (T37.setTop (mkF m 164 #[.val (.long q1), .second, .val (.int p2), .val (.int p3), .val (.int b0), .val (.int b1), .val (.int b2), .val (.int (0 : Int32)), .val (.int (3 : Int32)), .val (.int y0), .val (.int y1), .val (.int y2), .val (.ref ba), .val (.ref bv), .val (.ref r1), .unset] []))
      refine own_via (fun tq kq => XS.iload X37.here hx rfl (hb hby at_164) rfl kq) ?_
      show Ogo p e below _ (T37.setTop (mkF m 166 #[.val (.long q1), .second, .val (.int p2), .val (.int p3), .val (.int b0), .val (.int b1), .val (.int b2), .val (.int (0 : Int32)), .val (.int (3 : Int32)), .val (.int y0), .val (.int y1), .val (.int y2), .val (.ref ba), .val (.ref bv), .val (.ref r1), .unset] [(.int (3 : Int32))]))
      refine own_via (fun tq kq => XS.iconst X37.here hx rfl (hb hby at_166) kq) ?_
      show Ogo p e below _ (T37.setTop (mkF m 167 #[.val (.long q1), .second, .val (.int p2), .val (.int p3), .val (.int b0), .val (.int b1), .val (.int b2), .val (.int (0 : Int32)), .val (.int (3 : Int32)), .val (.int y0), .val (.int y1), .val (.int y2), .val (.ref ba), .val (.ref bv), .val (.ref r1), .unset] [(.int (1 : Int32)), (.int (3 : Int32))]))
      refine own_via (fun tq kq => XS.icmpNo X37.here hx rfl (hb hby at_167) rfl (flt ((by decide) : ¬ ((3 : Int32) < (1 : Int32)))).1 kq) ?_
      show Ogo p e below _ (T37.setTop (mkF m 170 #[.val (.long q1), .second, .val (.int p2), .val (.int p3), .val (.int b0), .val (.int b1), .val (.int b2), .val (.int (0 : Int32)), .val (.int (3 : Int32)), .val (.int y0), .val (.int y1), .val (.int y2), .val (.ref ba), .val (.ref bv), .val (.ref r1), .unset] []))
      refine own_via (fun tq kq => XS.aload X37.here hx rfl (hb hby at_170) rfl rfl kq) ?_
      show Ogo p e below _ (T37.setTop (mkF m 172 #[.val (.long q1), .second, .val (.int p2), .val (.int p3), .val (.int b0), .val (.int b1), .val (.int b2), .val (.int (0 : Int32)), .val (.int (3 : Int32)), .val (.int y0), .val (.int y1), .val (.int y2), .val (.ref ba), .val (.ref bv), .val (.ref r1), .unset] [(.ref r1)]))
      refine own_via (fun tq kq => XS.iconst X37.here hx rfl (hb hby at_172) kq) ?_
      show Ogo p e below _ (T37.setTop (mkF m 173 #[.val (.long q1), .second, .val (.int p2), .val (.int p3), .val (.int b0), .val (.int b1), .val (.int b2), .val (.int (0 : Int32)), .val (.int (3 : Int32)), .val (.int y0), .val (.int y1), .val (.int y2), .val (.ref ba), .val (.ref bv), .val (.ref r1), .unset] [(.int (0 : Int32)), (.ref r1)]))
      refine own_via (fun tq kq => XS.aload X37.here hx rfl (hb hby at_173) rfl rfl kq) ?_
      show Ogo p e below _ (T37.setTop (mkF m 175 #[.val (.long q1), .second, .val (.int p2), .val (.int p3), .val (.int b0), .val (.int b1), .val (.int b2), .val (.int (0 : Int32)), .val (.int (3 : Int32)), .val (.int y0), .val (.int y1), .val (.int y2), .val (.ref ba), .val (.ref bv), .val (.ref r1), .unset] [(.ref r1), (.int (0 : Int32)), (.ref r1)]))
      refine own_via (fun tq kq => XS.iconst X37.here hx rfl (hb hby at_175) kq) ?_
      show Ogo p e below _ (T37.setTop (mkF m 176 #[.val (.long q1), .second, .val (.int p2), .val (.int p3), .val (.int b0), .val (.int b1), .val (.int b2), .val (.int (0 : Int32)), .val (.int (3 : Int32)), .val (.int y0), .val (.int y1), .val (.int y2), .val (.ref ba), .val (.ref bv), .val (.ref r1), .unset] [(.int (0 : Int32)), (.ref r1), (.int (0 : Int32)), (.ref r1)]))
      refine own_bald X37 hx hZ hk37 A_r1 (j := (0 : Int32)) (i := 0) (v := (.int y0)) (by decide) (by decide) rfl (hb hby at_176) ?_
      show Ogo p e below _ (T37.setTop (mkF m 177 #[.val (.long q1), .second, .val (.int p2), .val (.int p3), .val (.int b0), .val (.int b1), .val (.int b2), .val (.int (0 : Int32)), .val (.int (3 : Int32)), .val (.int y0), .val (.int y1), .val (.int y2), .val (.ref ba), .val (.ref bv), .val (.ref r1), .unset] [(.int y0), (.int (0 : Int32)), (.ref r1)]))
      refine own_via (fun tq kq => XS.iconst X37.here hx rfl (hb hby at_177) kq) ?_
      show Ogo p e below _ (T37.setTop (mkF m 178 #[.val (.long q1), .second, .val (.int p2), .val (.int p3), .val (.int b0), .val (.int b1), .val (.int b2), .val (.int (0 : Int32)), .val (.int (3 : Int32)), .val (.int y0), .val (.int y1), .val (.int y2), .val (.ref ba), .val (.ref bv), .val (.ref r1), .unset] [(.int (1 : Int32)), (.int y0), (.int (0 : Int32)), (.ref r1)]))
      refine own_via (fun tq kq => XS.iadd X37.here hx rfl (hb hby at_178) rfl kq) ?_
      show Ogo p e below _ (T37.setTop (mkF m 179 #[.val (.long q1), .second, .val (.int p2), .val (.int p3), .val (.int b0), .val (.int b1), .val (.int b2), .val (.int (0 : Int32)), .val (.int (3 : Int32)), .val (.int y0), .val (.int y1), .val (.int y2), .val (.ref ba), .val (.ref bv), .val (.ref r1), .unset] [(.int (y0 + (1 : Int32))), (.int (0 : Int32)), (.ref r1)]))
      refine own_via (fun tq kq => XS.i2b X37.here hx rfl (hb hby at_179) rfl kq) ?_
      show Ogo p e below _ (T37.setTop (mkF m 180 #[.val (.long q1), .second, .val (.int p2), .val (.int p3), .val (.int b0), .val (.int b1), .val (.int b2), .val (.int (0 : Int32)), .val (.int (3 : Int32)), .val (.int y0), .val (.int y1), .val (.int y2), .val (.ref ba), .val (.ref bv), .val (.ref r1), .unset] [(.int ((y0 + (1 : Int32)).toInt8.toInt32)), (.int (0 : Int32)), (.ref r1)]))
      obtain ⟨T38, h38, X38, e38, W38, A_r1', st38⟩ := own_bast X37 hx hZ hk37 A_r1 (x := ((y0 + (1 : Int32)).toInt8.toInt32)) (j := (0 : Int32)) (i := 0) (by decide) (by decide) (pc := 180) (Ls := #[.val (.long q1), .second, .val (.int p2), .val (.int p3), .val (.int b0), .val (.int b1), .val (.int b2), .val (.int (0 : Int32)), .val (.int (3 : Int32)), .val (.int y0), .val (.int y1), .val (.int y2), .val (.ref ba), .val (.ref bv), .val (.ref r1), .unset]) (rest := []) (hb hby at_180)
      refine own_via st38 ?_
      have A_ba := A_ba.other W38 (Nat.ne_of_lt lt_ba_r1)
      have E_ba := E_ba.wr W38
      have E_bv := E_bv.wr W38
      have F_bytes_bv := F_bytes_bv.other W38 (Or.inl (Nat.ne_of_lt lt_bv_r1))
      have E_r1 := E_r1.wr W38
      have zs := Nat.le_trans zs (Keep.of_wr W38).1
      have N := Fr.snoc X38 N g_r1
      have A_r1 := A_r1'
      show Ogo p e below _ (T38.setTop (mkF m 181 #[.val (.long q1), .second, .val (.int p2), .val (.int p3), .val (.int b0), .val (.int b1), .val (.int b2), .val (.int (0 : Int32)), .val (.int (3 : Int32)), .val (.int y0), .val (.int y1), .val (.int y2), .val (.ref ba), .val (.ref bv), .val (.ref r1), .unset] []))
      refine own_via (fun tq kq => XS.aload X38.here hx rfl (hb hby at_181) rfl rfl kq) ?_
      show Ogo p e below _ (T38.setTop (mkF m 183 #[.val (.long q1), .second, .val (.int p2), .val (.int p3), .val (.int b0), .val (.int b1), .val (.int b2), .val (.int (0 : Int32)), .val (.int (3 : Int32)), .val (.int y0), .val (.int y1), .val (.int y2), .val (.ref ba), .val (.ref bv), .val (.ref r1), .unset] [(.ref bv)]))
      refine own_callV X38 hx hZ hown (hw _ (List.mem_of_getElem? (i := 14) rfl)) (hw _ (List.mem_of_getElem? (i := 15) rfl)) (hw _ (List.mem_of_getElem? (i := 17) rfl)) (hw _ (List.mem_of_getElem? (i := 16) rfl)) (hw _ (List.mem_of_getElem? (i := 3) rfl)) (hw _ (List.mem_of_getElem? (i := 18) rfl)) (notFace_of_selects (args := #[]) (mvT hZ (hw _ (List.mem_of_getElem? (i := 17) rfl)))) (by decide) (rm_by hw bv ba 3 (own_f y0 y1 y2) h38 n0 F_bytes_bv A_ba E_ba (fun j _ => hft j) (by decide) zs) rfl e38 E_bv (W := 0) (by decide) (by decide) (by decide) (by decide) (by rw [hml]; rfl) (b := bv) (argsL := []) (rest := []) (lenOf pd_1 rfl) rfl (Nat.le_of_eq rfl) (hb hby at_183) ?_
      rintro _ T39 L39 X39 ⟨r2, rfl, Nq, Kc, hsz, A_r2, E_r2⟩
      have N := N.app Nq
      have lt_ba_r2 : ba < r2 := Nat.lt_of_lt_of_le E_ba.lt hsz
      have lt_bv_r2 : bv < r2 := Nat.lt_of_lt_of_le E_bv.lt hsz
      have lt_r1_r2 : r1 < r2 := Nat.lt_of_lt_of_le E_r1.lt hsz
      have g_r2 : n0 ≤ r2 := Nat.le_trans zs hsz
      have A_ba := A_ba.keep Kc nin0
      have E_ba := E_ba.keep Kc
      have E_bv := E_bv.keep Kc
      have F_bytes_bv := F_bytes_bv.keep Kc nin0
      have A_r1 := A_r1.keep Kc nin0
      have E_r1 := E_r1.keep Kc
      have zs := Nat.le_trans zs Kc.1
      show Ogo p e below _ (T39.setTop (mkF m 186 #[.val (.long q1), .second, .val (.int p2), .val (.int p3), .val (.int b0), .val (.int b1), .val (.int b2), .val (.int (0 : Int32)), .val (.int (3 : Int32)), .val (.int y0), .val (.int y1), .val (.int y2), .val (.ref ba), .val (.ref bv), .val (.ref r1), .unset] [(.ref r2)]))
      refine own_via (fun tq kq => XS.astore X39.here hx rfl (hb hby at_186) rfl rfl (l' := #[.val (.long q1), .second, .val (.int p2), .val (.int p3), .val (.int b0), .val (.int b1), .val (.int b2), .val (.int (0 : Int32)), .val (.int (3 : Int32)), .val (.int y0), .val (.int y1), .val (.int y2), .val (.ref ba), .val (.ref bv), .val (.ref r1), .val (.ref r2)]) rfl kq) ?_
      show Ogo p e below _ (T39.setTop (mkF m 188 #[.val (.long q1), .second, .val (.int p2), .val (.int p3), .val (.int b0), .val (.int b1), .val (.int b2), .val (.int (0 : Int32)), .val (.int (3 : Int32)), .val (.int y0), .val (.int y1), .val (.int y2), .val (.ref ba), .val (.ref bv), .val (.ref r1), .val (.ref r2)] []))
      refine own_via (fun tq kq => XS.aload X39.here hx rfl (hb hby at_188) rfl rfl kq) ?_
      show Ogo p e below _ (T39.setTop (mkF m 190 #[.val (.long q1), .second, .val (.int p2), .val (.int p3), .val (.int b0), .val (.int b1), .val (.int b2), .val (.int (0 : Int32)), .val (.int (3 : Int32)), .val (.int y0), .val (.int y1), .val (.int y2), .val (.ref ba), .val (.ref bv), .val (.ref r1), .val (.ref r2)] [(.ref r2)]))
      refine own_via (fun tq kq => XS.ifnonnullYes X39.here hx rfl (pc0 := 190) (pc' := 195) rfl (hb hby at_190) rfl (by decide) (by decide) kq) ?_
      show Ogo p e below _ (T39.setTop (mkF m 195 #[.val (.long q1), .second, .val (.int p2), .val (.int p3), .val (.int b0), .val (.int b1), .val (.int b2), .val (.int (0 : Int32)), .val (.int (3 : Int32)), .val (.int y0), .val (.int y1), .val (.int y2), .val (.ref ba), .val (.ref bv), .val (.ref r1), .val (.ref r2)] []))
      refine own_via (fun tq kq => XS.aload X39.here hx rfl (hb hby at_195) rfl rfl kq) ?_
      show Ogo p e below _ (T39.setTop (mkF m 197 #[.val (.long q1), .second, .val (.int p2), .val (.int p3), .val (.int b0), .val (.int b1), .val (.int b2), .val (.int (0 : Int32)), .val (.int (3 : Int32)), .val (.int y0), .val (.int y1), .val (.int y2), .val (.ref ba), .val (.ref bv), .val (.ref r1), .val (.ref r2)] [(.ref r2)]))
      refine own_via (fun tq kq => XS.aload X39.here hx rfl (hb hby at_197) rfl rfl kq) ?_
      show Ogo p e below _ (T39.setTop (mkF m 199 #[.val (.long q1), .second, .val (.int p2), .val (.int p3), .val (.int b0), .val (.int b1), .val (.int b2), .val (.int (0 : Int32)), .val (.int (3 : Int32)), .val (.int y0), .val (.int y1), .val (.int y2), .val (.ref ba), .val (.ref bv), .val (.ref r1), .val (.ref r2)] [(.ref ba), (.ref r2)]))
      refine own_via (fun tq kq => Jvm.RoadKit.acmp (g := (mkF m 199 #[.val (.long q1), .second, .val (.int p2), .val (.int p3), .val (.int b0), .val (.int b1), .val (.int b2), .val (.int (0 : Int32)), .val (.int (3 : Int32)), .val (.int y0), .val (.int y1), .val (.int y2), .val (.ref ba), .val (.ref bv), .val (.ref r1), .val (.ref r2)] [(.ref ba), (.ref r2)])) X39 hx rfl rfl rfl (pc0 := 199) (pc' := 202) (same := false) rfl (hb hby at_199) rfl (decide_eq_false fun q => (Nat.ne_of_gt lt_ba_r2) (Value.ref.inj q)) (by decide) (by decide) kq) ?_
      show Ogo p e below _ (T39.setTop (mkF m 202 #[.val (.long q1), .second, .val (.int p2), .val (.int p3), .val (.int b0), .val (.int b1), .val (.int b2), .val (.int (0 : Int32)), .val (.int (3 : Int32)), .val (.int y0), .val (.int y1), .val (.int y2), .val (.ref ba), .val (.ref bv), .val (.ref r1), .val (.ref r2)] []))
      refine own_via (fun tq kq => XS.aload X39.here hx rfl (hb hby at_202) rfl rfl kq) ?_
      show Ogo p e below _ (T39.setTop (mkF m 204 #[.val (.long q1), .second, .val (.int p2), .val (.int p3), .val (.int b0), .val (.int b1), .val (.int b2), .val (.int (0 : Int32)), .val (.int (3 : Int32)), .val (.int y0), .val (.int y1), .val (.int y2), .val (.ref ba), .val (.ref bv), .val (.ref r1), .val (.ref r2)] [(.ref r2)]))
      refine own_via (fun tq kq => XS.aload X39.here hx rfl (hb hby at_204) rfl rfl kq) ?_
      show Ogo p e below _ (T39.setTop (mkF m 206 #[.val (.long q1), .second, .val (.int p2), .val (.int p3), .val (.int b0), .val (.int b1), .val (.int b2), .val (.int (0 : Int32)), .val (.int (3 : Int32)), .val (.int y0), .val (.int y1), .val (.int y2), .val (.ref ba), .val (.ref bv), .val (.ref r1), .val (.ref r2)] [(.ref r1), (.ref r2)]))
      refine own_via (fun tq kq => Jvm.RoadKit.acmp (g := (mkF m 206 #[.val (.long q1), .second, .val (.int p2), .val (.int p3), .val (.int b0), .val (.int b1), .val (.int b2), .val (.int (0 : Int32)), .val (.int (3 : Int32)), .val (.int y0), .val (.int y1), .val (.int y2), .val (.ref ba), .val (.ref bv), .val (.ref r1), .val (.ref r2)] [(.ref r1), (.ref r2)])) X39 hx rfl rfl rfl (pc0 := 206) (pc' := 211) (same := false) rfl (hb hby at_206) rfl (decide_eq_false fun q => (Nat.ne_of_gt lt_r1_r2) (Value.ref.inj q)) (by decide) (by decide) kq) ?_
      show Ogo p e below _ (T39.setTop (mkF m 211 #[.val (.long q1), .second, .val (.int p2), .val (.int p3), .val (.int b0), .val (.int b1), .val (.int b2), .val (.int (0 : Int32)), .val (.int (3 : Int32)), .val (.int y0), .val (.int y1), .val (.int y2), .val (.ref ba), .val (.ref bv), .val (.ref r1), .val (.ref r2)] []))
      refine own_via (fun tq kq => XS.aload X39.here hx rfl (hb hby at_211) rfl rfl kq) ?_
      show Ogo p e below _ (T39.setTop (mkF m 213 #[.val (.long q1), .second, .val (.int p2), .val (.int p3), .val (.int b0), .val (.int b1), .val (.int b2), .val (.int (0 : Int32)), .val (.int (3 : Int32)), .val (.int y0), .val (.int y1), .val (.int y2), .val (.ref ba), .val (.ref bv), .val (.ref r1), .val (.ref r2)] [(.ref r2)]))
      refine own_via (fun tq kq => XS.iload X39.here hx rfl (hb hby at_213) rfl kq) ?_
      show Ogo p e below _ (T39.setTop (mkF m 215 #[.val (.long q1), .second, .val (.int p2), .val (.int p3), .val (.int b0), .val (.int b1), .val (.int b2), .val (.int (0 : Int32)), .val (.int (3 : Int32)), .val (.int y0), .val (.int y1), .val (.int y2), .val (.ref ba), .val (.ref bv), .val (.ref r1), .val (.ref r2)] [(.int (3 : Int32)), (.ref r2)]))
      refine own_via (fun tq kq => XS.iload X39.here hx rfl (hb hby at_215) rfl kq) ?_
      show Ogo p e below _ (T39.setTop (mkF m 217 #[.val (.long q1), .second, .val (.int p2), .val (.int p3), .val (.int b0), .val (.int b1), .val (.int b2), .val (.int (0 : Int32)), .val (.int (3 : Int32)), .val (.int y0), .val (.int y1), .val (.int y2), .val (.ref ba), .val (.ref bv), .val (.ref r1), .val (.ref r2)] [(.int y0), (.int (3 : Int32)), (.ref r2)]))
      refine own_via (fun tq kq => XS.iload X39.here hx rfl (hb hby at_217) rfl kq) ?_
      show Ogo p e below _ (T39.setTop (mkF m 219 #[.val (.long q1), .second, .val (.int p2), .val (.int p3), .val (.int b0), .val (.int b1), .val (.int b2), .val (.int (0 : Int32)), .val (.int (3 : Int32)), .val (.int y0), .val (.int y1), .val (.int y2), .val (.ref ba), .val (.ref bv), .val (.ref r1), .val (.ref r2)] [(.int y1), (.int y0), (.int (3 : Int32)), (.ref r2)]))
      refine own_via (fun tq kq => XS.iload X39.here hx rfl (hb hby at_219) rfl kq) ?_
      show Ogo p e below _ (T39.setTop (mkF m 221 #[.val (.long q1), .second, .val (.int p2), .val (.int p3), .val (.int b0), .val (.int b1), .val (.int b2), .val (.int (0 : Int32)), .val (.int (3 : Int32)), .val (.int y0), .val (.int y1), .val (.int y2), .val (.ref ba), .val (.ref bv), .val (.ref r1), .val (.ref r2)] [(.int y2), (.int y1), (.int y0), (.int (3 : Int32)), (.ref r2)]))
      refine own_callS X39 hx hZ hown (hw _ (List.mem_of_getElem? (i := 28) rfl)) (hw _ (List.mem_of_getElem? (i := 29) rfl)) (hw _ (List.mem_of_getElem? (i := 30) rfl)) (hw _ (List.mem_of_getElem? (i := 31) rfl)) (by decide) (rm_sm hw r2 (3 : Int32) y0 y1 y2 3 _ T39.heap n0 A_r2 rfl (fun _ => rfl) (fun _ => rfl) (fun _ => rfl)) rfl rfl (W := 0) (by decide) (by decide) (by decide) (by decide) (by rw [hml]; rfl) (argsL := [(.ref r2), (.int (3 : Int32)), (.int y0), (.int y1), (.int y2)]) (rest := []) (lenOf pd_2 rfl) rfl (Nat.le_of_eq rfl) (hb hby at_221) ?_
      rintro _ T40 L40 X40 ⟨rfl, Nq, hk⟩
      have N := N.app Nq
      have hk40 := hk
      show Ogo p e below _ (T40.setTop (mkF m 224 #[.val (.long q1), .second, .val (.int p2), .val (.int p3), .val (.int b0), .val (.int b1), .val (.int b2), .val (.int (0 : Int32)), .val (.int (3 : Int32)), .val (.int y0), .val (.int y1), .val (.int y2), .val (.ref ba), .val (.ref bv), .val (.ref r1), .val (.ref r2)] [(.int (1 : Int32))]))
      refine own_via (fun tq kq => XS.ifYes X40.here hx rfl (pc0 := 224) (pc' := 229) rfl (hb hby at_224) rfl ((if0 _ _).trans (feq ((by decide) : ¬ ((1 : Int32) = (0 : Int32)))).2) (by decide) (by decide) kq) ?_
      show Ogo p e below _ (T40.setTop (mkF m 229 #[.val (.long q1), .second, .val (.int p2), .val (.int p3), .val (.int b0), .val (.int b1), .val (.int b2), .val (.int (0 : Int32)), .val (.int (3 : Int32)), .val (.int y0), .val (.int y1), .val (.int y2), .val (.ref ba), .val (.ref bv), .val (.ref r1), .val (.ref r2)] []))
      refine own_via (fun tq kq => XS.aload X40.here hx rfl (hb hby at_229) rfl rfl kq) ?_
      show Ogo p e below _ (T40.setTop (mkF m 231 #[.val (.long q1), .second, .val (.int p2), .val (.int p3), .val (.int b0), .val (.int b1), .val (.int b2), .val (.int (0 : Int32)), .val (.int (3 : Int32)), .val (.int y0), .val (.int y1), .val (.int y2), .val (.ref ba), .val (.ref bv), .val (.ref r1), .val (.ref r2)] [(.ref ba)]))
      refine own_via (fun tq kq => XS.iload X40.here hx rfl (hb hby at_231) rfl kq) ?_
      show Ogo p e below _ (T40.setTop (mkF m 233 #[.val (.long q1), .second, .val (.int p2), .val (.int p3), .val (.int b0), .val (.int b1), .val (.int b2), .val (.int (0 : Int32)), .val (.int (3 : Int32)), .val (.int y0), .val (.int y1), .val (.int y2), .val (.ref ba), .val (.ref bv), .val (.ref r1), .val (.ref r2)] [(.int (3 : Int32)), (.ref ba)]))
      refine own_via (fun tq kq => XS.iload X40.here hx rfl (hb hby at_233) rfl kq) ?_
      show Ogo p e below _ (T40.setTop (mkF m 235 #[.val (.long q1), .second, .val (.int p2), .val (.int p3), .val (.int b0), .val (.int b1), .val (.int b2), .val (.int (0 : Int32)), .val (.int (3 : Int32)), .val (.int y0), .val (.int y1), .val (.int y2), .val (.ref ba), .val (.ref bv), .val (.ref r1), .val (.ref r2)] [(.int y0), (.int (3 : Int32)), (.ref ba)]))
      refine own_via (fun tq kq => XS.iload X40.here hx rfl (hb hby at_235) rfl kq) ?_
      show Ogo p e below _ (T40.setTop (mkF m 237 #[.val (.long q1), .second, .val (.int p2), .val (.int p3), .val (.int b0), .val (.int b1), .val (.int b2), .val (.int (0 : Int32)), .val (.int (3 : Int32)), .val (.int y0), .val (.int y1), .val (.int y2), .val (.ref ba), .val (.ref bv), .val (.ref r1), .val (.ref r2)] [(.int y1), (.int y0), (.int (3 : Int32)), (.ref ba)]))
      refine own_via (fun tq kq => XS.iload X40.here hx rfl (hb hby at_237) rfl kq) ?_
      show Ogo p e below _ (T40.setTop (mkF m 239 #[.val (.long q1), .second, .val (.int p2), .val (.int p3), .val (.int b0), .val (.int b1), .val (.int b2), .val (.int (0 : Int32)), .val (.int (3 : Int32)), .val (.int y0), .val (.int y1), .val (.int y2), .val (.ref ba), .val (.ref bv), .val (.ref r1), .val (.ref r2)] [(.int y2), (.int y1), (.int y0), (.int (3 : Int32)), (.ref ba)]))
      refine own_callS X40 hx hZ hown (hw _ (List.mem_of_getElem? (i := 28) rfl)) (hw _ (List.mem_of_getElem? (i := 29) rfl)) (hw _ (List.mem_of_getElem? (i := 30) rfl)) (hw _ (List.mem_of_getElem? (i := 31) rfl)) (by decide) (rm_sm hw ba (3 : Int32) y0 y1 y2 3 _ T39.heap n0 A_ba rfl (fun _ => rfl) (fun _ => rfl) (fun _ => rfl)) rfl hk40 (W := 0) (by decide) (by decide) (by decide) (by decide) (by rw [hml]; rfl) (argsL := [(.ref ba), (.int (3 : Int32)), (.int y0), (.int y1), (.int y2)]) (rest := []) (lenOf pd_2 rfl) rfl (Nat.le_of_eq rfl) (hb hby at_239) ?_
      rintro _ T41 L41 X41 ⟨rfl, Nq, hk⟩
      have N := N.app Nq
      have hk41 := hk
      show Ogo p e below _ (T41.setTop (mkF m 242 #[.val (.long q1), .second, .val (.int p2), .val (.int p3), .val (.int b0), .val (.int b1), .val (.int b2), .val (.int (0 : Int32)), .val (.int (3 : Int32)), .val (.int y0), .val (.int y1), .val (.int y2), .val (.ref ba), .val (.ref bv), .val (.ref r1), .val (.ref r2)] [(.int (1 : Int32))]))
      exact own_out X41 hlk (fun h => by rw [hret] at h; cases h) (by decide) (by decide) (by first | exact ⟨rfl, N⟩ | (rw [hk41]; exact ⟨rfl, N⟩)) (fun fs hr => retN X41 hx (t := .boolean) hret (by simp) (hb hby at_242) hr)
  · refine own_via (fun tq kq => XS.ifNo X0.here hx rfl (hb hby at_3) rfl ((if0 _ _).trans (feq (hc3 : ¬ ((p2 &&& (1 : Int32)) = (0 : Int32)))).1) kq) ?_
    show Ogo p e below _ (s₁.setTop (mkF m 6 #[.val (.long q1), .second, .val (.int p2), .val (.int p3), .val (.int b0), .val (.int b1), .val (.int b2), .unset, .unset, .unset, .unset, .unset, .unset, .unset, .unset, .unset] []))
    refine own_via (fun tq kq => XS.iconst X0.here hx rfl (hb hby at_6) kq) ?_
    show Ogo p e below _ (s₁.setTop (mkF m 7 #[.val (.long q1), .second, .val (.int p2), .val (.int p3), .val (.int b0), .val (.int b1), .val (.int b2), .unset, .unset, .unset, .unset, .unset, .unset, .unset, .unset, .unset] [(.int (1 : Int32))]))
    refine own_via (fun tq kq => XS.goto X0.here hx rfl (pc0 := 7) (pc' := 11) rfl (hb hby at_7) (by decide) (by decide) kq) ?_
    show Ogo p e below _ (s₁.setTop (mkF m 11 #[.val (.long q1), .second, .val (.int p2), .val (.int p3), .val (.int b0), .val (.int b1), .val (.int b2), .unset, .unset, .unset, .unset, .unset, .unset, .unset, .unset, .unset] [(.int (1 : Int32))]))
    refine own_via (fun tq kq => XS.istore X0.here hx rfl (hb hby at_11) rfl (l' := #[.val (.long q1), .second, .val (.int p2), .val (.int p3), .val (.int b0), .val (.int b1), .val (.int b2), .val (.int (1 : Int32)), .unset, .unset, .unset, .unset, .unset, .unset, .unset, .unset]) rfl kq) ?_
    show Ogo p e below _ (s₁.setTop (mkF m 13 #[.val (.long q1), .second, .val (.int p2), .val (.int p3), .val (.int b0), .val (.int b1), .val (.int b2), .val (.int (1 : Int32)), .unset, .unset, .unset, .unset, .unset, .unset, .unset, .unset] []))
    refine own_via (fun tq kq => XS.iloadN X0.here hx rfl (hb hby at_13) rfl kq) ?_
    show Ogo p e below _ (s₁.setTop (mkF m 14 #[.val (.long q1), .second, .val (.int p2), .val (.int p3), .val (.int b0), .val (.int b1), .val (.int b2), .val (.int (1 : Int32)), .unset, .unset, .unset, .unset, .unset, .unset, .unset, .unset] [(.int p3)]))
    refine own_via (fun tq kq => XS.iconst X0.here hx rfl (hb hby at_14) kq) ?_
    show Ogo p e below _ (s₁.setTop (mkF m 15 #[.val (.long q1), .second, .val (.int p2), .val (.int p3), .val (.int b0), .val (.int b1), .val (.int b2), .val (.int (1 : Int32)), .unset, .unset, .unset, .unset, .unset, .unset, .unset, .unset] [(.int (3 : Int32)), (.int p3)]))
    refine own_via (fun tq kq => XS.iand X0.here hx rfl (hb hby at_15) rfl kq) ?_
    show Ogo p e below _ (s₁.setTop (mkF m 16 #[.val (.long q1), .second, .val (.int p2), .val (.int p3), .val (.int b0), .val (.int b1), .val (.int b2), .val (.int (1 : Int32)), .unset, .unset, .unset, .unset, .unset, .unset, .unset, .unset] [(.int (p3 &&& (3 : Int32)))]))
    refine own_via (fun tq kq => XS.istore X0.here hx rfl (hb hby at_16) rfl (l' := #[.val (.long q1), .second, .val (.int p2), .val (.int p3), .val (.int b0), .val (.int b1), .val (.int b2), .val (.int (1 : Int32)), .val (.int (p3 &&& (3 : Int32))), .unset, .unset, .unset, .unset, .unset, .unset, .unset]) rfl kq) ?_
    show Ogo p e below _ (s₁.setTop (mkF m 18 #[.val (.long q1), .second, .val (.int p2), .val (.int p3), .val (.int b0), .val (.int b1), .val (.int b2), .val (.int (1 : Int32)), .val (.int (p3 &&& (3 : Int32))), .unset, .unset, .unset, .unset, .unset, .unset, .unset] []))
    refine own_via (fun tq kq => XS.iload X0.here hx rfl (hb hby at_18) rfl kq) ?_
    show Ogo p e below _ (s₁.setTop (mkF m 20 #[.val (.long q1), .second, .val (.int p2), .val (.int p3), .val (.int b0), .val (.int b1), .val (.int b2), .val (.int (1 : Int32)), .val (.int (p3 &&& (3 : Int32))), .unset, .unset, .unset, .unset, .unset, .unset, .unset] [(.int b0)]))
    refine own_via (fun tq kq => XS.i2b X0.here hx rfl (hb hby at_20) rfl kq) ?_
    show Ogo p e below _ (s₁.setTop (mkF m 21 #[.val (.long q1), .second, .val (.int p2), .val (.int p3), .val (.int b0), .val (.int b1), .val (.int b2), .val (.int (1 : Int32)), .val (.int (p3 &&& (3 : Int32))), .unset, .unset, .unset, .unset, .unset, .unset, .unset] [(.int (b0.toInt8.toInt32))]))
    refine own_via (fun tq kq => XS.istore X0.here hx rfl (hb hby at_21) rfl (l' := #[.val (.long q1), .second, .val (.int p2), .val (.int p3), .val (.int b0), .val (.int b1), .val (.int b2), .val (.int (1 : Int32)), .val (.int (p3 &&& (3 : Int32))), .val (.int (b0.toInt8.toInt32)), .unset, .unset, .unset, .unset, .unset, .unset]) rfl kq) ?_
    show Ogo p e below _ (s₁.setTop (mkF m 23 #[.val (.long q1), .second, .val (.int p2), .val (.int p3), .val (.int b0), .val (.int b1), .val (.int b2), .val (.int (1 : Int32)), .val (.int (p3 &&& (3 : Int32))), .val (.int (b0.toInt8.toInt32)), .unset, .unset, .unset, .unset, .unset, .unset] []))
    refine own_via (fun tq kq => XS.iload X0.here hx rfl (hb hby at_23) rfl kq) ?_
    show Ogo p e below _ (s₁.setTop (mkF m 25 #[.val (.long q1), .second, .val (.int p2), .val (.int p3), .val (.int b0), .val (.int b1), .val (.int b2), .val (.int (1 : Int32)), .val (.int (p3 &&& (3 : Int32))), .val (.int (b0.toInt8.toInt32)), .unset, .unset, .unset, .unset, .unset, .unset] [(.int b1)]))
    refine own_via (fun tq kq => XS.i2b X0.here hx rfl (hb hby at_25) rfl kq) ?_
    show Ogo p e below _ (s₁.setTop (mkF m 26 #[.val (.long q1), .second, .val (.int p2), .val (.int p3), .val (.int b0), .val (.int b1), .val (.int b2), .val (.int (1 : Int32)), .val (.int (p3 &&& (3 : Int32))), .val (.int (b0.toInt8.toInt32)), .unset, .unset, .unset, .unset, .unset, .unset] [(.int (b1.toInt8.toInt32))]))
    refine own_via (fun tq kq => XS.istore X0.here hx rfl (hb hby at_26) rfl (l' := #[.val (.long q1), .second, .val (.int p2), .val (.int p3), .val (.int b0), .val (.int b1), .val (.int b2), .val (.int (1 : Int32)), .val (.int (p3 &&& (3 : Int32))), .val (.int (b0.toInt8.toInt32)), .val (.int (b1.toInt8.toInt32)), .unset, .unset, .unset, .unset, .unset]) rfl kq) ?_
    show Ogo p e below _ (s₁.setTop (mkF m 28 #[.val (.long q1), .second, .val (.int p2), .val (.int p3), .val (.int b0), .val (.int b1), .val (.int b2), .val (.int (1 : Int32)), .val (.int (p3 &&& (3 : Int32))), .val (.int (b0.toInt8.toInt32)), .val (.int (b1.toInt8.toInt32)), .unset, .unset, .unset, .unset, .unset] []))
    refine own_via (fun tq kq => XS.iload X0.here hx rfl (hb hby at_28) rfl kq) ?_
    show Ogo p e below _ (s₁.setTop (mkF m 30 #[.val (.long q1), .second, .val (.int p2), .val (.int p3), .val (.int b0), .val (.int b1), .val (.int b2), .val (.int (1 : Int32)), .val (.int (p3 &&& (3 : Int32))), .val (.int (b0.toInt8.toInt32)), .val (.int (b1.toInt8.toInt32)), .unset, .unset, .unset, .unset, .unset] [(.int b2)]))
    refine own_via (fun tq kq => XS.i2b X0.here hx rfl (hb hby at_30) rfl kq) ?_
    show Ogo p e below _ (s₁.setTop (mkF m 31 #[.val (.long q1), .second, .val (.int p2), .val (.int p3), .val (.int b0), .val (.int b1), .val (.int b2), .val (.int (1 : Int32)), .val (.int (p3 &&& (3 : Int32))), .val (.int (b0.toInt8.toInt32)), .val (.int (b1.toInt8.toInt32)), .unset, .unset, .unset, .unset, .unset] [(.int (b2.toInt8.toInt32))]))
    refine own_via (fun tq kq => XS.istore X0.here hx rfl (hb hby at_31) rfl (l' := #[.val (.long q1), .second, .val (.int p2), .val (.int p3), .val (.int b0), .val (.int b1), .val (.int b2), .val (.int (1 : Int32)), .val (.int (p3 &&& (3 : Int32))), .val (.int (b0.toInt8.toInt32)), .val (.int (b1.toInt8.toInt32)), .val (.int (b2.toInt8.toInt32)), .unset, .unset, .unset, .unset]) rfl kq) ?_
    show Ogo p e below _ (s₁.setTop (mkF m 33 #[.val (.long q1), .second, .val (.int p2), .val (.int p3), .val (.int b0), .val (.int b1), .val (.int b2), .val (.int (1 : Int32)), .val (.int (p3 &&& (3 : Int32))), .val (.int (b0.toInt8.toInt32)), .val (.int (b1.toInt8.toInt32)), .val (.int (b2.toInt8.toInt32)), .unset, .unset, .unset, .unset] []))
    refine own_via (fun tq kq => XS.aconstNull X0.here hx rfl (hb hby at_33) kq) ?_
    show Ogo p e below _ (s₁.setTop (mkF m 34 #[.val (.long q1), .second, .val (.int p2), .val (.int p3), .val (.int b0), .val (.int b1), .val (.int b2), .val (.int (1 : Int32)), .val (.int (p3 &&& (3 : Int32))), .val (.int (b0.toInt8.toInt32)), .val (.int (b1.toInt8.toInt32)), .val (.int (b2.toInt8.toInt32)), .unset, .unset, .unset, .unset] [.null]))
    refine own_via (fun tq kq => XS.astore X0.here hx rfl (hb hby at_34) rfl rfl (l' := #[.val (.long q1), .second, .val (.int p2), .val (.int p3), .val (.int b0), .val (.int b1), .val (.int b2), .val (.int (1 : Int32)), .val (.int (p3 &&& (3 : Int32))), .val (.int (b0.toInt8.toInt32)), .val (.int (b1.toInt8.toInt32)), .val (.int (b2.toInt8.toInt32)), .val .null, .unset, .unset, .unset]) rfl kq) ?_
    show Ogo p e below _ (s₁.setTop (mkF m 36 #[.val (.long q1), .second, .val (.int p2), .val (.int p3), .val (.int b0), .val (.int b1), .val (.int b2), .val (.int (1 : Int32)), .val (.int (p3 &&& (3 : Int32))), .val (.int (b0.toInt8.toInt32)), .val (.int (b1.toInt8.toInt32)), .val (.int (b2.toInt8.toInt32)), .val .null, .unset, .unset, .unset] []))
    refine own_via (fun tq kq => XS.iload X0.here hx rfl (hb hby at_36) rfl kq) ?_
    show Ogo p e below _ (s₁.setTop (mkF m 38 #[.val (.long q1), .second, .val (.int p2), .val (.int p3), .val (.int b0), .val (.int b1), .val (.int b2), .val (.int (1 : Int32)), .val (.int (p3 &&& (3 : Int32))), .val (.int (b0.toInt8.toInt32)), .val (.int (b1.toInt8.toInt32)), .val (.int (b2.toInt8.toInt32)), .val .null, .unset, .unset, .unset] [(.int (1 : Int32))]))
    refine own_via (fun tq kq => XS.ifYes X0.here hx rfl (pc0 := 38) (pc' := 83) rfl (hb hby at_38) rfl ((if0 _ _).trans (feq ((by decide) : ¬ ((1 : Int32) = (0 : Int32)))).2) (by decide) (by decide) kq) ?_
    show Ogo p e below _ (s₁.setTop (mkF m 83 #[.val (.long q1), .second, .val (.int p2), .val (.int p3), .val (.int b0), .val (.int b1), .val (.int b2), .val (.int (1 : Int32)), .val (.int (p3 &&& (3 : Int32))), .val (.int (b0.toInt8.toInt32)), .val (.int (b1.toInt8.toInt32)), .val (.int (b2.toInt8.toInt32)), .val .null, .unset, .unset, .unset] []))
    obtain ⟨T42, h42, X42, e42, E42, A42, D42, -, st42⟩ := newO X0 hx hZ hown (hw _ (List.mem_of_getElem? (i := 1) rfl)) (hw _ (List.mem_of_getElem? (i := 2) rfl)) (hw _ (List.mem_of_getElem? (i := 3) rfl)) e0 (g := (mkF m 83 #[.val (.long q1), .second, .val (.int p2), .val (.int p3), .val (.int b0), .val (.int b1), .val (.int b2), .val (.int (1 : Int32)), .val (.int (p3 &&& (3 : Int32))), .val (.int (b0.toInt8.toInt32)), .val (.int (b1.toInt8.toInt32)), .val (.int (b2.toInt8.toInt32)), .val .null, .unset, .unset, .unset] [])) rfl (hb hby at_83) (by decide) (by decide)
    refine own_via st42 ?_
    obtain ⟨bv, g42⟩ : ∃ z, z = h0.size := ⟨_, rfl⟩
    rw [← g42]
    rw [← g42] at A42 D42
    have g_bv : n0 ≤ bv := by rw [g42]; exact zs
    have zs := Nat.le_trans zs E42.1
    have E_bv := A42
    have F_revision_bv : Fld Z h42 bv "com/example/keep_posted/keepposted/client/Value" "revision" "J" (.long (0 : Int64)) := D42 (Or.inr (hw _ (List.mem_of_getElem? (i := 11) rfl))) (ty := .long) (by decide)
    have F_bytes_bv : Fld Z h42 bv "com/example/keep_posted/keepposted/client/Value" "bytes" "[B" .null := D42 (Or.inr (hw _ (List.mem_of_getElem? (i := 13) rfl))) (ty := (.array .byte)) (by decide)
    show Ogo p e below _ (T42.setTop (mkF m 86 #[.val (.long q1), .second, .val (.int p2), .val (.int p3), .val (.int b0), .val (.int b1), .val (.int b2), .val (.int (1 : Int32)), .val (.int (p3 &&& (3 : Int32))), .val (.int (b0.toInt8.toInt32)), .val (.int (b1.toInt8.toInt32)), .val (.int (b2.toInt8.toInt32)), .val .null, .unset, .unset, .unset] [(.ref bv)]))
    refine own_via (fun tq kq => XS.dup X42.here hx rfl (hb hby at_86) rfl rfl kq) ?_
    show Ogo p e below _ (T42.setTop (mkF m 87 #[.val (.long q1), .second, .val (.int p2), .val (.int p3), .val (.int b0), .val (.int b1), .val (.int b2), .val (.int (1 : Int32)), .val (.int (p3 &&& (3 : Int32))), .val (.int (b0.toInt8.toInt32)), .val (.int (b1.toInt8.toInt32)), .val (.int (b2.toInt8.toInt32)), .val .null, .unset, .unset, .unset] [(.ref bv), (.ref bv)]))
    refine own_via (fun tq kq => XS.lloadN X42.here hx rfl (hb hby at_87) rfl kq) ?_
    show Ogo p e below _ (T42.setTop (mkF m 88 #[.val (.long q1), .second, .val (.int p2), .val (.int p3), .val (.int b0), .val (.int b1), .val (.int b2), .val (.int (1 : Int32)), .val (.int (p3 &&& (3 : Int32))), .val (.int (b0.toInt8.toInt32)), .val (.int (b1.toInt8.toInt32)), .val (.int (b2.toInt8.toInt32)), .val .null, .unset, .unset, .unset] [(.long q1), (.ref bv), (.ref bv)]))
    refine own_via (fun tq kq => XS.aload X42.here hx rfl (hb hby at_88) rfl rfl kq) ?_
    show Ogo p e below _ (T42.setTop (mkF m 90 #[.val (.long q1), .second, .val (.int p2), .val (.int p3), .val (.int b0), .val (.int b1), .val (.int b2), .val (.int (1 : Int32)), .val (.int (p3 &&& (3 : Int32))), .val (.int (b0.toInt8.toInt32)), .val (.int (b1.toInt8.toInt32)), .val (.int (b2.toInt8.toInt32)), .val .null, .unset, .unset, .unset] [.null, (.long q1), (.ref bv), (.ref bv)]))
    refine own_callI X42 hx hZ rfl hown (hw _ (List.mem_of_getElem? (i := 4) rfl)) (hw _ (List.mem_of_getElem? (i := 5) rfl)) (hw _ (List.mem_of_getElem? (i := 3) rfl)) (hw _ (List.mem_of_getElem? (i := 6) rfl)) (by decide) (rm_vi0 hw bv q1 h42 n0 E_bv F_revision_bv F_bytes_bv g_bv) rfl e42 (W := 1) (by decide) (by decide) (by decide) (by decide) (by rw [hml]; rfl) (a := bv) (argsL := [(.long q1), .null]) (rest := [(.ref bv)]) (lenOf pd_0 rfl) rfl (Nat.le_of_eq rfl) (hb hby at_90) ?_
    rintro _ T43 L43 X43 ⟨rfl, Nq, Kc, F_bytes_bv⟩
    have N := N.app Nq
    have E_bv := E_bv.keep Kc
    have zs := Nat.le_trans zs Kc.1
    show Ogo p e below _ (T43.setTop (mkF m 93 #[.val (.long q1), .second, .val (.int p2), .val (.int p3), .val (.int b0), .val (.int b1), .val (.int b2), .val (.int (1 : Int32)), .val (.int (p3 &&& (3 : Int32))), .val (.int (b0.toInt8.toInt32)), .val (.int (b1.toInt8.toInt32)), .val (.int (b2.toInt8.toInt32)), .val .null, .unset, .unset, .unset] [(.ref bv)]))
    refine own_via (fun tq kq => XS.astore X43.here hx rfl (hb hby at_93) rfl rfl (l' := #[.val (.long q1), .second, .val (.int p2), .val (.int p3), .val (.int b0), .val (.int b1), .val (.int b2), .val (.int (1 : Int32)), .val (.int (p3 &&& (3 : Int32))), .val (.int (b0.toInt8.toInt32)), .val (.int (b1.toInt8.toInt32)), .val (.int (b2.toInt8.toInt32)), .val .null, .val (.ref bv), .unset, .unset]) rfl kq) ?_
    show Ogo p e below _ (T43.setTop (mkF m 95 #[.val (.long q1), .second, .val (.int p2), .val (.int p3), .val (.int b0), .val (.int b1), .val (.int b2), .val (.int (1 : Int32)), .val (.int (p3 &&& (3 : Int32))), .val (.int (b0.toInt8.toInt32)), .val (.int (b1.toInt8.toInt32)), .val (.int (b2.toInt8.toInt32)), .val .null, .val (.ref bv), .unset, .unset] []))
    refine own_via (fun tq kq => XS.aload X43.here hx rfl (hb hby at_95) rfl rfl kq) ?_
    show Ogo p e below _ (T43.setTop (mkF m 97 #[.val (.long q1), .second, .val (.int p2), .val (.int p3), .val (.int b0), .val (.int b1), .val (.int b2), .val (.int (1 : Int32)), .val (.int (p3 &&& (3 : Int32))), .val (.int (b0.toInt8.toInt32)), .val (.int (b1.toInt8.toInt32)), .val (.int (b2.toInt8.toInt32)), .val .null, .val (.ref bv), .unset, .unset] [(.ref bv)]))
    refine own_callV X43 hx hZ hown (hw _ (List.mem_of_getElem? (i := 14) rfl)) (hw _ (List.mem_of_getElem? (i := 15) rfl)) (hw _ (List.mem_of_getElem? (i := 17) rfl)) (hw _ (List.mem_of_getElem? (i := 16) rfl)) (hw _ (List.mem_of_getElem? (i := 3) rfl)) (hw _ (List.mem_of_getElem? (i := 18) rfl)) (notFace_of_selects (args := #[]) (mvT hZ (hw _ (List.mem_of_getElem? (i := 17) rfl)))) (by decide) (rm_by0 hw bv T43.heap n0 F_bytes_bv) rfl rfl E_bv (W := 0) (by decide) (by decide) (by decide) (by decide) (by rw [hml]; rfl) (b := bv) (argsL := []) (rest := []) (lenOf pd_1 rfl) rfl (Nat.le_of_eq rfl) (hb hby at_97) ?_
    rintro _ T44 L44 X44 ⟨rfl, Nq, hk⟩
    have N := N.app Nq
    have hk44 := hk
    show Ogo p e below _ (T44.setTop (mkF m 100 #[.val (.long q1), .second, .val (.int p2), .val (.int p3), .val (.int b0), .val (.int b1), .val (.int b2), .val (.int (1 : Int32)), .val (.int (p3 &&& (3 : Int32))), .val (.int (b0.toInt8.toInt32)), .val (.int (b1.toInt8.toInt32)), .val (.int (b2.toInt8.toInt32)), .val .null, .val (.ref bv), .unset, .unset] [.null]))
    refine own_via (fun tq kq => XS.astore X44.here hx rfl (hb hby at_100) rfl rfl (l' := #[.val (.long q1), .second, .val (.int p2), .val (.int p3), .val (.int b0), .val (.int b1), .val (.int b2), .val (.int (1 : Int32)), .val (.int (p3 &&& (3 : Int32))), .val (.int (b0.toInt8.toInt32)), .val (.int (b1.toInt8.toInt32)), .val (.int (b2.toInt8.toInt32)), .val .null, .val (.ref bv), .val .null, .unset]) rfl kq) ?_
    show Ogo p e below _ (T44.setTop (mkF m 102 #[.val (.long q1), .second, .val (.int p2), .val (.int p3), .val (.int b0), .val (.int b1), .val (.int b2), .val (.int (1 : Int32)), .val (.int (p3 &&& (3 : Int32))), .val (.int (b0.toInt8.toInt32)), .val (.int (b1.toInt8.toInt32)), .val (.int (b2.toInt8.toInt32)), .val .null, .val (.ref bv), .val .null, .unset] []))
    refine own_via (fun tq kq => XS.iload X44.here hx rfl (hb hby at_102) rfl kq) ?_
    show Ogo p e below _ (T44.setTop (mkF m 104 #[.val (.long q1), .second, .val (.int p2), .val (.int p3), .val (.int b0), .val (.int b1), .val (.int b2), .val (.int (1 : Int32)), .val (.int (p3 &&& (3 : Int32))), .val (.int (b0.toInt8.toInt32)), .val (.int (b1.toInt8.toInt32)), .val (.int (b2.toInt8.toInt32)), .val .null, .val (.ref bv), .val .null, .unset] [(.int (1 : Int32))]))
    refine own_via (fun tq kq => XS.ifNo X44.here hx rfl (hb hby at_104) rfl ((if0 _ _).trans (feq ((by decide) : ¬ ((1 : Int32) = (0 : Int32)))).1) kq) ?_
    show Ogo p e below _ (T44.setTop (mkF m 107 #[.val (.long q1), .second, .val (.int p2), .val (.int p3), .val (.int b0), .val (.int b1), .val (.int b2), .val (.int (1 : Int32)), .val (.int (p3 &&& (3 : Int32))), .val (.int (b0.toInt8.toInt32)), .val (.int (b1.toInt8.toInt32)), .val (.int (b2.toInt8.toInt32)), .val .null, .val (.ref bv), .val .null, .unset] []))
    refine own_via (fun tq kq => XS.aload X44.here hx rfl (hb hby at_107) rfl rfl kq) ?_
    show Ogo p e below _ (T44.setTop (mkF m 109 #[.val (.long q1), .second, .val (.int p2), .val (.int p3), .val (.int b0), .val (.int b1), .val (.int b2), .val (.int (1 : Int32)), .val (.int (p3 &&& (3 : Int32))), .val (.int (b0.toInt8.toInt32)), .val (.int (b1.toInt8.toInt32)), .val (.int (b2.toInt8.toInt32)), .val .null, .val (.ref bv), .val .null, .unset] [(.ref bv)]))
    refine own_callV X44 hx hZ hown (hw _ (List.mem_of_getElem? (i := 14) rfl)) (hw _ (List.mem_of_getElem? (i := 15) rfl)) (hw _ (List.mem_of_getElem? (i := 17) rfl)) (hw _ (List.mem_of_getElem? (i := 16) rfl)) (hw _ (List.mem_of_getElem? (i := 3) rfl)) (hw _ (List.mem_of_getElem? (i := 18) rfl)) (notFace_of_selects (args := #[]) (mvT hZ (hw _ (List.mem_of_getElem? (i := 17) rfl)))) (by decide) (rm_by0 hw bv T43.heap n0 F_bytes_bv) rfl hk44 E_bv (W := 0) (by decide) (by decide) (by decide) (by decide) (by rw [hml]; rfl) (b := bv) (argsL := []) (rest := []) (lenOf pd_1 rfl) rfl (Nat.le_of_eq rfl) (hb hby at_109) ?_
    rintro _ T45 L45 X45 ⟨rfl, Nq, hk⟩
    have N := N.app Nq
    have hk45 := hk
    show Ogo p e below _ (T45.setTop (mkF m 112 #[.val (.long q1), .second, .val (.int p2), .val (.int p3), .val (.int b0), .val (.int b1), .val (.int b2), .val (.int (1 : Int32)), .val (.int (p3 &&& (3 : Int32))), .val (.int (b0.toInt8.toInt32)), .val (.int (b1.toInt8.toInt32)), .val (.int (b2.toInt8.toInt32)), .val .null, .val (.ref bv), .val .null, .unset] [.null]))
    refine own_via (fun tq kq => XS.astore X45.here hx rfl (hb hby at_112) rfl rfl (l' := #[.val (.long q1), .second, .val (.int p2), .val (.int p3), .val (.int b0), .val (.int b1), .val (.int b2), .val (.int (1 : Int32)), .val (.int (p3 &&& (3 : Int32))), .val (.int (b0.toInt8.toInt32)), .val (.int (b1.toInt8.toInt32)), .val (.int (b2.toInt8.toInt32)), .val .null, .val (.ref bv), .val .null, .val .null]) rfl kq) ?_
    show Ogo p e below _ (T45.setTop (mkF m 114 #[.val (.long q1), .second, .val (.int p2), .val (.int p3), .val (.int b0), .val (.int b1), .val (.int b2), .val (.int (1 : Int32)), .val (.int (p3 &&& (3 : Int32))), .val (.int (b0.toInt8.toInt32)), .val (.int (b1.toInt8.toInt32)), .val (.int (b2.toInt8.toInt32)), .val .null, .val (.ref bv), .val .null, .val .null] []))
    refine own_via (fun tq kq => XS.aload X45.here hx rfl (hb hby at_114) rfl rfl kq) ?_
    show Ogo p e below _ (T45.setTop (mkF m 116 #[.val (.long q1), .second, .val (.int p2), .val (.int p3), .val (.int b0), .val (.int b1), .val (.int b2), .val (.int (1 : Int32)), .val (.int (p3 &&& (3 : Int32))), .val (.int (b0.toInt8.toInt32)), .val (.int (b1.toInt8.toInt32)), .val (.int (b2.toInt8.toInt32)), .val .null, .val (.ref bv), .val .null, .val .null] [.null]))
    refine own_via (fun tq kq => XS.ifnonnullNo X45.here hx rfl (hb hby at_116) rfl kq) ?_
    show Ogo p e below _ (T45.setTop (mkF m 119 #[.val (.long q1), .second, .val (.int p2), .val (.int p3), .val (.int b0), .val (.int b1), .val (.int b2), .val (.int (1 : Int32)), .val (.int (p3 &&& (3 : Int32))), .val (.int (b0.toInt8.toInt32)), .val (.int (b1.toInt8.toInt32)), .val (.int (b2.toInt8.toInt32)), .val .null, .val (.ref bv), .val .null, .val .null] []))
    refine own_via (fun tq kq => XS.aload X45.here hx rfl (hb hby at_119) rfl rfl kq) ?_
    show Ogo p e below _ (T45.setTop (mkF m 121 #[.val (.long q1), .second, .val (.int p2), .val (.int p3), .val (.int b0), .val (.int b1), .val (.int b2), .val (.int (1 : Int32)), .val (.int (p3 &&& (3 : Int32))), .val (.int (b0.toInt8.toInt32)), .val (.int (b1.toInt8.toInt32)), .val (.int (b2.toInt8.toInt32)), .val .null, .val (.ref bv), .val .null, .val .null] [.null]))
    refine own_via (fun tq kq => XS.ifnonnullNo X45.here hx rfl (hb hby at_121) rfl kq) ?_
    show Ogo p e below _ (T45.setTop (mkF m 124 #[.val (.long q1), .second, .val (.int p2), .val (.int p3), .val (.int b0), .val (.int b1), .val (.int b2), .val (.int (1 : Int32)), .val (.int (p3 &&& (3 : Int32))), .val (.int (b0.toInt8.toInt32)), .val (.int (b1.toInt8.toInt32)), .val (.int (b2.toInt8.toInt32)), .val .null, .val (.ref bv), .val .null, .val .null] []))
    refine own_via (fun tq kq => XS.iconst X45.here hx rfl (hb hby at_124) kq) ?_
    show Ogo p e below _ (T45.setTop (mkF m 125 #[.val (.long q1), .second, .val (.int p2), .val (.int p3), .val (.int b0), .val (.int b1), .val (.int b2), .val (.int (1 : Int32)), .val (.int (p3 &&& (3 : Int32))), .val (.int (b0.toInt8.toInt32)), .val (.int (b1.toInt8.toInt32)), .val (.int (b2.toInt8.toInt32)), .val .null, .val (.ref bv), .val .null, .val .null] [(.int (1 : Int32))]))
    refine own_via (fun tq kq => XS.goto X45.here hx rfl (pc0 := 125) (pc' := 129) rfl (hb hby at_125) (by decide) (by decide) kq) ?_
    show Ogo p e below _ (T45.setTop (mkF m 129 #[.val (.long q1), .second, .val (.int p2), .val (.int p3), .val (.int b0), .val (.int b1), .val (.int b2), .val (.int (1 : Int32)), .val (.int (p3 &&& (3 : Int32))), .val (.int (b0.toInt8.toInt32)), .val (.int (b1.toInt8.toInt32)), .val (.int (b2.toInt8.toInt32)), .val .null, .val (.ref bv), .val .null, .val .null] [(.int (1 : Int32))]))
    exact own_out X45 hlk (fun h => by rw [hret] at h; cases h) (by decide) (by decide) (by first | exact ⟨rfl, N⟩ | (rw [hk45]; exact ⟨rfl, N⟩)) (fun fs hr => retN X45 hx (t := .boolean) hret (by simp) (hb hby at_129) hr)
set_option maxRecDepth 65536 in
set_option maxHeartbeats 40000000 in
theorem own_comes {Post : Tables → Env → Array Value → State → Outcome → State → Prop} (hpost : ∀ tb e args s v u, (limb_1_1.after args s (.returned v) u = true ∧ limb_1_2.after args s (.returned v) u = true ∧ True) → FrameEnd s (.returned v) u (Jvm.fieldLocs frame_1_writes args s ++ Jvm.arrayLocs frame_1_arrays args s ++ Jvm.staticLocs frame_1_statics s) 16 128 → Post tb e args s (.returned v) u) :
    ArmFor flags0 classFile x code maxLocals ret World_1 tables_1 room_1 Calls_1 rest_1 Pre_1 Post := by
  intro l hfl _ _ p e ha hc hk s m args below hf hA hF happ hP
  obtain ⟨hcalls, hrest, hpre⟩ := hP
  obtain ⟨-, -, -, hnamed, -, -, -, hat⟩ := (Spec.applies_iff hf).mp happ
  obtain ⟨hg, hn⟩ := and_e (Cond.before_iff.mp (show (Jvm.Cond.and given_1 narrow_1).before args s = true from hpre))
  obtain ⟨q0, r0⟩ := and_e hg
  obtain ⟨q1, r1⟩ := and_e r0
  obtain ⟨q2, r2⟩ := and_e r1
  obtain ⟨q3, r3⟩ := and_e r2
  obtain ⟨q4, r4⟩ := and_e r3
  obtain ⟨q5, r5⟩ := and_e r4
  obtain ⟨w0, w1, w2, w3, w4, w5, rfl⟩ : ∃ w0 w1 w2 w3 w4 w5 : Value, args = #[w0, w1, w2, w3, w4, w5] := by
    have hs : args.size = 6 := by simpa [Cond.value, given_1] using q0
    obtain ⟨L⟩ := args
    match L, hs with
    | [w0, w1, w2, w3, w4, w5], _ => exact ⟨w0, w1, w2, w3, w4, w5, rfl⟩
  have hw := fun d (hd : d ∈ tables_1) => atoms_spec (ws := Jvm.Cond.code x code maxLocals ret :: tables_1) hat d (List.mem_cons_of_mem _ hd)
  have hfit : Fit s := fun {y c} hc i hi => by
    obtain ⟨ha, rfl⟩ := Array.getElem?_eq_some_iff.mp hc
    have q := List.all_eq_true.mp ((Array.all_eq_true_iff_forall_mem.mp hF) _ (Array.getElem_mem ha)) i (List.mem_range.mpr hi)
    simpa [Array.getElem?_eq_getElem hi] using q
  obtain ⟨i0, ei0⟩ := isL_v q1
  obtain rfl : w0 = (.long i0) := Option.some.inj ei0
  obtain ⟨i1, ei1⟩ := is_v q2
  obtain rfl : w1 = (.int i1) := Option.some.inj ei1
  obtain ⟨i2, ei2⟩ := is_v q3
  obtain rfl : w2 = (.int i2) := Option.some.inj ei2
  obtain ⟨i3, ei3⟩ := is_v q4
  obtain rfl : w3 = (.int i3) := Option.some.inj ei3
  obtain ⟨i4, ei4⟩ := is_v q5
  obtain rfl : w4 = (.int i4) := Option.some.inj ei4
  obtain ⟨i5, ei5⟩ := is_v r5
  obtain rfl : w5 = (.int i5) := Option.some.inj ei5
  obtain ⟨n, o, h1, h2, h3, _, L, rfl, ⟨rfl, N⟩, hq⟩ := rm_law hw i0 i1 i2 i3 i4 i5 s.heap s.heap.size (Nat.le_refl _) p e ha hc hk s m _ below hf ((Spec.applies_iff_loose hf).mp happ).1 ⟨rfl, State.Warmed39.refl s, rfl⟩ trivial
  refine ⟨n, _, h1, h2, h3, hpost _ _ _ _ _ _ ⟨Cond.after_iff.mpr rfl, Cond.after_iff.mpr (eq_i res_at (Term.int_eval (1)) rfl), trivial⟩ ⟨hq.1, hq.2.1, (hq.2.2.sift fun y hy => Or.inr (N y hy)).mono (by decide) (by decide)⟩⟩
theorem main_1_1 : Claimed_1_1 := own_comes fun _ _ _ _ _ _ h hF => ⟨h.1, hF⟩
theorem main_1_2 : Claimed_1_2 := own_comes fun _ _ _ _ _ _ h hF => ⟨h.2.1, hF⟩
end Jvm.Pilot.@@N@@
namespace Jvm.Pilot.@@N@@
open Jvm Jvm.ClassFile Sem Op Lib Jvm.Free Jvm.Stand Jvm.Pilot.@@N@@.Jvm.D
/-! MADE BY PROGRAM (witnessworld.py) out of the Statement's table words and the real class files: 9 classes; the members and pool entries that the words name. The judged class is class 1, her method 2. -/
namespace start1
open Jvm.ClassFile
def u (s : String) : CpInfo := .utf8 (stringToUtf16 s)
/-- a pool by its gaps: so many unusable entries, then the entry; so many at the end -/
def gap : Nat → List CpInfo → List CpInfo
  | 0, r => r
  | n + 1, r => .unusable :: gap n r
def poolList (es : List (Nat × CpInfo)) (last : Nat) : List CpInfo := es.foldr (fun e r => gap e.1 (e.2 :: r)) (gap last [])
def pool (es : List (Nat × CpInfo)) (last : Nat) : Array CpInfo := ⟨poolList es last⟩
def fileOf (pool : Array CpInfo) (this : Nat) (attrs : Array Attribute := #[]) (ms : Array MethodInfo := #[]) (fl : Nat := 33) (sup : Nat := 0) (ifs : Array Nat := #[]) (fds : Array FieldInfo := #[]) : ClassFile where
  minorVersion := 0
  majorVersion := 65
  constantPool := pool
  accessFlags := fl
  thisClass := this
  superClass := sup
  interfaces := ifs
  fields := fds
  methods := ms
  attributes := attrs
def plain (name : String) (sup : Option ClassId) : Class where
  name := name
  kind := .ordinary
  loader := none
  accessFlags := 33
  super := sup
  interfaces := #[]
  cf := none
  fields := #[]
  methods := #[]
  instanceTypes := #[]
  staticTypes := #[]
  resolved := #[]
  callSites := []
  init := .initialized
  statics := none
  mirror := none

def pool0 : Array CpInfo := pool [(5, u "<init>"), (0, u "()V"), (1, .class_ 10), (1, u "java/lang/Object"), (85, u "clone"), (0, u "()Ljava/lang/Object;")] 26

def k0c0 : Code := { maxStack := 0, maxLocals := 1, code := object_method_1_code, exceptionTable := #[], attributes := #[] }
def k0m0 : Method := { name := "<init>", desc := "()V", sig := { parameters := [], returnType := none }, accessFlags := 1, code := some k0c0 }
def k0m1 : Method := { name := "clone", desc := "()Ljava/lang/Object;", sig := { parameters := [], returnType := some (.object "java/lang/Object") }, accessFlags := 260, code := none }
/-- java/lang/Object -/
def k0 : Class := { plain "java/lang/Object" none with
  accessFlags := 33
  interfaces := #[]
  cf := some (fileOf pool0 8 #[] #[{ accessFlags := 1, nameIndex := 5, descriptorIndex := 6, attributes := #[] }, { accessFlags := 260, nameIndex := 96, descriptorIndex := 97, attributes := #[] }] 33 0 #[] #[])
  fields := #[]
  methods := #[k0m0, k0m1]
  instanceTypes := #[]
  staticTypes := #[]
  resolved := Array.replicate 124 none
  statics := none }

def pool1 : Array CpInfo := pool [(2, .class_ 4), (1, u "java/lang/Object"), (0, u "<init>"), (0, u "()V"), (0, .class_ 8), (0, u "com/example/keep_posted/keepposted/client/Value"), (0, .methodref 7 10), (0, .nameAndType 5 11), (0, u "(J[B)V"), (0, .methodref 7 13), (0, .nameAndType 14 15), (0, u "bytes"), (0, u "()[B"), (0, .methodref 17 18), (0, .class_ 19), (0, .nameAndType 20 21), (0, u "com/example/keep_posted/keepposted/client/ValueBytesPinLaw"), (0, u "same"), (0, u "([BIBBB)Z"), (3, u "law"), (0, u "(JIIIII)Z")] 4

def k1m0 : Method := { name := "<init>", desc := "()V", sig := { parameters := [], returnType := none }, accessFlags := 1, code := none }
def k1c1 : Code := { maxStack := 2, maxLocals := 5, code := method_2_code, exceptionTable := #[], attributes := #[] }
def k1m1 : Method := { name := "same", desc := "([BIBBB)Z", sig := { parameters := [(.array .byte), .int, .byte, .byte, .byte], returnType := some .boolean }, accessFlags := 10, code := some k1c1 }
def k1c2 : Code := { maxStack := 5, maxLocals := 16, code := code, exceptionTable := #[], attributes := #[] }
def k1m2 : Method := { name := "law", desc := "(JIIIII)Z", sig := { parameters := [.long, .int, .int, .int, .int, .int], returnType := some .boolean }, accessFlags := 9, code := some k1c2 }
/-- com/example/keep_posted/keepposted/client/ValueBytesPinLaw -/
def k1 : Class := { plain "com/example/keep_posted/keepposted/client/ValueBytesPinLaw" (some 0) with
  accessFlags := 49
  interfaces := #[]
  cf := some (fileOf pool1 17 #[] #[{ accessFlags := 1, nameIndex := 5, descriptorIndex := 6, attributes := #[] }, { accessFlags := 10, nameIndex := 20, descriptorIndex := 21, attributes := #[] }, { accessFlags := 9, nameIndex := 25, descriptorIndex := 26, attributes := #[] }] 49 2 #[] #[])
  fields := #[]
  methods := #[k1m0, k1m1, k1m2]
  instanceTypes := #[]
  staticTypes := #[]
  resolved := Array.replicate 31 none
  statics := none }

def pool2 : Array CpInfo := pool [(1, .methodref 2 3), (0, .class_ 4), (0, .nameAndType 5 6), (0, u "java/lang/Object"), (0, u "<init>"), (0, u "()V"), (0, .fieldref 8 9), (0, .class_ 10), (0, .nameAndType 11 12), (0, u "com/example/keep_posted/keepposted/client/Value"), (0, u "revision"), (0, u "J"), (0, .fieldref 8 14), (0, .nameAndType 15 16), (0, u "bytes"), (0, u "[B"), (0, .methodref 18 19), (0, .class_ 16), (0, .nameAndType 20 21), (0, u "clone"), (0, u "()Ljava/lang/Object;"), (10, u "(J[B)V"), (4, u "()[B")] 21

def k2c0 : Code := { maxStack := 3, maxLocals := 4, code := prog_10_method_1_code, exceptionTable := #[], attributes := #[] }
def k2m0 : Method := { name := "<init>", desc := "(J[B)V", sig := { parameters := [.long, (.array .byte)], returnType := none }, accessFlags := 0, code := some k2c0 }
def k2c1 : Code := { maxStack := 1, maxLocals := 1, code := prog_10_method_4_code, exceptionTable := #[], attributes := #[] }
def k2m1 : Method := { name := "bytes", desc := "()[B", sig := { parameters := [], returnType := some (.array .byte) }, accessFlags := 1, code := some k2c1 }
/-- com/example/keep_posted/keepposted/client/Value -/
def k2 : Class := { plain "com/example/keep_posted/keepposted/client/Value" (some 0) with
  accessFlags := 49
  interfaces := #[]
  cf := some (fileOf pool2 8 #[] #[{ accessFlags := 0, nameIndex := 5, descriptorIndex := 32, attributes := #[] }, { accessFlags := 1, nameIndex := 15, descriptorIndex := 37, attributes := #[] }] 49 2 #[] #[{ accessFlags := 18, nameIndex := 11, descriptorIndex := 12, attributes := #[] }, { accessFlags := 18, nameIndex := 15, descriptorIndex := 16, attributes := #[] }])
  fields := #[{ name := "revision", type := .long, accessFlags := 18, slot := 0, constantValue := 0 }, { name := "bytes", type := (.array .byte), accessFlags := 18, slot := 1, constantValue := 0 }]
  methods := #[k2m0, k2m1]
  instanceTypes := #[.long, (.array .byte)]
  staticTypes := #[]
  resolved := Array.replicate 59 none
  statics := none }

def pool3 : Array CpInfo := pool [(1, .class_ 2), (0, u "java/lang/Cloneable"), (0, .class_ 4), (0, u "java/lang/Object")] 2

/-- java/lang/Cloneable -/
def k3 : Class := { plain "java/lang/Cloneable" (some 0) with
  accessFlags := 1537
  interfaces := #[]
  cf := some (fileOf pool3 1 #[] #[] 1537 3 #[] #[])
  fields := #[]
  methods := #[]
  instanceTypes := #[]
  staticTypes := #[]
  resolved := Array.replicate 7 none
  statics := none }

def pool4 : Array CpInfo := pool [(1, u "java/io/Serializable"), (0, .class_ 1), (0, u "java/lang/Object"), (0, .class_ 3)] 3

/-- java/io/Serializable -/
def k4 : Class := { plain "java/io/Serializable" (some 0) with
  accessFlags := 1537
  interfaces := #[]
  cf := some (fileOf pool4 2 #[] #[] 1537 4 #[] #[])
  fields := #[]
  methods := #[]
  instanceTypes := #[]
  staticTypes := #[]
  resolved := Array.replicate 8 none
  statics := none }

/-- the primitive byte -/
def k5 : Class := { plain "byte" none with kind := .primitive 'B', accessFlags := 0x411 }
/-- [B -/
def k6 : Class := { plain "[B" (some 0) with kind := .array 5 .byte, interfaces := #[3, 4], accessFlags := 1041 }

/-- the primitive int -/
def k7 : Class := { plain "int" none with kind := .primitive 'I', accessFlags := 0x411 }
/-- [I -/
def k8 : Class := { plain "[I" (some 0) with kind := .array 7 .int, interfaces := #[3, 4], accessFlags := 1041 }

def heap : Heap := #[]
def classes : Array Class := #[k0, k1, k2, k3, k4, k5, k6, k7, k8]
def interned : List (Array UInt16 × Addr) := []
def slotsUsed : Nat := 0
def theMethod : MethodId := ⟨1, 2⟩
def args0 : Array Value := #[.long 3, .int 0, .int 2, .int 1, .int 2, .int 3]
def aboutOver (below : List Frame) : State where
  vm := { classes := classes, interned := interned.toArray }
  heap := heap
  slotsUsed := slotsUsed
  threads := #[{ frames := .invoking theMethod args0 :: below }]
def below0 : List Frame := [.native { method := ⟨0, 0⟩, args := #[] }]
def about1 : State := aboutOver below0
def p0 : Program := .bare "" "" ""
def e0 : Env := launch0.env 0 0 0
theorem w_frames : about1.frames = Frame.invoking theMethod args0 :: below0 := rfl
set_option maxRecDepth 65536 in
theorem w_args : argsFit about1.vm theMethod args0 = true := by decide +kernel
set_option maxRecDepth 65536 in
theorem w_heap : heapFits about1 = true := by decide +kernel
set_option maxRecDepth 65536 in
theorem w_runnable : about1.curStatus? = some .runnable := by decide +kernel
set_option maxRecDepth 65536 in
theorem w_alone : about1.alone = true := by decide +kernel
set_option maxRecDepth 65536 in
theorem w_named : about1.methodNamed? x = some theMethod := by decide +kernel
set_option maxRecDepth 65536 in
theorem w_hears : about1.hears theMethod below0 = true := by decide +kernel
set_option maxRecDepth 65536 in
theorem w_ripe : about1.ripe theMethod args0 below0 = true := by decide +kernel
theorem w_running : about1.status = .running := rfl
set_option maxRecDepth 65536 in
theorem w_room : about1.hasRoom e0.platform room_1 = true :=
  launch0.hasRoom_least _ room_1 (by decide +kernel) (by decide +kernel) (by decide +kernel) (by decide +kernel) (by decide +kernel) (by decide +kernel)
theorem allAtoms_all (ts : List Jvm.Cond) (a : Array Jvm.Value) (st : Jvm.State) : (allAtoms ts).before a st = ts.all (fun c => c.before a st) := by
  induction ts with
  | nil => rfl
  | cons c t ih =>
    show (Jvm.Cond.and c (allAtoms t)).before a st = _
    rw [Jvm.Cond.before_and, ih, List.all_cons]
def words1 : List Jvm.Cond := Jvm.Cond.code x code maxLocals ret :: tables_1
/-- a 'code' word, met by the world's own term for the bytes: nothing is compared byte by byte -/
theorem code_word {y : MethodName} {bytes : ByteArray} {mx : Nat} {rt : Option FieldType} {a : Array Value} {s : State} {m : MethodId} {meth : Method} {c : Code} (h1 : s.methodNamed? y = some m) (h2 : s.vm.method? m = some meth) (h3 : meth.code = some c) (h4 : c.code = bytes)
    (h5 : (c.maxLocals == mx && c.exceptionTable.isEmpty && decide (c.maxStack ≤ mostOperands) && decide (meth.sig.returnType = rt) && !meth.locks && decide (parseMethodDescriptor y.desc = some meth.sig)) = true) : (Jvm.Cond.code y bytes mx rt).before a s = true := by
  simp only [Bool.and_eq_true, beq_iff_eq, Bool.not_eq_true', decide_eq_true_eq] at h5
  obtain ⟨⟨⟨⟨⟨g1, g2⟩, g3⟩, g4⟩, g5⟩, g6⟩ := h5
  simp [Cond.before, Cond.holds, Cond.value, h1, h2, h3, h4, g1, g2, g3, g4, g5, g6]
def isCode : Jvm.Cond → Bool
  | .code _ _ _ _ => true
  | _ => false
theorem all_split {L : List Jvm.Cond} {P : Jvm.Cond → Bool} (h1 : L.all (fun c => isCode c || P c) = true) (h2 : ∀ c ∈ L.filter isCode, P c = true) : L.all P = true := by
  refine List.all_eq_true.mpr fun c hc => ?_
  have h := List.all_eq_true.mp h1 c hc
  rcases Bool.eq_false_or_eq_true (isCode c) with hi | hi
  · exact h2 c (List.mem_filter.mpr ⟨hc, hi⟩)
  · simpa [hi] using h
set_option maxRecDepth 65536 in
theorem w_c0 : (Jvm.Cond.code x code maxLocals ret).before args0 about1 = true := code_word (m := ⟨1, 2⟩) (meth := k1m2) (c := k1c2) (by decide +kernel) rfl rfl rfl (by decide +kernel)
set_option maxRecDepth 65536 in
theorem w_c1 : (Jvm.Cond.code ({ cls := "com/example/keep_posted/keepposted/client/Value", name := "<init>", desc := "(J[B)V" } : Jvm.MethodName) prog_10_method_1_code (4 : Nat) (Option.none : Option Jvm.ClassFile.FieldType)).before args0 about1 = true := code_word (m := ⟨2, 0⟩) (meth := k2m0) (c := k2c0) (by decide +kernel) rfl rfl rfl (by decide +kernel)
set_option maxRecDepth 65536 in
theorem w_c2 : (Jvm.Cond.code ({ cls := "java/lang/Object", name := "<init>", desc := "()V" } : Jvm.MethodName) object_method_1_code (1 : Nat) (Option.none : Option Jvm.ClassFile.FieldType)).before args0 about1 = true := code_word (m := ⟨0, 0⟩) (meth := k0m0) (c := k0c0) (by decide +kernel) rfl rfl rfl (by decide +kernel)
set_option maxRecDepth 65536 in
theorem w_c3 : (Jvm.Cond.code ({ cls := "com/example/keep_posted/keepposted/client/Value", name := "bytes", desc := "()[B" } : Jvm.MethodName) prog_10_method_4_code (1 : Nat) (Option.some (Jvm.ClassFile.FieldType.array Jvm.ClassFile.FieldType.byte))).before args0 about1 = true := code_word (m := ⟨2, 1⟩) (meth := k2m1) (c := k2c1) (by decide +kernel) rfl rfl rfl (by decide +kernel)
set_option maxRecDepth 65536 in
theorem w_c4 : (Jvm.Cond.code ({ cls := "com/example/keep_posted/keepposted/client/ValueBytesPinLaw", name := "same", desc := "([BIBBB)Z" } : Jvm.MethodName) method_2_code (5 : Nat) (Option.some Jvm.ClassFile.FieldType.boolean)).before args0 about1 = true := code_word (m := ⟨1, 1⟩) (meth := k1m1) (c := k1c1) (by decide +kernel) rfl rfl rfl (by decide +kernel)
def codes1 : List Jvm.Cond := [Jvm.Cond.code x code maxLocals ret, Jvm.Cond.code ({ cls := "com/example/keep_posted/keepposted/client/Value", name := "<init>", desc := "(J[B)V" } : Jvm.MethodName) prog_10_method_1_code (4 : Nat) (Option.none : Option Jvm.ClassFile.FieldType), Jvm.Cond.code ({ cls := "java/lang/Object", name := "<init>", desc := "()V" } : Jvm.MethodName) object_method_1_code (1 : Nat) (Option.none : Option Jvm.ClassFile.FieldType), Jvm.Cond.code ({ cls := "com/example/keep_posted/keepposted/client/Value", name := "bytes", desc := "()[B" } : Jvm.MethodName) prog_10_method_4_code (1 : Nat) (Option.some (Jvm.ClassFile.FieldType.array Jvm.ClassFile.FieldType.byte)), Jvm.Cond.code ({ cls := "com/example/keep_posted/keepposted/client/ValueBytesPinLaw", name := "same", desc := "([BIBBB)Z" } : Jvm.MethodName) method_2_code (5 : Nat) (Option.some Jvm.ClassFile.FieldType.boolean)]
set_option maxRecDepth 65536 in
theorem codes_eq : words1.filter isCode = codes1 := rfl
theorem w_codes : ∀ c ∈ words1.filter isCode, c.before args0 about1 = true := by
  rw [codes_eq]
  intro c hc
  simp only [codes1, List.mem_cons, List.not_mem_nil, or_false] at hc
  rcases hc with rfl | rfl | rfl | rfl | rfl
  · exact w_c0
  · exact w_c1
  · exact w_c2
  · exact w_c3
  · exact w_c4
set_option maxRecDepth 65536 in
theorem w_t1 : (words1.take 24).all (fun c => isCode c || c.before args0 about1) = true := by decide +kernel
set_option maxRecDepth 65536 in
theorem w_t2 : (words1.drop 24).all (fun c => isCode c || c.before args0 about1) = true := by decide +kernel
theorem w_tables : (allAtoms (Jvm.Cond.code x code maxLocals ret :: tables_1)).before args0 about1 = true := by
  rw [allAtoms_all]
  show words1.all (fun c => c.before args0 about1) = true
  refine all_split ?_ w_codes
  rw [← List.take_append_drop 24 words1, List.all_append, w_t1, w_t2]
  rfl
set_option maxRecDepth 65536 in
theorem w_case : (Jvm.Cond.and given_1 narrow_1).before args0 about1 = true := by decide +kernel
theorem w_applies : (headSpec (Jvm.Cond.code x code maxLocals ret :: tables_1) room_1).applies x e0.platform about1 = true :=
  (Spec.applies_iff w_frames).mpr ⟨w_running, w_runnable, w_alone, w_named, w_hears, w_ripe, w_room, w_tables⟩
theorem atStart : AtStart classFile x code maxLocals ret World_1 tables_1 room_1 Calls_1 rest_1 Pre_1 launch0 p0 e0 about1 theMethod args0 below0 :=
  ⟨lists_1, trivial, launch0.admits_env _ _ _, launch0.least_env, fairChoices_fair.cas, fairChoices_fair.clock, w_frames, w_args, w_heap, w_applies, trivial, trivial, w_case⟩
end start1
theorem witness_1 : WitnessClaimed_1 := ⟨start1.p0, start1.e0, start1.about1, start1.theMethod, start1.args0, start1.below0, start1.atStart⟩
end Jvm.Pilot.@@N@@
