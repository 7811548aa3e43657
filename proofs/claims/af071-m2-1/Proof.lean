import JvmDerived
import JvmDerived.Pilot.@@N@@Statement
import JvmDerived.Pilot.@@N@@Code
set_option linter.unusedVariables false
set_option linter.unusedSimpArgs false
namespace Jvm.RoadKit
open Sem ClassFile Op Lib Jvm.Stand Jvm.Free Jvm.LawKit
section New
variable {p : Program} {l : Launch} {e : Env} {R : Room} {s : State} {m : MethodId} {args : Array Value} {below : List Frame} {meth : Method} {c : Code} {T : State} {locs : List Loc} {cells slots : Nat}
theorem retI (X : Stand p l e R s m args below meth c T locs cells slots) (hx : p.tables.exec = Jvm.exec) {pc : Nat} {Ls : Array Slot} {z : Int32} {rest : List Value} (hret : meth.sig.returnType = some .int) (hd : decode c.code pc = .ok (.ireturn, 1)) {fs : List Frame}
    (hl : ∀ (f : JFrame) (acts : List Action), f.method = m → f.locked = none → f.entered = [] → (doReturn e (T.setTop f) acts (some (.int z))).1 = T.setFrames fs) : Steps p.tables e below (T.setTop (mkF m pc Ls (.int z :: rest))) (T.setFrames fs) := by
  have hm' : T.vm.method? m = some meth := X.method'
  have hn : narrow .int (.int z) = .int z := rfl
  show Steps p.tables e below (T.setTop { method := m, pc := pc, locals := Ls, stack := _ :: rest, locked := none }) _
  jvm_step X.here [X.here.top, hx, hd, hm', hret, hn]
  first | (intro acts; rw [hl _ acts rfl rfl rfl]) | rw [hl _ _ rfl rfl rfl]
  exact Steps.refl _
end New
end Jvm.RoadKit
namespace Jvm.Pilot.@@N@@
open Jvm Jvm.ClassFile Sem Op Lib Jvm.Free Jvm.Stand Jvm.LawKit Jvm.RoadKit Bundle Jvm.Pilot.@@N@@.Jvm.D
/-! ## The walk in continuation-passing form: what is left to run returns, and Q says of what it returns, of the heap and of the places written -/
def Ogo (p : Program) (e : Env) (below : List Frame) (P : Outcome → State → Prop) (A : State) : Prop :=
  ∃ s₂ o, Steps p.tables e below A s₂ ∧ s₂.status = .running ∧ Ended s₂ below o ∧ P o s₂
/-- it returned v, Q says of v, of the heap and of the places written; nothing else was done since s -/
def Onar (s : State) (R : Room) (Q : Option Value → Heap → List Loc → Prop) (o : Outcome) (t : State) : Prop := ∃ v L, o = .returned v ∧ Q v t.heap L ∧ FrameEnd s o t L R.cells R.slots
abbrev Opays (l : Launch) (y : MethodName) (bytes : ByteArray) (maxL : Nat) (rt : Option FieldType) (rm : Room) (ws : List Jvm.Cond) (Z : State) (h0 : Heap) (as : Array Value) (Q : Option Value → Heap → List Loc → Prop) : Prop :=
  MetFree l y (head1 (Jvm.Cond.code y bytes maxL rt :: ws) rm) (fun a U => a = as ∧ Z.Warmed39 U.vm ∧ U.heap = h0) (fun _ _ _ _ _ => True) (fun _ U o U' => ∃ v L, o = .returned v ∧ Q v U'.heap L ∧ FrameEnd U o U' L rm.cells rm.slots)
section Own
variable {p : Program} {l : Launch} {e : Env} {R : Room} {s : State} {m : MethodId} {args : Array Value} {below : List Frame} {meth : Method} {c : Code} {T : State} {locs : List Loc} {cells slots : Nat} {Z : State} {a0 : Array Value} {h : Heap} {Q : Option Value → Heap → List Loc → Prop} {A B : State} {P : Outcome → State → Prop}
theorem own_via (st : ∀ t, Steps p.tables e below B t → Steps p.tables e below A t) (k : Ogo p e below P B) : Ogo p e below P A := by
  obtain ⟨s₂, o, h1, h2⟩ := k
  exact ⟨s₂, o, st _ h1, h2⟩
theorem own_enter {y : MethodName} {bytes : ByteArray} {maxL : Nat} {rt : Option FieldType} {rm : Room} {ws : List Jvm.Cond} {h0 : Heap} {as : Array Value} (hp : plainFor y = true)
    (body : ∀ p e s m below meth c s₁, p.tables.exec = Jvm.exec → c.code = bytes → c.maxLocals = maxL → s.vm.findClass y.cls = some m.cls → meth.name = y.name → meth.sig.returnType = rt → meth.locks = false → Z.Warmed39 s.vm → s₁.heap = h0 →
      Stand p l e rm s m as below meth c s₁ [] 0 0 → Ogo p e below (Onar s rm Q) (s₁.setTop (entryFrame m as maxL))) : Opays l y bytes maxL rt rm ws Z h0 as Q := by
  refine MetFree.of_bodySF hp hisR ?_
  intro p e s m args below meth c s₁ Bd hml0 hP hK
  obtain ⟨rfl, hZ, hh⟩ := hP
  have X0 : Stand p l e rm s m args below meth c s₁ [] 0 0 := Stand.of_body Bd
  have e0 : s₁.heap = h0 := by rw [← hh, Bd.state]; rfl
  exact body p e s m below meth c s₁ Bd.exec Bd.bytes hml0 (findClass_of_methodNamed Bd.named) (name_of_methodNamed Bd.named Bd.method).1 Bd.returns Bd.notSynchronized hZ e0 X0
theorem own_out (X : Stand p l e R s m args below meth c T locs cells slots) (hlk : meth.locks = false) {v : Option Value} (hv : meth.sig.returnType = none → v = none) (hc : cells ≤ R.cells) (hs : slots ≤ R.slots) (hQ : Q v T.heap locs)
    (k : ∀ fs, (∀ (f : JFrame) (acts : List Action), f.method = m → f.locked = none → f.entered = [] → (doReturn e (T.setTop f) acts v).1 = T.setFrames fs) → Steps p.tables e below A (T.setFrames fs)) : Ogo p e below (Onar s R Q) A := by
  obtain ⟨fs, hr, hrun, hended, hW, hsame⟩ := X.leave (v := v) hv hlk
  exact ⟨_, _, k fs hr, hrun, hended, _, _, rfl, hQ, ⟨_, rfl⟩, hW, hsame.mono hc hs⟩
theorem own_retL (X : Stand p l e R s m args below meth c T locs cells slots) (hx : p.tables.exec = Jvm.exec) {pc : Nat} {Ls : Array Slot} {z : Int64} {rest : List Value} (hret : meth.sig.returnType = some .long) (hd : decode c.code pc = .ok (.lreturn, 1)) {fs : List Frame}
    (hl : ∀ (f : JFrame) (acts : List Action), f.method = m → f.locked = none → f.entered = [] → (doReturn e (T.setTop f) acts (some (.long z))).1 = T.setFrames fs) : Steps p.tables e below (T.setTop (mkF m pc Ls (.long z :: rest))) (T.setFrames fs) :=
  retOut X hx hret rfl (Or.inr (Or.inl ⟨rfl, rfl, _, rfl⟩)) hd hl
theorem own_retD (X : Stand p l e R s m args below meth c T locs cells slots) (hx : p.tables.exec = Jvm.exec) {pc : Nat} {Ls : Array Slot} {z : UInt64} {rest : List Value} (hret : meth.sig.returnType = some .double) (hd : decode c.code pc = .ok (.dreturn, 1)) {fs : List Frame}
    (hl : ∀ (f : JFrame) (acts : List Action), f.method = m → f.locked = none → f.entered = [] → (doReturn e (T.setTop f) acts (some (.double z))).1 = T.setFrames fs) : Steps p.tables e below (T.setTop (mkF m pc Ls (.double z :: rest))) (T.setFrames fs) :=
  retOut X hx hret rfl (Or.inr (Or.inr (Or.inl ⟨rfl, rfl, _, rfl⟩))) hd hl
theorem own_retA (X : Stand p l e R s m args below meth c T locs cells slots) (hx : p.tables.exec = Jvm.exec) {pc : Nat} {Ls : Array Slot} {w : Value} {t : FieldType} {rest : List Value} (hret : meth.sig.returnType = some t) (ht : t.isReference = true) (hv : w.isRef = true) (hd : decode c.code pc = .ok (.areturn, 1)) {fs : List Frame}
    (hl : ∀ (f : JFrame) (acts : List Action), f.method = m → f.locked = none → f.entered = [] → (doReturn e (T.setTop f) acts (some w)).1 = T.setFrames fs) : Steps p.tables e below (T.setTop (mkF m pc Ls (w :: rest))) (T.setFrames fs) :=
  retOut X hx hret (by cases t <;> first | rfl | cases ht) (Or.inr (Or.inr (Or.inr (Or.inr ⟨rfl, ht, hv⟩)))) hd hl
theorem own_lrem {g : JFrame} {target : State} (X : Stand p l e R s m args below meth c T locs cells slots) (hx : p.tables.exec = Jvm.exec) (hg : g.method = m) {x y : Int64} {rest : List Value} (hd : decode c.code g.pc = .ok (.lrem, 1)) (hs : g.stack = .long y :: .long x :: rest) (hy : y ≠ 0)
    (hr : Steps p.tables e below (T.setTop { g with pc := g.pc + 1, stack := .long (x % y) :: rest }) target) : Steps p.tables e below (T.setTop g) target :=
  XS.lrem X.here hx hg hd hs hy (by rw [lrem_mod]; exact hr)
/-! calls: the callee's contract pays -/
theorem own_callS (X : Stand p l e R s m args below meth c T locs cells slots) (hx : p.tables.exec = Jvm.exec) (hZ : Z.Warmed39 s.vm) {own : String} {index : Nat} {y : MethodName} {bytes : ByteArray} {maxL : Nat} {rt : Option FieldType}
    (hown : s.vm.findClass own = some m.cls) (wl : (Jvm.Cond.methodLink own index y).before a0 Z = true) (wst : (Jvm.Cond.static y).before a0 Z = true) (wi : (Jvm.Cond.initialized y.cls).before a0 Z = true) (wc : (Jvm.Cond.code y bytes maxL rt).before a0 Z = true)
    (hy : y.cls ≠ "java/lang/invoke/MethodHandle" ∧ y.cls ≠ "java/lang/invoke/VarHandle") {rm : Room} {as : Array Value} {Qc : Option Value → Heap → List Loc → Prop} (hM : Opays l y bytes maxL rt rm [] Z h as Qc) {argsL rest : List Value} (ha : argsL.toArray = as) (eT : T.heap = h) {W : Nat} (hf : rm.frames + 1 ≤ R.frames) (hl : W + (maxL + 11) + rm.locals ≤ R.locals) (hc : cells + rm.cells ≤ R.cells) (hs : slots + rm.slots ≤ R.slots)
    {pc : Nat} {Ls : Array Slot} {st : List Value} (hsize : Ls.size = c.maxLocals) (hlen : ∀ sig, parseMethodDescriptor y.desc = some sig → argsL.length = sig.parameters.length) (hst : st = argsL.reverse ++ rest) (hW : (rest.map fun v => v.category).sum ≤ W) (hd : decode c.code pc = .ok (.invokestatic index, 3))
    (k : ∀ v T' L, Stand p l e R s m args below meth c T' (locs ++ L) (cells + rm.cells) (slots + rm.slots) → Qc v T'.heap L → Ogo p e below P (T'.setTop (mkF m (pc + 3) Ls (v.toList ++ rest)))) : Ogo p e below P (T.setTop (mkF m pc Ls st)) := by
  obtain ⟨v, _, ⟨T', L', k', n'⟩, -, X', ⟨Lc, hQ, l1, y1, z1⟩, step⟩ := Jvm.LawKit.callS X hx (y := y) hown (mvT hZ wl) (mvT hZ wst) (mvT hZ wi) (mvT hZ wc) hy (backOf (W := W) hM hZ wc wi hf hl) (g := mkF m pc Ls st) rfl hsize (argsL := argsL) (rest := rest) hlen hst (by show 2 * 0 + _ ≤ _; omega) hd (fun _ _ => ⟨ha, eT, hc, hs⟩)
  dsimp only [Pt.U, Pt.locs, Pt.cells, Pt.slots] at X' l1 y1 z1 step hQ
  subst l1 y1 z1
  exact own_via step (k v T' Lc X' hQ)
theorem own_callI (X : Stand p l e R s m args below meth c T locs cells slots) (hx : p.tables.exec = Jvm.exec) (hZ : Z.Warmed39 s.vm) {own : String} {index : Nat} {y : MethodName} {bytes : ByteArray} {maxL : Nat} (hy1 : y.name = "<init>")
    (hown : s.vm.findClass own = some m.cls) (wl : (Jvm.Cond.methodLink own index y).before a0 Z = true) (wst : (Jvm.Cond.instanceMethod y).before a0 Z = true) (wi : (Jvm.Cond.initialized y.cls).before a0 Z = true) (wc : (Jvm.Cond.code y bytes maxL none).before a0 Z = true)
    (hy : y.cls ≠ "java/lang/invoke/MethodHandle" ∧ y.cls ≠ "java/lang/invoke/VarHandle") {rm : Room} {as : Array Value} {Qc : Option Value → Heap → List Loc → Prop} (hM : Opays l y bytes maxL none rm [] Z h as Qc) {a : Addr} {argsL rest : List Value} (ha : (.ref a :: argsL).toArray = as) (eT : T.heap = h) {W : Nat} (hf : rm.frames + 1 ≤ R.frames) (hl : W + (maxL + 11) + rm.locals ≤ R.locals) (hc : cells + rm.cells ≤ R.cells) (hs : slots + rm.slots ≤ R.slots)
    {pc : Nat} {Ls : Array Slot} {st : List Value} (hsize : Ls.size = c.maxLocals) (hlen : ∀ sig, parseMethodDescriptor y.desc = some sig → argsL.length = sig.parameters.length) (hst : st = argsL.reverse ++ .ref a :: rest) (hW : (rest.map fun v => v.category).sum ≤ W) (hd : decode c.code pc = .ok (.invokespecial index, 3))
    (k : ∀ v T' L, Stand p l e R s m args below meth c T' (locs ++ L) (cells + rm.cells) (slots + rm.slots) → Qc v T'.heap L → Ogo p e below P (T'.setTop (mkF m (pc + 3) Ls (v.toList ++ rest)))) : Ogo p e below P (T.setTop (mkF m pc Ls st)) := by
  obtain ⟨v, _, ⟨T', L', k', n'⟩, -, X', ⟨Lc, hQ, l1, y1, z1⟩, step⟩ := X.specialBack hx (y := y) hy1 hown (mvT hZ wl) (mvT hZ wst) (mvT hZ wc) hy (backOf (W := W) hM hZ wc wi hf hl) (g := mkF m pc Ls st) rfl hsize (Steps.refl _) (a := a) (argsL := argsL) (rest := rest) hlen hst (by show 2 * 0 + _ ≤ _; omega) hd (fun _ _ => ⟨ha, eT, hc, hs⟩)
  dsimp only [Pt.U, Pt.locs, Pt.cells, Pt.slots] at X' l1 y1 z1 step hQ
  subst l1 y1 z1
  exact own_via (fun _ q => step.trans q) (k v T' Lc X' hQ)
theorem own_callV (X : Stand p l e R s m args below meth c T locs cells slots) (hx : p.tables.exec = Jvm.exec) (hZ : Z.Warmed39 s.vm) {own C : String} {index : Nat} {y z : MethodName} {bytes : ByteArray} {maxL : Nat} {rt : Option FieldType}
    (hown : s.vm.findClass own = some m.cls) (wl : (Jvm.Cond.methodLink own index y).before a0 Z = true) (wd : (Jvm.Cond.declares y).before a0 Z = true) (ws : (Jvm.Cond.selects C y z).before a0 Z = true) (wst : (Jvm.Cond.instanceMethod z).before a0 Z = true) (wi : (Jvm.Cond.initialized z.cls).before a0 Z = true) (wc : (Jvm.Cond.code z bytes maxL rt).before a0 Z = true) (hyz : NotFace s y)
    (hy : y.cls ≠ "java/lang/invoke/MethodHandle" ∧ y.cls ≠ "java/lang/invoke/VarHandle") {rm : Room} {as : Array Value} {Qc : Option Value → Heap → List Loc → Prop} (hM : Opays l z bytes maxL rt rm [] Z h as Qc) {b : Addr} {argsL rest : List Value} (ha : (.ref b :: argsL).toArray = as) (eT : T.heap = h) (F : Exa Z h b C) {W : Nat} (hf : rm.frames + 1 ≤ R.frames) (hl : W + (maxL + 11) + rm.locals ≤ R.locals) (hc : cells + rm.cells ≤ R.cells) (hs : slots + rm.slots ≤ R.slots)
    {pc : Nat} {Ls : Array Slot} {st : List Value} (hsize : Ls.size = c.maxLocals) (hlen : ∀ sig, parseMethodDescriptor y.desc = some sig → argsL.length = sig.parameters.length) (hst : st = argsL.reverse ++ .ref b :: rest) (hW : (rest.map fun v => v.category).sum ≤ W) (hd : decode c.code pc = .ok (.invokevirtual index, 3))
    (k : ∀ v T' L, Stand p l e R s m args below meth c T' (locs ++ L) (cells + rm.cells) (slots + rm.slots) → Qc v T'.heap L → Ogo p e below P (T'.setTop (mkF m (pc + 3) Ls (v.toList ++ rest)))) : Ogo p e below P (T.setTop (mkF m pc Ls st)) := by
  obtain ⟨cq, kq, qa, qb, qc⟩ := isOf hZ eT F
  obtain ⟨v, _, ⟨T', L', k', n'⟩, -, X', ⟨Lc, hQ, l1, y1, z1⟩, step⟩ := X.virtualBack hx (y := y) (z := z) hown (mvT hZ wl) (mvT hZ wd) hyz (mvT hZ ws) (mvT hZ wst) hy (backOf (W := W) hM hZ wc wi hf hl) qa qc (g := mkF m pc Ls st) rfl hsize (Steps.refl _) (argsL := argsL) (rest := rest) hlen hst (by show 2 * 0 + _ ≤ _; omega) hd (fun _ _ => ⟨ha, eT, hc, hs⟩)
  dsimp only [Pt.U, Pt.locs, Pt.cells, Pt.slots] at X' l1 y1 z1 step hQ
  subst l1 y1 z1
  exact own_via (fun _ q => step.trans q) (k v T' Lc X' hQ)
/-- a private method of a class that is no interface -/
theorem own_callP (X : Stand p l e R s m args below meth c T locs cells slots) (hx : p.tables.exec = Jvm.exec) (hZ : Z.Warmed39 s.vm) {own C : String} {index kk : Nat} {y : MethodName} {bytes : ByteArray} {maxL : Nat} {rt : Option FieldType}
    (hown : s.vm.findClass own = some m.cls) (wl : (Jvm.Cond.methodLink own index y).before a0 Z = true) (wst : (Jvm.Cond.instanceMethod y).before a0 Z = true) (wp : (Jvm.Cond.privateMethod y).before a0 Z = true) (wi : (Jvm.Cond.initialized y.cls).before a0 Z = true) (wn : (Jvm.Cond.instantiable y.cls kk).before a0 Z = true) (wc : (Jvm.Cond.code y bytes maxL rt).before a0 Z = true)
    (hy : y.cls ≠ "java/lang/invoke/MethodHandle" ∧ y.cls ≠ "java/lang/invoke/VarHandle") {rm : Room} {as : Array Value} {Qc : Option Value → Heap → List Loc → Prop} (hM : Opays l y bytes maxL rt rm [] Z h as Qc) {b : Addr} {argsL rest : List Value} (ha : (.ref b :: argsL).toArray = as) (eT : T.heap = h) (F : Exa Z h b C) {W : Nat} (hf : rm.frames + 1 ≤ R.frames) (hl : W + (maxL + 11) + rm.locals ≤ R.locals) (hc : cells + rm.cells ≤ R.cells) (hs : slots + rm.slots ≤ R.slots)
    {pc : Nat} {Ls : Array Slot} {st : List Value} (hsize : Ls.size = c.maxLocals) (hlen : ∀ sig, parseMethodDescriptor y.desc = some sig → argsL.length = sig.parameters.length) (hst : st = argsL.reverse ++ .ref b :: rest) (hW : (rest.map fun v => v.category).sum ≤ W) (hd : decode c.code pc = .ok (.invokevirtual index, 3))
    (k : ∀ v T' L, Stand p l e R s m args below meth c T' (locs ++ L) (cells + rm.cells) (slots + rm.slots) → Qc v T'.heap L → Ogo p e below P (T'.setTop (mkF m (pc + 3) Ls (v.toList ++ rest)))) : Ogo p e below P (T.setTop (mkF m pc Ls st)) := by
  obtain ⟨cq, q1, q2⟩ := F.cell
  have hpriv : s.PrivateAt y := Cond.privateMethod_at (mvP hZ wp (args := #[]))
  obtain ⟨c2, k2, i1, i2, i3, i4, -⟩ := Cond.instantiable_spec (mv (s := s) (args := args) hZ wn)
  have hni : k2.isInterface = false := (Bool.or_eq_false_iff.mp i4).1
  obtain ⟨v, _, ⟨T', L', k', n'⟩, -, X', ⟨Lc, hQ, l1, y1, z1⟩, step⟩ := X.privateBack hx (y := y) hown (mvT hZ wl) (mvT hZ wst) (selects_self_of_private i1 i2 hni hpriv (mvT hZ wst) hy) hpriv (mvT hZ wc) hy (backOf (W := W) hM hZ wc wi hf hl) (g := mkF m pc Ls st) rfl hsize (Steps.refl _) (a := b) (by rw [eT]; exact q1) q2 (argsL := argsL) (rest := rest) hlen hst (by show 2 * 0 + _ ≤ _; omega) hd (fun _ _ => ⟨ha, eT, hc, hs⟩)
  dsimp only [Pt.U, Pt.locs, Pt.cells, Pt.slots] at X' l1 y1 z1 step hQ
  subst l1 y1 z1
  exact own_via (fun _ q => step.trans q) (k v T' Lc X' hQ)
/-- a method of an interface -/
theorem own_callF (X : Stand p l e R s m args below meth c T locs cells slots) (hx : p.tables.exec = Jvm.exec) (hZ : Z.Warmed39 s.vm) {own C : String} {index count : Nat} {y z : MethodName} {bytes : ByteArray} {maxL : Nat} {rt : Option FieldType}
    (hown : s.vm.findClass own = some m.cls) (wl : (Jvm.Cond.methodLink own index y).before a0 Z = true) (wd : (Jvm.Cond.declares y).before a0 Z = true) (wf : (Jvm.Cond.interfaceMethod y.cls y.cls y.name y.desc).before args s = true) (ws : (Jvm.Cond.selects C y z).before a0 Z = true) (wst : (Jvm.Cond.instanceMethod z).before a0 Z = true) (wp : (Jvm.Cond.publicMethod z).before a0 Z = true) (wu : (Jvm.Cond.unhidden C y.name y.desc).before a0 Z = true) (wk : (Jvm.Cond.castable C y.cls).before a0 Z = true) (wi : (Jvm.Cond.initialized z.cls).before a0 Z = true) (wc : (Jvm.Cond.code z bytes maxL rt).before a0 Z = true)
    (hy : y.cls ≠ "java/lang/invoke/MethodHandle" ∧ y.cls ≠ "java/lang/invoke/VarHandle") {rm : Room} {as : Array Value} {Qc : Option Value → Heap → List Loc → Prop} (hM : Opays l z bytes maxL rt rm [] Z h as Qc) {b : Addr} {argsL rest : List Value} (ha : (.ref b :: argsL).toArray = as) (eT : T.heap = h) (F : Exa Z h b C) {W : Nat} (hf : rm.frames + 1 ≤ R.frames) (hl : W + (maxL + 11) + rm.locals ≤ R.locals) (hc : cells + rm.cells ≤ R.cells) (hs : slots + rm.slots ≤ R.slots)
    {pc : Nat} {Ls : Array Slot} {st : List Value} (hsize : Ls.size = c.maxLocals) (hlen : ∀ sig, parseMethodDescriptor y.desc = some sig → argsL.length = sig.parameters.length) (hst : st = argsL.reverse ++ .ref b :: rest) (hW : (rest.map fun v => v.category).sum ≤ W) (hd : decode c.code pc = .ok (.invokeinterface index count, 5))
    (k : ∀ v T' L, Stand p l e R s m args below meth c T' (locs ++ L) (cells + rm.cells) (slots + rm.slots) → Qc v T'.heap L → Ogo p e below P (T'.setTop (mkF m (pc + 5) Ls (v.toList ++ rest)))) : Ogo p e below P (T.setTop (mkF m pc Ls st)) := by
  obtain ⟨cq, kq, qa, qb, qc⟩ := isOf hZ eT F
  obtain ⟨v, _, ⟨T', L', k', n'⟩, -, X', ⟨Lc, hQ, l1, y1, z1⟩, step⟩ := X.interfaceBack hx (xi := y) (y := z) hown (mvT hZ wl) (mvT hZ wd) wf (mvT hZ ws) (mvT hZ wst) (mvT hZ wp) (mvT hZ wu) (mvT hZ wk) hy (backOf (W := W) hM hZ wc wi hf hl) qa qb qc (g := mkF m pc Ls st) rfl hsize (Steps.refl _) (argsL := argsL) (rest := rest) hlen hst (by show 2 * 0 + _ ≤ _; omega) hd (fun _ _ => ⟨ha, eT, hc, hs⟩)
  dsimp only [Pt.U, Pt.locs, Pt.cells, Pt.slots] at X' l1 y1 z1 step hQ
  subst l1 y1 z1
  exact own_via (fun _ q => step.trans q) (k v T' Lc X' hQ)
end Own
/-! ## An array by its values: n places, place j holds f j -/
/-- the array at a has n places of kind ty; place j holds f j -/
def Oar (Z : State) (h : Heap) (a : Addr) (ty : FieldType) (n : Nat) (f : Nat → Value) : Prop := n < 2 ^ 31 ∧ ∃ cl : Cell, Arr Z h a cl ty ∧ cl.slots.size = n ∧ ∀ j, j < n → cl.slots[j]? = some (f j)
section Own2
variable {p : Program} {l : Launch} {e : Env} {R : Room} {s : State} {m : MethodId} {args : Array Value} {below : List Frame} {meth : Method} {c : Code} {T : State} {locs : List Loc} {cells slots : Nat} {Z : State} {a0 : Array Value} {h h' : Heap} {P : Outcome → State → Prop} {a b : Addr} {ty : FieldType} {n i sl : Nat} {f : Nat → Value} {v : Value} {ws : List Addr} {j z : Int32}
theorem Oar.lt (A : Oar Z h a ty n f) : a < h.size := by obtain ⟨_, cl, A, _⟩ := A; exact A.lt
theorem Oar.ext (A : Oar Z h a ty n f) (E : Ext h h') : Oar Z h' a ty n f := by obtain ⟨q, cl, A, r⟩ := A; exact ⟨q, cl, A.ext E, r⟩
theorem Oar.other (A : Oar Z h b ty n f) (W : Wr h h' a sl v) (q : b ≠ a) : Oar Z h' b ty n f := by obtain ⟨z, cl, A, r⟩ := A; exact ⟨z, cl, A.other W q, r⟩
theorem Oar.keep (A : Oar Z h a ty n f) (K : Keep h h' ws) (q : a ∉ ws) : Oar Z h' a ty n f := by obtain ⟨z, cl, A, r⟩ := A; exact ⟨z, cl, ⟨K.2.1 a cl A.1 q, A.2⟩, r⟩
theorem Oar.cast {f' : Nat → Value} (A : Oar Z h a ty n f) (q : ∀ j, j < n → f j = f' j) : Oar Z h a ty n f' := by obtain ⟨z, cl, A, S, r⟩ := A; exact ⟨z, cl, A, S, fun j hj => by rw [← q j hj]; exact r j hj⟩
theorem Oar.new {k : ClassId} (A : Arr Z h a (newA k ty z) ty) (hz : ¬ z < 0) (hn : z.toNatClampNeg = n) : Oar Z h a ty n (fun _ => defaultValue ty) := by
  subst hn
  refine ⟨(back32 hz).2, _, A, sz_new _ _ _, fun j hj => ?_⟩
  simp [newA, hj]
theorem Oar.set (A : Oar Z h a ty n f) (W : Wr h h' a i v) : Oar Z h' a ty n (fun j => if j = i then v else f j) := by
  obtain ⟨q, cl, A, S, H⟩ := A
  obtain ⟨cell, e1, -, e3, -⟩ := id W
  cases A.1.symm.trans e1
  refine ⟨q, _, A.same W, by rw [sz_set]; exact S, fun j hj => ?_⟩
  by_cases u : i = j
  · subst u; simp [Cell.setSlot, e3]
  · have u' : ¬ j = i := fun x => u x.symm
    simp only [if_neg u', Cell.setSlot]; rw [Array.getElem?_setIfInBounds_ne u]; exact H j hj
theorem own_cl (hj : j.toInt = (i : Int)) : ¬ j < 0 ∧ j.toNatClampNeg = i := by
  refine ⟨fun q => ?_, ?_⟩
  · rw [Int32.lt_iff_toInt_lt] at q; have : (0 : Int32).toInt = 0 := rfl; omega
  · simp only [Int32.toNatClampNeg, hj]; rfl
theorem Oar.at (A : Oar Z h a ty n f) (hj : j.toInt = (i : Int)) (hi : i < n) : ∃ cl : Cell, Arr Z h a cl ty ∧ ¬ (j < 0 ∨ cl.slots.size ≤ j.toNatClampNeg) ∧ cl.slots[j.toNatClampNeg]? = some (f i) := by
  obtain ⟨q, cl, A, S, H⟩ := A
  obtain ⟨q1, q2⟩ := own_cl hj
  exact ⟨cl, A, fun q => q.elim q1 fun u => by rw [q2, S] at u; omega, by rw [q2]; exact H i hi⟩
/-- arraylength -/
theorem own_alen (X : Stand p l e R s m args below meth c T locs cells slots) (hx : p.tables.exec = Jvm.exec) (hZ : Z.Warmed39 s.vm) (eT : T.heap = h) (A : Oar Z h a ty n f) (hz : z.toInt = (n : Int)) {pc : Nat} {Ls : Array Slot} {rest : List Value} (hd : decode c.code pc = .ok (.arraylength, 1))
    (k : Ogo p e below P (T.setTop (mkF m (pc + 1) Ls (.int z :: rest)))) : Ogo p e below P (T.setTop (mkF m pc Ls (.ref a :: rest))) := by
  obtain ⟨q, cl, A, S, H⟩ := A
  have e1 : cl.slots.size.toInt32 = z := Int32.toInt_inj.mp (by rw [S, len_toInt q, hz])
  refine own_via (fun t k => X.arraylength hx (by rw [eT]; exact A.1) (State.isArrayOf_alike hZ.alike A.2.1) (g := mkF m pc Ls (.ref a :: rest)) rfl rfl hd _ k) ?_
  rw [e1]; exact k
theorem own_iald (X : Stand p l e R s m args below meth c T locs cells slots) (hx : p.tables.exec = Jvm.exec) (hZ : Z.Warmed39 s.vm) (eT : T.heap = h) (A : Oar Z h a .int n f) (hj : j.toInt = (i : Int)) (hi : i < n) (hv : f i = v) {pc : Nat} {Ls : Array Slot} {rest : List Value} (hd : decode c.code pc = .ok (.iaload, 1))
    (k : Ogo p e below P (T.setTop (mkF m (pc + 1) Ls (v :: rest)))) : Ogo p e below P (T.setTop (mkF m pc Ls (.int j :: .ref a :: rest))) := by
  obtain ⟨cl, A, h1, h2⟩ := A.at hj hi
  rw [hv] at h2
  exact own_via (fun t k => X.iaload hx (j := j) (v := v) (by rw [eT]; exact A.1) (State.isArrayOf_alike hZ.alike A.2.1) A.2.2 h1 h2 (g := mkF m pc Ls (.int j :: .ref a :: rest)) rfl rfl hd _ k) k
theorem own_bald (X : Stand p l e R s m args below meth c T locs cells slots) (hx : p.tables.exec = Jvm.exec) (hZ : Z.Warmed39 s.vm) (eT : T.heap = h) (A : Oar Z h a .byte n f) (hj : j.toInt = (i : Int)) (hi : i < n) (hv : f i = v) {pc : Nat} {Ls : Array Slot} {rest : List Value} (hd : decode c.code pc = .ok (.baload, 1))
    (k : Ogo p e below P (T.setTop (mkF m (pc + 1) Ls (v :: rest)))) : Ogo p e below P (T.setTop (mkF m pc Ls (.int j :: .ref a :: rest))) := by
  obtain ⟨cl, A, h1, h2⟩ := A.at hj hi
  rw [hv] at h2
  exact own_via (fun t k => X.baloadBytes hx (j := j) (v := v) (by rw [eT]; exact A.1) (State.isArrayOf_alike hZ.alike A.2.1) A.2.2 h1 h2 (g := mkF m pc Ls (.int j :: .ref a :: rest)) rfl rfl hd _ k) k
theorem own_zald (X : Stand p l e R s m args below meth c T locs cells slots) (hx : p.tables.exec = Jvm.exec) (hZ : Z.Warmed39 s.vm) (eT : T.heap = h) (A : Oar Z h a .boolean n f) (hj : j.toInt = (i : Int)) (hi : i < n) (hv : f i = v) {pc : Nat} {Ls : Array Slot} {rest : List Value} (hd : decode c.code pc = .ok (.baload, 1))
    (k : Ogo p e below P (T.setTop (mkF m (pc + 1) Ls (v :: rest)))) : Ogo p e below P (T.setTop (mkF m pc Ls (.int j :: .ref a :: rest))) := by
  obtain ⟨cl, A, h1, h2⟩ := A.at hj hi
  rw [hv] at h2
  exact own_via (fun t k => X.baloadBooleans hx (j := j) (v := v) (by rw [eT]; exact A.1) (State.isArrayOf_alike hZ.alike A.2.1) A.2.2 h1 h2 (g := mkF m pc Ls (.int j :: .ref a :: rest)) rfl rfl hd _ k) k
theorem own_dald (X : Stand p l e R s m args below meth c T locs cells slots) (hx : p.tables.exec = Jvm.exec) (hZ : Z.Warmed39 s.vm) (eT : T.heap = h) (A : Oar Z h a .double n f) (hj : j.toInt = (i : Int)) (hi : i < n) (hv : f i = v) {pc : Nat} {Ls : Array Slot} {rest : List Value} (hd : decode c.code pc = .ok (.daload, 1))
    (k : Ogo p e below P (T.setTop (mkF m (pc + 1) Ls (v :: rest)))) : Ogo p e below P (T.setTop (mkF m pc Ls (.int j :: .ref a :: rest))) := by
  obtain ⟨cl, A, h1, h2⟩ := A.at hj hi
  rw [hv] at h2
  exact own_via (fun t k => X.daload hx (j := j) (v := v) (by rw [eT]; exact A.1) (State.isArrayOf_alike hZ.alike A.2.1) A.2.2 h1 h2 (g := mkF m pc Ls (.int j :: .ref a :: rest)) rfl rfl hd _ k) k
theorem own_aald (X : Stand p l e R s m args below meth c T locs cells slots) (hx : p.tables.exec = Jvm.exec) (hZ : Z.Warmed39 s.vm) (eT : T.heap = h) (A : Oar Z h a ty n f) (ht : ty.isReference = true) (hj : j.toInt = (i : Int)) (hi : i < n) (hv : f i = v) {pc : Nat} {Ls : Array Slot} {rest : List Value} (hd : decode c.code pc = .ok (.aaload, 1))
    (k : Ogo p e below P (T.setTop (mkF m (pc + 1) Ls (v :: rest)))) : Ogo p e below P (T.setTop (mkF m pc Ls (.int j :: .ref a :: rest))) := by
  obtain ⟨cl, A, h1, h2⟩ := A.at hj hi
  rw [hv] at h2
  exact own_via (fun t k => X.aaload hx (j := j) (v := v) (by rw [eT]; exact A.1) (State.isArrayOf_alike hZ.alike A.2.1) ht A.2.2 h1 h2 (g := mkF m pc Ls (.int j :: .ref a :: rest)) rfl rfl hd _ k) k
theorem own_iast (X : Stand p l e R s m args below meth c T locs cells slots) (hx : p.tables.exec = Jvm.exec) (hZ : Z.Warmed39 s.vm) (eT : T.heap = h) (A : Oar Z h a .int n f) {x : Int32} (hj : j.toInt = (i : Int)) (hi : i < n) {pc : Nat} {Ls : Array Slot} {rest : List Value} (hd : decode c.code pc = .ok (.iastore, 1)) :
    ∃ T' h', Stand p l e R s m args below meth c T' (locs ++ [⟨a, i⟩]) cells slots ∧ T'.heap = h' ∧ Wr h h' a i (.int x) ∧ Oar Z h' a .int n (fun q => if q = i then .int x else f q) ∧ ∀ t, Steps p.tables e below (T'.setTop (mkF m (pc + 1) Ls rest)) t → Steps p.tables e below (T.setTop (mkF m pc Ls (.int x :: .int j :: .ref a :: rest))) t := by
  obtain ⟨cl, A', h1, h2⟩ := A.at hj hi
  obtain ⟨T', h', X', e', W, st⟩ := stI X hx hZ eT A' (j := j) (x := x) h1 (g := mkF m pc Ls (.int x :: .int j :: .ref a :: rest)) rfl rfl hd
  rw [(own_cl hj).2] at X' W
  exact ⟨T', h', X', e', W, A.set W, st⟩
theorem own_bast (X : Stand p l e R s m args below meth c T locs cells slots) (hx : p.tables.exec = Jvm.exec) (hZ : Z.Warmed39 s.vm) (eT : T.heap = h) (A : Oar Z h a .byte n f) {x : Int32} (hj : j.toInt = (i : Int)) (hi : i < n) {pc : Nat} {Ls : Array Slot} {rest : List Value} (hd : decode c.code pc = .ok (.bastore, 1)) :
    ∃ T' h', Stand p l e R s m args below meth c T' (locs ++ [⟨a, i⟩]) cells slots ∧ T'.heap = h' ∧ Wr h h' a i (.int (nar .byte x)) ∧ Oar Z h' a .byte n (fun q => if q = i then .int (nar .byte x) else f q) ∧ ∀ t, Steps p.tables e below (T'.setTop (mkF m (pc + 1) Ls rest)) t → Steps p.tables e below (T.setTop (mkF m pc Ls (.int x :: .int j :: .ref a :: rest))) t := by
  obtain ⟨cl, A', h1, h2⟩ := A.at hj hi
  obtain ⟨T', h', X', e', W, st⟩ := stB X hx hZ eT A' (j := j) (x := x) h1 (g := mkF m pc Ls (.int x :: .int j :: .ref a :: rest)) rfl rfl hd
  rw [(own_cl hj).2] at X' W
  exact ⟨T', h', X', e', W, A.set W, st⟩
theorem own_zast (X : Stand p l e R s m args below meth c T locs cells slots) (hx : p.tables.exec = Jvm.exec) (hZ : Z.Warmed39 s.vm) (eT : T.heap = h) (A : Oar Z h a .boolean n f) {x : Int32} (hj : j.toInt = (i : Int)) (hi : i < n) {pc : Nat} {Ls : Array Slot} {rest : List Value} (hd : decode c.code pc = .ok (.bastore, 1)) :
    ∃ T' h', Stand p l e R s m args below meth c T' (locs ++ [⟨a, i⟩]) cells slots ∧ T'.heap = h' ∧ Wr h h' a i (.int (nar .boolean x)) ∧ Oar Z h' a .boolean n (fun q => if q = i then .int (nar .boolean x) else f q) ∧ ∀ t, Steps p.tables e below (T'.setTop (mkF m (pc + 1) Ls rest)) t → Steps p.tables e below (T.setTop (mkF m pc Ls (.int x :: .int j :: .ref a :: rest))) t := by
  obtain ⟨cl, A', h1, h2⟩ := A.at hj hi
  obtain ⟨T', h', X', e', W, st⟩ := stZ X hx hZ eT A' (j := j) (x := x) h1 (g := mkF m pc Ls (.int x :: .int j :: .ref a :: rest)) rfl rfl hd
  rw [(own_cl hj).2] at X' W
  exact ⟨T', h', X', e', W, A.set W, st⟩
theorem own_dast (X : Stand p l e R s m args below meth c T locs cells slots) (hx : p.tables.exec = Jvm.exec) (hZ : Z.Warmed39 s.vm) (eT : T.heap = h) (A : Oar Z h a .double n f) {x : UInt64} (hj : j.toInt = (i : Int)) (hi : i < n) {pc : Nat} {Ls : Array Slot} {rest : List Value} (hd : decode c.code pc = .ok (.dastore, 1)) :
    ∃ T' h', Stand p l e R s m args below meth c T' (locs ++ [⟨a, i⟩]) cells slots ∧ T'.heap = h' ∧ Wr h h' a i (.double x) ∧ Oar Z h' a .double n (fun q => if q = i then .double x else f q) ∧ ∀ t, Steps p.tables e below (T'.setTop (mkF m (pc + 1) Ls rest)) t → Steps p.tables e below (T.setTop (mkF m pc Ls (.double x :: .int j :: .ref a :: rest))) t := by
  obtain ⟨cl, A', h1, h2⟩ := A.at hj hi
  obtain ⟨T', h', X', e', W, st⟩ := stD X hx hZ eT A' (j := j) (x := x) h1 (g := mkF m pc Ls (.double x :: .int j :: .ref a :: rest)) rfl rfl hd
  rw [(own_cl hj).2] at X' W
  exact ⟨T', h', X', e', W, A.set W, st⟩
theorem own_aast (X : Stand p l e R s m args below meth c T locs cells slots) (hx : p.tables.exec = Jvm.exec) (hZ : Z.Warmed39 s.vm) (eT : T.heap = h) (A : Oar Z h a ty n f) (ht : ty.isReference = true) (F : Sto Z h a v) (hj : j.toInt = (i : Int)) (hi : i < n) {pc : Nat} {Ls : Array Slot} {rest : List Value} (hd : decode c.code pc = .ok (.aastore, 1)) :
    ∃ T' h', Stand p l e R s m args below meth c T' (locs ++ [⟨a, i⟩]) cells slots ∧ T'.heap = h' ∧ Wr h h' a i v ∧ Oar Z h' a ty n (fun q => if q = i then v else f q) ∧ ∀ t, Steps p.tables e below (T'.setTop (mkF m (pc + 1) Ls rest)) t → Steps p.tables e below (T.setTop (mkF m pc Ls (v :: .int j :: .ref a :: rest))) t := by
  obtain ⟨cl, A', h1, h2⟩ := A.at hj hi
  obtain ⟨T', h', X', e', W, st⟩ := stR X hx hZ eT A' (j := j) h1 ht F (g := mkF m pc Ls (v :: .int j :: .ref a :: rest)) rfl rfl hd
  rw [(own_cl hj).2] at X' W
  exact ⟨T', h', X', e', W, A.set W, st⟩
theorem own_pref {F : Nat → Value} {d : Value} {i j : Nat} : (if j = i then F i else if j < i then F j else d) = if j < i + 1 then F j else d := by
  by_cases u : j = i
  · subst u; simp
  · rw [if_neg u]
    by_cases w : j < i
    · rw [if_pos w, if_pos (by omega)]
    · rw [if_neg w, if_neg (by omega)]
/-! numbers: comparisons by their values -/
theorem o_lt {x y : Int64} (q : x.toInt < y.toInt) : lcmpW x y < (0 : Int32) := (lw_lt _ _).mpr (Int64.lt_iff_toInt_lt.mpr q)
theorem o_nlt {x y : Int64} (q : y.toInt ≤ x.toInt) : ¬ (lcmpW x y < (0 : Int32)) := fun u => by have := Int64.lt_iff_toInt_lt.mp ((lw_lt _ _).mp u); omega
theorem o_gt {x y : Int64} (q : y.toInt < x.toInt) : (0 : Int32) < lcmpW x y := (lw_gt _ _).mpr (Int64.lt_iff_toInt_lt.mpr q)
theorem o_ngt {x y : Int64} (q : x.toInt ≤ y.toInt) : ¬ ((0 : Int32) < lcmpW x y) := fun u => by have := Int64.lt_iff_toInt_lt.mp ((lw_gt _ _).mp u); omega
theorem o_eq {x y : Int64} (q : x.toInt = y.toInt) : lcmpW x y = (0 : Int32) := (lw_eq _ _).mpr (Int64.toInt_inj.mp q)
theorem o_ne {x y : Int64} (q : x.toInt ≠ y.toInt) : ¬ (lcmpW x y = (0 : Int32)) := fun u => q (congrArg Int64.toInt ((lw_eq _ _).mp u))
theorem i_lt {x y : Int32} (q : x.toInt < y.toInt) : x < y := Int32.lt_iff_toInt_lt.mpr q
theorem i_nlt {x y : Int32} (q : y.toInt ≤ x.toInt) : ¬ (x < y) := fun u => by have := Int32.lt_iff_toInt_lt.mp u; omega
theorem i_eq {x y : Int32} (q : x.toInt = y.toInt) : x = y := Int32.toInt_inj.mp q
theorem i_ne {x y : Int32} (q : x.toInt ≠ y.toInt) : ¬ (x = y) := fun u => q (congrArg Int32.toInt u)
theorem i_lt' {x y : Int32} (q : x < y) : x.toInt < y.toInt := Int32.lt_iff_toInt_lt.mp q
theorem i_nlt' {x y : Int32} (q : ¬ (x < y)) : y.toInt ≤ x.toInt := by rw [Int32.lt_iff_toInt_lt] at q; omega
end Own2
theorem pd_0 : parseMethodDescriptor "(I)Z" = some ⟨[.int], some .boolean⟩ := by decide +kernel
theorem pn_0 : plainName "com/example/keep_posted/keepposted/io/Command" = true := by first | (simp [plainName, overriddenIn]; done) | decide +kernel
theorem pn_1 : plainName "com/example/keep_posted/keepposted/io/CommandTakesPinLaw" = true := by first | (simp [plainName, overriddenIn]; done) | decide +kernel

def own_lo : Nat → Int32
  | 0 => 1
  | 1 => 0
  | 2 => 0
  | 3 => 2
  | 4 => 1
  | 5 => 1
  | 6 => 3
  | 7 => 2
  | 8 => 1
  | 9 => 1
  | 10 => 0
  | 11 => 0
  | 12 => 0
  | 13 => 0
  | 14 => 1
  | _ => 0
def own_hi : Nat → Int32
  | 0 => 2
  | 1 => 1
  | 2 => 0
  | 3 => 2
  | 4 => 1
  | 5 => 1
  | 6 => 3
  | 7 => 2
  | 8 => 2
  | 9 => 1
  | 10 => 0
  | 11 => 0
  | 12 => 0
  | 13 => 2
  | 14 => 1
  | _ => 0
theorem own_len (x : Int32) : ∃ n : Nat, ((x &&& 2147483647) % 15).toInt = (n : Int) ∧ n < 15 := by
  have h := c_mask x 2147483647 31 (by decide) (by decide)
  have h0 : 0 ≤ (x &&& 2147483647).toInt := by
    have : (0 : Int) < ((2 ^ 31 : Nat) : Int) := by decide
    rw [h]; omega
  have h1 := (c_irem (x &&& 2147483647) 15 15 rfl).1 h0
  exact ⟨((x &&& 2147483647) % 15).toInt.toNat, by omega, by omega⟩
theorem d1_0 : decode prog_12_method_6_code 0 = .ok (.iload_n 1, 1) := by decide +kernel
theorem d1_1 : decode prog_12_method_6_code 1 = .ok (.aload_n 0, 1) := by decide +kernel
theorem d1_2 : decode prog_12_method_6_code 2 = .ok (.getfield 87, 3) := by decide +kernel
theorem d1_5 : decode prog_12_method_6_code 5 = .ok (.if_icmp .lt 15, 3) := by decide +kernel
theorem d1_8 : decode prog_12_method_6_code 8 = .ok (.iload_n 1, 1) := by decide +kernel
theorem d1_9 : decode prog_12_method_6_code 9 = .ok (.aload_n 0, 1) := by decide +kernel
theorem d1_10 : decode prog_12_method_6_code 10 = .ok (.getfield 91, 3) := by decide +kernel
theorem d1_13 : decode prog_12_method_6_code 13 = .ok (.if_icmp .gt 7, 3) := by decide +kernel
theorem d1_16 : decode prog_12_method_6_code 16 = .ok (.iconst 1, 1) := by decide +kernel
theorem d1_17 : decode prog_12_method_6_code 17 = .ok (.goto 4, 3) := by decide +kernel
theorem d1_20 : decode prog_12_method_6_code 20 = .ok (.iconst 0, 1) := by decide +kernel
theorem d1_21 : decode prog_12_method_6_code 21 = .ok (.ireturn, 1) := by decide +kernel
set_option maxRecDepth 65536 in
set_option maxHeartbeats 40000000 in
theorem rm_tk {l : Launch} {Z : State} {a0 : Array Value} (hw : ∀ d ∈ tables_1, d.before a0 Z = true) (b : Addr) (y lo hi r : Int32) (h0 : Heap) (n0 : Nat) (F_few : Fld Z h0 b "com/example/keep_posted/keepposted/io/Command" "fewestArguments" "I" (.int lo)) (F_most : Fld Z h0 b "com/example/keep_posted/keepposted/io/Command" "mostArguments" "I" (.int hi)) (hr : r = if y < lo then 0 else if hi < y then 0 else 1) :
    Opays l (⟨"com/example/keep_posted/keepposted/io/Command", "takes", "(I)Z"⟩ : MethodName) prog_12_method_6_code 2 (some .boolean) ({ frames := 0, cells := 0, slots := 0, locals := 0 } : Room) [] Z h0 #[(.ref b), (.int y)] (fun v h L => v = some (.int r) ∧ Fr n0 L ∧ h = h0) := by
  refine own_enter (plainFor_of_name pn_0) ?_
  intro p e s m below meth c s₁ hx hby hml0 hown hnm hret hlk hZ e0 X0
  have hml : c.maxLocals = 2 := hml0
  replace hown : s.vm.findClass "com/example/keep_posted/keepposted/io/Command" = some m.cls := hown
  have N := Fr.nil n0
  have hef : entryFrame m #[(.ref b), (.int y)] 2 = mkF m 0 #[.val (.ref b), .val (.int y)] [] := by first | (simp [entryFrame, mkF, argsToLocals, Value.category]; done) | rfl
  rw [hef]
  show Ogo p e below _ (s₁.setTop (mkF m 0 #[.val (.ref b), .val (.int y)] []))
  refine own_via (fun tq kq => XS.iloadN X0.here hx rfl (hb hby d1_0) rfl kq) ?_
  show Ogo p e below _ (s₁.setTop (mkF m 1 #[.val (.ref b), .val (.int y)] [(.int y)]))
  refine own_via (fun tq kq => XS.aloadN X0.here hx rfl (hb hby d1_1) rfl rfl kq) ?_
  show Ogo p e below _ (s₁.setTop (mkF m 2 #[.val (.ref b), .val (.int y)] [(.ref b), (.int y)]))
  obtain ⟨T1, X1, e1, st1⟩ := getF X0 hx hZ hown (host := "") (Or.inl (hw _ (List.mem_of_getElem? (i := 41) rfl))) Via.refl e0 F_few (g := (mkF m 2 #[.val (.ref b), .val (.int y)] [(.ref b), (.int y)])) rfl rfl (hb hby d1_2)
  refine own_via st1 ?_
  show Ogo p e below _ (T1.setTop (mkF m 5 #[.val (.ref b), .val (.int y)] [(.int lo), (.int y)]))
  by_cases hc5 : y < lo
  · refine own_via (fun tq kq => XS.icmpYes X1.here hx rfl (pc0 := 5) (pc' := 20) rfl (hb hby d1_5) rfl (tlt (hc5 : y < lo)).1 (by decide) (by decide) kq) ?_
    show Ogo p e below _ (T1.setTop (mkF m 20 #[.val (.ref b), .val (.int y)] []))
    refine own_via (fun tq kq => XS.iconst X1.here hx rfl (hb hby d1_20) kq) ?_
    show Ogo p e below _ (T1.setTop (mkF m 21 #[.val (.ref b), .val (.int y)] [(.int (0 : Int32))]))
    exact own_out X1 hlk (fun h => by rw [hret] at h; cases h) (by decide) (by decide) (by first | exact ⟨by rw [hr, if_pos hc5]; rfl, N, rfl⟩ | (rw [e1]; exact ⟨by rw [hr, if_pos hc5]; rfl, N, rfl⟩)) (fun fs hr => retN X1 hx (t := .boolean) hret (by simp) (hb hby d1_21) hr)
  · refine own_via (fun tq kq => XS.icmpNo X1.here hx rfl (hb hby d1_5) rfl (flt (hc5 : ¬ (y < lo))).1 kq) ?_
    show Ogo p e below _ (T1.setTop (mkF m 8 #[.val (.ref b), .val (.int y)] []))
    refine own_via (fun tq kq => XS.iloadN X1.here hx rfl (hb hby d1_8) rfl kq) ?_
    show Ogo p e below _ (T1.setTop (mkF m 9 #[.val (.ref b), .val (.int y)] [(.int y)]))
    refine own_via (fun tq kq => XS.aloadN X1.here hx rfl (hb hby d1_9) rfl rfl kq) ?_
    show Ogo p e below _ (T1.setTop (mkF m 10 #[.val (.ref b), .val (.int y)] [(.ref b), (.int y)]))
    obtain ⟨T2, X2, e2, st2⟩ := getF X1 hx hZ hown (host := "") (Or.inl (hw _ (List.mem_of_getElem? (i := 43) rfl))) Via.refl e1 F_most (g := (mkF m 10 #[.val (.ref b), .val (.int y)] [(.ref b), (.int y)])) rfl rfl (hb hby d1_10)
    refine own_via st2 ?_
    show Ogo p e below _ (T2.setTop (mkF m 13 #[.val (.ref b), .val (.int y)] [(.int hi), (.int y)]))
    by_cases hc13 : hi < y
    · refine own_via (fun tq kq => XS.icmpYes X2.here hx rfl (pc0 := 13) (pc' := 20) rfl (hb hby d1_13) rfl (tlt (hc13 : hi < y)).2.2.1 (by decide) (by decide) kq) ?_
      show Ogo p e below _ (T2.setTop (mkF m 20 #[.val (.ref b), .val (.int y)] []))
      refine own_via (fun tq kq => XS.iconst X2.here hx rfl (hb hby d1_20) kq) ?_
      show Ogo p e below _ (T2.setTop (mkF m 21 #[.val (.ref b), .val (.int y)] [(.int (0 : Int32))]))
      exact own_out X2 hlk (fun h => by rw [hret] at h; cases h) (by decide) (by decide) (by first | exact ⟨by rw [hr, if_neg hc5, if_pos hc13]; rfl, N, rfl⟩ | (rw [e2]; exact ⟨by rw [hr, if_neg hc5, if_pos hc13]; rfl, N, rfl⟩)) (fun fs hr => retN X2 hx (t := .boolean) hret (by simp) (hb hby d1_21) hr)
    · refine own_via (fun tq kq => XS.icmpNo X2.here hx rfl (hb hby d1_13) rfl (flt (hc13 : ¬ (hi < y))).2.2.1 kq) ?_
      show Ogo p e below _ (T2.setTop (mkF m 16 #[.val (.ref b), .val (.int y)] []))
      refine own_via (fun tq kq => XS.iconst X2.here hx rfl (hb hby d1_16) kq) ?_
      show Ogo p e below _ (T2.setTop (mkF m 17 #[.val (.ref b), .val (.int y)] [(.int (1 : Int32))]))
      refine own_via (fun tq kq => XS.goto X2.here hx rfl (pc0 := 17) (pc' := 21) rfl (hb hby d1_17) (by decide) (by decide) kq) ?_
      show Ogo p e below _ (T2.setTop (mkF m 21 #[.val (.ref b), .val (.int y)] [(.int (1 : Int32))]))
      exact own_out X2 hlk (fun h => by rw [hret] at h; cases h) (by decide) (by decide) (by first | exact ⟨by rw [hr, if_neg hc5, if_neg hc13]; rfl, N, rfl⟩ | (rw [e2]; exact ⟨by rw [hr, if_neg hc5, if_neg hc13]; rfl, N, rfl⟩)) (fun fs hr => retN X2 hx (t := .boolean) hret (by simp) (hb hby d1_21) hr)
set_option maxRecDepth 65536 in
set_option maxHeartbeats 40000000 in
theorem rm_law {l : Launch} {Z : State} {a0 : Array Value} (hw : ∀ d ∈ tables_1, d.before a0 Z = true) (p1 p2 p3 : Int32) (cm : Nat → Addr) (h0 : Heap) (n0 : Nat) (zs : n0 ≤ h0.size) (S0 : Sta Z Z.heap "com/example/keep_posted/keepposted/io/Command" "HELLO" "Lcom/example/keep_posted/keepposted/io/Command;" (.ref (cm 0))) (S1 : Sta Z Z.heap "com/example/keep_posted/keepposted/io/Command" "PING" "Lcom/example/keep_posted/keepposted/io/Command;" (.ref (cm 1))) (S2 : Sta Z Z.heap "com/example/keep_posted/keepposted/io/Command" "QUIT" "Lcom/example/keep_posted/keepposted/io/Command;" (.ref (cm 2))) (S3 : Sta Z Z.heap "com/example/keep_posted/keepposted/io/Command" "SET" "Lcom/example/keep_posted/keepposted/io/Command;" (.ref (cm 3))) (S4 : Sta Z Z.heap "com/example/keep_posted/keepposted/io/Command" "GET" "Lcom/example/keep_posted/keepposted/io/Command;" (.ref (cm 4))) (S5 : Sta Z Z.heap "com/example/keep_posted/keepposted/io/Command" "DEL" "Lcom/example/keep_posted/keepposted/io/Command;" (.ref (cm 5))) (S6 : Sta Z Z.heap "com/example/keep_posted/keepposted/io/Command" "SETIF" "Lcom/example/keep_posted/keepposted/io/Command;" (.ref (cm 6))) (S7 : Sta Z Z.heap "com/example/keep_posted/keepposted/io/Command" "DELIF" "Lcom/example/keep_posted/keepposted/io/Command;" (.ref (cm 7))) (S8 : Sta Z Z.heap "com/example/keep_posted/keepposted/io/Command" "SUB" "Lcom/example/keep_posted/keepposted/io/Command;" (.ref (cm 8))) (S9 : Sta Z Z.heap "com/example/keep_posted/keepposted/io/Command" "UNSUB" "Lcom/example/keep_posted/keepposted/io/Command;" (.ref (cm 9))) (S10 : Sta Z Z.heap "com/example/keep_posted/keepposted/io/Command" "BEGIN" "Lcom/example/keep_posted/keepposted/io/Command;" (.ref (cm 10))) (S11 : Sta Z Z.heap "com/example/keep_posted/keepposted/io/Command" "COMMIT" "Lcom/example/keep_posted/keepposted/io/Command;" (.ref (cm 11))) (S12 : Sta Z Z.heap "com/example/keep_posted/keepposted/io/Command" "ABORT" "Lcom/example/keep_posted/keepposted/io/Command;" (.ref (cm 12))) (S13 : Sta Z Z.heap "com/example/keep_posted/keepposted/io/Command" "WILL" "Lcom/example/keep_posted/keepposted/io/Command;" (.ref (cm 13))) (S14 : Sta Z Z.heap "com/example/keep_posted/keepposted/io/Command" "GRAVE" "Lcom/example/keep_posted/keepposted/io/Command;" (.ref (cm 14))) (CF : ∀ k, k < 15 → Exa Z Z.heap (cm k) "com/example/keep_posted/keepposted/io/Command" ∧ Fld Z Z.heap (cm k) "com/example/keep_posted/keepposted/io/Command" "fewestArguments" "I" (.int (own_lo k)) ∧ Fld Z Z.heap (cm k) "com/example/keep_posted/keepposted/io/Command" "mostArguments" "I" (.int (own_hi k))) (O : Old Z n0 h0) :
    Opays l x code maxLocals ret room_1 tables_1 Z h0 #[(.int p1), (.int p2), (.int p3)] (fun v h L => v = some (.int 1) ∧ Fr n0 L) := by
  refine own_enter (plainFor_of_name pn_1) ?_
  intro p e s m below meth c s₁ hx hby hml0 hown hnm hret hlk hZ e0 X0
  have hml : c.maxLocals = 9 := hml0
  replace hown : s.vm.findClass "com/example/keep_posted/keepposted/io/CommandTakesPinLaw" = some m.cls := hown
  have N := Fr.nil n0
  have hef : entryFrame m #[(.int p1), (.int p2), (.int p3)] maxLocals = mkF m 0 #[.val (.int p1), .val (.int p2), .val (.int p3), .unset, .unset, .unset, .unset, .unset, .unset] [] := by first | (simp [entryFrame, mkF, argsToLocals, Value.category, maxLocals]; done) | rfl
  rw [hef]
  show Ogo p e below _ (s₁.setTop (mkF m 0 #[.val (.int p1), .val (.int p2), .val (.int p3), .unset, .unset, .unset, .unset, .unset, .unset] []))
  refine own_via (fun tq kq => XS.bipush X0.here hx rfl (hb hby at_0) kq) ?_
  show Ogo p e below _ (s₁.setTop (mkF m 2 #[.val (.int p1), .val (.int p2), .val (.int p3), .unset, .unset, .unset, .unset, .unset, .unset] [(.int (15 : Int32))]))
  obtain ⟨T1, h1, k1, X1, e1, E1, A1, O1, st1⟩ := newR X0 hx hZ hown (hw _ (List.mem_of_getElem? (i := 0) rfl)) (hw _ (List.mem_of_getElem? (i := 1) rfl)) e0 (g := (mkF m 2 #[.val (.int p1), .val (.int p2), .val (.int p3), .unset, .unset, .unset, .unset, .unset, .unset] [(.int (15 : Int32))])) rfl (hb hby at_2) rfl (by decide) (cap := 15) (by decide) (by decide) (by decide) (by decide)
  refine own_via st1 ?_
  obtain ⟨ca, g1⟩ : ∃ z, z = h0.size := ⟨_, rfl⟩
  rw [← g1]
  rw [← g1] at A1
  have g_ca : n0 ≤ ca := by rw [g1]; exact zs
  have zs := Nat.le_trans zs E1.1
  have O := O.ext E1
  have A_ca : Oar Z h1 ca (.object "com/example/keep_posted/keepposted/io/Command") 15 (fun _ => .null) := Oar.new A1 (by decide) rfl
  show Ogo p e below _ (T1.setTop (mkF m 5 #[.val (.int p1), .val (.int p2), .val (.int p3), .unset, .unset, .unset, .unset, .unset, .unset] [(.ref ca)]))
  have STO : ∀ k, k < 15 → Sto Z h1 ca (.ref (cm k)) := fun k hk => Sto.of A1 O1 (Ins.self ((CF k hk).1.ext O.2))
  have A_ca := A_ca.cast (f' := fun q => if q < 0 then .ref (cm q) else .null) (fun j _ => (if_neg (Nat.not_lt_zero j)).symm)
  refine own_via (fun tq kq => XS.dup X1.here hx rfl (hb hby at_5) rfl rfl kq) ?_
  show Ogo p e below _ (T1.setTop (mkF m 6 #[.val (.int p1), .val (.int p2), .val (.int p3), .unset, .unset, .unset, .unset, .unset, .unset] [(.ref ca), (.ref ca)]))
  refine own_via (fun tq kq => XS.iconst X1.here hx rfl (hb hby at_6) kq) ?_
  show Ogo p e below _ (T1.setTop (mkF m 7 #[.val (.int p1), .val (.int p2), .val (.int p3), .unset, .unset, .unset, .unset, .unset, .unset] [(.int (0 : Int32)), (.ref ca), (.ref ca)]))
  obtain ⟨T2, X2, e2, st2⟩ := getS2 X1 hx hZ hown (host := "") (Or.inl (hw _ (List.mem_of_getElem? (i := 2) rfl))) Via.refl e1 (S0.ext O.2) (g := (mkF m 7 #[.val (.int p1), .val (.int p2), .val (.int p3), .unset, .unset, .unset, .unset, .unset, .unset] [(.int (0 : Int32)), (.ref ca), (.ref ca)])) rfl (hb hby at_7)
  refine own_via st2 ?_
  show Ogo p e below _ (T2.setTop (mkF m 10 #[.val (.int p1), .val (.int p2), .val (.int p3), .unset, .unset, .unset, .unset, .unset, .unset] [(.ref (cm 0)), (.int (0 : Int32)), (.ref ca), (.ref ca)]))
  obtain ⟨T3, h3, X3, e3, W3, A_ca', st3⟩ := own_aast X2 hx hZ e2 A_ca rfl (STO 0 (by decide)) (j := (0 : Int32)) (i := 0) (by decide) (by decide) (pc := 10) (Ls := #[.val (.int p1), .val (.int p2), .val (.int p3), .unset, .unset, .unset, .unset, .unset, .unset]) (rest := [(.ref ca)]) (hb hby at_10)
  refine own_via st3 ?_
  have STO : ∀ k, k < 15 → Sto Z h3 ca (.ref (cm k)) := fun k hk => (STO k hk).wr W3
  have zs := Nat.le_trans zs (Keep.of_wr W3).1
  have O := O.wr W3 g_ca
  have N := Fr.snoc X3 N g_ca
  have A_ca := A_ca'.cast (f' := (fun q => if q < 1 then .ref (cm q) else .null)) (fun j _ => own_pref (F := fun q => .ref (cm q)))
  show Ogo p e below _ (T3.setTop (mkF m 11 #[.val (.int p1), .val (.int p2), .val (.int p3), .unset, .unset, .unset, .unset, .unset, .unset] [(.ref ca)]))
  refine own_via (fun tq kq => XS.dup X3.here hx rfl (hb hby at_11) rfl rfl kq) ?_
  show Ogo p e below _ (T3.setTop (mkF m 12 #[.val (.int p1), .val (.int p2), .val (.int p3), .unset, .unset, .unset, .unset, .unset, .unset] [(.ref ca), (.ref ca)]))
  refine own_via (fun tq kq => XS.iconst X3.here hx rfl (hb hby at_12) kq) ?_
  show Ogo p e below _ (T3.setTop (mkF m 13 #[.val (.int p1), .val (.int p2), .val (.int p3), .unset, .unset, .unset, .unset, .unset, .unset] [(.int (1 : Int32)), (.ref ca), (.ref ca)]))
  obtain ⟨T4, X4, e4, st4⟩ := getS2 X3 hx hZ hown (host := "") (Or.inl (hw _ (List.mem_of_getElem? (i := 6) rfl))) Via.refl e3 (S1.ext O.2) (g := (mkF m 13 #[.val (.int p1), .val (.int p2), .val (.int p3), .unset, .unset, .unset, .unset, .unset, .unset] [(.int (1 : Int32)), (.ref ca), (.ref ca)])) rfl (hb hby at_13)
  refine own_via st4 ?_
  show Ogo p e below _ (T4.setTop (mkF m 16 #[.val (.int p1), .val (.int p2), .val (.int p3), .unset, .unset, .unset, .unset, .unset, .unset] [(.ref (cm 1)), (.int (1 : Int32)), (.ref ca), (.ref ca)]))
  obtain ⟨T5, h5, X5, e5, W5, A_ca', st5⟩ := own_aast X4 hx hZ e4 A_ca rfl (STO 1 (by decide)) (j := (1 : Int32)) (i := 1) (by decide) (by decide) (pc := 16) (Ls := #[.val (.int p1), .val (.int p2), .val (.int p3), .unset, .unset, .unset, .unset, .unset, .unset]) (rest := [(.ref ca)]) (hb hby at_16)
  refine own_via st5 ?_
  have STO : ∀ k, k < 15 → Sto Z h5 ca (.ref (cm k)) := fun k hk => (STO k hk).wr W5
  have zs := Nat.le_trans zs (Keep.of_wr W5).1
  have O := O.wr W5 g_ca
  have N := Fr.snoc X5 N g_ca
  have A_ca := A_ca'.cast (f' := (fun q => if q < 2 then .ref (cm q) else .null)) (fun j _ => own_pref (F := fun q => .ref (cm q)))
  show Ogo p e below _ (T5.setTop (mkF m 17 #[.val (.int p1), .val (.int p2), .val (.int p3), .unset, .unset, .unset, .unset, .unset, .unset] [(.ref ca)]))
  refine own_via (fun tq kq => XS.dup X5.here hx rfl (hb hby at_17) rfl rfl kq) ?_
  show Ogo p e below _ (T5.setTop (mkF m 18 #[.val (.int p1), .val (.int p2), .val (.int p3), .unset, .unset, .unset, .unset, .unset, .unset] [(.ref ca), (.ref ca)]))
  refine own_via (fun tq kq => XS.iconst X5.here hx rfl (hb hby at_18) kq) ?_
  show Ogo p e below _ (T5.setTop (mkF m 19 #[.val (.int p1), .val (.int p2), .val (.int p3), .unset, .unset, .unset, .unset, .unset, .unset] [(.int (2 : Int32)), (.ref ca), (.ref ca)]))
  obtain ⟨T6, X6, e6, st6⟩ := getS2 X5 hx hZ hown (host := "") (Or.inl (hw _ (List.mem_of_getElem? (i := 8) rfl))) Via.refl e5 (S2.ext O.2) (g := (mkF m 19 #[.val (.int p1), .val (.int p2), .val (.int p3), .unset, .unset, .unset, .unset, .unset, .unset] [(.int (2 : Int32)), (.ref ca), (.ref ca)])) rfl (hb hby at_19)
  refine own_via st6 ?_
  show Ogo p e below _ (T6.setTop (mkF m 22 #[.val (.int p1), .val (.int p2), .val (.int p3), .unset, .unset, .unset, .unset, .unset, .unset] [(.ref (cm 2)), (.int (2 : Int32)), (.ref ca), (.ref ca)]))
  obtain ⟨T7, h7, X7, e7, W7, A_ca', st7⟩ := own_aast X6 hx hZ e6 A_ca rfl (STO 2 (by decide)) (j := (2 : Int32)) (i := 2) (by decide) (by decide) (pc := 22) (Ls := #[.val (.int p1), .val (.int p2), .val (.int p3), .unset, .unset, .unset, .unset, .unset, .unset]) (rest := [(.ref ca)]) (hb hby at_22)
  refine own_via st7 ?_
  have STO : ∀ k, k < 15 → Sto Z h7 ca (.ref (cm k)) := fun k hk => (STO k hk).wr W7
  have zs := Nat.le_trans zs (Keep.of_wr W7).1
  have O := O.wr W7 g_ca
  have N := Fr.snoc X7 N g_ca
  have A_ca := A_ca'.cast (f' := (fun q => if q < 3 then .ref (cm q) else .null)) (fun j _ => own_pref (F := fun q => .ref (cm q)))
  show Ogo p e below _ (T7.setTop (mkF m 23 #[.val (.int p1), .val (.int p2), .val (.int p3), .unset, .unset, .unset, .unset, .unset, .unset] [(.ref ca)]))
  refine own_via (fun tq kq => XS.dup X7.here hx rfl (hb hby at_23) rfl rfl kq) ?_
  show Ogo p e below _ (T7.setTop (mkF m 24 #[.val (.int p1), .val (.int p2), .val (.int p3), .unset, .unset, .unset, .unset, .unset, .unset] [(.ref ca), (.ref ca)]))
  refine own_via (fun tq kq => XS.iconst X7.here hx rfl (hb hby at_24) kq) ?_
  show Ogo p e below _ (T7.setTop (mkF m 25 #[.val (.int p1), .val (.int p2), .val (.int p3), .unset, .unset, .unset, .unset, .unset, .unset] [(.int (3 : Int32)), (.ref ca), (.ref ca)]))
  obtain ⟨T8, X8, e8, st8⟩ := getS2 X7 hx hZ hown (host := "") (Or.inl (hw _ (List.mem_of_getElem? (i := 10) rfl))) Via.refl e7 (S3.ext O.2) (g := (mkF m 25 #[.val (.int p1), .val (.int p2), .val (.int p3), .unset, .unset, .unset, .unset, .unset, .unset] [(.int (3 : Int32)), (.ref ca), (.ref ca)])) rfl (hb hby at_25)
  refine own_via st8 ?_
  show Ogo p e below _ (T8.setTop (mkF m 28 #[.val (.int p1), .val (.int p2), .val (.int p3), .unset, .unset, .unset, .unset, .unset, .unset] [(.ref (cm 3)), (.int (3 : Int32)), (.ref ca), (.ref ca)]))
  obtain ⟨T9, h9, X9, e9, W9, A_ca', st9⟩ := own_aast X8 hx hZ e8 A_ca rfl (STO 3 (by decide)) (j := (3 : Int32)) (i := 3) (by decide) (by decide) (pc := 28) (Ls := #[.val (.int p1), .val (.int p2), .val (.int p3), .unset, .unset, .unset, .unset, .unset, .unset]) (rest := [(.ref ca)]) (hb hby at_28)
  refine own_via st9 ?_
  have STO : ∀ k, k < 15 → Sto Z h9 ca (.ref (cm k)) := fun k hk => (STO k hk).wr W9
  have zs := Nat.le_trans zs (Keep.of_wr W9).1
  have O := O.wr W9 g_ca
  have N := Fr.snoc X9 N g_ca
  have A_ca := A_ca'.cast (f' := (fun q => if q < 4 then .ref (cm q) else .null)) (fun j _ => own_pref (F := fun q => .ref (cm q)))
  show Ogo p e below _ (T9.setTop (mkF m 29 #[.val (.int p1), .val (.int p2), .val (.int p3), .unset, .unset, .unset, .unset, .unset, .unset] [(.ref ca)]))
  refine own_via (fun tq kq => XS.dup X9.here hx rfl (hb hby at_29) rfl rfl kq) ?_
  show Ogo p e below _ (T9.setTop (mkF m 30 #[.val (.int p1), .val (.int p2), .val (.int p3), .unset, .unset, .unset, .unset, .unset, .unset] [(.ref ca), (.ref ca)]))
  refine own_via (fun tq kq => XS.iconst X9.here hx rfl (hb hby at_30) kq) ?_
  show Ogo p e below _ (T9.setTop (mkF m 31 #[.val (.int p1), .val (.int p2), .val (.int p3), .unset, .unset, .unset, .unset, .unset, .unset] [(.int (4 : Int32)), (.ref ca), (.ref ca)]))
  obtain ⟨T10, X10, e10, st10⟩ := getS2 X9 hx hZ hown (host := "") (Or.inl (hw _ (List.mem_of_getElem? (i := 12) rfl))) Via.refl e9 (S4.ext O.2) (g := (mkF m 31 #[.val (.int p1), .val (.int p2), .val (.int p3), .unset, .unset, .unset, .unset, .unset, .unset] [(.int (4 : Int32)), (.ref ca), (.ref ca)])) rfl (hb hby at_31)
  refine own_via st10 ?_
  show Ogo p e below _ (T10.setTop (mkF m 34 #[.val (.int p1), .val (.int p2), .val (.int p3), .unset, .unset, .unset, .unset, .unset, .unset] [(.ref (cm 4)), (.int (4 : Int32)), (.ref ca), (.ref ca)]))
  obtain ⟨T11, h11, X11, e11, W11, A_ca', st11⟩ := own_aast X10 hx hZ e10 A_ca rfl (STO 4 (by decide)) (j := (4 : Int32)) (i := 4) (by decide) (by decide) (pc := 34) (Ls := #[.val (.int p1), .val (.int p2), .val (.int p3), .unset, .unset, .unset, .unset, .unset, .unset]) (rest := [(.ref ca)]) (hb hby at_34)
  refine own_via st11 ?_
  have STO : ∀ k, k < 15 → Sto Z h11 ca (.ref (cm k)) := fun k hk => (STO k hk).wr W11
  have zs := Nat.le_trans zs (Keep.of_wr W11).1
  have O := O.wr W11 g_ca
  have N := Fr.snoc X11 N g_ca
  have A_ca := A_ca'.cast (f' := (fun q => if q < 5 then .ref (cm q) else .null)) (fun j _ => own_pref (F := fun q => .ref (cm q)))
  show Ogo p e below _ (T11.setTop (mkF m 35 #[.val (.int p1), .val (.int p2), .val (.int p3), .unset, .unset, .unset, .unset, .unset, .unset] [(.ref ca)]))
  refine own_via (fun tq kq => XS.dup X11.here hx rfl (hb hby at_35) rfl rfl kq) ?_
  show Ogo p e below _ (T11.setTop (mkF m 36 #[.val (.int p1), .val (.int p2), .val (.int p3), .unset, .unset, .unset, .unset, .unset, .unset] [(.ref ca), (.ref ca)]))
  refine own_via (fun tq kq => XS.iconst X11.here hx rfl (hb hby at_36) kq) ?_
  show Ogo p e below _ (T11.setTop (mkF m 37 #[.val (.int p1), .val (.int p2), .val (.int p3), .unset, .unset, .unset, .unset, .unset, .unset] [(.int (5 : Int32)), (.ref ca), (.ref ca)]))
  obtain ⟨T12, X12, e12, st12⟩ := getS2 X11 hx hZ hown (host := "") (Or.inl (hw _ (List.mem_of_getElem? (i := 14) rfl))) Via.refl e11 (S5.ext O.2) (g := (mkF m 37 #[.val (.int p1), .val (.int p2), .val (.int p3), .unset, .unset, .unset, .unset, .unset, .unset] [(.int (5 : Int32)), (.ref ca), (.ref ca)])) rfl (hb hby at_37)
  refine own_via st12 ?_
  show Ogo p e below _ (T12.setTop (mkF m 40 #[.val (.int p1), .val (.int p2), .val (.int p3), .unset, .unset, .unset, .unset, .unset, .unset] [(.ref (cm 5)), (.int (5 : Int32)), (.ref ca), (.ref ca)]))
  obtain ⟨T13, h13, X13, e13, W13, A_ca', st13⟩ := own_aast X12 hx hZ e12 A_ca rfl (STO 5 (by decide)) (j := (5 : Int32)) (i := 5) (by decide) (by decide) (pc := 40) (Ls := #[.val (.int p1), .val (.int p2), .val (.int p3), .unset, .unset, .unset, .unset, .unset, .unset]) (rest := [(.ref ca)]) (hb hby at_40)
  refine own_via st13 ?_
  have STO : ∀ k, k < 15 → Sto Z h13 ca (.ref (cm k)) := fun k hk => (STO k hk).wr W13
  have zs := Nat.le_trans zs (Keep.of_wr W13).1
  have O := O.wr W13 g_ca
  have N := Fr.snoc X13 N g_ca
  have A_ca := A_ca'.cast (f' := (fun q => if q < 6 then .ref (cm q) else .null)) (fun j _ => own_pref (F := fun q => .ref (cm q)))
  show Ogo p e below _ (T13.setTop (mkF m 41 #[.val (.int p1), .val (.int p2), .val (.int p3), .unset, .unset, .unset, .unset, .unset, .unset] [(.ref ca)]))
  refine own_via (fun tq kq => XS.dup X13.here hx rfl (hb hby at_41) rfl rfl kq) ?_
  show Ogo p e below _ (T13.setTop (mkF m 42 #[.val (.int p1), .val (.int p2), .val (.int p3), .unset, .unset, .unset, .unset, .unset, .unset] [(.ref ca), (.ref ca)]))
  refine own_via (fun tq kq => XS.bipush X13.here hx rfl (hb hby at_42) kq) ?_
  show Ogo p e below _ (T13.setTop (mkF m 44 #[.val (.int p1), .val (.int p2), .val (.int p3), .unset, .unset, .unset, .unset, .unset, .unset] [(.int (6 : Int32)), (.ref ca), (.ref ca)]))
  obtain ⟨T14, X14, e14, st14⟩ := getS2 X13 hx hZ hown (host := "") (Or.inl (hw _ (List.mem_of_getElem? (i := 16) rfl))) Via.refl e13 (S6.ext O.2) (g := (mkF m 44 #[.val (.int p1), .val (.int p2), .val (.int p3), .unset, .unset, .unset, .unset, .unset, .unset] [(.int (6 : Int32)), (.ref ca), (.ref ca)])) rfl (hb hby at_44)
  refine own_via st14 ?_
  show Ogo p e below _ (T14.setTop (mkF m 47 #[.val (.int p1), .val (.int p2), .val (.int p3), .unset, .unset, .unset, .unset, .unset, .unset] [(.ref (cm 6)), (.int (6 : Int32)), (.ref ca), (.ref ca)]))
  obtain ⟨T15, h15, X15, e15, W15, A_ca', st15⟩ := own_aast X14 hx hZ e14 A_ca rfl (STO 6 (by decide)) (j := (6 : Int32)) (i := 6) (by decide) (by decide) (pc := 47) (Ls := #[.val (.int p1), .val (.int p2), .val (.int p3), .unset, .unset, .unset, .unset, .unset, .unset]) (rest := [(.ref ca)]) (hb hby at_47)
  refine own_via st15 ?_
  have STO : ∀ k, k < 15 → Sto Z h15 ca (.ref (cm k)) := fun k hk => (STO k hk).wr W15
  have zs := Nat.le_trans zs (Keep.of_wr W15).1
  have O := O.wr W15 g_ca
  have N := Fr.snoc X15 N g_ca
  have A_ca := A_ca'.cast (f' := (fun q => if q < 7 then .ref (cm q) else .null)) (fun j _ => own_pref (F := fun q => .ref (cm q)))
  show Ogo p e below _ (T15.setTop (mkF m 48 #[.val (.int p1), .val (.int p2), .val (.int p3), .unset, .unset, .unset, .unset, .unset, .unset] [(.ref ca)]))
  refine own_via (fun tq kq => XS.dup X15.here hx rfl (hb hby at_48) rfl rfl kq) ?_
  show Ogo p e below _ (T15.setTop (mkF m 49 #[.val (.int p1), .val (.int p2), .val (.int p3), .unset, .unset, .unset, .unset, .unset, .unset] [(.ref ca), (.ref ca)]))
  refine own_via (fun tq kq => XS.bipush X15.here hx rfl (hb hby at_49) kq) ?_
  show Ogo p e below _ (T15.setTop (mkF m 51 #[.val (.int p1), .val (.int p2), .val (.int p3), .unset, .unset, .unset, .unset, .unset, .unset] [(.int (7 : Int32)), (.ref ca), (.ref ca)]))
  obtain ⟨T16, X16, e16, st16⟩ := getS2 X15 hx hZ hown (host := "") (Or.inl (hw _ (List.mem_of_getElem? (i := 18) rfl))) Via.refl e15 (S7.ext O.2) (g := (mkF m 51 #[.val (.int p1), .val (.int p2), .val (.int p3), .unset, .unset, .unset, .unset, .unset, .unset] [(.int (7 : Int32)), (.ref ca), (.ref ca)])) rfl (hb hby at_51)
  refine own_via st16 ?_
  show Ogo p e below _ (T16.setTop (mkF m 54 #[.val (.int p1), .val (.int p2), .val (.int p3), .unset, .unset, .unset, .unset, .unset, .unset] [(.ref (cm 7)), (.int (7 : Int32)), (.ref ca), (.ref ca)]))
  obtain ⟨T17, h17, X17, e17, W17, A_ca', st17⟩ := own_aast X16 hx hZ e16 A_ca rfl (STO 7 (by decide)) (j := (7 : Int32)) (i := 7) (by decide) (by decide) (pc := 54) (Ls := #[.val (.int p1), .val (.int p2), .val (.int p3), .unset, .unset, .unset, .unset, .unset, .unset]) (rest := [(.ref ca)]) (hb hby at_54)
  refine own_via st17 ?_
  have STO : ∀ k, k < 15 → Sto Z h17 ca (.ref (cm k)) := fun k hk => (STO k hk).wr W17
  have zs := Nat.le_trans zs (Keep.of_wr W17).1
  have O := O.wr W17 g_ca
  have N := Fr.snoc X17 N g_ca
  have A_ca := A_ca'.cast (f' := (fun q => if q < 8 then .ref (cm q) else .null)) (fun j _ => own_pref (F := fun q => .ref (cm q)))
  show Ogo p e below _ (T17.setTop (mkF m 55 #[.val (.int p1), .val (.int p2), .val (.int p3), .unset, .unset, .unset, .unset, .unset, .unset] [(.ref ca)]))
  refine own_via (fun tq kq => XS.dup X17.here hx rfl (hb hby at_55) rfl rfl kq) ?_
  show Ogo p e below _ (T17.setTop (mkF m 56 #[.val (.int p1), .val (.int p2), .val (.int p3), .unset, .unset, .unset, .unset, .unset, .unset] [(.ref ca), (.ref ca)]))
  refine own_via (fun tq kq => XS.bipush X17.here hx rfl (hb hby at_56) kq) ?_
  show Ogo p e below _ (T17.setTop (mkF m 58 #[.val (.int p1), .val (.int p2), .val (.int p3), .unset, .unset, .unset, .unset, .unset, .unset] [(.int (8 : Int32)), (.ref ca), (.ref ca)]))
  obtain ⟨T18, X18, e18, st18⟩ := getS2 X17 hx hZ hown (host := "") (Or.inl (hw _ (List.mem_of_getElem? (i := 20) rfl))) Via.refl e17 (S8.ext O.2) (g := (mkF m 58 #[.val (.int p1), .val (.int p2), .val (.int p3), .unset, .unset, .unset, .unset, .unset, .unset] [(.int (8 : Int32)), (.ref ca), (.ref ca)])) rfl (hb hby at_58)
  refine own_via st18 ?_
  show Ogo p e below _ (T18.setTop (mkF m 61 #[.val (.int p1), .val (.int p2), .val (.int p3), .unset, .unset, .unset, .unset, .unset, .unset] [(.ref (cm 8)), (.int (8 : Int32)), (.ref ca), (.ref ca)]))
  obtain ⟨T19, h19, X19, e19, W19, A_ca', st19⟩ := own_aast X18 hx hZ e18 A_ca rfl (STO 8 (by decide)) (j := (8 : Int32)) (i := 8) (by decide) (by decide) (pc := 61) (Ls := #[.val (.int p1), .val (.int p2), .val (.int p3), .unset, .unset, .unset, .unset, .unset, .unset]) (rest := [(.ref ca)]) (hb hby at_61)
  refine own_via st19 ?_
  have STO : ∀ k, k < 15 → Sto Z h19 ca (.ref (cm k)) := fun k hk => (STO k hk).wr W19
  have zs := Nat.le_trans zs (Keep.of_wr W19).1
  have O := O.wr W19 g_ca
  have N := Fr.snoc X19 N g_ca
  have A_ca := A_ca'.cast (f' := (fun q => if q < 9 then .ref (cm q) else .null)) (fun j _ => own_pref (F := fun q => .ref (cm q)))
  show Ogo p e below _ (T19.setTop (mkF m 62 #[.val (.int p1), .val (.int p2), .val (.int p3), .unset, .unset, .unset, .unset, .unset, .unset] [(.ref ca)]))
  refine own_via (fun tq kq => XS.dup X19.here hx rfl (hb hby at_62) rfl rfl kq) ?_
  show Ogo p e below _ (T19.setTop (mkF m 63 #[.val (.int p1), .val (.int p2), .val (.int p3), .unset, .unset, .unset, .unset, .unset, .unset] [(.ref ca), (.ref ca)]))
  refine own_via (fun tq kq => XS.bipush X19.here hx rfl (hb hby at_63) kq) ?_
  show Ogo p e below _ (T19.setTop (mkF m 65 #[.val (.int p1), .val (.int p2), .val (.int p3), .unset, .unset, .unset, .unset, .unset, .unset] [(.int (9 : Int32)), (.ref ca), (.ref ca)]))
  obtain ⟨T20, X20, e20, st20⟩ := getS2 X19 hx hZ hown (host := "") (Or.inl (hw _ (List.mem_of_getElem? (i := 22) rfl))) Via.refl e19 (S9.ext O.2) (g := (mkF m 65 #[.val (.int p1), .val (.int p2), .val (.int p3), .unset, .unset, .unset, .unset, .unset, .unset] [(.int (9 : Int32)), (.ref ca), (.ref ca)])) rfl (hb hby at_65)
  refine own_via st20 ?_
  show Ogo p e below _ (T20.setTop (mkF m 68 #[.val (.int p1), .val (.int p2), .val (.int p3), .unset, .unset, .unset, .unset, .unset, .unset] [(.ref (cm 9)), (.int (9 : Int32)), (.ref ca), (.ref ca)]))
  obtain ⟨T21, h21, X21, e21, W21, A_ca', st21⟩ := own_aast X20 hx hZ e20 A_ca rfl (STO 9 (by decide)) (j := (9 : Int32)) (i := 9) (by decide) (by decide) (pc := 68) (Ls := #[.val (.int p1), .val (.int p2), .val (.int p3), .unset, .unset, .unset, .unset, .unset, .unset]) (rest := [(.ref ca)]) (hb hby at_68)
  refine own_via st21 ?_
  have STO : ∀ k, k < 15 → Sto Z h21 ca (.ref (cm k)) := fun k hk => (STO k hk).wr W21
  have zs := Nat.le_trans zs (Keep.of_wr W21).1
  have O := O.wr W21 g_ca
  have N := Fr.snoc X21 N g_ca
  have A_ca := A_ca'.cast (f' := (fun q => if q < 10 then .ref (cm q) else .null)) (fun j _ => own_pref (F := fun q => .ref (cm q)))
  show Ogo p e below _ (T21.setTop (mkF m 69 #[.val (.int p1), .val (.int p2), .val (.int p3), .unset, .unset, .unset, .unset, .unset, .unset] [(.ref ca)]))
  refine own_via (fun tq kq => XS.dup X21.here hx rfl (hb hby at_69) rfl rfl kq) ?_
  show Ogo p e below _ (T21.setTop (mkF m 70 #[.val (.int p1), .val (.int p2), .val (.int p3), .unset, .unset, .unset, .unset, .unset, .unset] [(.ref ca), (.ref ca)]))
  refine own_via (fun tq kq => XS.bipush X21.here hx rfl (hb hby at_70) kq) ?_
  show Ogo p e below _ (T21.setTop (mkF m 72 #[.val (.int p1), .val (.int p2), .val (.int p3), .unset, .unset, .unset, .unset, .unset, .unset] [(.int (10 : Int32)), (.ref ca), (.ref ca)]))
  obtain ⟨T22, X22, e22, st22⟩ := getS2 X21 hx hZ hown (host := "") (Or.inl (hw _ (List.mem_of_getElem? (i := 24) rfl))) Via.refl e21 (S10.ext O.2) (g := (mkF m 72 #[.val (.int p1), .val (.int p2), .val (.int p3), .unset, .unset, .unset, .unset, .unset, .unset] [(.int (10 : Int32)), (.ref ca), (.ref ca)])) rfl (hb hby at_72)
  refine own_via st22 ?_
  show Ogo p e below _ (T22.setTop (mkF m 75 #[.val (.int p1), .val (.int p2), .val (.int p3), .unset, .unset, .unset, .unset, .unset, .unset] [(.ref (cm 10)), (.int (10 : Int32)), (.ref ca), (.ref ca)]))
  obtain ⟨T23, h23, X23, e23, W23, A_ca', st23⟩ := own_aast X22 hx hZ e22 A_ca rfl (STO 10 (by decide)) (j := (10 : Int32)) (i := 10) (by decide) (by decide) (pc := 75) (Ls := #[.val (.int p1), .val (.int p2), .val (.int p3), .unset, .unset, .unset, .unset, .unset, .unset]) (rest := [(.ref ca)]) (hb hby at_75)
  refine own_via st23 ?_
  have STO : ∀ k, k < 15 → Sto Z h23 ca (.ref (cm k)) := fun k hk => (STO k hk).wr W23
  have zs := Nat.le_trans zs (Keep.of_wr W23).1
  have O := O.wr W23 g_ca
  have N := Fr.snoc X23 N g_ca
  have A_ca := A_ca'.cast (f' := (fun q => if q < 11 then .ref (cm q) else .null)) (fun j _ => own_pref (F := fun q => .ref (cm q)))
  show Ogo p e below _ (T23.setTop (mkF m 76 #[.val (.int p1), .val (.int p2), .val (.int p3), .unset, .unset, .unset, .unset, .unset, .unset] [(.ref ca)]))
  refine own_via (fun tq kq => XS.dup X23.here hx rfl (hb hby at_76) rfl rfl kq) ?_
  show Ogo p e below _ (T23.setTop (mkF m 77 #[.val (.int p1), .val (.int p2), .val (.int p3), .unset, .unset, .unset, .unset, .unset, .unset] [(.ref ca), (.ref ca)]))
  refine own_via (fun tq kq => XS.bipush X23.here hx rfl (hb hby at_77) kq) ?_
  show Ogo p e below _ (T23.setTop (mkF m 79 #[.val (.int p1), .val (.int p2), .val (.int p3), .unset, .unset, .unset, .unset, .unset, .unset] [(.int (11 : Int32)), (.ref ca), (.ref ca)]))
  obtain ⟨T24, X24, e24, st24⟩ := getS2 X23 hx hZ hown (host := "") (Or.inl (hw _ (List.mem_of_getElem? (i := 26) rfl))) Via.refl e23 (S11.ext O.2) (g := (mkF m 79 #[.val (.int p1), .val (.int p2), .val (.int p3), .unset, .unset, .unset, .unset, .unset, .unset] [(.int (11 : Int32)), (.ref ca), (.ref ca)])) rfl (hb hby at_79)
  refine own_via st24 ?_
  show Ogo p e below _ (T24.setTop (mkF m 82 #[.val (.int p1), .val (.int p2), .val (.int p3), .unset, .unset, .unset, .unset, .unset, .unset] [(.ref (cm 11)), (.int (11 : Int32)), (.ref ca), (.ref ca)]))
  obtain ⟨T25, h25, X25, e25, W25, A_ca', st25⟩ := own_aast X24 hx hZ e24 A_ca rfl (STO 11 (by decide)) (j := (11 : Int32)) (i := 11) (by decide) (by decide) (pc := 82) (Ls := #[.val (.int p1), .val (.int p2), .val (.int p3), .unset, .unset, .unset, .unset, .unset, .unset]) (rest := [(.ref ca)]) (hb hby at_82)
  refine own_via st25 ?_
  have STO : ∀ k, k < 15 → Sto Z h25 ca (.ref (cm k)) := fun k hk => (STO k hk).wr W25
  have zs := Nat.le_trans zs (Keep.of_wr W25).1
  have O := O.wr W25 g_ca
  have N := Fr.snoc X25 N g_ca
  have A_ca := A_ca'.cast (f' := (fun q => if q < 12 then .ref (cm q) else .null)) (fun j _ => own_pref (F := fun q => .ref (cm q)))
  show Ogo p e below _ (T25.setTop (mkF m 83 #[.val (.int p1), .val (.int p2), .val (.int p3), .unset, .unset, .unset, .unset, .unset, .unset] [(.ref ca)]))
  refine own_via (fun tq kq => XS.dup X25.here hx rfl (hb hby at_83) rfl rfl kq) ?_
  show Ogo p e below _ (T25.setTop (mkF m 84 #[.val (.int p1), .val (.int p2), .val (.int p3), .unset, .unset, .unset, .unset, .unset, .unset] [(.ref ca), (.ref ca)]))
  refine own_via (fun tq kq => XS.bipush X25.here hx rfl (hb hby at_84) kq) ?_
  show Ogo p e below _ (T25.setTop (mkF m 86 #[.val (.int p1), .val (.int p2), .val (.int p3), .unset, .unset, .unset, .unset, .unset, .unset] [(.int (12 : Int32)), (.ref ca), (.ref ca)]))
  obtain ⟨T26, X26, e26, st26⟩ := getS2 X25 hx hZ hown (host := "") (Or.inl (hw _ (List.mem_of_getElem? (i := 28) rfl))) Via.refl e25 (S12.ext O.2) (g := (mkF m 86 #[.val (.int p1), .val (.int p2), .val (.int p3), .unset, .unset, .unset, .unset, .unset, .unset] [(.int (12 : Int32)), (.ref ca), (.ref ca)])) rfl (hb hby at_86)
  refine own_via st26 ?_
  show Ogo p e below _ (T26.setTop (mkF m 89 #[.val (.int p1), .val (.int p2), .val (.int p3), .unset, .unset, .unset, .unset, .unset, .unset] [(.ref (cm 12)), (.int (12 : Int32)), (.ref ca), (.ref ca)]))
  obtain ⟨T27, h27, X27, e27, W27, A_ca', st27⟩ := own_aast X26 hx hZ e26 A_ca rfl (STO 12 (by decide)) (j := (12 : Int32)) (i := 12) (by decide) (by decide) (pc := 89) (Ls := #[.val (.int p1), .val (.int p2), .val (.int p3), .unset, .unset, .unset, .unset, .unset, .unset]) (rest := [(.ref ca)]) (hb hby at_89)
  refine own_via st27 ?_
  have STO : ∀ k, k < 15 → Sto Z h27 ca (.ref (cm k)) := fun k hk => (STO k hk).wr W27
  have zs := Nat.le_trans zs (Keep.of_wr W27).1
  have O := O.wr W27 g_ca
  have N := Fr.snoc X27 N g_ca
  have A_ca := A_ca'.cast (f' := (fun q => if q < 13 then .ref (cm q) else .null)) (fun j _ => own_pref (F := fun q => .ref (cm q)))
  show Ogo p e below _ (T27.setTop (mkF m 90 #[.val (.int p1), .val (.int p2), .val (.int p3), .unset, .unset, .unset, .unset, .unset, .unset] [(.ref ca)]))
  refine own_via (fun tq kq => XS.dup X27.here hx rfl (hb hby at_90) rfl rfl kq) ?_
  show Ogo p e below _ (T27.setTop (mkF m 91 #[.val (.int p1), .val (.int p2), .val (.int p3), .unset, .unset, .unset, .unset, .unset, .unset] [(.ref ca), (.ref ca)]))
  refine own_via (fun tq kq => XS.bipush X27.here hx rfl (hb hby at_91) kq) ?_
  show Ogo p e below _ (T27.setTop (mkF m 93 #[.val (.int p1), .val (.int p2), .val (.int p3), .unset, .unset, .unset, .unset, .unset, .unset] [(.int (13 : Int32)), (.ref ca), (.ref ca)]))
  obtain ⟨T28, X28, e28, st28⟩ := getS2 X27 hx hZ hown (host := "") (Or.inl (hw _ (List.mem_of_getElem? (i := 30) rfl))) Via.refl e27 (S13.ext O.2) (g := (mkF m 93 #[.val (.int p1), .val (.int p2), .val (.int p3), .unset, .unset, .unset, .unset, .unset, .unset] [(.int (13 : Int32)), (.ref ca), (.ref ca)])) rfl (hb hby at_93)
  refine own_via st28 ?_
  show Ogo p e below _ (T28.setTop (mkF m 96 #[.val (.int p1), .val (.int p2), .val (.int p3), .unset, .unset, .unset, .unset, .unset, .unset] [(.ref (cm 13)), (.int (13 : Int32)), (.ref ca), (.ref ca)]))
  obtain ⟨T29, h29, X29, e29, W29, A_ca', st29⟩ := own_aast X28 hx hZ e28 A_ca rfl (STO 13 (by decide)) (j := (13 : Int32)) (i := 13) (by decide) (by decide) (pc := 96) (Ls := #[.val (.int p1), .val (.int p2), .val (.int p3), .unset, .unset, .unset, .unset, .unset, .unset]) (rest := [(.ref ca)]) (hb hby at_96)
  refine own_via st29 ?_
  have STO : ∀ k, k < 15 → Sto Z h29 ca (.ref (cm k)) := fun k hk => (STO k hk).wr W29
  have zs := Nat.le_trans zs (Keep.of_wr W29).1
  have O := O.wr W29 g_ca
  have N := Fr.snoc X29 N g_ca
  have A_ca := A_ca'.cast (f' := (fun q => if q < 14 then .ref (cm q) else .null)) (fun j _ => own_pref (F := fun q => .ref (cm q)))
  show Ogo p e below _ (T29.setTop (mkF m 97 #[.val (.int p1), .val (.int p2), .val (.int p3), .unset, .unset, .unset, .unset, .unset, .unset] [(.ref ca)]))
  refine own_via (fun tq kq => XS.dup X29.here hx rfl (hb hby at_97) rfl rfl kq) ?_
  show Ogo p e below _ (T29.setTop (mkF m 98 #[.val (.int p1), .val (.int p2), .val (.int p3), .unset, .unset, .unset, .unset, .unset, .unset] [(.ref ca), (.ref ca)]))
  refine own_via (fun tq kq => XS.bipush X29.here hx rfl (hb hby at_98) kq) ?_
  show Ogo p e below _ (T29.setTop (mkF m 100 #[.val (.int p1), .val (.int p2), .val (.int p3), .unset, .unset, .unset, .unset, .unset, .unset] [(.int (14 : Int32)), (.ref ca), (.ref ca)]))
  obtain ⟨T30, X30, e30, st30⟩ := getS2 X29 hx hZ hown (host := "") (Or.inl (hw _ (List.mem_of_getElem? (i := 32) rfl))) Via.refl e29 (S14.ext O.2) (g := (mkF m 100 #[.val (.int p1), .val (.int p2), .val (.int p3), .unset, .unset, .unset, .unset, .unset, .unset] [(.int (14 : Int32)), (.ref ca), (.ref ca)])) rfl (hb hby at_100)
  refine own_via st30 ?_
  show Ogo p e below _ (T30.setTop (mkF m 103 #[.val (.int p1), .val (.int p2), .val (.int p3), .unset, .unset, .unset, .unset, .unset, .unset] [(.ref (cm 14)), (.int (14 : Int32)), (.ref ca), (.ref ca)]))
  obtain ⟨T31, h31, X31, e31, W31, A_ca', st31⟩ := own_aast X30 hx hZ e30 A_ca rfl (STO 14 (by decide)) (j := (14 : Int32)) (i := 14) (by decide) (by decide) (pc := 103) (Ls := #[.val (.int p1), .val (.int p2), .val (.int p3), .unset, .unset, .unset, .unset, .unset, .unset]) (rest := [(.ref ca)]) (hb hby at_103)
  refine own_via st31 ?_
  have STO : ∀ k, k < 15 → Sto Z h31 ca (.ref (cm k)) := fun k hk => (STO k hk).wr W31
  have zs := Nat.le_trans zs (Keep.of_wr W31).1
  have O := O.wr W31 g_ca
  have N := Fr.snoc X31 N g_ca
  have A_ca := A_ca'.cast (f' := (fun q => if q < 15 then .ref (cm q) else .null)) (fun j _ => own_pref (F := fun q => .ref (cm q)))
  show Ogo p e below _ (T31.setTop (mkF m 104 #[.val (.int p1), .val (.int p2), .val (.int p3), .unset, .unset, .unset, .unset, .unset, .unset] [(.ref ca)]))
  have A_ca := A_ca.cast (f' := fun q => .ref (cm q)) (fun j hj => if_pos hj)
  refine own_via (fun tq kq => XS.astoreN X31.here hx rfl (hb hby at_104) rfl rfl (l' := #[.val (.int p1), .val (.int p2), .val (.int p3), .val (.ref ca), .unset, .unset, .unset, .unset, .unset]) rfl kq) ?_
  show Ogo p e below _ (T31.setTop (mkF m 105 #[.val (.int p1), .val (.int p2), .val (.int p3), .val (.ref ca), .unset, .unset, .unset, .unset, .unset] []))
  refine own_via (fun tq kq => XS.bipush X31.here hx rfl (hb hby at_105) kq) ?_
  show Ogo p e below _ (T31.setTop (mkF m 107 #[.val (.int p1), .val (.int p2), .val (.int p3), .val (.ref ca), .unset, .unset, .unset, .unset, .unset] [(.int (15 : Int32))]))
  obtain ⟨T32, h32, k32, X32, e32, E32, A32, st32⟩ := newP X31 hx hZ (hw _ (List.mem_of_getElem? (i := 34) rfl)) e31 (g := (mkF m 107 #[.val (.int p1), .val (.int p2), .val (.int p3), .val (.ref ca), .unset, .unset, .unset, .unset, .unset] [(.int (15 : Int32))])) rfl (hb hby at_107) rfl (by decide) (cap := 15) (by decide) (by decide) (by decide) (by decide)
  refine own_via st32 ?_
  obtain ⟨la, g32⟩ : ∃ z, z = h31.size := ⟨_, rfl⟩
  rw [← g32]
  rw [← g32] at A32
  have lt_ca_la : ca < la := by rw [g32]; exact A_ca.lt
  have g_la : n0 ≤ la := by rw [g32]; exact zs
  have A_ca := A_ca.ext E32
  have zs := Nat.le_trans zs E32.1
  have O := O.ext E32
  have A_la : Oar Z h32 la .int 15 (fun _ => defaultValue .int) := Oar.new A32 (by decide) rfl
  show Ogo p e below _ (T32.setTop (mkF m 109 #[.val (.int p1), .val (.int p2), .val (.int p3), .val (.ref ca), .unset, .unset, .unset, .unset, .unset] [(.ref la)]))
  have A_la := A_la.cast (f' := fun q => if q < 0 then .int (own_lo q) else .int 0) (fun j _ => (if_neg (Nat.not_lt_zero j)).symm)
  refine own_via (fun tq kq => XS.dup X32.here hx rfl (hb hby at_109) rfl rfl kq) ?_
  show Ogo p e below _ (T32.setTop (mkF m 110 #[.val (.int p1), .val (.int p2), .val (.int p3), .val (.ref ca), .unset, .unset, .unset, .unset, .unset] [(.ref la), (.ref la)]))
  refine own_via (fun tq kq => XS.iconst X32.here hx rfl (hb hby at_110) kq) ?_
  show Ogo p e below _ (T32.setTop (mkF m 111 #[.val (.int p1), .val (.int p2), .val (.int p3), .val (.ref ca), .unset, .unset, .unset, .unset, .unset] [(.int (0 : Int32)), (.ref la), (.ref la)]))
  refine own_via (fun tq kq => XS.iconst X32.here hx rfl (hb hby at_111) kq) ?_
  show Ogo p e below _ (T32.setTop (mkF m 112 #[.val (.int p1), .val (.int p2), .val (.int p3), .val (.ref ca), .unset, .unset, .unset, .unset, .unset] [(.int (1 : Int32)), (.int (0 : Int32)), (.ref la), (.ref la)]))
  obtain ⟨T33, h33, X33, e33, W33, A_la', st33⟩ := own_iast X32 hx hZ e32 A_la (x := (1 : Int32)) (j := (0 : Int32)) (i := 0) (by decide) (by decide) (pc := 112) (Ls := #[.val (.int p1), .val (.int p2), .val (.int p3), .val (.ref ca), .unset, .unset, .unset, .unset, .unset]) (rest := [(.ref la)]) (hb hby at_112)
  refine own_via st33 ?_
  have A_ca := A_ca.other W33 (Nat.ne_of_lt lt_ca_la)
  have zs := Nat.le_trans zs (Keep.of_wr W33).1
  have O := O.wr W33 g_la
  have N := Fr.snoc X33 N g_la
  have A_la := A_la'.cast (f' := (fun q => if q < 1 then .int (own_lo q) else .int 0)) (fun j _ => own_pref (F := fun q => .int (own_lo q)))
  show Ogo p e below _ (T33.setTop (mkF m 113 #[.val (.int p1), .val (.int p2), .val (.int p3), .val (.ref ca), .unset, .unset, .unset, .unset, .unset] [(.ref la)]))
  refine own_via (fun tq kq => XS.dup X33.here hx rfl (hb hby at_113) rfl rfl kq) ?_
  show Ogo p e below _ (T33.setTop (mkF m 114 #[.val (.int p1), .val (.int p2), .val (.int p3), .val (.ref ca), .unset, .unset, .unset, .unset, .unset] [(.ref la), (.ref la)]))
  refine own_via (fun tq kq => XS.iconst X33.here hx rfl (hb hby at_114) kq) ?_
  show Ogo p e below _ (T33.setTop (mkF m 115 #[.val (.int p1), .val (.int p2), .val (.int p3), .val (.ref ca), .unset, .unset, .unset, .unset, .unset] [(.int (1 : Int32)), (.ref la), (.ref la)]))
  refine own_via (fun tq kq => XS.iconst X33.here hx rfl (hb hby at_115) kq) ?_
  show Ogo p e below _ (T33.setTop (mkF m 116 #[.val (.int p1), .val (.int p2), .val (.int p3), .val (.ref ca), .unset, .unset, .unset, .unset, .unset] [(.int (0 : Int32)), (.int (1 : Int32)), (.ref la), (.ref la)]))
  obtain ⟨T34, h34, X34, e34, W34, A_la', st34⟩ := own_iast X33 hx hZ e33 A_la (x := (0 : Int32)) (j := (1 : Int32)) (i := 1) (by decide) (by decide) (pc := 116) (Ls := #[.val (.int p1), .val (.int p2), .val (.int p3), .val (.ref ca), .unset, .unset, .unset, .unset, .unset]) (rest := [(.ref la)]) (hb hby at_116)
  refine own_via st34 ?_
  have A_ca := A_ca.other W34 (Nat.ne_of_lt lt_ca_la)
  have zs := Nat.le_trans zs (Keep.of_wr W34).1
  have O := O.wr W34 g_la
  have N := Fr.snoc X34 N g_la
  have A_la := A_la'.cast (f' := (fun q => if q < 2 then .int (own_lo q) else .int 0)) (fun j _ => own_pref (F := fun q => .int (own_lo q)))
  show Ogo p e below _ (T34.setTop (mkF m 117 #[.val (.int p1), .val (.int p2), .val (.int p3), .val (.ref ca), .unset, .unset, .unset, .unset, .unset] [(.ref la)]))
  refine own_via (fun tq kq => XS.dup X34.here hx rfl (hb hby at_117) rfl rfl kq) ?_
  show Ogo p e below _ (T34.setTop (mkF m 118 #[.val (.int p1), .val (.int p2), .val (.int p3), .val (.ref ca), .unset, .unset, .unset, .unset, .unset] [(.ref la), (.ref la)]))
  refine own_via (fun tq kq => XS.iconst X34.here hx rfl (hb hby at_118) kq) ?_
  show Ogo p e below _ (T34.setTop (mkF m 119 #[.val (.int p1), .val (.int p2), .val (.int p3), .val (.ref ca), .unset, .unset, .unset, .unset, .unset] [(.int (2 : Int32)), (.ref la), (.ref la)]))
  refine own_via (fun tq kq => XS.iconst X34.here hx rfl (hb hby at_119) kq) ?_
  show Ogo p e below _ (T34.setTop (mkF m 120 #[.val (.int p1), .val (.int p2), .val (.int p3), .val (.ref ca), .unset, .unset, .unset, .unset, .unset] [(.int (0 : Int32)), (.int (2 : Int32)), (.ref la), (.ref la)]))
  obtain ⟨T35, h35, X35, e35, W35, A_la', st35⟩ := own_iast X34 hx hZ e34 A_la (x := (0 : Int32)) (j := (2 : Int32)) (i := 2) (by decide) (by decide) (pc := 120) (Ls := #[.val (.int p1), .val (.int p2), .val (.int p3), .val (.ref ca), .unset, .unset, .unset, .unset, .unset]) (rest := [(.ref la)]) (hb hby at_120)
  refine own_via st35 ?_
  have A_ca := A_ca.other W35 (Nat.ne_of_lt lt_ca_la)
  have zs := Nat.le_trans zs (Keep.of_wr W35).1
  have O := O.wr W35 g_la
  have N := Fr.snoc X35 N g_la
  have A_la := A_la'.cast (f' := (fun q => if q < 3 then .int (own_lo q) else .int 0)) (fun j _ => own_pref (F := fun q => .int (own_lo q)))
  show Ogo p e below _ (T35.setTop (mkF m 121 #[.val (.int p1), .val (.int p2), .val (.int p3), .val (.ref ca), .unset, .unset, .unset, .unset, .unset] [(.ref la)]))
  refine own_via (fun tq kq => XS.dup X35.here hx rfl (hb hby at_121) rfl rfl kq) ?_
  show Ogo p e below _ (T35.setTop (mkF m 122 #[.val (.int p1), .val (.int p2), .val (.int p3), .val (.ref ca), .unset, .unset, .unset, .unset, .unset] [(.ref la), (.ref la)]))
  refine own_via (fun tq kq => XS.iconst X35.here hx rfl (hb hby at_122) kq) ?_
  show Ogo p e below _ (T35.setTop (mkF m 123 #[.val (.int p1), .val (.int p2), .val (.int p3), .val (.ref ca), .unset, .unset, .unset, .unset, .unset] [(.int (3 : Int32)), (.ref la), (.ref la)]))
  refine own_via (fun tq kq => XS.iconst X35.here hx rfl (hb hby at_123) kq) ?_
  show Ogo p e below _ (T35.setTop (mkF m 124 #[.val (.int p1), .val (.int p2), .val (.int p3), .val (.ref ca), .unset, .unset, .unset, .unset, .unset] [(.int (2 : Int32)), (.int (3 : Int32)), (.ref la), (.ref la)]))
  obtain ⟨T36, h36, X36, e36, W36, A_la', st36⟩ := own_iast X35 hx hZ e35 A_la (x := (2 : Int32)) (j := (3 : Int32)) (i := 3) (by decide) (by decide) (pc := 124) (Ls := #[.val (.int p1), .val (.int p2), .val (.int p3), .val (.ref ca), .unset, .unset, .unset, .unset, .unset]) (rest := [(.ref la)]) (hb hby at_124)
  refine own_via st36 ?_
  have A_ca := A_ca.other W36 (Nat.ne_of_lt lt_ca_la)
  have zs := Nat.le_trans zs (Keep.of_wr W36).1
  have O := O.wr W36 g_la
  have N := Fr.snoc X36 N g_la
  have A_la := A_la'.cast (f' := (fun q => if q < 4 then .int (own_lo q) else .int 0)) (fun j _ => own_pref (F := fun q => .int (own_lo q)))
  show Ogo p e below _ (T36.setTop (mkF m 125 #[.val (.int p1), .val (.int p2), .val (.int p3), .val (.ref ca), .unset, .unset, .unset, .unset, .unset] [(.ref la)]))
  refine own_via (fun tq kq => XS.dup X36.here hx rfl (hb hby at_125) rfl rfl kq) ?_
  show Ogo p e below _ (T36.setTop (mkF m 126 #[.val (.int p1), .val (.int p2), .val (.int p3), .val (.ref ca), .unset, .unset, .unset, .unset, .unset] [(.ref la), (.ref la)]))
  refine own_via (fun tq kq => XS.iconst X36.here hx rfl (hb hby at_126) kq) ?_
  show Ogo p e below _ (T36.setTop (mkF m 127 #[.val (.int p1), .val (.int p2), .val (.int p3), .val (.ref ca), .unset, .unset, .unset, .unset, .unset] [(.int (4 : Int32)), (.ref la), (.ref la)]))
  refine own_via (fun tq kq => XS.iconst X36.here hx rfl (hb hby at_127) kq) ?_
  show Ogo p e below _ (T36.setTop (mkF m 128 #[.val (.int p1), .val (.int p2), .val (.int p3), .val (.ref ca), .unset, .unset, .unset, .unset, .unset] [(.int (1 : Int32)), (.int (4 : Int32)), (.ref la), (.ref la)]))
  obtain ⟨T37, h37, X37, e37, W37, A_la', st37⟩ := own_iast X36 hx hZ e36 A_la (x := (1 : Int32)) (j := (4 : Int32)) (i := 4) (by decide) (by decide) (pc := 128) (Ls := #[.val (.int p1), .val (.int p2), .val (.int p3), .val (.ref ca), .unset, .unset, .unset, .unset, .unset]) (rest := [(.ref la)]) (hb hby at_128)
  refine own_via st37 ?_
  have A_ca := A_ca.other W37 (Nat.ne_of_lt lt_ca_la)
  have zs := Nat.le_trans zs (Keep.of_wr W37).1
  have O := O.wr W37 g_la
  have N := Fr.snoc X37 N g_la
  have A_la := A_la'.cast (f' := (fun q => if q < 5 then .int (own_lo q) else .int 0)) (fun j _ => own_pref (F := fun q => .int (own_lo q)))
  show Ogo p e below _ (T37.setTop (mkF m 129 #[.val (.int p1), .val (.int p2), .val (.int p3), .val (.ref ca), .unset, .unset, .unset, .unset, .unset] [(.ref la)]))
  refine own_via (fun tq kq => XS.dup X37.here hx rfl (hb hby at_129) rfl rfl kq) ?_
  show Ogo p e below _ (T37.setTop (mkF m 130 #[.val (.int p1), .val (.int p2), .val (.int p3), .val (.ref ca), .unset, .unset, .unset, .unset, .unset] [(.ref la), (.ref la)]))
  refine own_via (fun tq kq => XS.iconst X37.here hx rfl (hb hby at_130) kq) ?_
  show Ogo p e below _ (T37.setTop (mkF m 131 #[.val (.int p1), .val (.int p2), .val (.int p3), .val (.ref ca), .unset, .unset, .unset, .unset, .unset] [(.int (5 : Int32)), (.ref la), (.ref la)]))
  refine own_via (fun tq kq => XS.iconst X37.here hx rfl (hb hby at_131) kq) ?_
  show Ogo p e below _ (T37.setTop (mkF m 132 #[.val (.int p1), .val (.int p2), .val (.int p3), .val (.ref ca), .unset, .unset, .unset, .unset, .unset] [(.int (1 : Int32)), (.int (5 : Int32)), (.ref la), (.ref la)]))
  obtain ⟨T38, h38, X38, e38, W38, A_la', st38⟩ := own_iast X37 hx hZ e37 A_la (x := (1 : Int32)) (j := (5 : Int32)) (i := 5) (by decide) (by decide) (pc := 132) (Ls := #[.val (.int p1), .val (.int p2), .val (.int p3), .val (.ref ca), .unset, .unset, .unset, .unset, .unset]) (rest := [(.ref la)]) (hb hby at_132)
  refine own_via st38 ?_
  have A_ca := A_ca.other W38 (Nat.ne_of_lt lt_ca_la)
  have zs := Nat.le_trans zs (Keep.of_wr W38).1
  have O := O.wr W38 g_la
  have N := Fr.snoc X38 N g_la
  have A_la := A_la'.cast (f' := (fun q => if q < 6 then .int (own_lo q) else .int 0)) (fun j _ => own_pref (F := fun q => .int (own_lo q)))
  show Ogo p e below _ (T38.setTop (mkF m 133 #[.val (.int p1), .val (.int p2), .val (.int p3), .val (.ref ca), .unset, .unset, .unset, .unset, .unset] [(.ref la)]))
  refine own_via (fun tq kq => XS.dup X38.here hx rfl (hb hby at_133) rfl rfl kq) ?_
  show Ogo p e below _ (T38.setTop (mkF m 134 #[.val (.int p1), .val (.int p2), .val (.int p3), .val (.ref ca), .unset, .unset, .unset, .unset, .unset] [(.ref la), (.ref la)]))
  refine own_via (fun tq kq => XS.bipush X38.here hx rfl (hb hby at_134) kq) ?_
  show Ogo p e below _ (T38.setTop (mkF m 136 #[.val (.int p1), .val (.int p2), .val (.int p3), .val (.ref ca), .unset, .unset, .unset, .unset, .unset] [(.int (6 : Int32)), (.ref la), (.ref la)]))
  refine own_via (fun tq kq => XS.iconst X38.here hx rfl (hb hby at_136) kq) ?_
  show Ogo p e below _ (T38.setTop (mkF m 137 #[.val (.int p1), .val (.int p2), .val (.int p3), .val (.ref ca), .unset, .unset, .unset, .unset, .unset] [(.int (3 : Int32)), (.int (6 : Int32)), (.ref la), (.ref la)]))
  obtain ⟨T39, h39, X39, e39, W39, A_la', st39⟩ := own_iast X38 hx hZ e38 A_la (x := (3 : Int32)) (j := (6 : Int32)) (i := 6) (by decide) (by decide) (pc := 137) (Ls := #[.val (.int p1), .val (.int p2), .val (.int p3), .val (.ref ca), .unset, .unset, .unset, .unset, .unset]) (rest := [(.ref la)]) (hb hby at_137)
  refine own_via st39 ?_
  have A_ca := A_ca.other W39 (Nat.ne_of_lt lt_ca_la)
  have zs := Nat.le_trans zs (Keep.of_wr W39).1
  have O := O.wr W39 g_la
  have N := Fr.snoc X39 N g_la
  have A_la := A_la'.cast (f' := (fun q => if q < 7 then .int (own_lo q) else .int 0)) (fun j _ => own_pref (F := fun q => .int (own_lo q)))
  show Ogo p e below _ (T39.setTop (mkF m 138 #[.val (.int p1), .val (.int p2), .val (.int p3), .val (.ref ca), .unset, .unset, .unset, .unset, .unset] [(.ref la)]))
  refine own_via (fun tq kq => XS.dup X39.here hx rfl (hb hby at_138) rfl rfl kq) ?_
  show Ogo p e below _ (T39.setTop (mkF m 139 #[.val (.int p1), .val (.int p2), .val (.int p3), .val (.ref ca), .unset, .unset, .unset, .unset, .unset] [(.ref la), (.ref la)]))
  refine own_via (fun tq kq => XS.bipush X39.here hx rfl (hb hby at_139) kq) ?_
  show Ogo p e below _ (T39.setTop (mkF m 141 #[.val (.int p1), .val (.int p2), .val (.int p3), .val (.ref ca), .unset, .unset, .unset, .unset, .unset] [(.int (7 : Int32)), (.ref la), (.ref la)]))
  refine own_via (fun tq kq => XS.iconst X39.here hx rfl (hb hby at_141) kq) ?_
  show Ogo p e below _ (T39.setTop (mkF m 142 #[.val (.int p1), .val (.int p2), .val (.int p3), .val (.ref ca), .unset, .unset, .unset, .unset, .unset] [(.int (2 : Int32)), (.int (7 : Int32)), (.ref la), (.ref la)]))
  obtain ⟨T40, h40, X40, e40, W40, A_la', st40⟩ := own_iast X39 hx hZ e39 A_la (x := (2 : Int32)) (j := (7 : Int32)) (i := 7) (by decide) (by decide) (pc := 142) (Ls := #[.val (.int p1), .val (.int p2), .val (.int p3), .val (.ref ca), .unset, .unset, .unset, .unset, .unset]) (rest := [(.ref la)]) (hb hby at_142)
  refine own_via st40 ?_
  have A_ca := A_ca.other W40 (Nat.ne_of_lt lt_ca_la)
  have zs := Nat.le_trans zs (Keep.of_wr W40).1
  have O := O.wr W40 g_la
  have N := Fr.snoc X40 N g_la
  have A_la := A_la'.cast (f' := (fun q => if q < 8 then .int (own_lo q) else .int 0)) (fun j _ => own_pref (F := fun q => .int (own_lo q)))
  show Ogo p e below _ (T40.setTop (mkF m 143 #[.val (.int p1), .val (.int p2), .val (.int p3), .val (.ref ca), .unset, .unset, .unset, .unset, .unset] [(.ref la)]))
  refine own_via (fun tq kq => XS.dup X40.here hx rfl (hb hby at_143) rfl rfl kq) ?_
  show Ogo p e below _ (T40.setTop (mkF m 144 #[.val (.int p1), .val (.int p2), .val (.int p3), .val (.ref ca), .unset, .unset, .unset, .unset, .unset] [(.ref la), (.ref la)]))
  refine own_via (fun tq kq => XS.bipush X40.here hx rfl (hb hby at_144) kq) ?_
  show Ogo p e below _ (T40.setTop (mkF m 146 #[.val (.int p1), .val (.int p2), .val (.int p3), .val (.ref ca), .unset, .unset, .unset, .unset, .unset] [(.int (8 : Int32)), (.ref la), (.ref la)]))
  refine own_via (fun tq kq => XS.iconst X40.here hx rfl (hb hby at_146) kq) ?_
  show Ogo p e below _ (T40.setTop (mkF m 147 #[.val (.int p1), .val (.int p2), .val (.int p3), .val (.ref ca), .unset, .unset, .unset, .unset, .unset] [(.int (1 : Int32)), (.int (8 : Int32)), (.ref la), (.ref la)]))
  obtain ⟨T41, h41, X41, e41, W41, A_la', st41⟩ := own_iast X40 hx hZ e40 A_la (x := (1 : Int32)) (j := (8 : Int32)) (i := 8) (by decide) (by decide) (pc := 147) (Ls := #[.val (.int p1), .val (.int p2), .val (.int p3), .val (.ref ca), .unset, .unset, .unset, .unset, .unset]) (rest := [(.ref la)]) (hb hby at_147)
  refine own_via st41 ?_
  have A_ca := A_ca.other W41 (Nat.ne_of_lt lt_ca_la)
  have zs := Nat.le_trans zs (Keep.of_wr W41).1
  have O := O.wr W41 g_la
  have N := Fr.snoc X41 N g_la
  have A_la := A_la'.cast (f' := (fun q => if q < 9 then .int (own_lo q) else .int 0)) (fun j _ => own_pref (F := fun q => .int (own_lo q)))
  show Ogo p e below _ (T41.setTop (mkF m 148 #[.val (.int p1), .val (.int p2), .val (.int p3), .val (.ref ca), .unset, .unset, .unset, .unset, .unset] [(.ref la)]))
  refine own_via (fun tq kq => XS.dup X41.here hx rfl (hb hby at_148) rfl rfl kq) ?_
  show Ogo p e below _ (T41.setTop (mkF m 149 #[.val (.int p1), .val (.int p2), .val (.int p3), .val (.ref ca), .unset, .unset, .unset, .unset, .unset] [(.ref la), (.ref la)]))
  refine own_via (fun tq kq => XS.bipush X41.here hx rfl (hb hby at_149) kq) ?_
  show Ogo p e below _ (T41.setTop (mkF m 151 #[.val (.int p1), .val (.int p2), .val (.int p3), .val (.ref ca), .unset, .unset, .unset, .unset, .unset] [(.int (9 : Int32)), (.ref la), (.ref la)]))
  refine own_via (fun tq kq => XS.iconst X41.here hx rfl (hb hby at_151) kq) ?_
  show Ogo p e below _ (T41.setTop (mkF m 152 #[.val (.int p1), .val (.int p2), .val (.int p3), .val (.ref ca), .unset, .unset, .unset, .unset, .unset] [(.int (1 : Int32)), (.int (9 : Int32)), (.ref la), (.ref la)]))
  obtain ⟨T42, h42, X42, e42, W42, A_la', st42⟩ := own_iast X41 hx hZ e41 A_la (x := (1 : Int32)) (j := (9 : Int32)) (i := 9) (by decide) (by decide) (pc := 152) (Ls := #[.val (.int p1), .val (.int p2), .val (.int p3), .val (.ref ca), .unset, .unset, .unset, .unset, .unset]) (rest := [(.ref la)]) (hb hby at_152)
  refine own_via st42 ?_
  have A_ca := A_ca.other W42 (Nat.ne_of_lt lt_ca_la)
  have zs := Nat.le_trans zs (Keep.of_wr W42).1
  have O := O.wr W42 g_la
  have N := Fr.snoc X42 N g_la
  have A_la := A_la'.cast (f' := (fun q => if q < 10 then .int (own_lo q) else .int 0)) (fun j _ => own_pref (F := fun q => .int (own_lo q)))
  show Ogo p e below _ (T42.setTop (mkF m 153 #[.val (.int p1), .val (.int p2), .val (.int p3), .val (.ref ca), .unset, .unset, .unset, .unset, .unset] [(.ref la)]))
  refine own_via (fun tq kq => XS.dup X42.here hx rfl (hb hby at_153) rfl rfl kq) ?_
  show Ogo p e below _ (T42.setTop (mkF m 154 #[.val (.int p1), .val (.int p2), .val (.int p3), .val (.ref ca), .unset, .unset, .unset, .unset, .unset] [(.ref la), (.ref la)]))
  refine own_via (fun tq kq => XS.bipush X42.here hx rfl (hb hby at_154) kq) ?_
  show Ogo p e below _ (T42.setTop (mkF m 156 #[.val (.int p1), .val (.int p2), .val (.int p3), .val (.ref ca), .unset, .unset, .unset, .unset, .unset] [(.int (10 : Int32)), (.ref la), (.ref la)]))
  refine own_via (fun tq kq => XS.iconst X42.here hx rfl (hb hby at_156) kq) ?_
  show Ogo p e below _ (T42.setTop (mkF m 157 #[.val (.int p1), .val (.int p2), .val (.int p3), .val (.ref ca), .unset, .unset, .unset, .unset, .unset] [(.int (0 : Int32)), (.int (10 : Int32)), (.ref la), (.ref la)]))
  obtain ⟨T43, h43, X43, e43, W43, A_la', st43⟩ := own_iast X42 hx hZ e42 A_la (x := (0 : Int32)) (j := (10 : Int32)) (i := 10) (by decide) (by decide) (pc := 157) (Ls := #[.val (.int p1), .val (.int p2), .val (.int p3), .val (.ref ca), .unset, .unset, .unset, .unset, .unset]) (rest := [(.ref la)]) (hb hby at_157)
  refine own_via st43 ?_
  have A_ca := A_ca.other W43 (Nat.ne_of_lt lt_ca_la)
  have zs := Nat.le_trans zs (Keep.of_wr W43).1
  have O := O.wr W43 g_la
  have N := Fr.snoc X43 N g_la
  have A_la := A_la'.cast (f' := (fun q => if q < 11 then .int (own_lo q) else .int 0)) (fun j _ => own_pref (F := fun q => .int (own_lo q)))
  show Ogo p e below _ (T43.setTop (mkF m 158 #[.val (.int p1), .val (.int p2), .val (.int p3), .val (.ref ca), .unset, .unset, .unset, .unset, .unset] [(.ref la)]))
  refine own_via (fun tq kq => XS.dup X43.here hx rfl (hb hby at_158) rfl rfl kq) ?_
  show Ogo p e below _ (T43.setTop (mkF m 159 #[.val (.int p1), .val (.int p2), .val (.int p3), .val (.ref ca), .unset, .unset, .unset, .unset, .unset] [(.ref la), (.ref la)]))
  refine own_via (fun tq kq => XS.bipush X43.here hx rfl (hb hby at_159) kq) ?_
  show Ogo p e below _ (T43.setTop (mkF m 161 #[.val (.int p1), .val (.int p2), .val (.int p3), .val (.ref ca), .unset, .unset, .unset, .unset, .unset] [(.int (11 : Int32)), (.ref la), (.ref la)]))
  refine own_via (fun tq kq => XS.iconst X43.here hx rfl (hb hby at_161) kq) ?_
  show Ogo p e below _ (T43.setTop (mkF m 162 #[.val (.int p1), .val (.int p2), .val (.int p3), .val (.ref ca), .unset, .unset, .unset, .unset, .unset] [(.int (0 : Int32)), (.int (11 : Int32)), (.ref la), (.ref la)]))
  obtain ⟨T44, h44, X44, e44, W44, A_la', st44⟩ := own_iast X43 hx hZ e43 A_la (x := (0 : Int32)) (j := (11 : Int32)) (i := 11) (by decide) (by decide) (pc := 162) (Ls := #[.val (.int p1), .val (.int p2), .val (.int p3), .val (.ref ca), .unset, .unset, .unset, .unset, .unset]) (rest := [(.ref la)]) (hb hby at_162)
  refine own_via st44 ?_
  have A_ca := A_ca.other W44 (Nat.ne_of_lt lt_ca_la)
  have zs := Nat.le_trans zs (Keep.of_wr W44).1
  have O := O.wr W44 g_la
  have N := Fr.snoc X44 N g_la
  have A_la := A_la'.cast (f' := (fun q => if q < 12 then .int (own_lo q) else .int 0)) (fun j _ => own_pref (F := fun q => .int (own_lo q)))
  show Ogo p e below _ (T44.setTop (mkF m 163 #[.val (.int p1), .val (.int p2), .val (.int p3), .val (.ref ca), .unset, .unset, .unset, .unset, .unset] [(.ref la)]))
  refine own_via (fun tq kq => XS.dup X44.here hx rfl (hb hby at_163) rfl rfl kq) ?_
  show Ogo p e below _ (T44.setTop (mkF m 164 #[.val (.int p1), .val (.int p2), .val (.int p3), .val (.ref ca), .unset, .unset, .unset, .unset, .unset] [(.ref la), (.ref la)]))
  refine own_via (fun tq kq => XS.bipush X44.here hx rfl (hb hby at_164) kq) ?_
  show Ogo p e below _ (T44.setTop (mkF m 166 #[.val (.int p1), .val (.int p2), .val (.int p3), .val (.ref ca), .unset, .unset, .unset, .unset, .unset] [(.int (12 : Int32)), (.ref la), (.ref la)]))
  refine own_via (fun tq kq => XS.iconst X44.here hx rfl (hb hby at_166) kq) ?_
  show Ogo p e below _ (T44.setTop (mkF m 167 #[.val (.int p1), .val (.int p2), .val (.int p3), .val (.ref ca), .unset, .unset, .unset, .unset, .unset] [(.int (0 : Int32)), (.int (12 : Int32)), (.ref la), (.ref la)]))
  obtain ⟨T45, h45, X45, e45, W45, A_la', st45⟩ := own_iast X44 hx hZ e44 A_la (x := (0 : Int32)) (j := (12 : Int32)) (i := 12) (by decide) (by decide) (pc := 167) (Ls := #[.val (.int p1), .val (.int p2), .val (.int p3), .val (.ref ca), .unset, .unset, .unset, .unset, .unset]) (rest := [(.ref la)]) (hb hby at_167)
  refine own_via st45 ?_
  have A_ca := A_ca.other W45 (Nat.ne_of_lt lt_ca_la)
  have zs := Nat.le_trans zs (Keep.of_wr W45).1
  have O := O.wr W45 g_la
  have N := Fr.snoc X45 N g_la
  have A_la := A_la'.cast (f' := (fun q => if q < 13 then .int (own_lo q) else .int 0)) (fun j _ => own_pref (F := fun q => .int (own_lo q)))
  show Ogo p e below _ (T45.setTop (mkF m 168 #[.val (.int p1), .val (.int p2), .val (.int p3), .val (.ref ca), .unset, .unset, .unset, .unset, .unset] [(.ref la)]))
  refine own_via (fun tq kq => XS.dup X45.here hx rfl (hb hby at_168) rfl rfl kq) ?_
  show Ogo p e below _ (T45.setTop (mkF m 169 #[.val (.int p1), .val (.int p2), .val (.int p3), .val (.ref ca), .unset, .unset, .unset, .unset, .unset] [(.ref la), (.ref la)]))
  refine own_via (fun tq kq => XS.bipush X45.here hx rfl (hb hby at_169) kq) ?_
  show Ogo p e below _ (T45.setTop (mkF m 171 #[.val (.int p1), .val (.int p2), .val (.int p3), .val (.ref ca), .unset, .unset, .unset, .unset, .unset] [(.int (13 : Int32)), (.ref la), (.ref la)]))
  refine own_via (fun tq kq => XS.iconst X45.here hx rfl (hb hby at_171) kq) ?_
  show Ogo p e below _ (T45.setTop (mkF m 172 #[.val (.int p1), .val (.int p2), .val (.int p3), .val (.ref ca), .unset, .unset, .unset, .unset, .unset] [(.int (0 : Int32)), (.int (13 : Int32)), (.ref la), (.ref la)]))
  obtain ⟨T46, h46, X46, e46, W46, A_la', st46⟩ := own_iast X45 hx hZ e45 A_la (x := (0 : Int32)) (j := (13 : Int32)) (i := 13) (by decide) (by decide) (pc := 172) (Ls := #[.val (.int p1), .val (.int p2), .val (.int p3), .val (.ref ca), .unset, .unset, .unset, .unset, .unset]) (rest := [(.ref la)]) (hb hby at_172)
  refine own_via st46 ?_
  have A_ca := A_ca.other W46 (Nat.ne_of_lt lt_ca_la)
  have zs := Nat.le_trans zs (Keep.of_wr W46).1
  have O := O.wr W46 g_la
  have N := Fr.snoc X46 N g_la
  have A_la := A_la'.cast (f' := (fun q => if q < 14 then .int (own_lo q) else .int 0)) (fun j _ => own_pref (F := fun q => .int (own_lo q)))
  show Ogo p e below _ (T46.setTop (mkF m 173 #[.val (.int p1), .val (.int p2), .val (.int p3), .val (.ref ca), .unset, .unset, .unset, .unset, .unset] [(.ref la)]))
  refine own_via (fun tq kq => XS.dup X46.here hx rfl (hb hby at_173) rfl rfl kq) ?_
  show Ogo p e below _ (T46.setTop (mkF m 174 #[.val (.int p1), .val (.int p2), .val (.int p3), .val (.ref ca), .unset, .unset, .unset, .unset, .unset] [(.ref la), (.ref la)]))
  refine own_via (fun tq kq => XS.bipush X46.here hx rfl (hb hby at_174) kq) ?_
  show Ogo p e below _ (T46.setTop (mkF m 176 #[.val (.int p1), .val (.int p2), .val (.int p3), .val (.ref ca), .unset, .unset, .unset, .unset, .unset] [(.int (14 : Int32)), (.ref la), (.ref la)]))
  refine own_via (fun tq kq => XS.iconst X46.here hx rfl (hb hby at_176) kq) ?_
  show Ogo p e below _ (T46.setTop (mkF m 177 #[.val (.int p1), .val (.int p2), .val (.int p3), .val (.ref ca), .unset, .unset, .unset, .unset, .unset] [(.int (1 : Int32)), (.int (14 : Int32)), (.ref la), (.ref la)]))
  obtain ⟨T47, h47, X47, e47, W47, A_la', st47⟩ := own_iast X46 hx hZ e46 A_la (x := (1 : Int32)) (j := (14 : Int32)) (i := 14) (by decide) (by decide) (pc := 177) (Ls := #[.val (.int p1), .val (.int p2), .val (.int p3), .val (.ref ca), .unset, .unset, .unset, .unset, .unset]) (rest := [(.ref la)]) (hb hby at_177)
  refine own_via st47 ?_
  have A_ca := A_ca.other W47 (Nat.ne_of_lt lt_ca_la)
  have zs := Nat.le_trans zs (Keep.of_wr W47).1
  have O := O.wr W47 g_la
  have N := Fr.snoc X47 N g_la
  have A_la := A_la'.cast (f' := (fun q => if q < 15 then .int (own_lo q) else .int 0)) (fun j _ => own_pref (F := fun q => .int (own_lo q)))
  show Ogo p e below _ (T47.setTop (mkF m 178 #[.val (.int p1), .val (.int p2), .val (.int p3), .val (.ref ca), .unset, .unset, .unset, .unset, .unset] [(.ref la)]))
  have A_la := A_la.cast (f' := fun q => .int (own_lo q)) (fun j hj => if_pos hj)
  refine own_via (fun tq kq => XS.astore X47.here hx rfl (hb hby at_178) rfl rfl (l' := #[.val (.int p1), .val (.int p2), .val (.int p3), .val (.ref ca), .val (.ref la), .unset, .unset, .unset, .unset]) rfl kq) ?_
  show Ogo p e below _ (T47.setTop (mkF m 180 #[.val (.int p1), .val (.int p2), .val (.int p3), .val (.ref ca), .val (.ref la), .unset, .unset, .unset, .unset] []))
  refine own_via (fun tq kq => XS.bipush X47.here hx rfl (hb hby at_180) kq) ?_
  show Ogo p e below _ (T47.setTop (mkF m 182 #[.val (.int p1), .val (.int p2), .val (.int p3), .val (.ref ca), .val (.ref la), .unset, .unset, .unset, .unset] [(.int (15 : Int32))]))
  obtain ⟨T48, h48, k48, X48, e48, E48, A48, st48⟩ := newP X47 hx hZ (hw _ (List.mem_of_getElem? (i := 34) rfl)) e47 (g := (mkF m 182 #[.val (.int p1), .val (.int p2), .val (.int p3), .val (.ref ca), .val (.ref la), .unset, .unset, .unset, .unset] [(.int (15 : Int32))])) rfl (hb hby at_182) rfl (by decide) (cap := 15) (by decide) (by decide) (by decide) (by decide)
  refine own_via st48 ?_
  obtain ⟨ha, g48⟩ : ∃ z, z = h47.size := ⟨_, rfl⟩
  rw [← g48]
  rw [← g48] at A48
  have lt_ca_ha : ca < ha := by rw [g48]; exact A_ca.lt
  have lt_la_ha : la < ha := by rw [g48]; exact A_la.lt
  have g_ha : n0 ≤ ha := by rw [g48]; exact zs
  have A_ca := A_ca.ext E48
  have A_la := A_la.ext E48
  have zs := Nat.le_trans zs E48.1
  have O := O.ext E48
  have A_ha : Oar Z h48 ha .int 15 (fun _ => defaultValue .int) := Oar.new A48 (by decide) rfl
  show Ogo p e below _ (T48.setTop (mkF m 184 #[.val (.int p1), .val (.int p2), .val (.int p3), .val (.ref ca), .val (.ref la), .unset, .unset, .unset, .unset] [(.ref ha)]))
  have A_ha := A_ha.cast (f' := fun q => if q < 0 then .int (own_hi q) else .int 0) (fun j _ => (if_neg (Nat.not_lt_zero j)).symm)
  refine own_via (fun tq kq => XS.dup X48.here hx rfl (hb hby at_184) rfl rfl kq) ?_
  show Ogo p e below _ (T48.setTop (mkF m 185 #[.val (.int p1), .val (.int p2), .val (.int p3), .val (.ref ca), .val (.ref la), .unset, .unset, .unset, .unset] [(.ref ha), (.ref ha)]))
  refine own_via (fun tq kq => XS.iconst X48.here hx rfl (hb hby at_185) kq) ?_
  show Ogo p e below _ (T48.setTop (mkF m 186 #[.val (.int p1), .val (.int p2), .val (.int p3), .val (.ref ca), .val (.ref la), .unset, .unset, .unset, .unset] [(.int (0 : Int32)), (.ref ha), (.ref ha)]))
  refine own_via (fun tq kq => XS.iconst X48.here hx rfl (hb hby at_186) kq) ?_
  show Ogo p e below _ (T48.setTop (mkF m 187 #[.val (.int p1), .val (.int p2), .val (.int p3), .val (.ref ca), .val (.ref la), .unset, .unset, .unset, .unset] [(.int (2 : Int32)), (.int (0 : Int32)), (.ref ha), (.ref ha)]))
  obtain ⟨T49, h49, X49, e49, W49, A_ha', st49⟩ := own_iast X48 hx hZ e48 A_ha (x := (2 : Int32)) (j := (0 : Int32)) (i := 0) (by decide) (by decide) (pc := 187) (Ls := #[.val (.int p1), .val (.int p2), .val (.int p3), .val (.ref ca), .val (.ref la), .unset, .unset, .unset, .unset]) (rest := [(.ref ha)]) (hb hby at_187)
  refine own_via st49 ?_
  have A_ca := A_ca.other W49 (Nat.ne_of_lt lt_ca_ha)
  have A_la := A_la.other W49 (Nat.ne_of_lt lt_la_ha)
  have zs := Nat.le_trans zs (Keep.of_wr W49).1
  have O := O.wr W49 g_ha
  have N := Fr.snoc X49 N g_ha
  have A_ha := A_ha'.cast (f' := (fun q => if q < 1 then .int (own_hi q) else .int 0)) (fun j _ => own_pref (F := fun q => .int (own_hi q)))
  show Ogo p e below _ (T49.setTop (mkF m 188 #[.val (.int p1), .val (.int p2), .val (.int p3), .val (.ref ca), .val (.ref la), .unset, .unset, .unset, .unset] [(.ref ha)]))
  refine own_via (fun tq kq => XS.dup X49.here hx rfl (hb hby at_188) rfl rfl kq) ?_
  show Ogo p e below _ (T49.setTop (mkF m 189 #[.val (.int p1), .val (.int p2), .val (.int p3), .val (.ref ca), .val (.ref la), .unset, .unset, .unset, .unset] [(.ref ha), (.ref ha)]))
  refine own_via (fun tq kq => XS.iconst X49.here hx rfl (hb hby at_189) kq) ?_
  show Ogo p e below _ (T49.setTop (mkF m 190 #[.val (.int p1), .val (.int p2), .val (.int p3), .val (.ref ca), .val (.ref la), .unset, .unset, .unset, .unset] [(.int (1 : Int32)), (.ref ha), (.ref ha)]))
  refine own_via (fun tq kq => XS.iconst X49.here hx rfl (hb hby at_190) kq) ?_
  show Ogo p e below _ (T49.setTop (mkF m 191 #[.val (.int p1), .val (.int p2), .val (.int p3), .val (.ref ca), .val (.ref la), .unset, .unset, .unset, .unset] [(.int (1 : Int32)), (.int (1 : Int32)), (.ref ha), (.ref ha)]))
  obtain ⟨T50, h50, X50, e50, W50, A_ha', st50⟩ := own_iast X49 hx hZ e49 A_ha (x := (1 : Int32)) (j := (1 : Int32)) (i := 1) (by decide) (by decide) (pc := 191) (Ls := #[.val (.int p1), .val (.int p2), .val (.int p3), .val (.ref ca), .val (.ref la), .unset, .unset, .unset, .unset]) (rest := [(.ref ha)]) (hb hby at_191)
  refine own_via st50 ?_
  have A_ca := A_ca.other W50 (Nat.ne_of_lt lt_ca_ha)
  have A_la := A_la.other W50 (Nat.ne_of_lt lt_la_ha)
  have zs := Nat.le_trans zs (Keep.of_wr W50).1
  have O := O.wr W50 g_ha
  have N := Fr.snoc X50 N g_ha
  have A_ha := A_ha'.cast (f' := (fun q => if q < 2 then .int (own_hi q) else .int 0)) (fun j _ => own_pref (F := fun q => .int (own_hi q)))
  show Ogo p e below _ (T50.setTop (mkF m 192 #[.val (.int p1), .val (.int p2), .val (.int p3), .val (.ref ca), .val (.ref la), .unset, .unset, .unset, .unset] [(.ref ha)]))
  refine own_via (fun tq kq => XS.dup X50.here hx rfl (hb hby at_192) rfl rfl kq) ?_
  show Ogo p e below _ (T50.setTop (mkF m 193 #[.val (.int p1), .val (.int p2), .val (.int p3), .val (.ref ca), .val (.ref la), .unset, .unset, .unset, .unset] [(.ref ha), (.ref ha)]))
  refine own_via (fun tq kq => XS.iconst X50.here hx rfl (hb hby at_193) kq) ?_
  show Ogo p e below _ (T50.setTop (mkF m 194 #[.val (.int p1), .val (.int p2), .val (.int p3), .val (.ref ca), .val (.ref la), .unset, .unset, .unset, .unset] [(.int (2 : Int32)), (.ref ha), (.ref ha)]))
  refine own_via (fun tq kq => XS.iconst X50.here hx rfl (hb hby at_194) kq) ?_
  show Ogo p e below _ (T50.setTop (mkF m 195 #[.val (.int p1), .val (.int p2), .val (.int p3), .val (.ref ca), .val (.ref la), .unset, .unset, .unset, .unset] [(.int (0 : Int32)), (.int (2 : Int32)), (.ref ha), (.ref ha)]))
  obtain ⟨T51, h51, X51, e51, W51, A_ha', st51⟩ := own_iast X50 hx hZ e50 A_ha (x := (0 : Int32)) (j := (2 : Int32)) (i := 2) (by decide) (by decide) (pc := 195) (Ls := #[.val (.int p1), .val (.int p2), .val (.int p3), .val (.ref ca), .val (.ref la), .unset, .unset, .unset, .unset]) (rest := [(.ref ha)]) (hb hby at_195)
  refine own_via st51 ?_
  have A_ca := A_ca.other W51 (Nat.ne_of_lt lt_ca_ha)
  have A_la := A_la.other W51 (Nat.ne_of_lt lt_la_ha)
  have zs := Nat.le_trans zs (Keep.of_wr W51).1
  have O := O.wr W51 g_ha
  have N := Fr.snoc X51 N g_ha
  have A_ha := A_ha'.cast (f' := (fun q => if q < 3 then .int (own_hi q) else .int 0)) (fun j _ => own_pref (F := fun q => .int (own_hi q)))
  show Ogo p e below _ (T51.setTop (mkF m 196 #[.val (.int p1), .val (.int p2), .val (.int p3), .val (.ref ca), .val (.ref la), .unset, .unset, .unset, .unset] [(.ref ha)]))
  refine own_via (fun tq kq => XS.dup X51.here hx rfl (hb hby at_196) rfl rfl kq) ?_
  show Ogo p e below _ (T51.setTop (mkF m 197 #[.val (.int p1), .val (.int p2), .val (.int p3), .val (.ref ca), .val (.ref la), .unset, .unset, .unset, .unset] [(.ref ha), (.ref ha)]))
  refine own_via (fun tq kq => XS.iconst X51.here hx rfl (hb hby at_197) kq) ?_
  show Ogo p e below _ (T51.setTop (mkF m 198 #[.val (.int p1), .val (.int p2), .val (.int p3), .val (.ref ca), .val (.ref la), .unset, .unset, .unset, .unset] [(.int (3 : Int32)), (.ref ha), (.ref ha)]))
  refine own_via (fun tq kq => XS.iconst X51.here hx rfl (hb hby at_198) kq) ?_
  show Ogo p e below _ (T51.setTop (mkF m 199 #[.val (.int p1), .val (.int p2), .val (.int p3), .val (.ref ca), .val (.ref la), .unset, .unset, .unset, .unset] [(.int (2 : Int32)), (.int (3 : Int32)), (.ref ha), (.ref ha)]))
  obtain ⟨T52, h52, X52, e52, W52, A_ha', st52⟩ := own_iast X51 hx hZ e51 A_ha (x := (2 : Int32)) (j := (3 : Int32)) (i := 3) (by decide) (by decide) (pc := 199) (Ls := #[.val (.int p1), .val (.int p2), .val (.int p3), .val (.ref ca), .val (.ref la), .unset, .unset, .unset, .unset]) (rest := [(.ref ha)]) (hb hby at_199)
  refine own_via st52 ?_
  have A_ca := A_ca.other W52 (Nat.ne_of_lt lt_ca_ha)
  have A_la := A_la.other W52 (Nat.ne_of_lt lt_la_ha)
  have zs := Nat.le_trans zs (Keep.of_wr W52).1
  have O := O.wr W52 g_ha
  have N := Fr.snoc X52 N g_ha
  have A_ha := A_ha'.cast (f' := (fun q => if q < 4 then .int (own_hi q) else .int 0)) (fun j _ => own_pref (F := fun q => .int (own_hi q)))
  show Ogo p e below _ (T52.setTop (mkF m 200 #[.val (.int p1), .val (.int p2), .val (.int p3), .val (.ref ca), .val (.ref la), .unset, .unset, .unset, .unset] [(.ref ha)]))
  refine own_via (fun tq kq => XS.dup X52.here hx rfl (hb hby at_200) rfl rfl kq) ?_
  show Ogo p e below _ (T52.setTop (mkF m 201 #[.val (.int p1), .val (.int p2), .val (.int p3), .val (.ref ca), .val (.ref la), .unset, .unset, .unset, .unset] [(.ref ha), (.ref ha)]))
  refine own_via (fun tq kq => XS.iconst X52.here hx rfl (hb hby at_201) kq) ?_
  show Ogo p e below _ (T52.setTop (mkF m 202 #[.val (.int p1), .val (.int p2), .val (.int p3), .val (.ref ca), .val (.ref la), .unset, .unset, .unset, .unset] [(.int (4 : Int32)), (.ref ha), (.ref ha)]))
  refine own_via (fun tq kq => XS.iconst X52.here hx rfl (hb hby at_202) kq) ?_
  show Ogo p e below _ (T52.setTop (mkF m 203 #[.val (.int p1), .val (.int p2), .val (.int p3), .val (.ref ca), .val (.ref la), .unset, .unset, .unset, .unset] [(.int (1 : Int32)), (.int (4 : Int32)), (.ref ha), (.ref ha)]))
  obtain ⟨T53, h53, X53, e53, W53, A_ha', st53⟩ := own_iast X52 hx hZ e52 A_ha (x := (1 : Int32)) (j := (4 : Int32)) (i := 4) (by decide) (by decide) (pc := 203) (Ls := #[.val (.int p1), .val (.int p2), .val (.int p3), .val (.ref ca), .val (.ref la), .unset, .unset, .unset, .unset]) (rest := [(.ref ha)]) (hb hby at_203)
  refine own_via st53 ?_
  have A_ca := A_ca.other W53 (Nat.ne_of_lt lt_ca_ha)
  have A_la := A_la.other W53 (Nat.ne_of_lt lt_la_ha)
  have zs := Nat.le_trans zs (Keep.of_wr W53).1
  have O := O.wr W53 g_ha
  have N := Fr.snoc X53 N g_ha
  have A_ha := A_ha'.cast (f' := (fun q => if q < 5 then .int (own_hi q) else .int 0)) (fun j _ => own_pref (F := fun q => .int (own_hi q)))
  show Ogo p e below _ (T53.setTop (mkF m 204 #[.val (.int p1), .val (.int p2), .val (.int p3), .val (.ref ca), .val (.ref la), .unset, .unset, .unset, .unset] [(.ref ha)]))
  refine own_via (fun tq kq => XS.dup X53.here hx rfl (hb hby at_204) rfl rfl kq) ?_
  show Ogo p e below _ (T53.setTop (mkF m 205 #[.val (.int p1), .val (.int p2), .val (.int p3), .val (.ref ca), .val (.ref la), .unset, .unset, .unset, .unset] [(.ref ha), (.ref ha)]))
  refine own_via (fun tq kq => XS.iconst X53.here hx rfl (hb hby at_205) kq) ?_
  show Ogo p e below _ (T53.setTop (mkF m 206 #[.val (.int p1), .val (.int p2), .val (.int p3), .val (.ref ca), .val (.ref la), .unset, .unset, .unset, .unset] [(.int (5 : Int32)), (.ref ha), (.ref ha)]))
  refine own_via (fun tq kq => XS.iconst X53.here hx rfl (hb hby at_206) kq) ?_
  show Ogo p e below _ (T53.setTop (mkF m 207 #[.val (.int p1), .val (.int p2), .val (.int p3), .val (.ref ca), .val (.ref la), .unset, .unset, .unset, .unset] [(.int (1 : Int32)), (.int (5 : Int32)), (.ref ha), (.ref ha)]))
  obtain ⟨T54, h54, X54, e54, W54, A_ha', st54⟩ := own_iast X53 hx hZ e53 A_ha (x := (1 : Int32)) (j := (5 : Int32)) (i := 5) (by decide) (by decide) (pc := 207) (Ls := #[.val (.int p1), .val (.int p2), .val (.int p3), .val (.ref ca), .val (.ref la), .unset, .unset, .unset, .unset]) (rest := [(.ref ha)]) (hb hby at_207)
  refine own_via st54 ?_
  have A_ca := A_ca.other W54 (Nat.ne_of_lt lt_ca_ha)
  have A_la := A_la.other W54 (Nat.ne_of_lt lt_la_ha)
  have zs := Nat.le_trans zs (Keep.of_wr W54).1
  have O := O.wr W54 g_ha
  have N := Fr.snoc X54 N g_ha
  have A_ha := A_ha'.cast (f' := (fun q => if q < 6 then .int (own_hi q) else .int 0)) (fun j _ => own_pref (F := fun q => .int (own_hi q)))
  show Ogo p e below _ (T54.setTop (mkF m 208 #[.val (.int p1), .val (.int p2), .val (.int p3), .val (.ref ca), .val (.ref la), .unset, .unset, .unset, .unset] [(.ref ha)]))
  refine own_via (fun tq kq => XS.dup X54.here hx rfl (hb hby at_208) rfl rfl kq) ?_
  show Ogo p e below _ (T54.setTop (mkF m 209 #[.val (.int p1), .val (.int p2), .val (.int p3), .val (.ref ca), .val (.ref la), .unset, .unset, .unset, .unset] [(.ref ha), (.ref ha)]))
  refine own_via (fun tq kq => XS.bipush X54.here hx rfl (hb hby at_209) kq) ?_
  show Ogo p e below _ (T54.setTop (mkF m 211 #[.val (.int p1), .val (.int p2), .val (.int p3), .val (.ref ca), .val (.ref la), .unset, .unset, .unset, .unset] [(.int (6 : Int32)), (.ref ha), (.ref ha)]))
  refine own_via (fun tq kq => XS.iconst X54.here hx rfl (hb hby at_211) kq) ?_
  show Ogo p e below _ (T54.setTop (mkF m 212 #[.val (.int p1), .val (.int p2), .val (.int p3), .val (.ref ca), .val (.ref la), .unset, .unset, .unset, .unset] [(.int (3 : Int32)), (.int (6 : Int32)), (.ref ha), (.ref ha)]))
  obtain ⟨T55, h55, X55, e55, W55, A_ha', st55⟩ := own_iast X54 hx hZ e54 A_ha (x := (3 : Int32)) (j := (6 : Int32)) (i := 6) (by decide) (by decide) (pc := 212) (Ls := #[.val (.int p1), .val (.int p2), .val (.int p3), .val (.ref ca), .val (.ref la), .unset, .unset, .unset, .unset]) (rest := [(.ref ha)]) (hb hby at_212)
  refine own_via st55 ?_
  have A_ca := A_ca.other W55 (Nat.ne_of_lt lt_ca_ha)
  have A_la := A_la.other W55 (Nat.ne_of_lt lt_la_ha)
  have zs := Nat.le_trans zs (Keep.of_wr W55).1
  have O := O.wr W55 g_ha
  have N := Fr.snoc X55 N g_ha
  have A_ha := A_ha'.cast (f' := (fun q => if q < 7 then .int (own_hi q) else .int 0)) (fun j _ => own_pref (F := fun q => .int (own_hi q)))
  show Ogo p e below _ (T55.setTop (mkF m 213 #[.val (.int p1), .val (.int p2), .val (.int p3), .val (.ref ca), .val (.ref la), .unset, .unset, .unset, .unset] [(.ref ha)]))
  refine own_via (fun tq kq => XS.dup X55.here hx rfl (hb hby at_213) rfl rfl kq) ?_
  show Ogo p e below _ (T55.setTop (mkF m 214 #[.val (.int p1), .val (.int p2), .val (.int p3), .val (.ref ca), .val (.ref la), .unset, .unset, .unset, .unset] [(.ref ha), (.ref ha)]))
  refine own_via (fun tq kq => XS.bipush X55.here hx rfl (hb hby at_214) kq) ?_
  show Ogo p e below _ (T55.setTop (mkF m 216 #[.val (.int p1), .val (.int p2), .val (.int p3), .val (.ref ca), .val (.ref la), .unset, .unset, .unset, .unset] [(.int (7 : Int32)), (.ref ha), (.ref ha)]))
  refine own_via (fun tq kq => XS.iconst X55.here hx rfl (hb hby at_216) kq) ?_
  show Ogo p e below _ (T55.setTop (mkF m 217 #[.val (.int p1), .val (.int p2), .val (.int p3), .val (.ref ca), .val (.ref la), .unset, .unset, .unset, .unset] [(.int (2 : Int32)), (.int (7 : Int32)), (.ref ha), (.ref ha)]))
  obtain ⟨T56, h56, X56, e56, W56, A_ha', st56⟩ := own_iast X55 hx hZ e55 A_ha (x := (2 : Int32)) (j := (7 : Int32)) (i := 7) (by decide) (by decide) (pc := 217) (Ls := #[.val (.int p1), .val (.int p2), .val (.int p3), .val (.ref ca), .val (.ref la), .unset, .unset, .unset, .unset]) (rest := [(.ref ha)]) (hb hby at_217)
  refine own_via st56 ?_
  have A_ca := A_ca.other W56 (Nat.ne_of_lt lt_ca_ha)
  have A_la := A_la.other W56 (Nat.ne_of_lt lt_la_ha)
  have zs := Nat.le_trans zs (Keep.of_wr W56).1
  have O := O.wr W56 g_ha
  have N := Fr.snoc X56 N g_ha
  have A_ha := A_ha'.cast (f' := (fun q => if q < 8 then .int (own_hi q) else .int 0)) (fun j _ => own_pref (F := fun q => .int (own_hi q)))
  show Ogo p e below _ (T56.setTop (mkF m 218 #[.val (.int p1), .val (.int p2), .val (.int p3), .val (.ref ca), .val (.ref la), .unset, .unset, .unset, .unset] [(.ref ha)]))
  refine own_via (fun tq kq => XS.dup X56.here hx rfl (hb hby at_218) rfl rfl kq) ?_
  show Ogo p e below _ (T56.setTop (mkF m 219 #[.val (.int p1), .val (.int p2), .val (.int p3), .val (.ref ca), .val (.ref la), .unset, .unset, .unset, .unset] [(.ref ha), (.ref ha)]))
  refine own_via (fun tq kq => XS.bipush X56.here hx rfl (hb hby at_219) kq) ?_
  show Ogo p e below _ (T56.setTop (mkF m 221 #[.val (.int p1), .val (.int p2), .val (.int p3), .val (.ref ca), .val (.ref la), .unset, .unset, .unset, .unset] [(.int (8 : Int32)), (.ref ha), (.ref ha)]))
  refine own_via (fun tq kq => XS.iconst X56.here hx rfl (hb hby at_221) kq) ?_
  show Ogo p e below _ (T56.setTop (mkF m 222 #[.val (.int p1), .val (.int p2), .val (.int p3), .val (.ref ca), .val (.ref la), .unset, .unset, .unset, .unset] [(.int (2 : Int32)), (.int (8 : Int32)), (.ref ha), (.ref ha)]))
  obtain ⟨T57, h57, X57, e57, W57, A_ha', st57⟩ := own_iast X56 hx hZ e56 A_ha (x := (2 : Int32)) (j := (8 : Int32)) (i := 8) (by decide) (by decide) (pc := 222) (Ls := #[.val (.int p1), .val (.int p2), .val (.int p3), .val (.ref ca), .val (.ref la), .unset, .unset, .unset, .unset]) (rest := [(.ref ha)]) (hb hby at_222)
  refine own_via st57 ?_
  have A_ca := A_ca.other W57 (Nat.ne_of_lt lt_ca_ha)
  have A_la := A_la.other W57 (Nat.ne_of_lt lt_la_ha)
  have zs := Nat.le_trans zs (Keep.of_wr W57).1
  have O := O.wr W57 g_ha
  have N := Fr.snoc X57 N g_ha
  have A_ha := A_ha'.cast (f' := (fun q => if q < 9 then .int (own_hi q) else .int 0)) (fun j _ => own_pref (F := fun q => .int (own_hi q)))
  show Ogo p e below _ (T57.setTop (mkF m 223 #[.val (.int p1), .val (.int p2), .val (.int p3), .val (.ref ca), .val (.ref la), .unset, .unset, .unset, .unset] [(.ref ha)]))
  refine own_via (fun tq kq => XS.dup X57.here hx rfl (hb hby at_223) rfl rfl kq) ?_
  show Ogo p e below _ (T57.setTop (mkF m 224 #[.val (.int p1), .val (.int p2), .val (.int p3), .val (.ref ca), .val (.ref la), .unset, .unset, .unset, .unset] [(.ref ha), (.ref ha)]))
  refine own_via (fun tq kq => XS.bipush X57.here hx rfl (hb hby at_224) kq) ?_
  show Ogo p e below _ (T57.setTop (mkF m 226 #[.val (.int p1), .val (.int p2), .val (.int p3), .val (.ref ca), .val (.ref la), .unset, .unset, .unset, .unset] [(.int (9 : Int32)), (.ref ha), (.ref ha)]))
  refine own_via (fun tq kq => XS.iconst X57.here hx rfl (hb hby at_226) kq) ?_
  show Ogo p e below _ (T57.setTop (mkF m 227 #[.val (.int p1), .val (.int p2), .val (.int p3), .val (.ref ca), .val (.ref la), .unset, .unset, .unset, .unset] [(.int (1 : Int32)), (.int (9 : Int32)), (.ref ha), (.ref ha)]))
  obtain ⟨T58, h58, X58, e58, W58, A_ha', st58⟩ := own_iast X57 hx hZ e57 A_ha (x := (1 : Int32)) (j := (9 : Int32)) (i := 9) (by decide) (by decide) (pc := 227) (Ls := #[.val (.int p1), .val (.int p2), .val (.int p3), .val (.ref ca), .val (.ref la), .unset, .unset, .unset, .unset]) (rest := [(.ref ha)]) (hb hby at_227)
  refine own_via st58 ?_
  have A_ca := A_ca.other W58 (Nat.ne_of_lt lt_ca_ha)
  have A_la := A_la.other W58 (Nat.ne_of_lt lt_la_ha)
  have zs := Nat.le_trans zs (Keep.of_wr W58).1
  have O := O.wr W58 g_ha
  have N := Fr.snoc X58 N g_ha
  have A_ha := A_ha'.cast (f' := (fun q => if q < 10 then .int (own_hi q) else .int 0)) (fun j _ => own_pref (F := fun q => .int (own_hi q)))
  show Ogo p e below _ (T58.setTop (mkF m 228 #[.val (.int p1), .val (.int p2), .val (.int p3), .val (.ref ca), .val (.ref la), .unset, .unset, .unset, .unset] [(.ref ha)]))
  refine own_via (fun tq kq => XS.dup X58.here hx rfl (hb hby at_228) rfl rfl kq) ?_
  show Ogo p e below _ (T58.setTop (mkF m 229 #[.val (.int p1), .val (.int p2), .val (.int p3), .val (.ref ca), .val (.ref la), .unset, .unset, .unset, .unset] [(.ref ha), (.ref ha)]))
  refine own_via (fun tq kq => XS.bipush X58.here hx rfl (hb hby at_229) kq) ?_
  show Ogo p e below _ (T58.setTop (mkF m 231 #[.val (.int p1), .val (.int p2), .val (.int p3), .val (.ref ca), .val (.ref la), .unset, .unset, .unset, .unset] [(.int (10 : Int32)), (.ref ha), (.ref ha)]))
  refine own_via (fun tq kq => XS.iconst X58.here hx rfl (hb hby at_231) kq) ?_
  show Ogo p e below _ (T58.setTop (mkF m 232 #[.val (.int p1), .val (.int p2), .val (.int p3), .val (.ref ca), .val (.ref la), .unset, .unset, .unset, .unset] [(.int (0 : Int32)), (.int (10 : Int32)), (.ref ha), (.ref ha)]))
  obtain ⟨T59, h59, X59, e59, W59, A_ha', st59⟩ := own_iast X58 hx hZ e58 A_ha (x := (0 : Int32)) (j := (10 : Int32)) (i := 10) (by decide) (by decide) (pc := 232) (Ls := #[.val (.int p1), .val (.int p2), .val (.int p3), .val (.ref ca), .val (.ref la), .unset, .unset, .unset, .unset]) (rest := [(.ref ha)]) (hb hby at_232)
  refine own_via st59 ?_
  have A_ca := A_ca.other W59 (Nat.ne_of_lt lt_ca_ha)
  have A_la := A_la.other W59 (Nat.ne_of_lt lt_la_ha)
  have zs := Nat.le_trans zs (Keep.of_wr W59).1
  have O := O.wr W59 g_ha
  have N := Fr.snoc X59 N g_ha
  have A_ha := A_ha'.cast (f' := (fun q => if q < 11 then .int (own_hi q) else .int 0)) (fun j _ => own_pref (F := fun q => .int (own_hi q)))
  show Ogo p e below _ (T59.setTop (mkF m 233 #[.val (.int p1), .val (.int p2), .val (.int p3), .val (.ref ca), .val (.ref la), .unset, .unset, .unset, .unset] [(.ref ha)]))
  refine own_via (fun tq kq => XS.dup X59.here hx rfl (hb hby at_233) rfl rfl kq) ?_
  show Ogo p e below _ (T59.setTop (mkF m 234 #[.val (.int p1), .val (.int p2), .val (.int p3), .val (.ref ca), .val (.ref la), .unset, .unset, .unset, .unset] [(.ref ha), (.ref ha)]))
  refine own_via (fun tq kq => XS.bipush X59.here hx rfl (hb hby at_234) kq) ?_
  show Ogo p e below _ (T59.setTop (mkF m 236 #[.val (.int p1), .val (.int p2), .val (.int p3), .val (.ref ca), .val (.ref la), .unset, .unset, .unset, .unset] [(.int (11 : Int32)), (.ref ha), (.ref ha)]))
  refine own_via (fun tq kq => XS.iconst X59.here hx rfl (hb hby at_236) kq) ?_
  show Ogo p e below _ (T59.setTop (mkF m 237 #[.val (.int p1), .val (.int p2), .val (.int p3), .val (.ref ca), .val (.ref la), .unset, .unset, .unset, .unset] [(.int (0 : Int32)), (.int (11 : Int32)), (.ref ha), (.ref ha)]))
  obtain ⟨T60, h60, X60, e60, W60, A_ha', st60⟩ := own_iast X59 hx hZ e59 A_ha (x := (0 : Int32)) (j := (11 : Int32)) (i := 11) (by decide) (by decide) (pc := 237) (Ls := #[.val (.int p1), .val (.int p2), .val (.int p3), .val (.ref ca), .val (.ref la), .unset, .unset, .unset, .unset]) (rest := [(.ref ha)]) (hb hby at_237)
  refine own_via st60 ?_
  have A_ca := A_ca.other W60 (Nat.ne_of_lt lt_ca_ha)
  have A_la := A_la.other W60 (Nat.ne_of_lt lt_la_ha)
  have zs := Nat.le_trans zs (Keep.of_wr W60).1
  have O := O.wr W60 g_ha
  have N := Fr.snoc X60 N g_ha
  have A_ha := A_ha'.cast (f' := (fun q => if q < 12 then .int (own_hi q) else .int 0)) (fun j _ => own_pref (F := fun q => .int (own_hi q)))
  show Ogo p e below _ (T60.setTop (mkF m 238 #[.val (.int p1), .val (.int p2), .val (.int p3), .val (.ref ca), .val (.ref la), .unset, .unset, .unset, .unset] [(.ref ha)]))
  refine own_via (fun tq kq => XS.dup X60.here hx rfl (hb hby at_238) rfl rfl kq) ?_
  show Ogo p e below _ (T60.setTop (mkF m 239 #[.val (.int p1), .val (.int p2), .val (.int p3), .val (.ref ca), .val (.ref la), .unset, .unset, .unset, .unset] [(.ref ha), (.ref ha)]))
  refine own_via (fun tq kq => XS.bipush X60.here hx rfl (hb hby at_239) kq) ?_
  show Ogo p e below _ (T60.setTop (mkF m 241 #[.val (.int p1), .val (.int p2), .val (.int p3), .val (.ref ca), .val (.ref la), .unset, .unset, .unset, .unset] [(.int (12 : Int32)), (.ref ha), (.ref ha)]))
  refine own_via (fun tq kq => XS.iconst X60.here hx rfl (hb hby at_241) kq) ?_
  show Ogo p e below _ (T60.setTop (mkF m 242 #[.val (.int p1), .val (.int p2), .val (.int p3), .val (.ref ca), .val (.ref la), .unset, .unset, .unset, .unset] [(.int (0 : Int32)), (.int (12 : Int32)), (.ref ha), (.ref ha)]))
  obtain ⟨T61, h61, X61, e61, W61, A_ha', st61⟩ := own_iast X60 hx hZ e60 A_ha (x := (0 : Int32)) (j := (12 : Int32)) (i := 12) (by decide) (by decide) (pc := 242) (Ls := #[.val (.int p1), .val (.int p2), .val (.int p3), .val (.ref ca), .val (.ref la), .unset, .unset, .unset, .unset]) (rest := [(.ref ha)]) (hb hby at_242)
  refine own_via st61 ?_
  have A_ca := A_ca.other W61 (Nat.ne_of_lt lt_ca_ha)
  have A_la := A_la.other W61 (Nat.ne_of_lt lt_la_ha)
  have zs := Nat.le_trans zs (Keep.of_wr W61).1
  have O := O.wr W61 g_ha
  have N := Fr.snoc X61 N g_ha
  have A_ha := A_ha'.cast (f' := (fun q => if q < 13 then .int (own_hi q) else .int 0)) (fun j _ => own_pref (F := fun q => .int (own_hi q)))
  show Ogo p e below _ (T61.setTop (mkF m 243 #[.val (.int p1), .val (.int p2), .val (.int p3), .val (.ref ca), .val (.ref la), .unset, .unset, .unset, .unset] [(.ref ha)]))
  refine own_via (fun tq kq => XS.dup X61.here hx rfl (hb hby at_243) rfl rfl kq) ?_
  show Ogo p e below _ (T61.setTop (mkF m 244 #[.val (.int p1), .val (.int p2), .val (.int p3), .val (.ref ca), .val (.ref la), .unset, .unset, .unset, .unset] [(.ref ha), (.ref ha)]))
  refine own_via (fun tq kq => XS.bipush X61.here hx rfl (hb hby at_244) kq) ?_
  show Ogo p e below _ (T61.setTop (mkF m 246 #[.val (.int p1), .val (.int p2), .val (.int p3), .val (.ref ca), .val (.ref la), .unset, .unset, .unset, .unset] [(.int (13 : Int32)), (.ref ha), (.ref ha)]))
  refine own_via (fun tq kq => XS.iconst X61.here hx rfl (hb hby at_246) kq) ?_
  show Ogo p e below _ (T61.setTop (mkF m 247 #[.val (.int p1), .val (.int p2), .val (.int p3), .val (.ref ca), .val (.ref la), .unset, .unset, .unset, .unset] [(.int (2 : Int32)), (.int (13 : Int32)), (.ref ha), (.ref ha)]))
  obtain ⟨T62, h62, X62, e62, W62, A_ha', st62⟩ := own_iast X61 hx hZ e61 A_ha (x := (2 : Int32)) (j := (13 : Int32)) (i := 13) (by decide) (by decide) (pc := 247) (Ls := #[.val (.int p1), .val (.int p2), .val (.int p3), .val (.ref ca), .val (.ref la), .unset, .unset, .unset, .unset]) (rest := [(.ref ha)]) (hb hby at_247)
  refine own_via st62 ?_
  have A_ca := A_ca.other W62 (Nat.ne_of_lt lt_ca_ha)
  have A_la := A_la.other W62 (Nat.ne_of_lt lt_la_ha)
  have zs := Nat.le_trans zs (Keep.of_wr W62).1
  have O := O.wr W62 g_ha
  have N := Fr.snoc X62 N g_ha
  have A_ha := A_ha'.cast (f' := (fun q => if q < 14 then .int (own_hi q) else .int 0)) (fun j _ => own_pref (F := fun q => .int (own_hi q)))
  show Ogo p e below _ (T62.setTop (mkF m 248 #[.val (.int p1), .val (.int p2), .val (.int p3), .val (.ref ca), .val (.ref la), .unset, .unset, .unset, .unset] [(.ref ha)]))
  refine own_via (fun tq kq => XS.dup X62.here hx rfl (hb hby at_248) rfl rfl kq) ?_
  show Ogo p e below _ (T62.setTop (mkF m 249 #[.val (.int p1), .val (.int p2), .val (.int p3), .val (.ref ca), .val (.ref la), .unset, .unset, .unset, .unset] [(.ref ha), (.ref ha)]))
  refine own_via (fun tq kq => XS.bipush X62.here hx rfl (hb hby at_249) kq) ?_
  show Ogo p e below _ (T62.setTop (mkF m 251 #[.val (.int p1), .val (.int p2), .val (.int p3), .val (.ref ca), .val (.ref la), .unset, .unset, .unset, .unset] [(.int (14 : Int32)), (.ref ha), (.ref ha)]))
  refine own_via (fun tq kq => XS.iconst X62.here hx rfl (hb hby at_251) kq) ?_
  show Ogo p e below _ (T62.setTop (mkF m 252 #[.val (.int p1), .val (.int p2), .val (.int p3), .val (.ref ca), .val (.ref la), .unset, .unset, .unset, .unset] [(.int (1 : Int32)), (.int (14 : Int32)), (.ref ha), (.ref ha)]))
  obtain ⟨T63, h63, X63, e63, W63, A_ha', st63⟩ := own_iast X62 hx hZ e62 A_ha (x := (1 : Int32)) (j := (14 : Int32)) (i := 14) (by decide) (by decide) (pc := 252) (Ls := #[.val (.int p1), .val (.int p2), .val (.int p3), .val (.ref ca), .val (.ref la), .unset, .unset, .unset, .unset]) (rest := [(.ref ha)]) (hb hby at_252)
  refine own_via st63 ?_
  have A_ca := A_ca.other W63 (Nat.ne_of_lt lt_ca_ha)
  have A_la := A_la.other W63 (Nat.ne_of_lt lt_la_ha)
  have zs := Nat.le_trans zs (Keep.of_wr W63).1
  have O := O.wr W63 g_ha
  have N := Fr.snoc X63 N g_ha
  have A_ha := A_ha'.cast (f' := (fun q => if q < 15 then .int (own_hi q) else .int 0)) (fun j _ => own_pref (F := fun q => .int (own_hi q)))
  show Ogo p e below _ (T63.setTop (mkF m 253 #[.val (.int p1), .val (.int p2), .val (.int p3), .val (.ref ca), .val (.ref la), .unset, .unset, .unset, .unset] [(.ref ha)]))
  have A_ha := A_ha.cast (f' := fun q => .int (own_hi q)) (fun j hj => if_pos hj)
  refine own_via (fun tq kq => XS.astore X63.here hx rfl (hb hby at_253) rfl rfl (l' := #[.val (.int p1), .val (.int p2), .val (.int p3), .val (.ref ca), .val (.ref la), .val (.ref ha), .unset, .unset, .unset]) rfl kq) ?_
  show Ogo p e below _ (T63.setTop (mkF m 255 #[.val (.int p1), .val (.int p2), .val (.int p3), .val (.ref ca), .val (.ref la), .val (.ref ha), .unset, .unset, .unset] []))
  refine own_via (fun tq kq => XS.iloadN X63.here hx rfl (hb hby at_255) rfl kq) ?_
  show Ogo p e below _ (T63.setTop (mkF m 256 #[.val (.int p1), .val (.int p2), .val (.int p3), .val (.ref ca), .val (.ref la), .val (.ref ha), .unset, .unset, .unset] [(.int p1)]))
  refine own_via (fun tq kq => X63.ldcInt hx hown (mvT hZ (hw _ (List.mem_of_getElem? (i := 35) rfl))) (g := (mkF m 256 #[.val (.int p1), .val (.int p2), .val (.int p3), .val (.ref ca), .val (.ref la), .val (.ref ha), .unset, .unset, .unset] [(.int p1)])) rfl (hb hby at_256) _ kq) ?_
  show Ogo p e below _ (T63.setTop (mkF m 258 #[.val (.int p1), .val (.int p2), .val (.int p3), .val (.ref ca), .val (.ref la), .val (.ref ha), .unset, .unset, .unset] [(.int (2147483647 : Int32)), (.int p1)]))
  refine own_via (fun tq kq => XS.iand X63.here hx rfl (hb hby at_258) rfl kq) ?_
  show Ogo p e below _ (T63.setTop (mkF m 259 #[.val (.int p1), .val (.int p2), .val (.int p3), .val (.ref ca), .val (.ref la), .val (.ref ha), .unset, .unset, .unset] [(.int (p1 &&& (2147483647 : Int32)))]))
  refine own_via (fun tq kq => XS.bipush X63.here hx rfl (hb hby at_259) kq) ?_
  show Ogo p e below _ (T63.setTop (mkF m 261 #[.val (.int p1), .val (.int p2), .val (.int p3), .val (.ref ca), .val (.ref la), .val (.ref ha), .unset, .unset, .unset] [(.int (15 : Int32)), (.int (p1 &&& (2147483647 : Int32)))]))
  refine own_via (fun tq kq => iremM X63 hx rfl (hb hby at_261) rfl (by decide) kq) ?_
  show Ogo p e below _ (T63.setTop (mkF m 262 #[.val (.int p1), .val (.int p2), .val (.int p3), .val (.ref ca), .val (.ref la), .val (.ref ha), .unset, .unset, .unset] [(.int ((p1 &&& (2147483647 : Int32)) % (15 : Int32)))]))
  obtain ⟨kk, hkk⟩ : ∃ z, z = ((p1 &&& (2147483647 : Int32)) % (15 : Int32)) := ⟨_, rfl⟩
  rw [← hkk]
  show Ogo p e below _ (T63.setTop (mkF m 262 #[.val (.int p1), .val (.int p2), .val (.int p3), .val (.ref ca), .val (.ref la), .val (.ref ha), .unset, .unset, .unset] [(.int kk)]))
  obtain ⟨kn, hk, hlt⟩ : ∃ n : Nat, kk.toInt = (n : Int) ∧ n < 15 := by rw [hkk]; exact own_len p1
  refine own_via (fun tq kq => XS.istore X63.here hx rfl (hb hby at_262) rfl (l' := #[.val (.int p1), .val (.int p2), .val (.int p3), .val (.ref ca), .val (.ref la), .val (.ref ha), .val (.int kk), .unset, .unset]) rfl kq) ?_
  show Ogo p e below _ (T63.setTop (mkF m 264 #[.val (.int p1), .val (.int p2), .val (.int p3), .val (.ref ca), .val (.ref la), .val (.ref ha), .val (.int kk), .unset, .unset] []))
  suffices hj : ∀ av : Int32, Ogo p e below (Onar s room_1 (fun v h L => v = some (.int 1) ∧ Fr n0 L)) (T63.setTop (mkF m 280 #[.val (.int p1), .val (.int p2), .val (.int p3), .val (.ref ca), .val (.ref la), .val (.ref ha), .val (.int kk), .unset, .unset] [(.int av)])) by
    refine own_via (fun tq kq => XS.iloadN X63.here hx rfl (hb hby at_264) rfl kq) ?_
    show Ogo p e below _ (T63.setTop (mkF m 265 #[.val (.int p1), .val (.int p2), .val (.int p3), .val (.ref ca), .val (.ref la), .val (.ref ha), .val (.int kk), .unset, .unset] [(.int p3)]))
    refine own_via (fun tq kq => XS.iconst X63.here hx rfl (hb hby at_265) kq) ?_
    show Ogo p e below _ (T63.setTop (mkF m 266 #[.val (.int p1), .val (.int p2), .val (.int p3), .val (.ref ca), .val (.ref la), .val (.ref ha), .val (.int kk), .unset, .unset] [(.int (1 : Int32)), (.int p3)]))
    refine own_via (fun tq kq => XS.iand X63.here hx rfl (hb hby at_266) rfl kq) ?_
    show Ogo p e below _ (T63.setTop (mkF m 267 #[.val (.int p1), .val (.int p2), .val (.int p3), .val (.ref ca), .val (.ref la), .val (.ref ha), .val (.int kk), .unset, .unset] [(.int (p3 &&& (1 : Int32)))]))
    by_cases hc267 : (p3 &&& (1 : Int32)) = (0 : Int32)
    · refine own_via (fun tq kq => XS.ifNo X63.here hx rfl (hb hby at_267) rfl ((if0 _ _).trans (teq (hc267 : (p3 &&& (1 : Int32)) = (0 : Int32))).2) kq) ?_
      show Ogo p e below _ (T63.setTop (mkF m 270 #[.val (.int p1), .val (.int p2), .val (.int p3), .val (.ref ca), .val (.ref la), .val (.ref ha), .val (.int kk), .unset, .unset] []))
      refine own_via (fun tq kq => XS.iloadN X63.here hx rfl (hb hby at_270) rfl kq) ?_
      show Ogo p e below _ (T63.setTop (mkF m 271 #[.val (.int p1), .val (.int p2), .val (.int p3), .val (.ref ca), .val (.ref la), .val (.ref ha), .val (.int kk), .unset, .unset] [(.int p2)]))
      refine own_via (fun tq kq => XS.goto X63.here hx rfl (pc0 := 271) (pc' := 280) rfl (hb hby at_271) (by decide) (by decide) kq) ?_
      show Ogo p e below _ (T63.setTop (mkF m 280 #[.val (.int p1), .val (.int p2), .val (.int p3), .val (.ref ca), .val (.ref la), .val (.ref ha), .val (.int kk), .unset, .unset] [(.int p2)]))
      exact hj _
    · refine own_via (fun tq kq => XS.ifYes X63.here hx rfl (pc0 := 267) (pc' := 274) rfl (hb hby at_267) rfl ((if0 _ _).trans (feq (hc267 : ¬ ((p3 &&& (1 : Int32)) = (0 : Int32)))).2) (by decide) (by decide) kq) ?_
      show Ogo p e below _ (T63.setTop (mkF m 274 #[.val (.int p1), .val (.int p2), .val (.int p3), .val (.ref ca), .val (.ref la), .val (.ref ha), .val (.int kk), .unset, .unset] []))
      refine own_via (fun tq kq => XS.iloadN X63.here hx rfl (hb hby at_274) rfl kq) ?_
      show Ogo p e below _ (T63.setTop (mkF m 275 #[.val (.int p1), .val (.int p2), .val (.int p3), .val (.ref ca), .val (.ref la), .val (.ref ha), .val (.int kk), .unset, .unset] [(.int p2)]))
      refine own_via (fun tq kq => XS.bipush X63.here hx rfl (hb hby at_275) kq) ?_
      show Ogo p e below _ (T63.setTop (mkF m 277 #[.val (.int p1), .val (.int p2), .val (.int p3), .val (.ref ca), .val (.ref la), .val (.ref ha), .val (.int kk), .unset, .unset] [(.int (7 : Int32)), (.int p2)]))
      refine own_via (fun tq kq => XS.iand X63.here hx rfl (hb hby at_277) rfl kq) ?_
      show Ogo p e below _ (T63.setTop (mkF m 278 #[.val (.int p1), .val (.int p2), .val (.int p3), .val (.ref ca), .val (.ref la), .val (.ref ha), .val (.int kk), .unset, .unset] [(.int (p2 &&& (7 : Int32)))]))
      refine own_via (fun tq kq => XS.iconst X63.here hx rfl (hb hby at_278) kq) ?_
      show Ogo p e below _ (T63.setTop (mkF m 279 #[.val (.int p1), .val (.int p2), .val (.int p3), .val (.ref ca), .val (.ref la), .val (.ref ha), .val (.int kk), .unset, .unset] [(.int (2 : Int32)), (.int (p2 &&& (7 : Int32)))]))
      refine own_via (fun tq kq => XS.isub X63.here hx rfl (hb hby at_279) rfl kq) ?_
      show Ogo p e below _ (T63.setTop (mkF m 280 #[.val (.int p1), .val (.int p2), .val (.int p3), .val (.ref ca), .val (.ref la), .val (.ref ha), .val (.int kk), .unset, .unset] [(.int ((p2 &&& (7 : Int32)) - (2 : Int32)))]))
      exact hj _
  intro av
  show Ogo p e below _ (T63.setTop (mkF m 280 #[.val (.int p1), .val (.int p2), .val (.int p3), .val (.ref ca), .val (.ref la), .val (.ref ha), .val (.int kk), .unset, .unset] [(.int av)]))
  refine own_via (fun tq kq => XS.istore X63.here hx rfl (hb hby at_280) rfl (l' := #[.val (.int p1), .val (.int p2), .val (.int p3), .val (.ref ca), .val (.ref la), .val (.ref ha), .val (.int kk), .val (.int av), .unset]) rfl kq) ?_
  show Ogo p e below _ (T63.setTop (mkF m 282 #[.val (.int p1), .val (.int p2), .val (.int p3), .val (.ref ca), .val (.ref la), .val (.ref ha), .val (.int kk), .val (.int av), .unset] []))
  refine own_via (fun tq kq => XS.aload X63.here hx rfl (hb hby at_282) rfl rfl kq) ?_
  show Ogo p e below _ (T63.setTop (mkF m 284 #[.val (.int p1), .val (.int p2), .val (.int p3), .val (.ref ca), .val (.ref la), .val (.ref ha), .val (.int kk), .val (.int av), .unset] [(.ref la)]))
  refine own_via (fun tq kq => XS.iload X63.here hx rfl (hb hby at_284) rfl kq) ?_
  show Ogo p e below _ (T63.setTop (mkF m 286 #[.val (.int p1), .val (.int p2), .val (.int p3), .val (.ref ca), .val (.ref la), .val (.ref ha), .val (.int kk), .val (.int av), .unset] [(.int kk), (.ref la)]))
  refine own_iald X63 hx hZ e63 A_la (j := kk) (i := kn) (v := (.int (own_lo kn))) hk hlt rfl (hb hby at_286) ?_
  show Ogo p e below _ (T63.setTop (mkF m 287 #[.val (.int p1), .val (.int p2), .val (.int p3), .val (.ref ca), .val (.ref la), .val (.ref ha), .val (.int kk), .val (.int av), .unset] [(.int (own_lo kn))]))
  refine own_via (fun tq kq => XS.iload X63.here hx rfl (hb hby at_287) rfl kq) ?_
  show Ogo p e below _ (T63.setTop (mkF m 289 #[.val (.int p1), .val (.int p2), .val (.int p3), .val (.ref ca), .val (.ref la), .val (.ref ha), .val (.int kk), .val (.int av), .unset] [(.int av), (.int (own_lo kn))]))
  by_cases hc289 : av < (own_lo kn)
  · refine own_via (fun tq kq => XS.icmpYes X63.here hx rfl (pc0 := 289) (pc' := 306) rfl (hb hby at_289) rfl (tlt (hc289 : av < (own_lo kn))).2.2.1 (by decide) (by decide) kq) ?_
    show Ogo p e below _ (T63.setTop (mkF m 306 #[.val (.int p1), .val (.int p2), .val (.int p3), .val (.ref ca), .val (.ref la), .val (.ref ha), .val (.int kk), .val (.int av), .unset] []))
    refine own_via (fun tq kq => XS.iconst X63.here hx rfl (hb hby at_306) kq) ?_
    show Ogo p e below _ (T63.setTop (mkF m 307 #[.val (.int p1), .val (.int p2), .val (.int p3), .val (.ref ca), .val (.ref la), .val (.ref ha), .val (.int kk), .val (.int av), .unset] [(.int (0 : Int32))]))
    refine own_via (fun tq kq => XS.istore X63.here hx rfl (hb hby at_307) rfl (l' := #[.val (.int p1), .val (.int p2), .val (.int p3), .val (.ref ca), .val (.ref la), .val (.ref ha), .val (.int kk), .val (.int av), .val (.int (0 : Int32))]) rfl kq) ?_
    show Ogo p e below _ (T63.setTop (mkF m 309 #[.val (.int p1), .val (.int p2), .val (.int p3), .val (.ref ca), .val (.ref la), .val (.ref ha), .val (.int kk), .val (.int av), .val (.int (0 : Int32))] []))
    refine own_via (fun tq kq => XS.aloadN X63.here hx rfl (hb hby at_309) rfl rfl kq) ?_
    show Ogo p e below _ (T63.setTop (mkF m 310 #[.val (.int p1), .val (.int p2), .val (.int p3), .val (.ref ca), .val (.ref la), .val (.ref ha), .val (.int kk), .val (.int av), .val (.int (0 : Int32))] [(.ref ca)]))
    refine own_via (fun tq kq => XS.iload X63.here hx rfl (hb hby at_310) rfl kq) ?_
    show Ogo p e below _ (T63.setTop (mkF m 312 #[.val (.int p1), .val (.int p2), .val (.int p3), .val (.ref ca), .val (.ref la), .val (.ref ha), .val (.int kk), .val (.int av), .val (.int (0 : Int32))] [(.int kk), (.ref ca)]))
    refine own_aald X63 hx hZ e63 A_ca rfl (j := kk) (i := kn) (v := (.ref (cm kn))) hk hlt rfl (hb hby at_312) ?_
    show Ogo p e below _ (T63.setTop (mkF m 313 #[.val (.int p1), .val (.int p2), .val (.int p3), .val (.ref ca), .val (.ref la), .val (.ref ha), .val (.int kk), .val (.int av), .val (.int (0 : Int32))] [(.ref (cm kn))]))
    obtain ⟨E_k, F_few, F_most⟩ := CF kn hlt
    have E_k := E_k.ext O.2
    have F_few := F_few.ext O.2
    have F_most := F_most.ext O.2
    refine own_via (fun tq kq => XS.iload X63.here hx rfl (hb hby at_313) rfl kq) ?_
    show Ogo p e below _ (T63.setTop (mkF m 315 #[.val (.int p1), .val (.int p2), .val (.int p3), .val (.ref ca), .val (.ref la), .val (.ref ha), .val (.int kk), .val (.int av), .val (.int (0 : Int32))] [(.int av), (.ref (cm kn))]))
    refine own_callV X63 hx hZ hown (hw _ (List.mem_of_getElem? (i := 36) rfl)) (hw _ (List.mem_of_getElem? (i := 37) rfl)) (hw _ (List.mem_of_getElem? (i := 39) rfl)) (hw _ (List.mem_of_getElem? (i := 38) rfl)) (hw _ (List.mem_of_getElem? (i := 3) rfl)) (hw _ (List.mem_of_getElem? (i := 40) rfl)) (notFace_of_selects (args := #[]) (mvT hZ (hw _ (List.mem_of_getElem? (i := 39) rfl)))) (by decide) (rm_tk hw (cm kn) av (own_lo kn) (own_hi kn) (0 : Int32) h63 n0 F_few F_most (by rw [if_pos hc289])) rfl e63 E_k (W := 0) (by decide) (by decide) (by decide) (by decide) (by rw [hml]; rfl) (b := (cm kn)) (argsL := [(.int av)]) (rest := []) (lenOf pd_0 rfl) rfl (Nat.le_of_eq rfl) (hb hby at_315) ?_
    rintro _ T64 L64 X64 ⟨rfl, Nq, hk⟩
    have N := N.app Nq
    have hk64 := hk
    show Ogo p e below _ (T64.setTop (mkF m 318 #[.val (.int p1), .val (.int p2), .val (.int p3), .val (.ref ca), .val (.ref la), .val (.ref ha), .val (.int kk), .val (.int av), .val (.int (0 : Int32))] [(.int (0 : Int32))]))
    refine own_via (fun tq kq => XS.iload X64.here hx rfl (hb hby at_318) rfl kq) ?_
    show Ogo p e below _ (T64.setTop (mkF m 320 #[.val (.int p1), .val (.int p2), .val (.int p3), .val (.ref ca), .val (.ref la), .val (.ref ha), .val (.int kk), .val (.int av), .val (.int (0 : Int32))] [(.int (0 : Int32)), (.int (0 : Int32))]))
    refine own_via (fun tq kq => XS.icmpNo X64.here hx rfl (hb hby at_320) rfl (teq (rfl : (0 : Int32) = (0 : Int32))).2 kq) ?_
    show Ogo p e below _ (T64.setTop (mkF m 323 #[.val (.int p1), .val (.int p2), .val (.int p3), .val (.ref ca), .val (.ref la), .val (.ref ha), .val (.int kk), .val (.int av), .val (.int (0 : Int32))] []))
    refine own_via (fun tq kq => XS.iconst X64.here hx rfl (hb hby at_323) kq) ?_
    show Ogo p e below _ (T64.setTop (mkF m 324 #[.val (.int p1), .val (.int p2), .val (.int p3), .val (.ref ca), .val (.ref la), .val (.ref ha), .val (.int kk), .val (.int av), .val (.int (0 : Int32))] [(.int (1 : Int32))]))
    refine own_via (fun tq kq => XS.goto X64.here hx rfl (pc0 := 324) (pc' := 328) rfl (hb hby at_324) (by decide) (by decide) kq) ?_
    show Ogo p e below _ (T64.setTop (mkF m 328 #[.val (.int p1), .val (.int p2), .val (.int p3), .val (.ref ca), .val (.ref la), .val (.ref ha), .val (.int kk), .val (.int av), .val (.int (0 : Int32))] [(.int (1 : Int32))]))
    exact own_out X64 hlk (fun h => by rw [hret] at h; cases h) (by decide) (by decide) (by first | exact ⟨rfl, N⟩ | (rw [hk64]; exact ⟨rfl, N⟩)) (fun fs hr => retN X64 hx (t := .boolean) hret (by simp) (hb hby at_328) hr)
  · refine own_via (fun tq kq => XS.icmpNo X63.here hx rfl (hb hby at_289) rfl (flt (hc289 : ¬ (av < (own_lo kn)))).2.2.1 kq) ?_
    show Ogo p e below _ (T63.setTop (mkF m 292 #[.val (.int p1), .val (.int p2), .val (.int p3), .val (.ref ca), .val (.ref la), .val (.ref ha), .val (.int kk), .val (.int av), .unset] []))
    refine own_via (fun tq kq => XS.iload X63.here hx rfl (hb hby at_292) rfl kq) ?_
    show Ogo p e below _ (T63.setTop (mkF m 294 #[.val (.int p1), .val (.int p2), .val (.int p3), .val (.ref ca), .val (.ref la), .val (.ref ha), .val (.int kk), .val (.int av), .unset] [(.int av)]))
    refine own_via (fun tq kq => XS.aload X63.here hx rfl (hb hby at_294) rfl rfl kq) ?_
    show Ogo p e below _ (T63.setTop (mkF m 296 #[.val (.int p1), .val (.int p2), .val (.int p3), .val (.ref ca), .val (.ref la), .val (.ref ha), .val (.int kk), .val (.int av), .unset] [(.ref ha), (.int av)]))
    refine own_via (fun tq kq => XS.iload X63.here hx rfl (hb hby at_296) rfl kq) ?_
    show Ogo p e below _ (T63.setTop (mkF m 298 #[.val (.int p1), .val (.int p2), .val (.int p3), .val (.ref ca), .val (.ref la), .val (.ref ha), .val (.int kk), .val (.int av), .unset] [(.int kk), (.ref ha), (.int av)]))
    refine own_iald X63 hx hZ e63 A_ha (j := kk) (i := kn) (v := (.int (own_hi kn))) hk hlt rfl (hb hby at_298) ?_
    show Ogo p e below _ (T63.setTop (mkF m 299 #[.val (.int p1), .val (.int p2), .val (.int p3), .val (.ref ca), .val (.ref la), .val (.ref ha), .val (.int kk), .val (.int av), .unset] [(.int (own_hi kn)), (.int av)]))
    by_cases hc299 : (own_hi kn) < av
    · refine own_via (fun tq kq => XS.icmpYes X63.here hx rfl (pc0 := 299) (pc' := 306) rfl (hb hby at_299) rfl (tlt (hc299 : (own_hi kn) < av)).2.2.1 (by decide) (by decide) kq) ?_
      show Ogo p e below _ (T63.setTop (mkF m 306 #[.val (.int p1), .val (.int p2), .val (.int p3), .val (.ref ca), .val (.ref la), .val (.ref ha), .val (.int kk), .val (.int av), .unset] []))
      refine own_via (fun tq kq => XS.iconst X63.here hx rfl (hb hby at_306) kq) ?_
      show Ogo p e below _ (T63.setTop (mkF m 307 #[.val (.int p1), .val (.int p2), .val (.int p3), .val (.ref ca), .val (.ref la), .val (.ref ha), .val (.int kk), .val (.int av), .unset] [(.int (0 : Int32))]))
      refine own_via (fun tq kq => XS.istore X63.here hx rfl (hb hby at_307) rfl (l' := #[.val (.int p1), .val (.int p2), .val (.int p3), .val (.ref ca), .val (.ref la), .val (.ref ha), .val (.int kk), .val (.int av), .val (.int (0 : Int32))]) rfl kq) ?_
      show Ogo p e below _ (T63.setTop (mkF m 309 #[.val (.int p1), .val (.int p2), .val (.int p3), .val (.ref ca), .val (.ref la), .val (.ref ha), .val (.int kk), .val (.int av), .val (.int (0 : Int32))] []))
      refine own_via (fun tq kq => XS.aloadN X63.here hx rfl (hb hby at_309) rfl rfl kq) ?_
      show Ogo p e below _ (T63.setTop (mkF m 310 #[.val (.int p1), .val (.int p2), .val (.int p3), .val (.ref ca), .val (.ref la), .val (.ref ha), .val (.int kk), .val (.int av), .val (.int (0 : Int32))] [(.ref ca)]))
      refine own_via (fun tq kq => XS.iload X63.here hx rfl (hb hby at_310) rfl kq) ?_
      show Ogo p e below _ (T63.setTop (mkF m 312 #[.val (.int p1), .val (.int p2), .val (.int p3), .val (.ref ca), .val (.ref la), .val (.ref ha), .val (.int kk), .val (.int av), .val (.int (0 : Int32))] [(.int kk), (.ref ca)]))
      refine own_aald X63 hx hZ e63 A_ca rfl (j := kk) (i := kn) (v := (.ref (cm kn))) hk hlt rfl (hb hby at_312) ?_
      show Ogo p e below _ (T63.setTop (mkF m 313 #[.val (.int p1), .val (.int p2), .val (.int p3), .val (.ref ca), .val (.ref la), .val (.ref ha), .val (.int kk), .val (.int av), .val (.int (0 : Int32))] [(.ref (cm kn))]))
      obtain ⟨E_k, F_few, F_most⟩ := CF kn hlt
      have E_k := E_k.ext O.2
      have F_few := F_few.ext O.2
      have F_most := F_most.ext O.2
      refine own_via (fun tq kq => XS.iload X63.here hx rfl (hb hby at_313) rfl kq) ?_
      show Ogo p e below _ (T63.setTop (mkF m 315 #[.val (.int p1), .val (.int p2), .val (.int p3), .val (.ref ca), .val (.ref la), .val (.ref ha), .val (.int kk), .val (.int av), .val (.int (0 : Int32))] [(.int av), (.ref (cm kn))]))
      refine own_callV X63 hx hZ hown (hw _ (List.mem_of_getElem? (i := 36) rfl)) (hw _ (List.mem_of_getElem? (i := 37) rfl)) (hw _ (List.mem_of_getElem? (i := 39) rfl)) (hw _ (List.mem_of_getElem? (i := 38) rfl)) (hw _ (List.mem_of_getElem? (i := 3) rfl)) (hw _ (List.mem_of_getElem? (i := 40) rfl)) (notFace_of_selects (args := #[]) (mvT hZ (hw _ (List.mem_of_getElem? (i := 39) rfl)))) (by decide) (rm_tk hw (cm kn) av (own_lo kn) (own_hi kn) (0 : Int32) h63 n0 F_few F_most (by rw [if_neg hc289, if_pos hc299])) rfl e63 E_k (W := 0) (by decide) (by decide) (by decide) (by decide) (by rw [hml]; rfl) (b := (cm kn)) (argsL := [(.int av)]) (rest := []) (lenOf pd_0 rfl) rfl (Nat.le_of_eq rfl) (hb hby at_315) ?_
      rintro _ T65 L65 X65 ⟨rfl, Nq, hk⟩
      have N := N.app Nq
      have hk65 := hk
      show Ogo p e below _ (T65.setTop (mkF m 318 #[.val (.int p1), .val (.int p2), .val (.int p3), .val (.ref ca), .val (.ref la), .val (.ref ha), .val (.int kk), .val (.int av), .val (.int (0 : Int32))] [(.int (0 : Int32))]))
      refine own_via (fun tq kq => XS.iload X65.here hx rfl (hb hby at_318) rfl kq) ?_
      show Ogo p e below _ (T65.setTop (mkF m 320 #[.val (.int p1), .val (.int p2), .val (.int p3), .val (.ref ca), .val (.ref la), .val (.ref ha), .val (.int kk), .val (.int av), .val (.int (0 : Int32))] [(.int (0 : Int32)), (.int (0 : Int32))]))
      refine own_via (fun tq kq => XS.icmpNo X65.here hx rfl (hb hby at_320) rfl (teq (rfl : (0 : Int32) = (0 : Int32))).2 kq) ?_
      show Ogo p e below _ (T65.setTop (mkF m 323 #[.val (.int p1), .val (.int p2), .val (.int p3), .val (.ref ca), .val (.ref la), .val (.ref ha), .val (.int kk), .val (.int av), .val (.int (0 : Int32))] []))
      refine own_via (fun tq kq => XS.iconst X65.here hx rfl (hb hby at_323) kq) ?_
      show Ogo p e below _ (T65.setTop (mkF m 324 #[.val (.int p1), .val (.int p2), .val (.int p3), .val (.ref ca), .val (.ref la), .val (.ref ha), .val (.int kk), .val (.int av), .val (.int (0 : Int32))] [(.int (1 : Int32))]))
      refine own_via (fun tq kq => XS.goto X65.here hx rfl (pc0 := 324) (pc' := 328) rfl (hb hby at_324) (by decide) (by decide) kq) ?_
      show Ogo p e below _ (T65.setTop (mkF m 328 #[.val (.int p1), .val (.int p2), .val (.int p3), .val (.ref ca), .val (.ref la), .val (.ref ha), .val (.int kk), .val (.int av), .val (.int (0 : Int32))] [(.int (1 : Int32))]))
      exact own_out X65 hlk (fun h => by rw [hret] at h; cases h) (by decide) (by decide) (by first | exact ⟨rfl, N⟩ | (rw [hk65]; exact ⟨rfl, N⟩)) (fun fs hr => retN X65 hx (t := .boolean) hret (by simp) (hb hby at_328) hr)
    · refine own_via (fun tq kq => XS.icmpNo X63.here hx rfl (hb hby at_299) rfl (flt (hc299 : ¬ ((own_hi kn) < av))).2.2.1 kq) ?_
      show Ogo p e below _ (T63.setTop (mkF m 302 #[.val (.int p1), .val (.int p2), .val (.int p3), .val (.ref ca), .val (.ref la), .val (.ref ha), .val (.int kk), .val (.int av), .unset] []))
      refine own_via (fun tq kq => XS.iconst X63.here hx rfl (hb hby at_302) kq) ?_
      show Ogo p e below _ (T63.setTop (mkF m 303 #[.val (.int p1), .val (.int p2), .val (.int p3), .val (.ref ca), .val (.ref la), .val (.ref ha), .val (.int kk), .val (.int av), .unset] [(.int (1 : Int32))]))
      refine own_via (fun tq kq => XS.goto X63.here hx rfl (pc0 := 303) (pc' := 307) rfl (hb hby at_303) (by decide) (by decide) kq) ?_
      show Ogo p e below _ (T63.setTop (mkF m 307 #[.val (.int p1), .val (.int p2), .val (.int p3), .val (.ref ca), .val (.ref la), .val (.ref ha), .val (.int kk), .val (.int av), .unset] [(.int (1 : Int32))]))
      refine own_via (fun tq kq => XS.istore X63.here hx rfl (hb hby at_307) rfl (l' := #[.val (.int p1), .val (.int p2), .val (.int p3), .val (.ref ca), .val (.ref la), .val (.ref ha), .val (.int kk), .val (.int av), .val (.int (1 : Int32))]) rfl kq) ?_
      show Ogo p e below _ (T63.setTop (mkF m 309 #[.val (.int p1), .val (.int p2), .val (.int p3), .val (.ref ca), .val (.ref la), .val (.ref ha), .val (.int kk), .val (.int av), .val (.int (1 : Int32))] []))
      refine own_via (fun tq kq => XS.aloadN X63.here hx rfl (hb hby at_309) rfl rfl kq) ?_
      show Ogo p e below _ (T63.setTop (mkF m 310 #[.val (.int p1), .val (.int p2), .val (.int p3), .val (.ref ca), .val (.ref la), .val (.ref ha), .val (.int kk), .val (.int av), .val (.int (1 : Int32))] [(.ref ca)]))
      refine own_via (fun tq kq => XS.iload X63.here hx rfl (hb hby at_310) rfl kq) ?_
      show Ogo p e below _ (T63.setTop (mkF m 312 #[.val (.int p1), .val (.int p2), .val (.int p3), .val (.ref ca), .val (.ref la), .val (.ref ha), .val (.int kk), .val (.int av), .val (.int (1 : Int32))] [(.int kk), (.ref ca)]))
      refine own_aald X63 hx hZ e63 A_ca rfl (j := kk) (i := kn) (v := (.ref (cm kn))) hk hlt rfl (hb hby at_312) ?_
      show Ogo p e below _ (T63.setTop (mkF m 313 #[.val (.int p1), .val (.int p2), .val (.int p3), .val (.ref ca), .val (.ref la), .val (.ref ha), .val (.int kk), .val (.int av), .val (.int (1 : Int32))] [(.ref (cm kn))]))
      obtain ⟨E_k, F_few, F_most⟩ := CF kn hlt
      have E_k := E_k.ext O.2
      have F_few := F_few.ext O.2
      have F_most := F_most.ext O.2
      refine own_via (fun tq kq => XS.iload X63.here hx rfl (hb hby at_313) rfl kq) ?_
      show Ogo p e below _ (T63.setTop (mkF m 315 #[.val (.int p1), .val (.int p2), .val (.int p3), .val (.ref ca), .val (.ref la), .val (.ref ha), .val (.int kk), .val (.int av), .val (.int (1 : Int32))] [(.int av), (.ref (cm kn))]))
      refine own_callV X63 hx hZ hown (hw _ (List.mem_of_getElem? (i := 36) rfl)) (hw _ (List.mem_of_getElem? (i := 37) rfl)) (hw _ (List.mem_of_getElem? (i := 39) rfl)) (hw _ (List.mem_of_getElem? (i := 38) rfl)) (hw _ (List.mem_of_getElem? (i := 3) rfl)) (hw _ (List.mem_of_getElem? (i := 40) rfl)) (notFace_of_selects (args := #[]) (mvT hZ (hw _ (List.mem_of_getElem? (i := 39) rfl)))) (by decide) (rm_tk hw (cm kn) av (own_lo kn) (own_hi kn) (1 : Int32) h63 n0 F_few F_most (by rw [if_neg hc289, if_neg hc299])) rfl e63 E_k (W := 0) (by decide) (by decide) (by decide) (by decide) (by rw [hml]; rfl) (b := (cm kn)) (argsL := [(.int av)]) (rest := []) (lenOf pd_0 rfl) rfl (Nat.le_of_eq rfl) (hb hby at_315) ?_
      rintro _ T66 L66 X66 ⟨rfl, Nq, hk⟩
      have N := N.app Nq
      have hk66 := hk
      show Ogo p e below _ (T66.setTop (mkF m 318 #[.val (.int p1), .val (.int p2), .val (.int p3), .val (.ref ca), .val (.ref la), .val (.ref ha), .val (.int kk), .val (.int av), .val (.int (1 : Int32))] [(.int (1 : Int32))]))
      refine own_via (fun tq kq => XS.iload X66.here hx rfl (hb hby at_318) rfl kq) ?_
      show Ogo p e below _ (T66.setTop (mkF m 320 #[.val (.int p1), .val (.int p2), .val (.int p3), .val (.ref ca), .val (.ref la), .val (.ref ha), .val (.int kk), .val (.int av), .val (.int (1 : Int32))] [(.int (1 : Int32)), (.int (1 : Int32))]))
      refine own_via (fun tq kq => XS.icmpNo X66.here hx rfl (hb hby at_320) rfl (teq (rfl : (1 : Int32) = (1 : Int32))).2 kq) ?_
      show Ogo p e below _ (T66.setTop (mkF m 323 #[.val (.int p1), .val (.int p2), .val (.int p3), .val (.ref ca), .val (.ref la), .val (.ref ha), .val (.int kk), .val (.int av), .val (.int (1 : Int32))] []))
      refine own_via (fun tq kq => XS.iconst X66.here hx rfl (hb hby at_323) kq) ?_
      show Ogo p e below _ (T66.setTop (mkF m 324 #[.val (.int p1), .val (.int p2), .val (.int p3), .val (.ref ca), .val (.ref la), .val (.ref ha), .val (.int kk), .val (.int av), .val (.int (1 : Int32))] [(.int (1 : Int32))]))
      refine own_via (fun tq kq => XS.goto X66.here hx rfl (pc0 := 324) (pc' := 328) rfl (hb hby at_324) (by decide) (by decide) kq) ?_
      show Ogo p e below _ (T66.setTop (mkF m 328 #[.val (.int p1), .val (.int p2), .val (.int p3), .val (.ref ca), .val (.ref la), .val (.ref ha), .val (.int kk), .val (.int av), .val (.int (1 : Int32))] [(.int (1 : Int32))]))
      exact own_out X66 hlk (fun h => by rw [hret] at h; cases h) (by decide) (by decide) (by first | exact ⟨rfl, N⟩ | (rw [hk66]; exact ⟨rfl, N⟩)) (fun fs hr => retN X66 hx (t := .boolean) hret (by simp) (hb hby at_328) hr)
set_option maxRecDepth 65536 in
set_option maxHeartbeats 40000000 in
theorem own_comes {Post : Tables → Env → Array Value → State → Outcome → State → Prop} (hpost : ∀ tb e args s v u, (limb_1_1.after args s (.returned v) u = true ∧ limb_1_2.after args s (.returned v) u = true ∧ True) → FrameEnd s (.returned v) u (Jvm.fieldLocs frame_1_writes args s ++ Jvm.arrayLocs frame_1_arrays args s ++ Jvm.staticLocs frame_1_statics s) 16 192 → Post tb e args s (.returned v) u) :
    ArmFor flags0 classFile x code maxLocals ret World_1 tables_1 room_1 Calls_1 rest_1 Pre_1 Post := by
  intro l hfl _ _ p e ha hc hk s m args below hf hA hF happ hP
  obtain ⟨hcalls, hrest, hpre⟩ := hP
  obtain ⟨-, -, -, hnamed, -, -, -, hat⟩ := (Spec.applies_iff hf).mp happ
  obtain ⟨hg, hn⟩ := and_e (Cond.before_iff.mp (show (Jvm.Cond.and given_1 narrow_1).before args s = true from hpre))
  obtain ⟨q0, r0⟩ := and_e hg
  obtain ⟨q1, r1⟩ := and_e r0
  obtain ⟨q2, r2⟩ := and_e r1
  obtain ⟨w0, w1, w2, rfl⟩ : ∃ w0 w1 w2 : Value, args = #[w0, w1, w2] := by
    have hs : args.size = 3 := by simpa [Cond.value, given_1] using q0
    obtain ⟨L⟩ := args
    match L, hs with
    | [w0, w1, w2], _ => exact ⟨w0, w1, w2, rfl⟩
  have hw := fun d (hd : d ∈ tables_1) => atoms_spec (ws := Jvm.Cond.code x code maxLocals ret :: tables_1) hat d (List.mem_cons_of_mem _ hd)
  have hfit : Fit s := fun {y c} hc i hi => by
    obtain ⟨ha, rfl⟩ := Array.getElem?_eq_some_iff.mp hc
    have q := List.all_eq_true.mp ((Array.all_eq_true_iff_forall_mem.mp hF) _ (Array.getElem_mem ha)) i (List.mem_range.mpr hi)
    simpa [Array.getElem?_eq_getElem hi] using q
  obtain ⟨i0, ei0⟩ := is_v q1
  obtain rfl : w0 = (.int i0) := Option.some.inj ei0
  obtain ⟨i1, ei1⟩ := is_v q2
  obtain rfl : w1 = (.int i1) := Option.some.inj ei1
  obtain ⟨i2, ei2⟩ := is_v r2
  obtain rfl : w2 = (.int i2) := Option.some.inj ei2
  obtain ⟨n0, m0⟩ := and_e hn
  obtain ⟨n1, m1⟩ := and_e m0
  obtain ⟨n2, m2⟩ := and_e m1
  obtain ⟨n3, m3⟩ := and_e m2
  obtain ⟨n4, m4⟩ := and_e m3
  obtain ⟨n5, m5⟩ := and_e m4
  obtain ⟨n6, m6⟩ := and_e m5
  obtain ⟨n7, m7⟩ := and_e m6
  obtain ⟨n8, m8⟩ := and_e m7
  obtain ⟨n9, m9⟩ := and_e m8
  obtain ⟨n10, m10⟩ := and_e m9
  obtain ⟨n11, m11⟩ := and_e m10
  obtain ⟨n12, m12⟩ := and_e m11
  obtain ⟨n13, m13⟩ := and_e m12
  obtain ⟨n14, m14⟩ := and_e m13
  obtain ⟨n15, m15⟩ := and_e m14
  obtain ⟨n16, m16⟩ := and_e m15
  obtain ⟨n17, m17⟩ := and_e m16
  obtain ⟨n18, m18⟩ := and_e m17
  obtain ⟨n19, m19⟩ := and_e m18
  obtain ⟨n20, m20⟩ := and_e m19
  obtain ⟨n21, m21⟩ := and_e m20
  obtain ⟨n22, m22⟩ := and_e m21
  obtain ⟨n23, m23⟩ := and_e m22
  obtain ⟨n24, m24⟩ := and_e m23
  obtain ⟨n25, m25⟩ := and_e m24
  obtain ⟨n26, m26⟩ := and_e m25
  obtain ⟨n27, m27⟩ := and_e m26
  obtain ⟨n28, m28⟩ := and_e m27
  obtain ⟨n29, m29⟩ := and_e m28
  obtain ⟨n30, m30⟩ := and_e m29
  obtain ⟨n31, m31⟩ := and_e m30
  obtain ⟨n32, m32⟩ := and_e m31
  obtain ⟨n33, m33⟩ := and_e m32
  obtain ⟨n34, m34⟩ := and_e m33
  obtain ⟨n35, m35⟩ := and_e m34
  obtain ⟨n36, m36⟩ := and_e m35
  obtain ⟨n37, m37⟩ := and_e m36
  obtain ⟨n38, m38⟩ := and_e m37
  obtain ⟨n39, m39⟩ := and_e m38
  obtain ⟨n40, m40⟩ := and_e m39
  obtain ⟨n41, m41⟩ := and_e m40
  obtain ⟨n42, m42⟩ := and_e m41
  obtain ⟨n43, m43⟩ := and_e m42
  obtain ⟨c0, ev0⟩ := exa_v n0
  obtain ⟨c1, ev1⟩ := exa_v n1
  obtain ⟨c2, ev2⟩ := exa_v n2
  obtain ⟨c3, ev3⟩ := exa_v n3
  obtain ⟨c4, ev4⟩ := exa_v n4
  obtain ⟨c5, ev5⟩ := exa_v n5
  obtain ⟨c6, ev6⟩ := exa_v n6
  obtain ⟨c7, ev7⟩ := exa_v n7
  obtain ⟨c8, ev8⟩ := exa_v n8
  obtain ⟨c9, ev9⟩ := exa_v n9
  obtain ⟨c10, ev10⟩ := exa_v n10
  obtain ⟨c11, ev11⟩ := exa_v n11
  obtain ⟨c12, ev12⟩ := exa_v n12
  obtain ⟨c13, ev13⟩ := exa_v n13
  obtain ⟨c14, ev14⟩ := exa_v n14
  obtain ⟨cm, hcm⟩ : ∃ cm : Nat → Addr, cm 0 = c0 ∧ cm 1 = c1 ∧ cm 2 = c2 ∧ cm 3 = c3 ∧ cm 4 = c4 ∧ cm 5 = c5 ∧ cm 6 = c6 ∧ cm 7 = c7 ∧ cm 8 = c8 ∧ cm 9 = c9 ∧ cm 10 = c10 ∧ cm 11 = c11 ∧ cm 12 = c12 ∧ cm 13 = c13 ∧ cm 14 = c14 := ⟨fun k => match k with | 0 => c0 | 1 => c1 | 2 => c2 | 3 => c3 | 4 => c4 | 5 => c5 | 6 => c6 | 7 => c7 | 8 => c8 | 9 => c9 | 10 => c10 | 11 => c11 | 12 => c12 | 13 => c13 | 14 => c14 | _ => 0, rfl, rfl, rfl, rfl, rfl, rfl, rfl, rfl, rfl, rfl, rfl, rfl, rfl, rfl, rfl⟩
  obtain ⟨hc0, hc1, hc2, hc3, hc4, hc5, hc6, hc7, hc8, hc9, hc10, hc11, hc12, hc13, hc14⟩ := hcm
  rw [← hc0] at ev0
  rw [← hc1] at ev1
  rw [← hc2] at ev2
  rw [← hc3] at ev3
  rw [← hc4] at ev4
  rw [← hc5] at ev5
  rw [← hc6] at ev6
  rw [← hc7] at ev7
  rw [← hc8] at ev8
  rw [← hc9] at ev9
  rw [← hc10] at ev10
  rw [← hc11] at ev11
  rw [← hc12] at ev12
  rw [← hc13] at ev13
  rw [← hc14] at ev14
  have S0 := Sta.start ev0 (Or.inr ⟨(hw _ (List.mem_of_getElem? (i := 3) rfl)), (hw _ (List.mem_of_getElem? (i := 4) rfl))⟩)
  have S1 := Sta.start ev1 (Or.inr ⟨(hw _ (List.mem_of_getElem? (i := 3) rfl)), (hw _ (List.mem_of_getElem? (i := 7) rfl))⟩)
  have S2 := Sta.start ev2 (Or.inr ⟨(hw _ (List.mem_of_getElem? (i := 3) rfl)), (hw _ (List.mem_of_getElem? (i := 9) rfl))⟩)
  have S3 := Sta.start ev3 (Or.inr ⟨(hw _ (List.mem_of_getElem? (i := 3) rfl)), (hw _ (List.mem_of_getElem? (i := 11) rfl))⟩)
  have S4 := Sta.start ev4 (Or.inr ⟨(hw _ (List.mem_of_getElem? (i := 3) rfl)), (hw _ (List.mem_of_getElem? (i := 13) rfl))⟩)
  have S5 := Sta.start ev5 (Or.inr ⟨(hw _ (List.mem_of_getElem? (i := 3) rfl)), (hw _ (List.mem_of_getElem? (i := 15) rfl))⟩)
  have S6 := Sta.start ev6 (Or.inr ⟨(hw _ (List.mem_of_getElem? (i := 3) rfl)), (hw _ (List.mem_of_getElem? (i := 17) rfl))⟩)
  have S7 := Sta.start ev7 (Or.inr ⟨(hw _ (List.mem_of_getElem? (i := 3) rfl)), (hw _ (List.mem_of_getElem? (i := 19) rfl))⟩)
  have S8 := Sta.start ev8 (Or.inr ⟨(hw _ (List.mem_of_getElem? (i := 3) rfl)), (hw _ (List.mem_of_getElem? (i := 21) rfl))⟩)
  have S9 := Sta.start ev9 (Or.inr ⟨(hw _ (List.mem_of_getElem? (i := 3) rfl)), (hw _ (List.mem_of_getElem? (i := 23) rfl))⟩)
  have S10 := Sta.start ev10 (Or.inr ⟨(hw _ (List.mem_of_getElem? (i := 3) rfl)), (hw _ (List.mem_of_getElem? (i := 25) rfl))⟩)
  have S11 := Sta.start ev11 (Or.inr ⟨(hw _ (List.mem_of_getElem? (i := 3) rfl)), (hw _ (List.mem_of_getElem? (i := 27) rfl))⟩)
  have S12 := Sta.start ev12 (Or.inr ⟨(hw _ (List.mem_of_getElem? (i := 3) rfl)), (hw _ (List.mem_of_getElem? (i := 29) rfl))⟩)
  have S13 := Sta.start ev13 (Or.inr ⟨(hw _ (List.mem_of_getElem? (i := 3) rfl)), (hw _ (List.mem_of_getElem? (i := 31) rfl))⟩)
  have S14 := Sta.start ev14 (Or.inr ⟨(hw _ (List.mem_of_getElem? (i := 3) rfl)), (hw _ (List.mem_of_getElem? (i := 33) rfl))⟩)
  have CF0 := And.intro (exa_at ev0 n0) (And.intro (Fld.start ((fld_at ev0).symm.trans (eqv_i (Term.int_eval (1)) n15))) (Fld.start ((fld_at ev0).symm.trans (eqv_i (Term.int_eval (2)) n16))))
  have CF1 := And.intro (exa_at ev1 n1) (And.intro (Fld.start ((fld_at ev1).symm.trans (eqv_i (Term.int_eval (0)) n17))) (Fld.start ((fld_at ev1).symm.trans (eqv_i (Term.int_eval (1)) n18))))
  have CF2 := And.intro (exa_at ev2 n2) (And.intro (Fld.start ((fld_at ev2).symm.trans (eqv_i (Term.int_eval (0)) n31))) (Fld.start ((fld_at ev2).symm.trans (eqv_i (Term.int_eval (0)) n32))))
  have CF3 := And.intro (exa_at ev3 n3) (And.intro (Fld.start ((fld_at ev3).symm.trans (eqv_i (Term.int_eval (2)) n27))) (Fld.start ((fld_at ev3).symm.trans (eqv_i (Term.int_eval (2)) n28))))
  have CF4 := And.intro (exa_at ev4 n4) (And.intro (Fld.start ((fld_at ev4).symm.trans (eqv_i (Term.int_eval (1)) n33))) (Fld.start ((fld_at ev4).symm.trans (eqv_i (Term.int_eval (1)) n34))))
  have CF5 := And.intro (exa_at ev5 n5) (And.intro (Fld.start ((fld_at ev5).symm.trans (eqv_i (Term.int_eval (1)) n20))) (Fld.start ((fld_at ev5).symm.trans (eqv_i (Term.int_eval (1)) n38))))
  have CF6 := And.intro (exa_at ev6 n6) (And.intro (Fld.start ((fld_at ev6).symm.trans (eqv_i (Term.int_eval (3)) n36))) (Fld.start ((fld_at ev6).symm.trans (eqv_i (Term.int_eval (3)) n42))))
  have CF7 := And.intro (exa_at ev7 n7) (And.intro (Fld.start ((fld_at ev7).symm.trans (eqv_i (Term.int_eval (2)) n35))) (Fld.start ((fld_at ev7).symm.trans (eqv_i (Term.int_eval (2)) n43))))
  have CF8 := And.intro (exa_at ev8 n8) (And.intro (Fld.start ((fld_at ev8).symm.trans (eqv_i (Term.int_eval (1)) n21))) (Fld.start ((fld_at ev8).symm.trans (eqv_i (Term.int_eval (2)) n24))))
  have CF9 := And.intro (exa_at ev9 n9) (And.intro (Fld.start ((fld_at ev9).symm.trans (eqv_i (Term.int_eval (1)) n22))) (Fld.start ((fld_at ev9).symm.trans (eqv_i (Term.int_eval (1)) n23))))
  have CF10 := And.intro (exa_at ev10 n10) (And.intro (Fld.start ((fld_at ev10).symm.trans (eqv_i (Term.int_eval (0)) n25))) (Fld.start ((fld_at ev10).symm.trans (eqv_i (Term.int_eval (0)) n26))))
  have CF11 := And.intro (exa_at ev11 n11) (And.intro (Fld.start ((fld_at ev11).symm.trans (eqv_i (Term.int_eval (0)) n29))) (Fld.start ((fld_at ev11).symm.trans (eqv_i (Term.int_eval (0)) n30))))
  have CF12 := And.intro (exa_at ev12 n12) (And.intro (Fld.start ((fld_at ev12).symm.trans (eqv_i (Term.int_eval (0)) n41))) (Fld.start ((fld_at ev12).symm.trans (eqv_i (Term.int_eval (0)) m43))))
  have CF13 := And.intro (exa_at ev13 n13) (And.intro (Fld.start ((fld_at ev13).symm.trans (eqv_i (Term.int_eval (0)) n37))) (Fld.start ((fld_at ev13).symm.trans (eqv_i (Term.int_eval (2)) n40))))
  have CF14 := And.intro (exa_at ev14 n14) (And.intro (Fld.start ((fld_at ev14).symm.trans (eqv_i (Term.int_eval (1)) n19))) (Fld.start ((fld_at ev14).symm.trans (eqv_i (Term.int_eval (1)) n39))))
  have CF : ∀ k, k < 15 → Exa s s.heap (cm k) "com/example/keep_posted/keepposted/io/Command" ∧ Fld s s.heap (cm k) "com/example/keep_posted/keepposted/io/Command" "fewestArguments" "I" (.int (own_lo k)) ∧ Fld s s.heap (cm k) "com/example/keep_posted/keepposted/io/Command" "mostArguments" "I" (.int (own_hi k)) := fun k hk => by
    match k, hk with
    | 0, _ => exact CF0
    | 1, _ => exact CF1
    | 2, _ => exact CF2
    | 3, _ => exact CF3
    | 4, _ => exact CF4
    | 5, _ => exact CF5
    | 6, _ => exact CF6
    | 7, _ => exact CF7
    | 8, _ => exact CF8
    | 9, _ => exact CF9
    | 10, _ => exact CF10
    | 11, _ => exact CF11
    | 12, _ => exact CF12
    | 13, _ => exact CF13
    | 14, _ => exact CF14
  obtain ⟨n, o, h1, h2, h3, _, L, rfl, ⟨rfl, N⟩, hq⟩ := rm_law hw i0 i1 i2 cm s.heap s.heap.size (Nat.le_refl _) S0 S1 S2 S3 S4 S5 S6 S7 S8 S9 S10 S11 S12 S13 S14 CF (Old.start s) p e ha hc hk s m _ below hf ((Spec.applies_iff_loose hf).mp happ).1 ⟨rfl, State.Warmed39.refl s, rfl⟩ trivial
  refine ⟨n, _, h1, h2, h3, hpost _ _ _ _ _ _ ⟨Cond.after_iff.mpr rfl, Cond.after_iff.mpr (eq_i res_at (Term.int_eval (1)) rfl), trivial⟩ ⟨hq.1, hq.2.1, (hq.2.2.sift fun y hy => Or.inr (N y hy)).mono (by decide) (by decide)⟩⟩
theorem main_1_1 : Claimed_1_1 := own_comes fun _ _ _ _ _ _ h hF => ⟨h.1, hF⟩
theorem main_1_2 : Claimed_1_2 := own_comes fun _ _ _ _ _ _ h hF => ⟨h.2.1, hF⟩
end Jvm.Pilot.@@N@@
namespace Jvm.Pilot.@@N@@
open Jvm Jvm.ClassFile Sem Op Lib Jvm.Free Jvm.Stand Jvm.Pilot.@@N@@.Jvm.D
/-! MADE BY PROGRAM (witnessworld.py) out of the Statement's table words and the real class files: 13 classes; the members and pool entries that the words name. The judged class is class 1, her method 1. -/
namespace start1
open Jvm.ClassFile
def u (s : String) : CpInfo := .utf8 (stringToUtf16 s)
/-- a pool by its gaps: so many unusable entries, then the entry; so many at the end -/
def gap : Nat → List CpInfo → List CpInfo
  | 0, r => r
  | n + 1, r => .unusable :: gap n r
def poolList (es : List (Nat × CpInfo)) (last : Nat) : List CpInfo := es.foldr (fun e r => gap e.1 (e.2 :: r)) (gap last [])
def pool (es : List (Nat × CpInfo)) (last : Nat) : Array CpInfo := ⟨poolList es last⟩
def fileOf (pool : Array CpInfo) (this : Nat) (attrs : Array Attribute := #[]) (ms : Array MethodInfo := #[]) (fl : Nat := 33) (sup : Nat := 0) (ifs : Array Nat := #[]) (fds : Array FieldInfo := #[]) : ClassFile where
  minorVersion := 0
  majorVersion := 65
  constantPool := pool
  accessFlags := fl
  thisClass := this
  superClass := sup
  interfaces := ifs
  fields := fds
  methods := ms
  attributes := attrs
def plain (name : String) (sup : Option ClassId) : Class where
  name := name
  kind := .ordinary
  loader := none
  accessFlags := 33
  super := sup
  interfaces := #[]
  cf := none
  fields := #[]
  methods := #[]
  instanceTypes := #[]
  staticTypes := #[]
  resolved := #[]
  callSites := []
  init := .initialized
  statics := none
  mirror := none

def pool0 : Array CpInfo := pool [(5, u "<init>"), (0, u "()V"), (1, .class_ 10), (1, u "java/lang/Object")] 113

def k0m0 : Method := { name := "<init>", desc := "()V", sig := { parameters := [], returnType := none }, accessFlags := 1, code := none }
/-- java/lang/Object -/
def k0 : Class := { plain "java/lang/Object" none with
  accessFlags := 33
  interfaces := #[]
  cf := some (fileOf pool0 8 #[] #[{ accessFlags := 1, nameIndex := 5, descriptorIndex := 6, attributes := #[] }] 33 0 #[] #[])
  fields := #[]
  methods := #[k0m0]
  instanceTypes := #[]
  staticTypes := #[]
  resolved := Array.replicate 124 none
  statics := none }

def pool1 : Array CpInfo := pool [(2, .class_ 4), (1, u "java/lang/Object"), (0, u "<init>"), (0, u "()V"), (0, .class_ 8), (0, u "com/example/keep_posted/keepposted/io/Command"), (0, .fieldref 7 10), (0, .nameAndType 11 12), (0, u "HELLO"), (0, u "Lcom/example/keep_posted/keepposted/io/Command;"), (0, .fieldref 7 14), (0, .nameAndType 15 12), (0, u "PING"), (0, .fieldref 7 17), (0, .nameAndType 18 12), (0, u "QUIT"), (0, .fieldref 7 20), (0, .nameAndType 21 12), (0, u "SET"), (0, .fieldref 7 23), (0, .nameAndType 24 12), (0, u "GET"), (0, .fieldref 7 26), (0, .nameAndType 27 12), (0, u "DEL"), (0, .fieldref 7 29), (0, .nameAndType 30 12), (0, u "SETIF"), (0, .fieldref 7 32), (0, .nameAndType 33 12), (0, u "DELIF"), (0, .fieldref 7 35), (0, .nameAndType 36 12), (0, u "SUB"), (0, .fieldref 7 38), (0, .nameAndType 39 12), (0, u "UNSUB"), (0, .fieldref 7 41), (0, .nameAndType 42 12), (0, u "BEGIN"), (0, .fieldref 7 44), (0, .nameAndType 45 12), (0, u "COMMIT"), (0, .fieldref 7 47), (0, .nameAndType 48 12), (0, u "ABORT"), (0, .fieldref 7 50), (0, .nameAndType 51 12), (0, u "WILL"), (0, .fieldref 7 53), (0, .nameAndType 54 12), (0, u "GRAVE"), (0, .integer 2147483647), (0, .methodref 7 57), (0, .nameAndType 58 59), (0, u "takes"), (0, u "(I)Z"), (0, .class_ 61), (0, u "com/example/keep_posted/keepposted/io/CommandTakesPinLaw"), (2, u "law"), (0, u "(III)Z")] 7

def k1m0 : Method := { name := "<init>", desc := "()V", sig := { parameters := [], returnType := none }, accessFlags := 1, code := none }
def k1c1 : Code := { maxStack := 4, maxLocals := 9, code := code, exceptionTable := #[], attributes := #[] }
def k1m1 : Method := { name := "law", desc := "(III)Z", sig := { parameters := [.int, .int, .int], returnType := some .boolean }, accessFlags := 9, code := some k1c1 }
/-- com/example/keep_posted/keepposted/io/CommandTakesPinLaw -/
def k1 : Class := { plain "com/example/keep_posted/keepposted/io/CommandTakesPinLaw" (some 0) with
  accessFlags := 49
  interfaces := #[]
  cf := some (fileOf pool1 60 #[] #[{ accessFlags := 1, nameIndex := 5, descriptorIndex := 6, attributes := #[] }, { accessFlags := 9, nameIndex := 64, descriptorIndex := 65, attributes := #[] }] 49 2 #[] #[])
  fields := #[]
  methods := #[k1m0, k1m1]
  instanceTypes := #[]
  staticTypes := #[]
  resolved := Array.replicate 73 none
  statics := none }

def pool2 : Array CpInfo := pool [(1, .class_ 2), (0, u "java/lang/constant/Constable"), (0, .class_ 4), (0, u "java/lang/Object")] 6

/-- java/lang/constant/Constable -/
def k2 : Class := { plain "java/lang/constant/Constable" (some 0) with
  accessFlags := 1537
  interfaces := #[]
  cf := some (fileOf pool2 1 #[] #[] 1537 3 #[] #[])
  fields := #[]
  methods := #[]
  instanceTypes := #[]
  staticTypes := #[]
  resolved := Array.replicate 11 none
  statics := none }

def pool3 : Array CpInfo := pool [(1, .class_ 2), (0, u "java/lang/Comparable"), (0, .class_ 4), (0, u "java/lang/Object")] 7

/-- java/lang/Comparable -/
def k3 : Class := { plain "java/lang/Comparable" (some 0) with
  accessFlags := 1537
  interfaces := #[]
  cf := some (fileOf pool3 1 #[] #[] 1537 3 #[] #[])
  fields := #[]
  methods := #[]
  instanceTypes := #[]
  staticTypes := #[]
  resolved := Array.replicate 12 none
  statics := none }

def pool4 : Array CpInfo := pool [(1, .class_ 2), (0, u "java/io/Serializable"), (0, .class_ 4), (0, u "java/lang/Object")] 2

/-- java/io/Serializable -/
def k4 : Class := { plain "java/io/Serializable" (some 0) with
  accessFlags := 1537
  interfaces := #[]
  cf := some (fileOf pool4 1 #[] #[] 1537 3 #[] #[])
  fields := #[]
  methods := #[]
  instanceTypes := #[]
  staticTypes := #[]
  resolved := Array.replicate 7 none
  statics := none }

def pool5 : Array CpInfo := pool [(2, .class_ 4), (1, u "java/lang/Enum"), (0, u "name"), (0, u "Ljava/lang/String;"), (2, u "ordinal"), (0, u "I"), (1, .class_ 14), (1, u "java/lang/Object"), (4, u "hash"), (86, .class_ 108), (1, u "java/lang/Enum$EnumDesc"), (2, .class_ 112), (0, u "java/lang/constant/Constable"), (0, .class_ 114), (0, u "java/lang/Comparable"), (0, .class_ 116), (0, u "java/io/Serializable")] 87

/-- java/lang/Enum -/
def k5 : Class := { plain "java/lang/Enum" (some 0) with
  accessFlags := 1057
  interfaces := #[2, 3, 4]
  cf := some (fileOf pool5 2 #[.nestMembers #[106]] #[] 1057 12 #[111, 113, 115] #[{ accessFlags := 18, nameIndex := 5, descriptorIndex := 6, attributes := #[] }, { accessFlags := 18, nameIndex := 9, descriptorIndex := 10, attributes := #[] }, { accessFlags := 2, nameIndex := 19, descriptorIndex := 10, attributes := #[] }])
  fields := #[{ name := "name", type := (.object "java/lang/String"), accessFlags := 18, slot := 0, constantValue := 0 }, { name := "ordinal", type := .int, accessFlags := 18, slot := 1, constantValue := 0 }, { name := "hash", type := .int, accessFlags := 2, slot := 2, constantValue := 0 }]
  methods := #[]
  instanceTypes := #[(.object "java/lang/String"), .int, .int]
  staticTypes := #[]
  resolved := Array.replicate 204 none
  statics := none }

def pool6 : Array CpInfo := pool [(1, .class_ 2), (0, u "com/example/keep_posted/keepposted/io/Command"), (2, u "HELLO"), (0, u "Lcom/example/keep_posted/keepposted/io/Command;"), (2, u "PING"), (2, u "QUIT"), (2, u "SET"), (2, u "GET"), (2, u "DEL"), (2, u "SETIF"), (2, u "DELIF"), (2, u "SUB"), (2, u "UNSUB"), (2, u "BEGIN"), (2, u "COMMIT"), (2, u "ABORT"), (2, u "WILL"), (2, u "GRAVE"), (2, u "$VALUES"), (0, u "[Lcom/example/keep_posted/keepposted/io/Command;"), (6, .class_ 61), (1, u "java/lang/Enum"), (8, u "name"), (15, u "[B"), (0, .fieldref 1 88), (0, .nameAndType 89 90), (0, u "fewestArguments"), (0, u "I"), (0, .fieldref 1 92), (0, .nameAndType 93 90), (0, u "mostArguments"), (2, u "ALL"), (49, u "takes"), (0, u "(I)Z")] 23

def k6c0 : Code := { maxStack := 2, maxLocals := 2, code := prog_12_method_6_code, exceptionTable := #[], attributes := #[] }
def k6m0 : Method := { name := "takes", desc := "(I)Z", sig := { parameters := [.int], returnType := some .boolean }, accessFlags := 0, code := some k6c0 }
/-- com/example/keep_posted/keepposted/io/Command -/
def k6 : Class := { plain "com/example/keep_posted/keepposted/io/Command" (some 5) with
  accessFlags := 16432
  interfaces := #[]
  cf := some (fileOf pool6 1 #[] #[{ accessFlags := 0, nameIndex := 146, descriptorIndex := 147, attributes := #[] }] 16432 59 #[] #[{ accessFlags := 16409, nameIndex := 5, descriptorIndex := 6, attributes := #[] }, { accessFlags := 16409, nameIndex := 9, descriptorIndex := 6, attributes := #[] }, { accessFlags := 16409, nameIndex := 12, descriptorIndex := 6, attributes := #[] }, { accessFlags := 16409, nameIndex := 15, descriptorIndex := 6, attributes := #[] }, { accessFlags := 16409, nameIndex := 18, descriptorIndex := 6, attributes := #[] }, { accessFlags := 16409, nameIndex := 21, descriptorIndex := 6, attributes := #[] }, { accessFlags := 16409, nameIndex := 24, descriptorIndex := 6, attributes := #[] }, { accessFlags := 16409, nameIndex := 27, descriptorIndex := 6, attributes := #[] }, { accessFlags := 16409, nameIndex := 30, descriptorIndex := 6, attributes := #[] }, { accessFlags := 16409, nameIndex := 33, descriptorIndex := 6, attributes := #[] }, { accessFlags := 16409, nameIndex := 36, descriptorIndex := 6, attributes := #[] }, { accessFlags := 16409, nameIndex := 39, descriptorIndex := 6, attributes := #[] }, { accessFlags := 16409, nameIndex := 42, descriptorIndex := 6, attributes := #[] }, { accessFlags := 16409, nameIndex := 45, descriptorIndex := 6, attributes := #[] }, { accessFlags := 16409, nameIndex := 48, descriptorIndex := 6, attributes := #[] }, { accessFlags := 26, nameIndex := 96, descriptorIndex := 52, attributes := #[] }, { accessFlags := 18, nameIndex := 70, descriptorIndex := 86, attributes := #[] }, { accessFlags := 18, nameIndex := 89, descriptorIndex := 90, attributes := #[] }, { accessFlags := 18, nameIndex := 93, descriptorIndex := 90, attributes := #[] }, { accessFlags := 4122, nameIndex := 51, descriptorIndex := 52, attributes := #[] }])
  fields := #[{ name := "HELLO", type := (.object "com/example/keep_posted/keepposted/io/Command"), accessFlags := 16409, slot := 0, constantValue := 0 }, { name := "PING", type := (.object "com/example/keep_posted/keepposted/io/Command"), accessFlags := 16409, slot := 1, constantValue := 0 }, { name := "QUIT", type := (.object "com/example/keep_posted/keepposted/io/Command"), accessFlags := 16409, slot := 2, constantValue := 0 }, { name := "SET", type := (.object "com/example/keep_posted/keepposted/io/Command"), accessFlags := 16409, slot := 3, constantValue := 0 }, { name := "GET", type := (.object "com/example/keep_posted/keepposted/io/Command"), accessFlags := 16409, slot := 4, constantValue := 0 }, { name := "DEL", type := (.object "com/example/keep_posted/keepposted/io/Command"), accessFlags := 16409, slot := 5, constantValue := 0 }, { name := "SETIF", type := (.object "com/example/keep_posted/keepposted/io/Command"), accessFlags := 16409, slot := 6, constantValue := 0 }, { name := "DELIF", type := (.object "com/example/keep_posted/keepposted/io/Command"), accessFlags := 16409, slot := 7, constantValue := 0 }, { name := "SUB", type := (.object "com/example/keep_posted/keepposted/io/Command"), accessFlags := 16409, slot := 8, constantValue := 0 }, { name := "UNSUB", type := (.object "com/example/keep_posted/keepposted/io/Command"), accessFlags := 16409, slot := 9, constantValue := 0 }, { name := "BEGIN", type := (.object "com/example/keep_posted/keepposted/io/Command"), accessFlags := 16409, slot := 10, constantValue := 0 }, { name := "COMMIT", type := (.object "com/example/keep_posted/keepposted/io/Command"), accessFlags := 16409, slot := 11, constantValue := 0 }, { name := "ABORT", type := (.object "com/example/keep_posted/keepposted/io/Command"), accessFlags := 16409, slot := 12, constantValue := 0 }, { name := "WILL", type := (.object "com/example/keep_posted/keepposted/io/Command"), accessFlags := 16409, slot := 13, constantValue := 0 }, { name := "GRAVE", type := (.object "com/example/keep_posted/keepposted/io/Command"), accessFlags := 16409, slot := 14, constantValue := 0 }, { name := "ALL", type := (.array (.object "com/example/keep_posted/keepposted/io/Command")), accessFlags := 26, slot := 15, constantValue := 0 }, { name := "name", type := (.array .byte), accessFlags := 18, slot := 3, constantValue := 0 }, { name := "fewestArguments", type := .int, accessFlags := 18, slot := 4, constantValue := 0 }, { name := "mostArguments", type := .int, accessFlags := 18, slot := 5, constantValue := 0 }, { name := "$VALUES", type := (.array (.object "com/example/keep_posted/keepposted/io/Command")), accessFlags := 4122, slot := 16, constantValue := 0 }]
  methods := #[k6m0]
  instanceTypes := #[(.object "java/lang/String"), .int, .int, (.array .byte), .int, .int]
  staticTypes := #[(.object "com/example/keep_posted/keepposted/io/Command"), (.object "com/example/keep_posted/keepposted/io/Command"), (.object "com/example/keep_posted/keepposted/io/Command"), (.object "com/example/keep_posted/keepposted/io/Command"), (.object "com/example/keep_posted/keepposted/io/Command"), (.object "com/example/keep_posted/keepposted/io/Command"), (.object "com/example/keep_posted/keepposted/io/Command"), (.object "com/example/keep_posted/keepposted/io/Command"), (.object "com/example/keep_posted/keepposted/io/Command"), (.object "com/example/keep_posted/keepposted/io/Command"), (.object "com/example/keep_posted/keepposted/io/Command"), (.object "com/example/keep_posted/keepposted/io/Command"), (.object "com/example/keep_posted/keepposted/io/Command"), (.object "com/example/keep_posted/keepposted/io/Command"), (.object "com/example/keep_posted/keepposted/io/Command"), (.array (.object "com/example/keep_posted/keepposted/io/Command")), (.array (.object "com/example/keep_posted/keepposted/io/Command"))]
  resolved := Array.replicate 171 none
  statics := some 0 }

def pool7 : Array CpInfo := pool [(1, u "java/lang/Cloneable"), (0, .class_ 1), (0, u "java/lang/Object"), (0, .class_ 3)] 3

/-- java/lang/Cloneable -/
def k7 : Class := { plain "java/lang/Cloneable" (some 0) with
  accessFlags := 1537
  interfaces := #[]
  cf := some (fileOf pool7 2 #[] #[] 1537 4 #[] #[])
  fields := #[]
  methods := #[]
  instanceTypes := #[]
  staticTypes := #[]
  resolved := Array.replicate 8 none
  statics := none }

/-- the primitive byte -/
def k8 : Class := { plain "byte" none with kind := .primitive 'B', accessFlags := 0x411 }
/-- [B -/
def k9 : Class := { plain "[B" (some 0) with kind := .array 8 .byte, interfaces := #[7, 4], accessFlags := 1041 }

/-- the primitive int -/
def k10 : Class := { plain "int" none with kind := .primitive 'I', accessFlags := 0x411 }
/-- [I -/
def k11 : Class := { plain "[I" (some 0) with kind := .array 10 .int, interfaces := #[7, 4], accessFlags := 1041 }

/-- [Lcom/example/keep_posted/keepposted/io/Command; -/
def k12 : Class := { plain "[Lcom/example/keep_posted/keepposted/io/Command;" (some 0) with kind := .array 6 (.object "com/example/keep_posted/keepposted/io/Command"), interfaces := #[7, 4], accessFlags := 1041 }

def heap : Heap := #[{ cls := 6, slots := #[.ref 1, .ref 2, .ref 3, .ref 4, .ref 5, .ref 6, .ref 7, .ref 8, .ref 9, .ref 10, .ref 11, .ref 12, .ref 13, .ref 14, .ref 15, .null, .null], vm := .statics 6 },
  { cls := 6, slots := #[.null, .int 0, .int 0, .null, .int 1, .int 2], vm := .none },
  { cls := 6, slots := #[.null, .int 1, .int 0, .null, .int 0, .int 1], vm := .none },
  { cls := 6, slots := #[.null, .int 2, .int 0, .null, .int 0, .int 0], vm := .none },
  { cls := 6, slots := #[.null, .int 3, .int 0, .null, .int 2, .int 2], vm := .none },
  { cls := 6, slots := #[.null, .int 4, .int 0, .null, .int 1, .int 1], vm := .none },
  { cls := 6, slots := #[.null, .int 5, .int 0, .null, .int 1, .int 1], vm := .none },
  { cls := 6, slots := #[.null, .int 6, .int 0, .null, .int 3, .int 3], vm := .none },
  { cls := 6, slots := #[.null, .int 7, .int 0, .null, .int 2, .int 2], vm := .none },
  { cls := 6, slots := #[.null, .int 8, .int 0, .null, .int 1, .int 2], vm := .none },
  { cls := 6, slots := #[.null, .int 9, .int 0, .null, .int 1, .int 1], vm := .none },
  { cls := 6, slots := #[.null, .int 10, .int 0, .null, .int 0, .int 0], vm := .none },
  { cls := 6, slots := #[.null, .int 11, .int 0, .null, .int 0, .int 0], vm := .none },
  { cls := 6, slots := #[.null, .int 12, .int 0, .null, .int 0, .int 0], vm := .none },
  { cls := 6, slots := #[.null, .int 13, .int 0, .null, .int 0, .int 2], vm := .none },
  { cls := 6, slots := #[.null, .int 14, .int 0, .null, .int 1, .int 1], vm := .none }]
def classes : Array Class := #[k0, k1, k2, k3, k4, k5, k6, k7, k8, k9, k10, k11, k12]
def interned : List (Array UInt16 × Addr) := []
def slotsUsed : Nat := 107
def theMethod : MethodId := ⟨1, 1⟩
def args0 : Array Value := #[.int 3, .int 2, .int 0]
def aboutOver (below : List Frame) : State where
  vm := { classes := classes, interned := interned.toArray }
  heap := heap
  slotsUsed := slotsUsed
  threads := #[{ frames := .invoking theMethod args0 :: below }]
def below0 : List Frame := [.native { method := ⟨0, 0⟩, args := #[] }]
def about1 : State := aboutOver below0
def p0 : Program := .bare "" "" ""
def e0 : Env := launch0.env 0 0 0
theorem w_frames : about1.frames = Frame.invoking theMethod args0 :: below0 := rfl
set_option maxRecDepth 65536 in
theorem w_args : argsFit about1.vm theMethod args0 = true := by decide +kernel
set_option maxRecDepth 65536 in
theorem w_heap : heapFits about1 = true := by decide +kernel
set_option maxRecDepth 65536 in
theorem w_runnable : about1.curStatus? = some .runnable := by decide +kernel
set_option maxRecDepth 65536 in
theorem w_alone : about1.alone = true := by decide +kernel
set_option maxRecDepth 65536 in
theorem w_named : about1.methodNamed? x = some theMethod := by decide +kernel
set_option maxRecDepth 65536 in
theorem w_hears : about1.hears theMethod below0 = true := by decide +kernel
set_option maxRecDepth 65536 in
theorem w_ripe : about1.ripe theMethod args0 below0 = true := by decide +kernel
theorem w_running : about1.status = .running := rfl
set_option maxRecDepth 65536 in
theorem w_room : about1.hasRoom e0.platform room_1 = true :=
  launch0.hasRoom_least _ room_1 (by decide +kernel) (by decide +kernel) (by decide +kernel) (by decide +kernel) (by decide +kernel) (by decide +kernel)
theorem allAtoms_all (ts : List Jvm.Cond) (a : Array Jvm.Value) (st : Jvm.State) : (allAtoms ts).before a st = ts.all (fun c => c.before a st) := by
  induction ts with
  | nil => rfl
  | cons c t ih =>
    show (Jvm.Cond.and c (allAtoms t)).before a st = _
    rw [Jvm.Cond.before_and, ih, List.all_cons]
def words1 : List Jvm.Cond := Jvm.Cond.code x code maxLocals ret :: tables_1
/-- a 'code' word, met by the world's own term for the bytes: nothing is compared byte by byte -/
theorem code_word {y : MethodName} {bytes : ByteArray} {mx : Nat} {rt : Option FieldType} {a : Array Value} {s : State} {m : MethodId} {meth : Method} {c : Code} (h1 : s.methodNamed? y = some m) (h2 : s.vm.method? m = some meth) (h3 : meth.code = some c) (h4 : c.code = bytes)
    (h5 : (c.maxLocals == mx && c.exceptionTable.isEmpty && decide (c.maxStack ≤ mostOperands) && decide (meth.sig.returnType = rt) && !meth.locks && decide (parseMethodDescriptor y.desc = some meth.sig)) = true) : (Jvm.Cond.code y bytes mx rt).before a s = true := by
  simp only [Bool.and_eq_true, beq_iff_eq, Bool.not_eq_true', decide_eq_true_eq] at h5
  obtain ⟨⟨⟨⟨⟨g1, g2⟩, g3⟩, g4⟩, g5⟩, g6⟩ := h5
  simp [Cond.before, Cond.holds, Cond.value, h1, h2, h3, h4, g1, g2, g3, g4, g5, g6]
def isCode : Jvm.Cond → Bool
  | .code _ _ _ _ => true
  | _ => false
theorem all_split {L : List Jvm.Cond} {P : Jvm.Cond → Bool} (h1 : L.all (fun c => isCode c || P c) = true) (h2 : ∀ c ∈ L.filter isCode, P c = true) : L.all P = true := by
  refine List.all_eq_true.mpr fun c hc => ?_
  have h := List.all_eq_true.mp h1 c hc
  rcases Bool.eq_false_or_eq_true (isCode c) with hi | hi
  · exact h2 c (List.mem_filter.mpr ⟨hc, hi⟩)
  · simpa [hi] using h
set_option maxRecDepth 65536 in
theorem w_c0 : (Jvm.Cond.code x code maxLocals ret).before args0 about1 = true := code_word (m := ⟨1, 1⟩) (meth := k1m1) (c := k1c1) (by decide +kernel) rfl rfl rfl (by decide +kernel)
set_option maxRecDepth 65536 in
theorem w_c1 : (Jvm.Cond.code ({ cls := "com/example/keep_posted/keepposted/io/Command", name := "takes", desc := "(I)Z" } : Jvm.MethodName) prog_12_method_6_code (2 : Nat) (Option.some Jvm.ClassFile.FieldType.boolean)).before args0 about1 = true := code_word (m := ⟨6, 0⟩) (meth := k6m0) (c := k6c0) (by decide +kernel) rfl rfl rfl (by decide +kernel)
def codes1 : List Jvm.Cond := [Jvm.Cond.code x code maxLocals ret, Jvm.Cond.code ({ cls := "com/example/keep_posted/keepposted/io/Command", name := "takes", desc := "(I)Z" } : Jvm.MethodName) prog_12_method_6_code (2 : Nat) (Option.some Jvm.ClassFile.FieldType.boolean)]
set_option maxRecDepth 65536 in
theorem codes_eq : words1.filter isCode = codes1 := rfl
theorem w_codes : ∀ c ∈ words1.filter isCode, c.before args0 about1 = true := by
  rw [codes_eq]
  intro c hc
  simp only [codes1, List.mem_cons, List.not_mem_nil, or_false] at hc
  rcases hc with rfl | rfl
  · exact w_c0
  · exact w_c1
set_option maxRecDepth 65536 in
theorem w_t1 : (words1.take 24).all (fun c => isCode c || c.before args0 about1) = true := by decide +kernel
set_option maxRecDepth 65536 in
theorem w_t2 : (words1.drop 24).all (fun c => isCode c || c.before args0 about1) = true := by decide +kernel
theorem w_tables : (allAtoms (Jvm.Cond.code x code maxLocals ret :: tables_1)).before args0 about1 = true := by
  rw [allAtoms_all]
  show words1.all (fun c => c.before args0 about1) = true
  refine all_split ?_ w_codes
  rw [← List.take_append_drop 24 words1, List.all_append, w_t1, w_t2]
  rfl
set_option maxRecDepth 65536 in
theorem w_case : (Jvm.Cond.and given_1 narrow_1).before args0 about1 = true := by decide +kernel
theorem w_applies : (headSpec (Jvm.Cond.code x code maxLocals ret :: tables_1) room_1).applies x e0.platform about1 = true :=
  (Spec.applies_iff w_frames).mpr ⟨w_running, w_runnable, w_alone, w_named, w_hears, w_ripe, w_room, w_tables⟩
theorem atStart : AtStart classFile x code maxLocals ret World_1 tables_1 room_1 Calls_1 rest_1 Pre_1 launch0 p0 e0 about1 theMethod args0 below0 :=
  ⟨lists_1, trivial, launch0.admits_env _ _ _, launch0.least_env, fairChoices_fair.cas, fairChoices_fair.clock, w_frames, w_args, w_heap, w_applies, trivial, trivial, w_case⟩
end start1
theorem witness_1 : WitnessClaimed_1 := ⟨start1.p0, start1.e0, start1.about1, start1.theMethod, start1.args0, start1.below0, start1.atStart⟩
end Jvm.Pilot.@@N@@
