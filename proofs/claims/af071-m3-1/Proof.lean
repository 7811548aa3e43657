import JvmDerived
import JvmDerived.Pilot.@@N@@Statement
import JvmDerived.Pilot.@@N@@Code
set_option linter.unusedVariables false
set_option linter.unusedSimpArgs false
namespace Jvm.RoadKit
open Sem ClassFile Op Lib Jvm.Stand Jvm.Free Jvm.LawKit
section New
variable {p : Program} {l : Launch} {e : Env} {R : Room} {s : State} {m : MethodId} {args : Array Value} {below : List Frame} {meth : Method} {c : Code} {T : State} {locs : List Loc} {cells slots : Nat}
theorem retI (X : Stand p l e R s m args below meth c T locs cells slots) (hx : p.tables.exec = Jvm.exec) {pc : Nat} {Ls : Array Slot} {z : Int32} {rest : List Value} (hret : meth.sig.returnType = some .int) (hd : decode c.code pc = .ok (.ireturn, 1)) {fs : List Frame}
    (hl : ∀ (f : JFrame) (acts : List Action), f.method = m → f.locked = none → f.entered = [] → (doReturn e (T.setTop f) acts (some (.int z))).1 = T.setFrames fs) : Steps p.tables e below (T.setTop (mkF m pc Ls (.int z :: rest))) (T.setFrames fs) := by
  have hm' : T.vm.method? m = some meth := X.method'
  have hn : narrow .int (.int z) = .int z := rfl
  show Steps p.tables e below (T.setTop { method := m, pc := pc, locals := Ls, stack := _ :: rest, locked := none }) _
  jvm_step X.here [X.here.top, hx, hd, hm', hret, hn]
  first | (intro acts; rw [hl _ acts rfl rfl rfl]) | rw [hl _ _ rfl rfl rfl]
  exact Steps.refl _
end New
end Jvm.RoadKit
namespace Jvm.Pilot.@@N@@
open Jvm Jvm.ClassFile Sem Op Lib Jvm.Free Jvm.Stand Jvm.LawKit Jvm.RoadKit Bundle Jvm.Pilot.@@N@@.Jvm.D
/-! ## The walk in continuation-passing form: what is left to run returns, and Q says of what it returns, of the heap and of the places written -/
def Ogo (p : Program) (e : Env) (below : List Frame) (P : Outcome → State → Prop) (A : State) : Prop :=
  ∃ s₂ o, Steps p.tables e below A s₂ ∧ s₂.status = .running ∧ Ended s₂ below o ∧ P o s₂
/-- it returned v, Q says of v, of the heap and of the places written; nothing else was done since s -/
def Onar (s : State) (R : Room) (Q : Option Value → Heap → List Loc → Prop) (o : Outcome) (t : State) : Prop := ∃ v L, o = .returned v ∧ Q v t.heap L ∧ FrameEnd s o t L R.cells R.slots
abbrev Opays (l : Launch) (y : MethodName) (bytes : ByteArray) (maxL : Nat) (rt : Option FieldType) (rm : Room) (ws : List Jvm.Cond) (Z : State) (h0 : Heap) (as : Array Value) (Q : Option Value → Heap → List Loc → Prop) : Prop :=
  MetFree l y (head1 (Jvm.Cond.code y bytes maxL rt :: ws) rm) (fun a U => a = as ∧ Z.Warmed39 U.vm ∧ U.heap = h0) (fun _ _ _ _ _ => True) (fun _ U o U' => ∃ v L, o = .returned v ∧ Q v U'.heap L ∧ FrameEnd U o U' L rm.cells rm.slots)
section Own
variable {p : Program} {l : Launch} {e : Env} {R : Room} {s : State} {m : MethodId} {args : Array Value} {below : List Frame} {meth : Method} {c : Code} {T : State} {locs : List Loc} {cells slots : Nat} {Z : State} {a0 : Array Value} {h : Heap} {Q : Option Value → Heap → List Loc → Prop} {A B : State} {P : Outcome → State → Prop}
theorem own_via (st : ∀ t, Steps p.tables e below B t → Steps p.tables e below A t) (k : Ogo p e below P B) : Ogo p e below P A := by
  obtain ⟨s₂, o, h1, h2⟩ := k
  exact ⟨s₂, o, st _ h1, h2⟩
theorem own_enter {y : MethodName} {bytes : ByteArray} {maxL : Nat} {rt : Option FieldType} {rm : Room} {ws : List Jvm.Cond} {h0 : Heap} {as : Array Value} (hp : plainFor y = true)
    (body : ∀ p e s m below meth c s₁, p.tables.exec = Jvm.exec → c.code = bytes → c.maxLocals = maxL → s.vm.findClass y.cls = some m.cls → meth.name = y.name → meth.sig.returnType = rt → meth.locks = false → Z.Warmed39 s.vm → s₁.heap = h0 →
      Stand p l e rm s m as below meth c s₁ [] 0 0 → Ogo p e below (Onar s rm Q) (s₁.setTop (entryFrame m as maxL))) : Opays l y bytes maxL rt rm ws Z h0 as Q := by
  refine MetFree.of_bodySF hp hisR ?_
  intro p e s m args below meth c s₁ Bd hml0 hP hK
  obtain ⟨rfl, hZ, hh⟩ := hP
  have X0 : Stand p l e rm s m args below meth c s₁ [] 0 0 := Stand.of_body Bd
  have e0 : s₁.heap = h0 := by rw [← hh, Bd.state]; rfl
  exact body p e s m below meth c s₁ Bd.exec Bd.bytes hml0 (findClass_of_methodNamed Bd.named) (name_of_methodNamed Bd.named Bd.method).1 Bd.returns Bd.notSynchronized hZ e0 X0
theorem own_out (X : Stand p l e R s m args below meth c T locs cells slots) (hlk : meth.locks = false) {v : Option Value} (hv : meth.sig.returnType = none → v = none) (hc : cells ≤ R.cells) (hs : slots ≤ R.slots) (hQ : Q v T.heap locs)
    (k : ∀ fs, (∀ (f : JFrame) (acts : List Action), f.method = m → f.locked = none → f.entered = [] → (doReturn e (T.setTop f) acts v).1 = T.setFrames fs) → Steps p.tables e below A (T.setFrames fs)) : Ogo p e below (Onar s R Q) A := by
  obtain ⟨fs, hr, hrun, hended, hW, hsame⟩ := X.leave (v := v) hv hlk
  exact ⟨_, _, k fs hr, hrun, hended, _, _, rfl, hQ, ⟨_, rfl⟩, hW, hsame.mono hc hs⟩
theorem own_retL (X : Stand p l e R s m args below meth c T locs cells slots) (hx : p.tables.exec = Jvm.exec) {pc : Nat} {Ls : Array Slot} {z : Int64} {rest : List Value} (hret : meth.sig.returnType = some .long) (hd : decode c.code pc = .ok (.lreturn, 1)) {fs : List Frame}
    (hl : ∀ (f : JFrame) (acts : List Action), f.method = m → f.locked = none → f.entered = [] → (doReturn e (T.setTop f) acts (some (.long z))).1 = T.setFrames fs) : Steps p.tables e below (T.setTop (mkF m pc Ls (.long z :: rest))) (T.setFrames fs) :=
  retOut X hx hret rfl (Or.inr (Or.inl ⟨rfl, rfl, _, rfl⟩)) hd hl
theorem own_retD (X : Stand p l e R s m args below meth c T locs cells slots) (hx : p.tables.exec = Jvm.exec) {pc : Nat} {Ls : Array Slot} {z : UInt64} {rest : List Value} (hret : meth.sig.returnType = some .double) (hd : decode c.code pc = .ok (.dreturn, 1)) {fs : List Frame}
    (hl : ∀ (f : JFrame) (acts : List Action), f.method = m → f.locked = none → f.entered = [] → (doReturn e (T.setTop f) acts (some (.double z))).1 = T.setFrames fs) : Steps p.tables e below (T.setTop (mkF m pc Ls (.double z :: rest))) (T.setFrames fs) :=
  retOut X hx hret rfl (Or.inr (Or.inr (Or.inl ⟨rfl, rfl, _, rfl⟩))) hd hl
theorem own_retA (X : Stand p l e R s m args below meth c T locs cells slots) (hx : p.tables.exec = Jvm.exec) {pc : Nat} {Ls : Array Slot} {w : Value} {t : FieldType} {rest : List Value} (hret : meth.sig.returnType = some t) (ht : t.isReference = true) (hv : w.isRef = true) (hd : decode c.code pc = .ok (.areturn, 1)) {fs : List Frame}
    (hl : ∀ (f : JFrame) (acts : List Action), f.method = m → f.locked = none → f.entered = [] → (doReturn e (T.setTop f) acts (some w)).1 = T.setFrames fs) : Steps p.tables e below (T.setTop (mkF m pc Ls (w :: rest))) (T.setFrames fs) :=
  retOut X hx hret (by cases t <;> first | rfl | cases ht) (Or.inr (Or.inr (Or.inr (Or.inr ⟨rfl, ht, hv⟩)))) hd hl
theorem own_lrem {g : JFrame} {target : State} (X : Stand p l e R s m args below meth c T locs cells slots) (hx : p.tables.exec = Jvm.exec) (hg : g.method = m) {x y : Int64} {rest : List Value} (hd : decode c.code g.pc = .ok (.lrem, 1)) (hs : g.stack = .long y :: .long x :: rest) (hy : y ≠ 0)
    (hr : Steps p.tables e below (T.setTop { g with pc := g.pc + 1, stack := .long (x % y) :: rest }) target) : Steps p.tables e below (T.setTop g) target :=
  XS.lrem X.here hx hg hd hs hy (by rw [lrem_mod]; exact hr)
/-! calls: the callee's contract pays -/
theorem own_callS (X : Stand p l e R s m args below meth c T locs cells slots) (hx : p.tables.exec = Jvm.exec) (hZ : Z.Warmed39 s.vm) {own : String} {index : Nat} {y : MethodName} {bytes : ByteArray} {maxL : Nat} {rt : Option FieldType}
    (hown : s.vm.findClass own = some m.cls) (wl : (Jvm.Cond.methodLink own index y).before a0 Z = true) (wst : (Jvm.Cond.static y).before a0 Z = true) (wi : (Jvm.Cond.initialized y.cls).before a0 Z = true) (wc : (Jvm.Cond.code y bytes maxL rt).before a0 Z = true)
    (hy : y.cls ≠ "java/lang/invoke/MethodHandle" ∧ y.cls ≠ "java/lang/invoke/VarHandle") {rm : Room} {as : Array Value} {Qc : Option Value → Heap → List Loc → Prop} (hM : Opays l y bytes maxL rt rm [] Z h as Qc) {argsL rest : List Value} (ha : argsL.toArray = as) (eT : T.heap = h) {W : Nat} (hf : rm.frames + 1 ≤ R.frames) (hl : W + (maxL + 11) + rm.locals ≤ R.locals) (hc : cells + rm.cells ≤ R.cells) (hs : slots + rm.slots ≤ R.slots)
    {pc : Nat} {Ls : Array Slot} {st : List Value} (hsize : Ls.size = c.maxLocals) (hlen : ∀ sig, parseMethodDescriptor y.desc = some sig → argsL.length = sig.parameters.length) (hst : st = argsL.reverse ++ rest) (hW : (rest.map fun v => v.category).sum ≤ W) (hd : decode c.code pc = .ok (.invokestatic index, 3))
    (k : ∀ v T' L, Stand p l e R s m args below meth c T' (locs ++ L) (cells + rm.cells) (slots + rm.slots) → Qc v T'.heap L → Ogo p e below P (T'.setTop (mkF m (pc + 3) Ls (v.toList ++ rest)))) : Ogo p e below P (T.setTop (mkF m pc Ls st)) := by
  obtain ⟨v, _, ⟨T', L', k', n'⟩, -, X', ⟨Lc, hQ, l1, y1, z1⟩, step⟩ := Jvm.LawKit.callS X hx (y := y) hown (mvT hZ wl) (mvT hZ wst) (mvT hZ wi) (mvT hZ wc) hy (backOf (W := W) hM hZ wc wi hf hl) (g := mkF m pc Ls st) rfl hsize (argsL := argsL) (rest := rest) hlen hst (by show 2 * 0 + _ ≤ _; omega) hd (fun _ _ => ⟨ha, eT, hc, hs⟩)
  dsimp only [Pt.U, Pt.locs, Pt.cells, Pt.slots] at X' l1 y1 z1 step hQ
  subst l1 y1 z1
  exact own_via step (k v T' Lc X' hQ)
theorem own_callI (X : Stand p l e R s m args below meth c T locs cells slots) (hx : p.tables.exec = Jvm.exec) (hZ : Z.Warmed39 s.vm) {own : String} {index : Nat} {y : MethodName} {bytes : ByteArray} {maxL : Nat} (hy1 : y.name = "<init>")
    (hown : s.vm.findClass own = some m.cls) (wl : (Jvm.Cond.methodLink own index y).before a0 Z = true) (wst : (Jvm.Cond.instanceMethod y).before a0 Z = true) (wi : (Jvm.Cond.initialized y.cls).before a0 Z = true) (wc : (Jvm.Cond.code y bytes maxL none).before a0 Z = true)
    (hy : y.cls ≠ "java/lang/invoke/MethodHandle" ∧ y.cls ≠ "java/lang/invoke/VarHandle") {rm : Room} {as : Array Value} {Qc : Option Value → Heap → List Loc → Prop} (hM : Opays l y bytes maxL none rm [] Z h as Qc) {a : Addr} {argsL rest : List Value} (ha : (.ref a :: argsL).toArray = as) (eT : T.heap = h) {W : Nat} (hf : rm.frames + 1 ≤ R.frames) (hl : W + (maxL + 11) + rm.locals ≤ R.locals) (hc : cells + rm.cells ≤ R.cells) (hs : slots + rm.slots ≤ R.slots)
    {pc : Nat} {Ls : Array Slot} {st : List Value} (hsize : Ls.size = c.maxLocals) (hlen : ∀ sig, parseMethodDescriptor y.desc = some sig → argsL.length = sig.parameters.length) (hst : st = argsL.reverse ++ .ref a :: rest) (hW : (rest.map fun v => v.category).sum ≤ W) (hd : decode c.code pc = .ok (.invokespecial index, 3))
    (k : ∀ v T' L, Stand p l e R s m args below meth c T' (locs ++ L) (cells + rm.cells) (slots + rm.slots) → Qc v T'.heap L → Ogo p e below P (T'.setTop (mkF m (pc + 3) Ls (v.toList ++ rest)))) : Ogo p e below P (T.setTop (mkF m pc Ls st)) := by
  obtain ⟨v, _, ⟨T', L', k', n'⟩, -, X', ⟨Lc, hQ, l1, y1, z1⟩, step⟩ := X.specialBack hx (y := y) hy1 hown (mvT hZ wl) (mvT hZ wst) (mvT hZ wc) hy (backOf (W := W) hM hZ wc wi hf hl) (g := mkF m pc Ls st) rfl hsize (Steps.refl _) (a := a) (argsL := argsL) (rest := rest) hlen hst (by show 2 * 0 + _ ≤ _; omega) hd (fun _ _ => ⟨ha, eT, hc, hs⟩)
  dsimp only [Pt.U, Pt.locs, Pt.cells, Pt.slots] at X' l1 y1 z1 step hQ
  subst l1 y1 z1
  exact own_via (fun _ q => step.trans q) (k v T' Lc X' hQ)
theorem own_callV (X : Stand p l e R s m args below meth c T locs cells slots) (hx : p.tables.exec = Jvm.exec) (hZ : Z.Warmed39 s.vm) {own C : String} {index : Nat} {y z : MethodName} {bytes : ByteArray} {maxL : Nat} {rt : Option FieldType}
    (hown : s.vm.findClass own = some m.cls) (wl : (Jvm.Cond.methodLink own index y).before a0 Z = true) (wd : (Jvm.Cond.declares y).before a0 Z = true) (ws : (Jvm.Cond.selects C y z).before a0 Z = true) (wst : (Jvm.Cond.instanceMethod z).before a0 Z = true) (wi : (Jvm.Cond.initialized z.cls).before a0 Z = true) (wc : (Jvm.Cond.code z bytes maxL rt).before a0 Z = true) (hyz : NotFace s y)
    (hy : y.cls ≠ "java/lang/invoke/MethodHandle" ∧ y.cls ≠ "java/lang/invoke/VarHandle") {rm : Room} {as : Array Value} {Qc : Option Value → Heap → List Loc → Prop} (hM : Opays l z bytes maxL rt rm [] Z h as Qc) {b : Addr} {argsL rest : List Value} (ha : (.ref b :: argsL).toArray = as) (eT : T.heap = h) (F : Exa Z h b C) {W : Nat} (hf : rm.frames + 1 ≤ R.frames) (hl : W + (maxL + 11) + rm.locals ≤ R.locals) (hc : cells + rm.cells ≤ R.cells) (hs : slots + rm.slots ≤ R.slots)
    {pc : Nat} {Ls : Array Slot} {st : List Value} (hsize : Ls.size = c.maxLocals) (hlen : ∀ sig, parseMethodDescriptor y.desc = some sig → argsL.length = sig.parameters.length) (hst : st = argsL.reverse ++ .ref b :: rest) (hW : (rest.map fun v => v.category).sum ≤ W) (hd : decode c.code pc = .ok (.invokevirtual index, 3))
    (k : ∀ v T' L, Stand p l e R s m args below meth c T' (locs ++ L) (cells + rm.cells) (slots + rm.slots) → Qc v T'.heap L → Ogo p e below P (T'.setTop (mkF m (pc + 3) Ls (v.toList ++ rest)))) : Ogo p e below P (T.setTop (mkF m pc Ls st)) := by
  obtain ⟨cq, kq, qa, qb, qc⟩ := isOf hZ eT F
  obtain ⟨v, _, ⟨T', L', k', n'⟩, -, X', ⟨Lc, hQ, l1, y1, z1⟩, step⟩ := X.virtualBack hx (y := y) (z := z) hown (mvT hZ wl) (mvT hZ wd) hyz (mvT hZ ws) (mvT hZ wst) hy (backOf (W := W) hM hZ wc wi hf hl) qa qc (g := mkF m pc Ls st) rfl hsize (Steps.refl _) (argsL := argsL) (rest := rest) hlen hst (by show 2 * 0 + _ ≤ _; omega) hd (fun _ _ => ⟨ha, eT, hc, hs⟩)
  dsimp only [Pt.U, Pt.locs, Pt.cells, Pt.slots] at X' l1 y1 z1 step hQ
  subst l1 y1 z1
  exact own_via (fun _ q => step.trans q) (k v T' Lc X' hQ)
/-- a private method of a class that is no interface -/
theorem own_callP (X : Stand p l e R s m args below meth c T locs cells slots) (hx : p.tables.exec = Jvm.exec) (hZ : Z.Warmed39 s.vm) {own C : String} {index kk : Nat} {y : MethodName} {bytes : ByteArray} {maxL : Nat} {rt : Option FieldType}
    (hown : s.vm.findClass own = some m.cls) (wl : (Jvm.Cond.methodLink own index y).before a0 Z = true) (wst : (Jvm.Cond.instanceMethod y).before a0 Z = true) (wp : (Jvm.Cond.privateMethod y).before a0 Z = true) (wi : (Jvm.Cond.initialized y.cls).before a0 Z = true) (wn : (Jvm.Cond.instantiable y.cls kk).before a0 Z = true) (wc : (Jvm.Cond.code y bytes maxL rt).before a0 Z = true)
    (hy : y.cls ≠ "java/lang/invoke/MethodHandle" ∧ y.cls ≠ "java/lang/invoke/VarHandle") {rm : Room} {as : Array Value} {Qc : Option Value → Heap → List Loc → Prop} (hM : Opays l y bytes maxL rt rm [] Z h as Qc) {b : Addr} {argsL rest : List Value} (ha : (.ref b :: argsL).toArray = as) (eT : T.heap = h) (F : Exa Z h b C) {W : Nat} (hf : rm.frames + 1 ≤ R.frames) (hl : W + (maxL + 11) + rm.locals ≤ R.locals) (hc : cells + rm.cells ≤ R.cells) (hs : slots + rm.slots ≤ R.slots)
    {pc : Nat} {Ls : Array Slot} {st : List Value} (hsize : Ls.size = c.maxLocals) (hlen : ∀ sig, parseMethodDescriptor y.desc = some sig → argsL.length = sig.parameters.length) (hst : st = argsL.reverse ++ .ref b :: rest) (hW : (rest.map fun v => v.category).sum ≤ W) (hd : decode c.code pc = .ok (.invokevirtual index, 3))
    (k : ∀ v T' L, Stand p l e R s m args below meth c T' (locs ++ L) (cells + rm.cells) (slots + rm.slots) → Qc v T'.heap L → Ogo p e below P (T'.setTop (mkF m (pc + 3) Ls (v.toList ++ rest)))) : Ogo p e below P (T.setTop (mkF m pc Ls st)) := by
  obtain ⟨cq, q1, q2⟩ := F.cell
  have hpriv : s.PrivateAt y := Cond.privateMethod_at (mvP hZ wp (args := #[]))
  obtain ⟨c2, k2, i1, i2, i3, i4, -⟩ := Cond.instantiable_spec (mv (s := s) (args := args) hZ wn)
  have hni : k2.isInterface = false := (Bool.or_eq_false_iff.mp i4).1
  obtain ⟨v, _, ⟨T', L', k', n'⟩, -, X', ⟨Lc, hQ, l1, y1, z1⟩, step⟩ := X.privateBack hx (y := y) hown (mvT hZ wl) (mvT hZ wst) (selects_self_of_private i1 i2 hni hpriv (mvT hZ wst) hy) hpriv (mvT hZ wc) hy (backOf (W := W) hM hZ wc wi hf hl) (g := mkF m pc Ls st) rfl hsize (Steps.refl _) (a := b) (by rw [eT]; exact q1) q2 (argsL := argsL) (rest := rest) hlen hst (by show 2 * 0 + _ ≤ _; omega) hd (fun _ _ => ⟨ha, eT, hc, hs⟩)
  dsimp only [Pt.U, Pt.locs, Pt.cells, Pt.slots] at X' l1 y1 z1 step hQ
  subst l1 y1 z1
  exact own_via (fun _ q => step.trans q) (k v T' Lc X' hQ)
/-- a method of an interface -/
theorem own_callF (X : Stand p l e R s m args below meth c T locs cells slots) (hx : p.tables.exec = Jvm.exec) (hZ : Z.Warmed39 s.vm) {own C : String} {index count : Nat} {y z : MethodName} {bytes : ByteArray} {maxL : Nat} {rt : Option FieldType}
    (hown : s.vm.findClass own = some m.cls) (wl : (Jvm.Cond.methodLink own index y).before a0 Z = true) (wd : (Jvm.Cond.declares y).before a0 Z = true) (wf : (Jvm.Cond.interfaceMethod y.cls y.cls y.name y.desc).before args s = true) (ws : (Jvm.Cond.selects C y z).before a0 Z = true) (wst : (Jvm.Cond.instanceMethod z).before a0 Z = true) (wp : (Jvm.Cond.publicMethod z).before a0 Z = true) (wu : (Jvm.Cond.unhidden C y.name y.desc).before a0 Z = true) (wk : (Jvm.Cond.castable C y.cls).before a0 Z = true) (wi : (Jvm.Cond.initialized z.cls).before a0 Z = true) (wc : (Jvm.Cond.code z bytes maxL rt).before a0 Z = true)
    (hy : y.cls ≠ "java/lang/invoke/MethodHandle" ∧ y.cls ≠ "java/lang/invoke/VarHandle") {rm : Room} {as : Array Value} {Qc : Option Value → Heap → List Loc → Prop} (hM : Opays l z bytes maxL rt rm [] Z h as Qc) {b : Addr} {argsL rest : List Value} (ha : (.ref b :: argsL).toArray = as) (eT : T.heap = h) (F : Exa Z h b C) {W : Nat} (hf : rm.frames + 1 ≤ R.frames) (hl : W + (maxL + 11) + rm.locals ≤ R.locals) (hc : cells + rm.cells ≤ R.cells) (hs : slots + rm.slots ≤ R.slots)
    {pc : Nat} {Ls : Array Slot} {st : List Value} (hsize : Ls.size = c.maxLocals) (hlen : ∀ sig, parseMethodDescriptor y.desc = some sig → argsL.length = sig.parameters.length) (hst : st = argsL.reverse ++ .ref b :: rest) (hW : (rest.map fun v => v.category).sum ≤ W) (hd : decode c.code pc = .ok (.invokeinterface index count, 5))
    (k : ∀ v T' L, Stand p l e R s m args below meth c T' (locs ++ L) (cells + rm.cells) (slots + rm.slots) → Qc v T'.heap L → Ogo p e below P (T'.setTop (mkF m (pc + 5) Ls (v.toList ++ rest)))) : Ogo p e below P (T.setTop (mkF m pc Ls st)) := by
  obtain ⟨cq, kq, qa, qb, qc⟩ := isOf hZ eT F
  obtain ⟨v, _, ⟨T', L', k', n'⟩, -, X', ⟨Lc, hQ, l1, y1, z1⟩, step⟩ := X.interfaceBack hx (xi := y) (y := z) hown (mvT hZ wl) (mvT hZ wd) wf (mvT hZ ws) (mvT hZ wst) (mvT hZ wp) (mvT hZ wu) (mvT hZ wk) hy (backOf (W := W) hM hZ wc wi hf hl) qa qb qc (g := mkF m pc Ls st) rfl hsize (Steps.refl _) (argsL := argsL) (rest := rest) hlen hst (by show 2 * 0 + _ ≤ _; omega) hd (fun _ _ => ⟨ha, eT, hc, hs⟩)
  dsimp only [Pt.U, Pt.locs, Pt.cells, Pt.slots] at X' l1 y1 z1 step hQ
  subst l1 y1 z1
  exact own_via (fun _ q => step.trans q) (k v T' Lc X' hQ)
end Own
/-! ## An array by its values: n places, place j holds f j -/
/-- the array at a has n places of kind ty; place j holds f j -/
def Oar (Z : State) (h : Heap) (a : Addr) (ty : FieldType) (n : Nat) (f : Nat → Value) : Prop := n < 2 ^ 31 ∧ ∃ cl : Cell, Arr Z h a cl ty ∧ cl.slots.size = n ∧ ∀ j, j < n → cl.slots[j]? = some (f j)
section Own2
variable {p : Program} {l : Launch} {e : Env} {R : Room} {s : State} {m : MethodId} {args : Array Value} {below : List Frame} {meth : Method} {c : Code} {T : State} {locs : List Loc} {cells slots : Nat} {Z : State} {a0 : Array Value} {h h' : Heap} {P : Outcome → State → Prop} {a b : Addr} {ty : FieldType} {n i sl : Nat} {f : Nat → Value} {v : Value} {ws : List Addr} {j z : Int32}
theorem Oar.lt (A : Oar Z h a ty n f) : a < h.size := by obtain ⟨_, cl, A, _⟩ := A; exact A.lt
theorem Oar.ext (A : Oar Z h a ty n f) (E : Ext h h') : Oar Z h' a ty n f := by obtain ⟨q, cl, A, r⟩ := A; exact ⟨q, cl, A.ext E, r⟩
theorem Oar.other (A : Oar Z h b ty n f) (W : Wr h h' a sl v) (q : b ≠ a) : Oar Z h' b ty n f := by obtain ⟨z, cl, A, r⟩ := A; exact ⟨z, cl, A.other W q, r⟩
theorem Oar.keep (A : Oar Z h a ty n f) (K : Keep h h' ws) (q : a ∉ ws) : Oar Z h' a ty n f := by obtain ⟨z, cl, A, r⟩ := A; exact ⟨z, cl, ⟨K.2.1 a cl A.1 q, A.2⟩, r⟩
theorem Oar.cast {f' : Nat → Value} (A : Oar Z h a ty n f) (q : ∀ j, j < n → f j = f' j) : Oar Z h a ty n f' := by obtain ⟨z, cl, A, S, r⟩ := A; exact ⟨z, cl, A, S, fun j hj => by rw [← q j hj]; exact r j hj⟩
theorem Oar.new {k : ClassId} (A : Arr Z h a (newA k ty z) ty) (hz : ¬ z < 0) (hn : z.toNatClampNeg = n) : Oar Z h a ty n (fun _ => defaultValue ty) := by
  subst hn
  refine ⟨(back32 hz).2, _, A, sz_new _ _ _, fun j hj => ?_⟩
  simp [newA, hj]
theorem Oar.set (A : Oar Z h a ty n f) (W : Wr h h' a i v) : Oar Z h' a ty n (fun j => if j = i then v else f j) := by
  obtain ⟨q, cl, A, S, H⟩ := A
  obtain ⟨cell, e1, -, e3, -⟩ := id W
  cases A.1.symm.trans e1
  refine ⟨q, _, A.same W, by rw [sz_set]; exact S, fun j hj => ?_⟩
  by_cases u : i = j
  · subst u; simp [Cell.setSlot, e3]
  · have u' : ¬ j = i := fun x => u x.symm
    simp only [if_neg u', Cell.setSlot]; rw [Array.getElem?_setIfInBounds_ne u]; exact H j hj
theorem own_cl (hj : j.toInt = (i : Int)) : ¬ j < 0 ∧ j.toNatClampNeg = i := by
  refine ⟨fun q => ?_, ?_⟩
  · rw [Int32.lt_iff_toInt_lt] at q; have : (0 : Int32).toInt = 0 := rfl; omega
  · simp only [Int32.toNatClampNeg, hj]; rfl
theorem Oar.at (A : Oar Z h a ty n f) (hj : j.toInt = (i : Int)) (hi : i < n) : ∃ cl : Cell, Arr Z h a cl ty ∧ ¬ (j < 0 ∨ cl.slots.size ≤ j.toNatClampNeg) ∧ cl.slots[j.toNatClampNeg]? = some (f i) := by
  obtain ⟨q, cl, A, S, H⟩ := A
  obtain ⟨q1, q2⟩ := own_cl hj
  exact ⟨cl, A, fun q => q.elim q1 fun u => by rw [q2, S] at u; omega, by rw [q2]; exact H i hi⟩
/-- arraylength -/
theorem own_alen (X : Stand p l e R s m args below meth c T locs cells slots) (hx : p.tables.exec = Jvm.exec) (hZ : Z.Warmed39 s.vm) (eT : T.heap = h) (A : Oar Z h a ty n f) (hz : z.toInt = (n : Int)) {pc : Nat} {Ls : Array Slot} {rest : List Value} (hd : decode c.code pc = .ok (.arraylength, 1))
    (k : Ogo p e below P (T.setTop (mkF m (pc + 1) Ls (.int z :: rest)))) : Ogo p e below P (T.setTop (mkF m pc Ls (.ref a :: rest))) := by
  obtain ⟨q, cl, A, S, H⟩ := A
  have e1 : cl.slots.size.toInt32 = z := Int32.toInt_inj.mp (by rw [S, len_toInt q, hz])
  refine own_via (fun t k => X.arraylength hx (by rw [eT]; exact A.1) (State.isArrayOf_alike hZ.alike A.2.1) (g := mkF m pc Ls (.ref a :: rest)) rfl rfl hd _ k) ?_
  rw [e1]; exact k
theorem own_iald (X : Stand p l e R s m args below meth c T locs cells slots) (hx : p.tables.exec = Jvm.exec) (hZ : Z.Warmed39 s.vm) (eT : T.heap = h) (A : Oar Z h a .int n f) (hj : j.toInt = (i : Int)) (hi : i < n) (hv : f i = v) {pc : Nat} {Ls : Array Slot} {rest : List Value} (hd : decode c.code pc = .ok (.iaload, 1))
    (k : Ogo p e below P (T.setTop (mkF m (pc + 1) Ls (v :: rest)))) : Ogo p e below P (T.setTop (mkF m pc Ls (.int j :: .ref a :: rest))) := by
  obtain ⟨cl, A, h1, h2⟩ := A.at hj hi
  rw [hv] at h2
  exact own_via (fun t k => X.iaload hx (j := j) (v := v) (by rw [eT]; exact A.1) (State.isArrayOf_alike hZ.alike A.2.1) A.2.2 h1 h2 (g := mkF m pc Ls (.int j :: .ref a :: rest)) rfl rfl hd _ k) k
theorem own_bald (X : Stand p l e R s m args below meth c T locs cells slots) (hx : p.tables.exec = Jvm.exec) (hZ : Z.Warmed39 s.vm) (eT : T.heap = h) (A : Oar Z h a .byte n f) (hj : j.toInt = (i : Int)) (hi : i < n) (hv : f i = v) {pc : Nat} {Ls : Array Slot} {rest : List Value} (hd : decode c.code pc = .ok (.baload, 1))
    (k : Ogo p e below P (T.setTop (mkF m (pc + 1) Ls (v :: rest)))) : Ogo p e below P (T.setTop (mkF m pc Ls (.int j :: .ref a :: rest))) := by
  obtain ⟨cl, A, h1, h2⟩ := A.at hj hi
  rw [hv] at h2
  exact own_via (fun t k => X.baloadBytes hx (j := j) (v := v) (by rw [eT]; exact A.1) (State.isArrayOf_alike hZ.alike A.2.1) A.2.2 h1 h2 (g := mkF m pc Ls (.int j :: .ref a :: rest)) rfl rfl hd _ k) k
theorem own_zald (X : Stand p l e R s m args below meth c T locs cells slots) (hx : p.tables.exec = Jvm.exec) (hZ : Z.Warmed39 s.vm) (eT : T.heap = h) (A : Oar Z h a .boolean n f) (hj : j.toInt = (i : Int)) (hi : i < n) (hv : f i = v) {pc : Nat} {Ls : Array Slot} {rest : List Value} (hd : decode c.code pc = .ok (.baload, 1))
    (k : Ogo p e below P (T.setTop (mkF m (pc + 1) Ls (v :: rest)))) : Ogo p e below P (T.setTop (mkF m pc Ls (.int j :: .ref a :: rest))) := by
  obtain ⟨cl, A, h1, h2⟩ := A.at hj hi
  rw [hv] at h2
  exact own_via (fun t k => X.baloadBooleans hx (j := j) (v := v) (by rw [eT]; exact A.1) (State.isArrayOf_alike hZ.alike A.2.1) A.2.2 h1 h2 (g := mkF m pc Ls (.int j :: .ref a :: rest)) rfl rfl hd _ k) k
theorem own_dald (X : Stand p l e R s m args below meth c T locs cells slots) (hx : p.tables.exec = Jvm.exec) (hZ : Z.Warmed39 s.vm) (eT : T.heap = h) (A : Oar Z h a .double n f) (hj : j.toInt = (i : Int)) (hi : i < n) (hv : f i = v) {pc : Nat} {Ls : Array Slot} {rest : List Value} (hd : decode c.code pc = .ok (.daload, 1))
    (k : Ogo p e below P (T.setTop (mkF m (pc + 1) Ls (v :: rest)))) : Ogo p e below P (T.setTop (mkF m pc Ls (.int j :: .ref a :: rest))) := by
  obtain ⟨cl, A, h1, h2⟩ := A.at hj hi
  rw [hv] at h2
  exact own_via (fun t k => X.daload hx (j := j) (v := v) (by rw [eT]; exact A.1) (State.isArrayOf_alike hZ.alike A.2.1) A.2.2 h1 h2 (g := mkF m pc Ls (.int j :: .ref a :: rest)) rfl rfl hd _ k) k
theorem own_aald (X : Stand p l e R s m args below meth c T locs cells slots) (hx : p.tables.exec = Jvm.exec) (hZ : Z.Warmed39 s.vm) (eT : T.heap = h) (A : Oar Z h a ty n f) (ht : ty.isReference = true) (hj : j.toInt = (i : Int)) (hi : i < n) (hv : f i = v) {pc : Nat} {Ls : Array Slot} {rest : List Value} (hd : decode c.code pc = .ok (.aaload, 1))
    (k : Ogo p e below P (T.setTop (mkF m (pc + 1) Ls (v :: rest)))) : Ogo p e below P (T.setTop (mkF m pc Ls (.int j :: .ref a :: rest))) := by
  obtain ⟨cl, A, h1, h2⟩ := A.at hj hi
  rw [hv] at h2
  exact own_via (fun t k => X.aaload hx (j := j) (v := v) (by rw [eT]; exact A.1) (State.isArrayOf_alike hZ.alike A.2.1) ht A.2.2 h1 h2 (g := mkF m pc Ls (.int j :: .ref a :: rest)) rfl rfl hd _ k) k
theorem own_iast (X : Stand p l e R s m args below meth c T locs cells slots) (hx : p.tables.exec = Jvm.exec) (hZ : Z.Warmed39 s.vm) (eT : T.heap = h) (A : Oar Z h a .int n f) {x : Int32} (hj : j.toInt = (i : Int)) (hi : i < n) {pc : Nat} {Ls : Array Slot} {rest : List Value} (hd : decode c.code pc = .ok (.iastore, 1)) :
    ∃ T' h', Stand p l e R s m args below meth c T' (locs ++ [⟨a, i⟩]) cells slots ∧ T'.heap = h' ∧ Wr h h' a i (.int x) ∧ Oar Z h' a .int n (fun q => if q = i then .int x else f q) ∧ ∀ t, Steps p.tables e below (T'.setTop (mkF m (pc + 1) Ls rest)) t → Steps p.tables e below (T.setTop (mkF m pc Ls (.int x :: .int j :: .ref a :: rest))) t := by
  obtain ⟨cl, A', h1, h2⟩ := A.at hj hi
  obtain ⟨T', h', X', e', W, st⟩ := stI X hx hZ eT A' (j := j) (x := x) h1 (g := mkF m pc Ls (.int x :: .int j :: .ref a :: rest)) rfl rfl hd
  rw [(own_cl hj).2] at X' W
  exact ⟨T', h', X', e', W, A.set W, st⟩
theorem own_bast (X : Stand p l e R s m args below meth c T locs cells slots) (hx : p.tables.exec = Jvm.exec) (hZ : Z.Warmed39 s.vm) (eT : T.heap = h) (A : Oar Z h a .byte n f) {x : Int32} (hj : j.toInt = (i : Int)) (hi : i < n) {pc : Nat} {Ls : Array Slot} {rest : List Value} (hd : decode c.code pc = .ok (.bastore, 1)) :
    ∃ T' h', Stand p l e R s m args below meth c T' (locs ++ [⟨a, i⟩]) cells slots ∧ T'.heap = h' ∧ Wr h h' a i (.int (nar .byte x)) ∧ Oar Z h' a .byte n (fun q => if q = i then .int (nar .byte x) else f q) ∧ ∀ t, Steps p.tables e below (T'.setTop (mkF m (pc + 1) Ls rest)) t → Steps p.tables e below (T.setTop (mkF m pc Ls (.int x :: .int j :: .ref a :: rest))) t := by
  obtain ⟨cl, A', h1, h2⟩ := A.at hj hi
  obtain ⟨T', h', X', e', W, st⟩ := stB X hx hZ eT A' (j := j) (x := x) h1 (g := mkF m pc Ls (.int x :: .int j :: .ref a :: rest)) rfl rfl hd
  rw [(own_cl hj).2] at X' W
  exact ⟨T', h', X', e', W, A.set W, st⟩
theorem own_zast (X : Stand p l e R s m args below meth c T locs cells slots) (hx : p.tables.exec = Jvm.exec) (hZ : Z.Warmed39 s.vm) (eT : T.heap = h) (A : Oar Z h a .boolean n f) {x : Int32} (hj : j.toInt = (i : Int)) (hi : i < n) {pc : Nat} {Ls : Array Slot} {rest : List Value} (hd : decode c.code pc = .ok (.bastore, 1)) :
    ∃ T' h', Stand p l e R s m args below meth c T' (locs ++ [⟨a, i⟩]) cells slots ∧ T'.heap = h' ∧ Wr h h' a i (.int (nar .boolean x)) ∧ Oar Z h' a .boolean n (fun q => if q = i then .int (nar .boolean x) else f q) ∧ ∀ t, Steps p.tables e below (T'.setTop (mkF m (pc + 1) Ls rest)) t → Steps p.tables e below (T.setTop (mkF m pc Ls (.int x :: .int j :: .ref a :: rest))) t := by
  obtain ⟨cl, A', h1, h2⟩ := A.at hj hi
  obtain ⟨T', h', X', e', W, st⟩ := stZ X hx hZ eT A' (j := j) (x := x) h1 (g := mkF m pc Ls (.int x :: .int j :: .ref a :: rest)) rfl rfl hd
  rw [(own_cl hj).2] at X' W
  exact ⟨T', h', X', e', W, A.set W, st⟩
theorem own_dast (X : Stand p l e R s m args below meth c T locs cells slots) (hx : p.tables.exec = Jvm.exec) (hZ : Z.Warmed39 s.vm) (eT : T.heap = h) (A : Oar Z h a .double n f) {x : UInt64} (hj : j.toInt = (i : Int)) (hi : i < n) {pc : Nat} {Ls : Array Slot} {rest : List Value} (hd : decode c.code pc = .ok (.dastore, 1)) :
    ∃ T' h', Stand p l e R s m args below meth c T' (locs ++ [⟨a, i⟩]) cells slots ∧ T'.heap = h' ∧ Wr h h' a i (.double x) ∧ Oar Z h' a .double n (fun q => if q = i then .double x else f q) ∧ ∀ t, Steps p.tables e below (T'.setTop (mkF m (pc + 1) Ls rest)) t → Steps p.tables e below (T.setTop (mkF m pc Ls (.double x :: .int j :: .ref a :: rest))) t := by
  obtain ⟨cl, A', h1, h2⟩ := A.at hj hi
  obtain ⟨T', h', X', e', W, st⟩ := stD X hx hZ eT A' (j := j) (x := x) h1 (g := mkF m pc Ls (.double x :: .int j :: .ref a :: rest)) rfl rfl hd
  rw [(own_cl hj).2] at X' W
  exact ⟨T', h', X', e', W, A.set W, st⟩
theorem own_aast (X : Stand p l e R s m args below meth c T locs cells slots) (hx : p.tables.exec = Jvm.exec) (hZ : Z.Warmed39 s.vm) (eT : T.heap = h) (A : Oar Z h a ty n f) (ht : ty.isReference = true) (F : Sto Z h a v) (hj : j.toInt = (i : Int)) (hi : i < n) {pc : Nat} {Ls : Array Slot} {rest : List Value} (hd : decode c.code pc = .ok (.aastore, 1)) :
    ∃ T' h', Stand p l e R s m args below meth c T' (locs ++ [⟨a, i⟩]) cells slots ∧ T'.heap = h' ∧ Wr h h' a i v ∧ Oar Z h' a ty n (fun q => if q = i then v else f q) ∧ ∀ t, Steps p.tables e below (T'.setTop (mkF m (pc + 1) Ls rest)) t → Steps p.tables e below (T.setTop (mkF m pc Ls (v :: .int j :: .ref a :: rest))) t := by
  obtain ⟨cl, A', h1, h2⟩ := A.at hj hi
  obtain ⟨T', h', X', e', W, st⟩ := stR X hx hZ eT A' (j := j) h1 ht F (g := mkF m pc Ls (v :: .int j :: .ref a :: rest)) rfl rfl hd
  rw [(own_cl hj).2] at X' W
  exact ⟨T', h', X', e', W, A.set W, st⟩
theorem own_pref {F : Nat → Value} {d : Value} {i j : Nat} : (if j = i then F i else if j < i then F j else d) = if j < i + 1 then F j else d := by
  by_cases u : j = i
  · subst u; simp
  · rw [if_neg u]
    by_cases w : j < i
    · rw [if_pos w, if_pos (by omega)]
    · rw [if_neg w, if_neg (by omega)]
/-! numbers: comparisons by their values -/
theorem o_lt {x y : Int64} (q : x.toInt < y.toInt) : lcmpW x y < (0 : Int32) := (lw_lt _ _).mpr (Int64.lt_iff_toInt_lt.mpr q)
theorem o_nlt {x y : Int64} (q : y.toInt ≤ x.toInt) : ¬ (lcmpW x y < (0 : Int32)) := fun u => by have := Int64.lt_iff_toInt_lt.mp ((lw_lt _ _).mp u); omega
theorem o_gt {x y : Int64} (q : y.toInt < x.toInt) : (0 : Int32) < lcmpW x y := (lw_gt _ _).mpr (Int64.lt_iff_toInt_lt.mpr q)
theorem o_ngt {x y : Int64} (q : x.toInt ≤ y.toInt) : ¬ ((0 : Int32) < lcmpW x y) := fun u => by have := Int64.lt_iff_toInt_lt.mp ((lw_gt _ _).mp u); omega
theorem o_eq {x y : Int64} (q : x.toInt = y.toInt) : lcmpW x y = (0 : Int32) := (lw_eq _ _).mpr (Int64.toInt_inj.mp q)
theorem o_ne {x y : Int64} (q : x.toInt ≠ y.toInt) : ¬ (lcmpW x y = (0 : Int32)) := fun u => q (congrArg Int64.toInt ((lw_eq _ _).mp u))
theorem i_lt {x y : Int32} (q : x.toInt < y.toInt) : x < y := Int32.lt_iff_toInt_lt.mpr q
theorem i_nlt {x y : Int32} (q : y.toInt ≤ x.toInt) : ¬ (x < y) := fun u => by have := Int32.lt_iff_toInt_lt.mp u; omega
theorem i_eq {x y : Int32} (q : x.toInt = y.toInt) : x = y := Int32.toInt_inj.mp q
theorem i_ne {x y : Int32} (q : x.toInt ≠ y.toInt) : ¬ (x = y) := fun u => q (congrArg Int32.toInt u)
theorem i_lt' {x y : Int32} (q : x < y) : x.toInt < y.toInt := Int32.lt_iff_toInt_lt.mp q
theorem i_nlt' {x y : Int32} (q : ¬ (x < y)) : y.toInt ≤ x.toInt := by rw [Int32.lt_iff_toInt_lt] at q; omega
end Own2
theorem pd_0 : parseMethodDescriptor "()V" = some ⟨[], none⟩ := by decide +kernel
theorem pd_1 : parseMethodDescriptor "(Lcom/example/keep_posted/keepposted/service/Operation$Kind;Lcom/example/keep_posted/keepposted/model/Key;Ljava/util/List;[BJ)V" = some ⟨[(.object "com/example/keep_posted/keepposted/service/Operation$Kind"), (.object "com/example/keep_posted/keepposted/model/Key"), (.object "java/util/List"), (.array .byte), .long], none⟩ := by decide +kernel
theorem pd_2 : parseMethodDescriptor "(J)J" = some ⟨[.long], some .long⟩ := by decide +kernel
theorem pd_3 : parseMethodDescriptor "(Lcom/example/keep_posted/keepposted/model/Key;)Lcom/example/keep_posted/keepposted/service/Operation;" = some ⟨[(.object "com/example/keep_posted/keepposted/model/Key")], some (.object "com/example/keep_posted/keepposted/service/Operation")⟩ := by decide +kernel
theorem pd_4 : parseMethodDescriptor "()Z" = some ⟨[], some .boolean⟩ := by decide +kernel
theorem pd_5 : parseMethodDescriptor "(Lcom/example/keep_posted/keepposted/model/Key;J)Lcom/example/keep_posted/keepposted/service/Operation;" = some ⟨[(.object "com/example/keep_posted/keepposted/model/Key"), .long], some (.object "com/example/keep_posted/keepposted/service/Operation")⟩ := by decide +kernel
theorem pn_0 : plainName "java/lang/Record" = true := by first | (simp [plainName, overriddenIn]; done) | decide +kernel
theorem pn_1 : plainName "com/example/keep_posted/keepposted/service/Operation" = true := by first | (simp [plainName, overriddenIn]; done) | decide +kernel
theorem pn_2 : plainName "com/example/keep_posted/keepposted/service/OperationConditionalPinLaw" = true := by first | (simp [plainName, overriddenIn]; done) | decide +kernel

theorem own_maskL (x : Int64) : 0 ≤ (x &&& 9223372036854775807).toInt := by
  have h := c_maskL x 9223372036854775807 63 (by decide) (by decide)
  have : (0 : Int) < ((2 ^ 63 : Nat) : Int) := by decide
  rw [h]; omega
theorem own_and7 (x : Int32) : 0 ≤ (x &&& 7).toInt ∧ (x &&& 7).toInt ≤ 7 := c_and x 7 (by decide)
theorem d3_0 : decode jdk_30_method_1_code 0 = .ok (.aload_n 0, 1) := by decide +kernel
theorem d3_1 : decode jdk_30_method_1_code 1 = .ok (.invokespecial 1, 3) := by decide +kernel
theorem d3_4 : decode jdk_30_method_1_code 4 = .ok (.return_, 1) := by decide +kernel
set_option maxRecDepth 65536 in
set_option maxHeartbeats 40000000 in
theorem rm_re {l : Launch} {Z : State} {a0 : Array Value} (hw : ∀ d ∈ tables_1, d.before a0 Z = true) (a : Addr) (h0 : Heap) (n0 : Nat)  :
    Opays l (⟨"java/lang/Record", "<init>", "()V"⟩ : MethodName) jdk_30_method_1_code 1 none ({ frames := 1, cells := 0, slots := 0, locals := 12 } : Room) [] Z h0 #[(.ref a)] (fun v h L => v = none ∧ Fr n0 L ∧ h = h0) := by
  refine own_enter (plainFor_of_name pn_0) ?_
  intro p e s m below meth c s₁ hx hby hml0 hown hnm hret hlk hZ e0 X0
  have hml : c.maxLocals = 1 := hml0
  replace hown : s.vm.findClass "java/lang/Record" = some m.cls := hown
  have N := Fr.nil n0
  have hef : entryFrame m #[(.ref a)] 1 = mkF m 0 #[.val (.ref a)] [] := by first | (simp [entryFrame, mkF, argsToLocals, Value.category]; done) | rfl
  rw [hef]
  show Ogo p e below _ (s₁.setTop (mkF m 0 #[.val (.ref a)] []))
  refine own_via (fun tq kq => XS.aloadN X0.here hx rfl (hb hby d3_0) rfl rfl kq) ?_
  show Ogo p e below _ (s₁.setTop (mkF m 1 #[.val (.ref a)] [(.ref a)]))
  obtain ⟨T1, X1, e1, st1⟩ := initO X0 hx hZ hown (hw _ (List.mem_of_getElem? (i := 19) rfl)) (hw _ (List.mem_of_getElem? (i := 20) rfl)) (hw _ (List.mem_of_getElem? (i := 21) rfl)) e0 (g := (mkF m 1 #[.val (.ref a)] [(.ref a)])) rfl (by rw [hml]; rfl) rfl (hb hby d3_1) (by decide) (W := 0) (by show 2 * 0 + _ ≤ _; exact Nat.le_of_eq rfl) (by decide)
  refine own_via st1 ?_
  show Ogo p e below _ (T1.setTop (mkF m 4 #[.val (.ref a)] []))
  exact own_out X1 hlk (fun _ => rfl) (by decide) (by decide) (by first | exact ⟨rfl, N, rfl⟩ | (rw [e1]; exact ⟨rfl, N, rfl⟩)) (fun fs hr => X1.returnOut hx hret (hb hby d3_4) hr)
theorem d2_0 : decode prog_43_method_1_code 0 = .ok (.aload_n 0, 1) := by decide +kernel
theorem d2_1 : decode prog_43_method_1_code 1 = .ok (.invokespecial 1, 3) := by decide +kernel
theorem d2_4 : decode prog_43_method_1_code 4 = .ok (.aload_n 0, 1) := by decide +kernel
theorem d2_5 : decode prog_43_method_1_code 5 = .ok (.aload_n 1, 1) := by decide +kernel
theorem d2_6 : decode prog_43_method_1_code 6 = .ok (.putfield 7, 3) := by decide +kernel
theorem d2_9 : decode prog_43_method_1_code 9 = .ok (.aload_n 0, 1) := by decide +kernel
theorem d2_10 : decode prog_43_method_1_code 10 = .ok (.aload_n 2, 1) := by decide +kernel
theorem d2_11 : decode prog_43_method_1_code 11 = .ok (.putfield 13, 3) := by decide +kernel
theorem d2_14 : decode prog_43_method_1_code 14 = .ok (.aload_n 0, 1) := by decide +kernel
theorem d2_15 : decode prog_43_method_1_code 15 = .ok (.aload_n 3, 1) := by decide +kernel
theorem d2_16 : decode prog_43_method_1_code 16 = .ok (.putfield 17, 3) := by decide +kernel
theorem d2_19 : decode prog_43_method_1_code 19 = .ok (.aload_n 0, 1) := by decide +kernel
theorem d2_20 : decode prog_43_method_1_code 20 = .ok (.aload 4, 2) := by decide +kernel
theorem d2_22 : decode prog_43_method_1_code 22 = .ok (.putfield 21, 3) := by decide +kernel
theorem d2_25 : decode prog_43_method_1_code 25 = .ok (.aload_n 0, 1) := by decide +kernel
theorem d2_26 : decode prog_43_method_1_code 26 = .ok (.lload 5, 2) := by decide +kernel
theorem d2_28 : decode prog_43_method_1_code 28 = .ok (.putfield 25, 3) := by decide +kernel
theorem d2_31 : decode prog_43_method_1_code 31 = .ok (.return_, 1) := by decide +kernel
set_option maxRecDepth 65536 in
set_option maxHeartbeats 40000000 in
theorem rm_oi {l : Launch} {Z : State} {a0 : Array Value} (hw : ∀ d ∈ tables_1, d.before a0 Z = true) (a kk : Addr) (q : Int64) (h0 : Heap) (n0 : Nat) (E_a : Exa Z h0 a "com/example/keep_posted/keepposted/service/Operation") (F_kind_a : Fld Z h0 a "com/example/keep_posted/keepposted/service/Operation" "kind" "Lcom/example/keep_posted/keepposted/service/Operation$Kind;" .null) (F_key_a : Fld Z h0 a "com/example/keep_posted/keepposted/service/Operation" "key" "Lcom/example/keep_posted/keepposted/model/Key;" .null) (F_patterns_a : Fld Z h0 a "com/example/keep_posted/keepposted/service/Operation" "patterns" "Ljava/util/List;" .null) (F_value_a : Fld Z h0 a "com/example/keep_posted/keepposted/service/Operation" "value" "[B" .null) (F_condition_a : Fld Z h0 a "com/example/keep_posted/keepposted/service/Operation" "condition" "J" (.long (0 : Int64))) (g_a : n0 ≤ a) :
    Opays l (⟨"com/example/keep_posted/keepposted/service/Operation", "<init>", "(Lcom/example/keep_posted/keepposted/service/Operation$Kind;Lcom/example/keep_posted/keepposted/model/Key;Ljava/util/List;[BJ)V"⟩ : MethodName) prog_43_method_1_code 7 none ({ frames := 2, cells := 0, slots := 0, locals := 24 } : Room) [] Z h0 #[(.ref a), (.ref kk), .null, .null, .null, (.long q)] (fun v h L => v = none ∧ Fr n0 L ∧ Keep h0 h [a] ∧ Fld Z h a "com/example/keep_posted/keepposted/service/Operation" "condition" "J" (.long q)) := by
  refine own_enter (plainFor_of_name pn_1) ?_
  intro p e s m below meth c s₁ hx hby hml0 hown hnm hret hlk hZ e0 X0
  have hml : c.maxLocals = 7 := hml0
  replace hown : s.vm.findClass "com/example/keep_posted/keepposted/service/Operation" = some m.cls := hown
  have N := Fr.nil n0
  have hef : entryFrame m #[(.ref a), (.ref kk), .null, .null, .null, (.long q)] 7 = mkF m 0 #[.val (.ref a), .val (.ref kk), .val .null, .val .null, .val .null, .val (.long q), .second] [] := by first | (simp [entryFrame, mkF, argsToLocals, Value.category]; done) | rfl
  rw [hef]
  show Ogo p e below _ (s₁.setTop (mkF m 0 #[.val (.ref a), .val (.ref kk), .val .null, .val .null, .val .null, .val (.long q), .second] []))
  have K := Keep.refl h0 [a]
  refine own_via (fun tq kq => XS.aloadN X0.here hx rfl (hb hby d2_0) rfl rfl kq) ?_
  show Ogo p e below _ (s₁.setTop (mkF m 1 #[.val (.ref a), .val (.ref kk), .val .null, .val .null, .val .null, .val (.long q), .second] [(.ref a)]))
  refine own_callI X0 hx hZ rfl hown (hw _ (List.mem_of_getElem? (i := 14) rfl)) (hw _ (List.mem_of_getElem? (i := 15) rfl)) (hw _ (List.mem_of_getElem? (i := 17) rfl)) (hw _ (List.mem_of_getElem? (i := 18) rfl)) (by decide) (rm_re hw a h0 n0) rfl e0 (W := 0) (by decide) (by decide) (by decide) (by decide) (by rw [hml]; rfl) (a := a) (argsL := []) (rest := []) (lenOf pd_0 rfl) rfl (Nat.le_of_eq rfl) (hb hby d2_1) ?_
  rintro _ T1 L1 X1 ⟨rfl, Nq, hk⟩
  have N := N.app Nq
  have hk1 := hk
  show Ogo p e below _ (T1.setTop (mkF m 4 #[.val (.ref a), .val (.ref kk), .val .null, .val .null, .val .null, .val (.long q), .second] []))
  refine own_via (fun tq kq => XS.aloadN X1.here hx rfl (hb hby d2_4) rfl rfl kq) ?_
  show Ogo p e below _ (T1.setTop (mkF m 5 #[.val (.ref a), .val (.ref kk), .val .null, .val .null, .val .null, .val (.long q), .second] [(.ref a)]))
  refine own_via (fun tq kq => XS.aloadN X1.here hx rfl (hb hby d2_5) rfl rfl kq) ?_
  show Ogo p e below _ (T1.setTop (mkF m 6 #[.val (.ref a), .val (.ref kk), .val .null, .val .null, .val .null, .val (.long q), .second] [(.ref kk), (.ref a)]))
  obtain ⟨T2, h2, X2, e2, W2, st2⟩ := putF X1 hx hZ hown (host := "") (Or.inl (hw _ (List.mem_of_getElem? (i := 22) rfl))) Via.refl hk1 F_kind_a E_a (Or.inr ⟨(hw _ (List.mem_of_getElem? (i := 23) rfl)), rfl, hnm⟩) (hw _ (List.mem_of_getElem? (i := 6) rfl)) (ty := (.object "com/example/keep_posted/keepposted/service/Operation$Kind")) (by decide) rfl rfl (g := (mkF m 6 #[.val (.ref a), .val (.ref kk), .val .null, .val .null, .val .null, .val (.long q), .second] [(.ref kk), (.ref a)])) rfl rfl (hb hby d2_6)
  refine own_via st2 ?_
  have E_a := E_a.wr W2
  have F_kind_a := F_kind_a.same W2
  have F_key_a := F_key_a.other W2 (Or.inr (slot_ne (Or.inr (hw _ (List.mem_of_getElem? (i := 25) rfl))) (Or.inr (hw _ (List.mem_of_getElem? (i := 23) rfl))) (by decide) (t := (.object "com/example/keep_posted/keepposted/model/Key")) (t' := (.object "com/example/keep_posted/keepposted/service/Operation$Kind")) (by decide) (by decide)))
  have F_patterns_a := F_patterns_a.other W2 (Or.inr (slot_ne (Or.inr (hw _ (List.mem_of_getElem? (i := 27) rfl))) (Or.inr (hw _ (List.mem_of_getElem? (i := 23) rfl))) (by decide) (t := (.object "java/util/List")) (t' := (.object "com/example/keep_posted/keepposted/service/Operation$Kind")) (by decide) (by decide)))
  have F_value_a := F_value_a.other W2 (Or.inr (slot_ne (Or.inr (hw _ (List.mem_of_getElem? (i := 29) rfl))) (Or.inr (hw _ (List.mem_of_getElem? (i := 23) rfl))) (by decide) (t := (.array .byte)) (t' := (.object "com/example/keep_posted/keepposted/service/Operation$Kind")) (by decide) (by decide)))
  have F_condition_a := F_condition_a.other W2 (Or.inr (slot_ne (Or.inr (hw _ (List.mem_of_getElem? (i := 31) rfl))) (Or.inr (hw _ (List.mem_of_getElem? (i := 23) rfl))) (by decide) (t := .long) (t' := (.object "com/example/keep_posted/keepposted/service/Operation$Kind")) (by decide) (by decide)))
  have K := K.wr W2 (Or.inl (List.mem_of_getElem? (i := 0) rfl))
  have N := Fr.snoc X2 N g_a
  show Ogo p e below _ (T2.setTop (mkF m 9 #[.val (.ref a), .val (.ref kk), .val .null, .val .null, .val .null, .val (.long q), .second] []))
  refine own_via (fun tq kq => XS.aloadN X2.here hx rfl (hb hby d2_9) rfl rfl kq) ?_
  show Ogo p e below _ (T2.setTop (mkF m 10 #[.val (.ref a), .val (.ref kk), .val .null, .val .null, .val .null, .val (.long q), .second] [(.ref a)]))
  refine own_via (fun tq kq => XS.aloadN X2.here hx rfl (hb hby d2_10) rfl rfl kq) ?_
  show Ogo p e below _ (T2.setTop (mkF m 11 #[.val (.ref a), .val (.ref kk), .val .null, .val .null, .val .null, .val (.long q), .second] [.null, (.ref a)]))
  obtain ⟨T3, h3, X3, e3, W3, st3⟩ := putF X2 hx hZ hown (host := "") (Or.inl (hw _ (List.mem_of_getElem? (i := 24) rfl))) Via.refl e2 F_key_a E_a (Or.inr ⟨(hw _ (List.mem_of_getElem? (i := 25) rfl)), rfl, hnm⟩) (hw _ (List.mem_of_getElem? (i := 6) rfl)) (ty := (.object "com/example/keep_posted/keepposted/model/Key")) (by decide) rfl rfl (g := (mkF m 11 #[.val (.ref a), .val (.ref kk), .val .null, .val .null, .val .null, .val (.long q), .second] [.null, (.ref a)])) rfl rfl (hb hby d2_11)
  refine own_via st3 ?_
  have E_a := E_a.wr W3
  have F_kind_a := F_kind_a.other W3 (Or.inr (slot_ne (Or.inr (hw _ (List.mem_of_getElem? (i := 23) rfl))) (Or.inr (hw _ (List.mem_of_getElem? (i := 25) rfl))) (by decide) (t := (.object "com/example/keep_posted/keepposted/service/Operation$Kind")) (t' := (.object "com/example/keep_posted/keepposted/model/Key")) (by decide) (by decide)))
  have F_key_a := F_key_a.same W3
  have F_patterns_a := F_patterns_a.other W3 (Or.inr (slot_ne (Or.inr (hw _ (List.mem_of_getElem? (i := 27) rfl))) (Or.inr (hw _ (List.mem_of_getElem? (i := 25) rfl))) (by decide) (t := (.object "java/util/List")) (t' := (.object "com/example/keep_posted/keepposted/model/Key")) (by decide) (by decide)))
  have F_value_a := F_value_a.other W3 (Or.inr (slot_ne (Or.inr (hw _ (List.mem_of_getElem? (i := 29) rfl))) (Or.inr (hw _ (List.mem_of_getElem? (i := 25) rfl))) (by decide) (t := (.array .byte)) (t' := (.object "com/example/keep_posted/keepposted/model/Key")) (by decide) (by decide)))
  have F_condition_a := F_condition_a.other W3 (Or.inr (slot_ne (Or.inr (hw _ (List.mem_of_getElem? (i := 31) rfl))) (Or.inr (hw _ (List.mem_of_getElem? (i := 25) rfl))) (by decide) (t := .long) (t' := (.object "com/example/keep_posted/keepposted/model/Key")) (by decide) (by decide)))
  have K := K.wr W3 (Or.inl (List.mem_of_getElem? (i := 0) rfl))
  have N := Fr.snoc X3 N g_a
  show Ogo p e below _ (T3.setTop (mkF m 14 #[.val (.ref a), .val (.ref kk), .val .null, .val .null, .val .null, .val (.long q), .second] []))
  refine own_via (fun tq kq => XS.aloadN X3.here hx rfl (hb hby d2_14) rfl rfl kq) ?_
  show Ogo p e below _ (T3.setTop (mkF m 15 #[.val (.ref a), .val (.ref kk), .val .null, .val .null, .val .null, .val (.long q), .second] [(.ref a)]))
  refine own_via (fun tq kq => XS.aloadN X3.here hx rfl (hb hby d2_15) rfl rfl kq) ?_
  show Ogo p e below _ (T3.setTop (mkF m 16 #[.val (.ref a), .val (.ref kk), .val .null, .val .null, .val .null, .val (.long q), .second] [.null, (.ref a)]))
  obtain ⟨T4, h4, X4, e4, W4, st4⟩ := putF X3 hx hZ hown (host := "") (Or.inl (hw _ (List.mem_of_getElem? (i := 26) rfl))) Via.refl e3 F_patterns_a E_a (Or.inr ⟨(hw _ (List.mem_of_getElem? (i := 27) rfl)), rfl, hnm⟩) (hw _ (List.mem_of_getElem? (i := 6) rfl)) (ty := (.object "java/util/List")) (by decide) rfl rfl (g := (mkF m 16 #[.val (.ref a), .val (.ref kk), .val .null, .val .null, .val .null, .val (.long q), .second] [.null, (.ref a)])) rfl rfl (hb hby d2_16)
  refine own_via st4 ?_
  have E_a := E_a.wr W4
  have F_kind_a := F_kind_a.other W4 (Or.inr (slot_ne (Or.inr (hw _ (List.mem_of_getElem? (i := 23) rfl))) (Or.inr (hw _ (List.mem_of_getElem? (i := 27) rfl))) (by decide) (t := (.object "com/example/keep_posted/keepposted/service/Operation$Kind")) (t' := (.object "java/util/List")) (by decide) (by decide)))
  have F_key_a := F_key_a.other W4 (Or.inr (slot_ne (Or.inr (hw _ (List.mem_of_getElem? (i := 25) rfl))) (Or.inr (hw _ (List.mem_of_getElem? (i := 27) rfl))) (by decide) (t := (.object "com/example/keep_posted/keepposted/model/Key")) (t' := (.object "java/util/List")) (by decide) (by decide)))
  have F_patterns_a := F_patterns_a.same W4
  have F_value_a := F_value_a.other W4 (Or.inr (slot_ne (Or.inr (hw _ (List.mem_of_getElem? (i := 29) rfl))) (Or.inr (hw _ (List.mem_of_getElem? (i := 27) rfl))) (by decide) (t := (.array .byte)) (t' := (.object "java/util/List")) (by decide) (by decide)))
  have F_condition_a := F_condition_a.other W4 (Or.inr (slot_ne (Or.inr (hw _ (List.mem_of_getElem? (i := 31) rfl))) (Or.inr (hw _ (List.mem_of_getElem? (i := 27) rfl))) (by decide) (t := .long) (t' := (.object "java/util/List")) (by decide) (by decide)))
  have K := K.wr W4 (Or.inl (List.mem_of_getElem? (i := 0) rfl))
  have N := Fr.snoc X4 N g_a
  show Ogo p e below _ (T4.setTop (mkF m 19 #[.val (.ref a), .val (.ref kk), .val .null, .val .null, .val .null, .val (.long q), .second] []))
  refine own_via (fun tq kq => XS.aloadN X4.here hx rfl (hb hby d2_19) rfl rfl kq) ?_
  show Ogo p e below _ (T4.setTop (mkF m 20 #[.val (.ref a), .val (.ref kk), .val .null, .val .null, .val .null, .val (.long q), .second] [(.ref a)]))
  refine own_via (fun tq kq => XS.aload X4.here hx rfl (hb hby d2_20) rfl rfl kq) ?_
  show Ogo p e below _ (T4.setTop (mkF m 22 #[.val (.ref a), .val (.ref kk), .val .null, .val .null, .val .null, .val (.long q), .second] [.null, (.ref a)]))
  obtain ⟨T5, h5, X5, e5, W5, st5⟩ := putF X4 hx hZ hown (host := "") (Or.inl (hw _ (List.mem_of_getElem? (i := 28) rfl))) Via.refl e4 F_value_a E_a (Or.inr ⟨(hw _ (List.mem_of_getElem? (i := 29) rfl)), rfl, hnm⟩) (hw _ (List.mem_of_getElem? (i := 6) rfl)) (ty := (.array .byte)) (by decide) rfl rfl (g := (mkF m 22 #[.val (.ref a), .val (.ref kk), .val .null, .val .null, .val .null, .val (.long q), .second] [.null, (.ref a)])) rfl rfl (hb hby d2_22)
  refine own_via st5 ?_
  have E_a := E_a.wr W5
  have F_kind_a := F_kind_a.other W5 (Or.inr (slot_ne (Or.inr (hw _ (List.mem_of_getElem? (i := 23) rfl))) (Or.inr (hw _ (List.mem_of_getElem? (i := 29) rfl))) (by decide) (t := (.object "com/example/keep_posted/keepposted/service/Operation$Kind")) (t' := (.array .byte)) (by decide) (by decide)))
  have F_key_a := F_key_a.other W5 (Or.inr (slot_ne (Or.inr (hw _ (List.mem_of_getElem? (i := 25) rfl))) (Or.inr (hw _ (List.mem_of_getElem? (i := 29) rfl))) (by decide) (t := (.object "com/example/keep_posted/keepposted/model/Key")) (t' := (.array .byte)) (by decide) (by decide)))
  have F_patterns_a := F_patterns_a.other W5 (Or.inr (slot_ne (Or.inr (hw _ (List.mem_of_getElem? (i := 27) rfl))) (Or.inr (hw _ (List.mem_of_getElem? (i := 29) rfl))) (by decide) (t := (.object "java/util/List")) (t' := (.array .byte)) (by decide) (by decide)))
  have F_value_a := F_value_a.same W5
  have F_condition_a := F_condition_a.other W5 (Or.inr (slot_ne (Or.inr (hw _ (List.mem_of_getElem? (i := 31) rfl))) (Or.inr (hw _ (List.mem_of_getElem? (i := 29) rfl))) (by decide) (t := .long) (t' := (.array .byte)) (by decide) (by decide)))
  have K := K.wr W5 (Or.inl (List.mem_of_getElem? (i := 0) rfl))
  have N := Fr.snoc X5 N g_a
  show Ogo p e below _ (T5.setTop (mkF m 25 #[.val (.ref a), .val (.ref kk), .val .null, .val .null, .val .null, .val (.long q), .second] []))
  refine own_via (fun tq kq => XS.aloadN X5.here hx rfl (hb hby d2_25) rfl rfl kq) ?_
  show Ogo p e below _ (T5.setTop (mkF m 26 #[.val (.ref a), .val (.ref kk), .val .null, .val .null, .val .null, .val (.long q), .second] [(.ref a)]))
  refine own_via (fun tq kq => XS.lload X5.here hx rfl (hb hby d2_26) rfl kq) ?_
  show Ogo p e below _ (T5.setTop (mkF m 28 #[.val (.ref a), .val (.ref kk), .val .null, .val .null, .val .null, .val (.long q), .second] [(.long q), (.ref a)]))
  obtain ⟨T6, h6, X6, e6, W6, st6⟩ := putF X5 hx hZ hown (host := "") (Or.inl (hw _ (List.mem_of_getElem? (i := 30) rfl))) Via.refl e5 F_condition_a E_a (Or.inr ⟨(hw _ (List.mem_of_getElem? (i := 31) rfl)), rfl, hnm⟩) (hw _ (List.mem_of_getElem? (i := 6) rfl)) (ty := .long) (by decide) rfl rfl (g := (mkF m 28 #[.val (.ref a), .val (.ref kk), .val .null, .val .null, .val .null, .val (.long q), .second] [(.long q), (.ref a)])) rfl rfl (hb hby d2_28)
  refine own_via st6 ?_
  have E_a := E_a.wr W6
  have F_kind_a := F_kind_a.other W6 (Or.inr (slot_ne (Or.inr (hw _ (List.mem_of_getElem? (i := 23) rfl))) (Or.inr (hw _ (List.mem_of_getElem? (i := 31) rfl))) (by decide) (t := (.object "com/example/keep_posted/keepposted/service/Operation$Kind")) (t' := .long) (by decide) (by decide)))
  have F_key_a := F_key_a.other W6 (Or.inr (slot_ne (Or.inr (hw _ (List.mem_of_getElem? (i := 25) rfl))) (Or.inr (hw _ (List.mem_of_getElem? (i := 31) rfl))) (by decide) (t := (.object "com/example/keep_posted/keepposted/model/Key")) (t' := .long) (by decide) (by decide)))
  have F_patterns_a := F_patterns_a.other W6 (Or.inr (slot_ne (Or.inr (hw _ (List.mem_of_getElem? (i := 27) rfl))) (Or.inr (hw _ (List.mem_of_getElem? (i := 31) rfl))) (by decide) (t := (.object "java/util/List")) (t' := .long) (by decide) (by decide)))
  have F_value_a := F_value_a.other W6 (Or.inr (slot_ne (Or.inr (hw _ (List.mem_of_getElem? (i := 29) rfl))) (Or.inr (hw _ (List.mem_of_getElem? (i := 31) rfl))) (by decide) (t := (.array .byte)) (t' := .long) (by decide) (by decide)))
  have F_condition_a := F_condition_a.same W6
  have K := K.wr W6 (Or.inl (List.mem_of_getElem? (i := 0) rfl))
  have N := Fr.snoc X6 N g_a
  show Ogo p e below _ (T6.setTop (mkF m 31 #[.val (.ref a), .val (.ref kk), .val .null, .val .null, .val .null, .val (.long q), .second] []))
  exact own_out X6 hlk (fun _ => rfl) (by decide) (by decide) (by first | exact ⟨rfl, N, K, F_condition_a⟩ | (rw [e6]; exact ⟨rfl, N, K, F_condition_a⟩)) (fun fs hr => X6.returnOut hx hret (hb hby d2_31) hr)
theorem d7_0 : decode prog_43_method_11_code 0 = .ok (.lload_n 0, 1) := by decide +kernel
theorem d7_1 : decode prog_43_method_11_code 1 = .ok (.lconst 0, 1) := by decide +kernel
theorem d7_2 : decode prog_43_method_11_code 2 = .ok (.lcmp, 1) := by decide +kernel
theorem d7_3 : decode prog_43_method_11_code 3 = .ok (.ifCond .ge 17, 3) := by decide +kernel
theorem d7_20 : decode prog_43_method_11_code 20 = .ok (.lload_n 0, 1) := by decide +kernel
theorem d7_21 : decode prog_43_method_11_code 21 = .ok (.lreturn, 1) := by decide +kernel
set_option maxRecDepth 65536 in
set_option maxHeartbeats 40000000 in
theorem rm_cc {l : Launch} {Z : State} {a0 : Array Value} (hw : ∀ d ∈ tables_1, d.before a0 Z = true) (q : Int64) (h0 : Heap) (n0 : Nat) (hq : 0 ≤ q.toInt) :
    Opays l (⟨"com/example/keep_posted/keepposted/service/Operation", "checkedCondition", "(J)J"⟩ : MethodName) prog_43_method_11_code 2 (some .long) ({ frames := 0, cells := 0, slots := 0, locals := 0 } : Room) [] Z h0 #[(.long q)] (fun v h L => v = some (.long q) ∧ Fr n0 L ∧ h = h0) := by
  refine own_enter (plainFor_of_name pn_1) ?_
  intro p e s m below meth c s₁ hx hby hml0 hown hnm hret hlk hZ e0 X0
  have hml : c.maxLocals = 2 := hml0
  replace hown : s.vm.findClass "com/example/keep_posted/keepposted/service/Operation" = some m.cls := hown
  have N := Fr.nil n0
  have hef : entryFrame m #[(.long q)] 2 = mkF m 0 #[.val (.long q), .second] [] := by first | (simp [entryFrame, mkF, argsToLocals, Value.category]; done) | rfl
  rw [hef]
  show Ogo p e below _ (s₁.setTop (mkF m 0 #[.val (.long q), .second] []))
  refine own_via (fun tq kq => XS.lloadN X0.here hx rfl (hb hby d7_0) rfl kq) ?_
  show Ogo p e below _ (s₁.setTop (mkF m 1 #[.val (.long q), .second] [(.long q)]))
  refine own_via (fun tq kq => XS.lconst X0.here hx rfl (hb hby d7_1) kq) ?_
  show Ogo p e below _ (s₁.setTop (mkF m 2 #[.val (.long q), .second] [(.long (0 : Int64)), (.long q)]))
  refine own_via (fun tq kq => XS.lcmp X0.here hx rfl (hb hby d7_2) rfl kq) ?_
  show Ogo p e below _ (s₁.setTop (mkF m 3 #[.val (.long q), .second] [(.int (lcmpW q (0 : Int64)))]))
  refine own_via (fun tq kq => XS.ifYes X0.here hx rfl (pc0 := 3) (pc' := 20) rfl (hb hby d7_3) rfl ((if0 _ _).trans (flt (o_nlt hq : ¬ ((lcmpW q (0 : Int64)) < (0 : Int32)))).2.1) (by decide) (by decide) kq) ?_
  show Ogo p e below _ (s₁.setTop (mkF m 20 #[.val (.long q), .second] []))
  refine own_via (fun tq kq => XS.lloadN X0.here hx rfl (hb hby d7_20) rfl kq) ?_
  show Ogo p e below _ (s₁.setTop (mkF m 21 #[.val (.long q), .second] [(.long q)]))
  exact own_out X0 hlk (fun h => by rw [hret] at h; cases h) (by decide) (by decide) (by first | exact ⟨rfl, N, rfl⟩ | (rw [e0]; exact ⟨rfl, N, rfl⟩)) (fun fs hr => own_retL X0 hx hret (hb hby d7_21) hr)
theorem d5_0 : decode prog_43_method_8_code 0 = .ok (.aload_n 0, 1) := by decide +kernel
theorem d5_1 : decode prog_43_method_8_code 1 = .ok (.getfield 25, 3) := by decide +kernel
theorem d5_4 : decode prog_43_method_8_code 4 = .ok (.ldc2_w 38, 3) := by decide +kernel
theorem d5_7 : decode prog_43_method_8_code 7 = .ok (.lcmp, 1) := by decide +kernel
theorem d5_8 : decode prog_43_method_8_code 8 = .ok (.ifCond .eq 7, 3) := by decide +kernel
theorem d5_11 : decode prog_43_method_8_code 11 = .ok (.iconst 1, 1) := by decide +kernel
theorem d5_12 : decode prog_43_method_8_code 12 = .ok (.goto 4, 3) := by decide +kernel
theorem d5_15 : decode prog_43_method_8_code 15 = .ok (.iconst 0, 1) := by decide +kernel
theorem d5_16 : decode prog_43_method_8_code 16 = .ok (.ireturn, 1) := by decide +kernel
set_option maxRecDepth 65536 in
set_option maxHeartbeats 40000000 in
theorem rm_co {l : Launch} {Z : State} {a0 : Array Value} (hw : ∀ d ∈ tables_1, d.before a0 Z = true) (a : Addr) (q : Int64) (r : Int32) (h0 : Heap) (n0 : Nat) (F_condition_a : Fld Z h0 a "com/example/keep_posted/keepposted/service/Operation" "condition" "J" (.long q)) (hr : r = if q = -1 then 0 else 1) :
    Opays l (⟨"com/example/keep_posted/keepposted/service/Operation", "conditional", "()Z"⟩ : MethodName) prog_43_method_8_code 1 (some .boolean) ({ frames := 0, cells := 0, slots := 0, locals := 0 } : Room) [] Z h0 #[(.ref a)] (fun v h L => v = some (.int r) ∧ Fr n0 L ∧ h = h0) := by
  refine own_enter (plainFor_of_name pn_1) ?_
  intro p e s m below meth c s₁ hx hby hml0 hown hnm hret hlk hZ e0 X0
  have hml : c.maxLocals = 1 := hml0
  replace hown : s.vm.findClass "com/example/keep_posted/keepposted/service/Operation" = some m.cls := hown
  have N := Fr.nil n0
  have hef : entryFrame m #[(.ref a)] 1 = mkF m 0 #[.val (.ref a)] [] := by first | (simp [entryFrame, mkF, argsToLocals, Value.category]; done) | rfl
  rw [hef]
  show Ogo p e below _ (s₁.setTop (mkF m 0 #[.val (.ref a)] []))
  refine own_via (fun tq kq => XS.aloadN X0.here hx rfl (hb hby d5_0) rfl rfl kq) ?_
  show Ogo p e below _ (s₁.setTop (mkF m 1 #[.val (.ref a)] [(.ref a)]))
  obtain ⟨T1, X1, e1, st1⟩ := getF X0 hx hZ hown (host := "") (Or.inl (hw _ (List.mem_of_getElem? (i := 30) rfl))) Via.refl e0 F_condition_a (g := (mkF m 1 #[.val (.ref a)] [(.ref a)])) rfl rfl (hb hby d5_1)
  refine own_via st1 ?_
  show Ogo p e below _ (T1.setTop (mkF m 4 #[.val (.ref a)] [(.long q)]))
  refine own_via (fun tq kq => X1.ldc2Long hx hown (mvT hZ (hw _ (List.mem_of_getElem? (i := 10) rfl))) (g := (mkF m 4 #[.val (.ref a)] [(.long q)])) rfl (hb hby d5_4) _ kq) ?_
  show Ogo p e below _ (T1.setTop (mkF m 7 #[.val (.ref a)] [(.long (-1 : Int64)), (.long q)]))
  refine own_via (fun tq kq => XS.lcmp X1.here hx rfl (hb hby d5_7) rfl kq) ?_
  show Ogo p e below _ (T1.setTop (mkF m 8 #[.val (.ref a)] [(.int (lcmpW q (-1 : Int64)))]))
  by_cases hc8 : (lcmpW q (-1 : Int64)) = (0 : Int32)
  · refine own_via (fun tq kq => XS.ifYes X1.here hx rfl (pc0 := 8) (pc' := 15) rfl (hb hby d5_8) rfl ((if0 _ _).trans (teq (hc8 : (lcmpW q (-1 : Int64)) = (0 : Int32))).1) (by decide) (by decide) kq) ?_
    show Ogo p e below _ (T1.setTop (mkF m 15 #[.val (.ref a)] []))
    refine own_via (fun tq kq => XS.iconst X1.here hx rfl (hb hby d5_15) kq) ?_
    show Ogo p e below _ (T1.setTop (mkF m 16 #[.val (.ref a)] [(.int (0 : Int32))]))
    exact own_out X1 hlk (fun h => by rw [hret] at h; cases h) (by decide) (by decide) (by first | exact ⟨by rw [hr, if_pos ((lw_eq _ _).mp hc8)]; rfl, N, rfl⟩ | (rw [e1]; exact ⟨by rw [hr, if_pos ((lw_eq _ _).mp hc8)]; rfl, N, rfl⟩)) (fun fs hr => retN X1 hx (t := .boolean) hret (by simp) (hb hby d5_16) hr)
  · refine own_via (fun tq kq => XS.ifNo X1.here hx rfl (hb hby d5_8) rfl ((if0 _ _).trans (feq (hc8 : ¬ ((lcmpW q (-1 : Int64)) = (0 : Int32)))).1) kq) ?_
    show Ogo p e below _ (T1.setTop (mkF m 11 #[.val (.ref a)] []))
    refine own_via (fun tq kq => XS.iconst X1.here hx rfl (hb hby d5_11) kq) ?_
    show Ogo p e below _ (T1.setTop (mkF m 12 #[.val (.ref a)] [(.int (1 : Int32))]))
    refine own_via (fun tq kq => XS.goto X1.here hx rfl (pc0 := 12) (pc' := 16) rfl (hb hby d5_12) (by decide) (by decide) kq) ?_
    show Ogo p e below _ (T1.setTop (mkF m 16 #[.val (.ref a)] [(.int (1 : Int32))]))
    exact own_out X1 hlk (fun h => by rw [hret] at h; cases h) (by decide) (by decide) (by first | exact ⟨by rw [hr, if_neg (fun z => hc8 ((lw_eq _ _).mpr z))]; rfl, N, rfl⟩ | (rw [e1]; exact ⟨by rw [hr, if_neg (fun z => hc8 ((lw_eq _ _).mpr z))]; rfl, N, rfl⟩)) (fun fs hr => retN X1 hx (t := .boolean) hret (by simp) (hb hby d5_16) hr)
theorem d1_0 : decode prog_43_method_4_code 0 = .ok (.new 8, 3) := by decide +kernel
theorem d1_3 : decode prog_43_method_4_code 3 = .ok (.dup, 1) := by decide +kernel
theorem d1_4 : decode prog_43_method_4_code 4 = .ok (.getstatic 47, 3) := by decide +kernel
theorem d1_7 : decode prog_43_method_4_code 7 = .ok (.aload_n 0, 1) := by decide +kernel
theorem d1_8 : decode prog_43_method_4_code 8 = .ok (.aconst_null, 1) := by decide +kernel
theorem d1_9 : decode prog_43_method_4_code 9 = .ok (.aconst_null, 1) := by decide +kernel
theorem d1_10 : decode prog_43_method_4_code 10 = .ok (.ldc2_w 38, 3) := by decide +kernel
theorem d1_13 : decode prog_43_method_4_code 13 = .ok (.invokespecial 40, 3) := by decide +kernel
theorem d1_16 : decode prog_43_method_4_code 16 = .ok (.areturn, 1) := by decide +kernel
set_option maxRecDepth 65536 in
set_option maxHeartbeats 40000000 in
theorem rm_de {l : Launch} {Z : State} {a0 : Array Value} (hw : ∀ d ∈ tables_1, d.before a0 Z = true) (kd kg ks km : Addr) (h0 : Heap) (n0 : Nat) (S_kd : Sta Z Z.heap "com/example/keep_posted/keepposted/service/Operation$Kind" "DELETE" "Lcom/example/keep_posted/keepposted/service/Operation$Kind;" (.ref kd)) (S_kg : Sta Z Z.heap "com/example/keep_posted/keepposted/service/Operation$Kind" "GET" "Lcom/example/keep_posted/keepposted/service/Operation$Kind;" (.ref kg)) (S_ks : Sta Z Z.heap "com/example/keep_posted/keepposted/service/Operation$Kind" "SET" "Lcom/example/keep_posted/keepposted/service/Operation$Kind;" (.ref ks)) (S_km : Sta Z Z.heap "com/example/keep_posted/keepposted/service/Operation$Kind" "DELETE_MATCHING" "Lcom/example/keep_posted/keepposted/service/Operation$Kind;" (.ref km)) (O : Old Z n0 h0) (zs : n0 ≤ h0.size) :
    Opays l (⟨"com/example/keep_posted/keepposted/service/Operation", "delete", "(Lcom/example/keep_posted/keepposted/model/Key;)Lcom/example/keep_posted/keepposted/service/Operation;"⟩ : MethodName) prog_43_method_4_code 1 (some (.object "com/example/keep_posted/keepposted/service/Operation")) ({ frames := 3, cells := 1, slots := 5, locals := 43 } : Room) [] Z h0 #[.null] (fun v h L => Fr n0 L ∧ Keep h0 h [] ∧ ∃ b, v = some (.ref b) ∧ Exa Z h b "com/example/keep_posted/keepposted/service/Operation" ∧ Fld Z h b "com/example/keep_posted/keepposted/service/Operation" "condition" "J" (.long (-1 : Int64))) := by
  refine own_enter (plainFor_of_name pn_1) ?_
  intro p e s m below meth c s₁ hx hby hml0 hown hnm hret hlk hZ e0 X0
  have hml : c.maxLocals = 1 := hml0
  replace hown : s.vm.findClass "com/example/keep_posted/keepposted/service/Operation" = some m.cls := hown
  have N := Fr.nil n0
  have hef : entryFrame m #[.null] 1 = mkF m 0 #[.val .null] [] := by first | (simp [entryFrame, mkF, argsToLocals, Value.category]; done) | rfl
  rw [hef]
  show Ogo p e below _ (s₁.setTop (mkF m 0 #[.val .null] []))
  have K := Keep.refl h0 []
  obtain ⟨T1, h1, X1, e1, E1, A1, D1, -, st1⟩ := newO X0 hx hZ hown (hw _ (List.mem_of_getElem? (i := 5) rfl)) (hw _ (List.mem_of_getElem? (i := 6) rfl)) (hw _ (List.mem_of_getElem? (i := 3) rfl)) e0 (g := (mkF m 0 #[.val .null] [])) rfl (hb hby d1_0) (by decide) (by decide)
  refine own_via st1 ?_
  obtain ⟨b, g1⟩ : ∃ z, z = h0.size := ⟨_, rfl⟩
  rw [← g1]
  rw [← g1] at A1 D1
  have g_b : n0 ≤ b := by rw [g1]; exact zs
  have sz_b : h0.size ≤ b := by rw [g1]; exact K.1
  have zs := Nat.le_trans zs E1.1
  have O := O.ext E1
  have K := K.ext E1
  have E_b := A1
  have F_kind_b : Fld Z h1 b "com/example/keep_posted/keepposted/service/Operation" "kind" "Lcom/example/keep_posted/keepposted/service/Operation$Kind;" .null := D1 (Or.inr (hw _ (List.mem_of_getElem? (i := 23) rfl))) (ty := (.object "com/example/keep_posted/keepposted/service/Operation$Kind")) (by decide)
  have F_key_b : Fld Z h1 b "com/example/keep_posted/keepposted/service/Operation" "key" "Lcom/example/keep_posted/keepposted/model/Key;" .null := D1 (Or.inr (hw _ (List.mem_of_getElem? (i := 25) rfl))) (ty := (.object "com/example/keep_posted/keepposted/model/Key")) (by decide)
  have F_patterns_b : Fld Z h1 b "com/example/keep_posted/keepposted/service/Operation" "patterns" "Ljava/util/List;" .null := D1 (Or.inr (hw _ (List.mem_of_getElem? (i := 27) rfl))) (ty := (.object "java/util/List")) (by decide)
  have F_value_b : Fld Z h1 b "com/example/keep_posted/keepposted/service/Operation" "value" "[B" .null := D1 (Or.inr (hw _ (List.mem_of_getElem? (i := 29) rfl))) (ty := (.array .byte)) (by decide)
  have F_condition_b : Fld Z h1 b "com/example/keep_posted/keepposted/service/Operation" "condition" "J" (.long (0 : Int64)) := D1 (Or.inr (hw _ (List.mem_of_getElem? (i := 31) rfl))) (ty := .long) (by decide)
  show Ogo p e below _ (T1.setTop (mkF m 3 #[.val .null] [(.ref b)]))
  refine own_via (fun tq kq => XS.dup X1.here hx rfl (hb hby d1_3) rfl rfl kq) ?_
  show Ogo p e below _ (T1.setTop (mkF m 4 #[.val .null] [(.ref b), (.ref b)]))
  obtain ⟨T2, X2, e2, st2⟩ := getS2 X1 hx hZ hown (host := "") (Or.inl (hw _ (List.mem_of_getElem? (i := 7) rfl))) Via.refl e1 (S_kd.ext O.2) (g := (mkF m 4 #[.val .null] [(.ref b), (.ref b)])) rfl (hb hby d1_4)
  refine own_via st2 ?_
  show Ogo p e below _ (T2.setTop (mkF m 7 #[.val .null] [(.ref kd), (.ref b), (.ref b)]))
  refine own_via (fun tq kq => XS.aloadN X2.here hx rfl (hb hby d1_7) rfl rfl kq) ?_
  show Ogo p e below _ (T2.setTop (mkF m 8 #[.val .null] [.null, (.ref kd), (.ref b), (.ref b)]))
  refine own_via (fun tq kq => XS.aconstNull X2.here hx rfl (hb hby d1_8) kq) ?_
  show Ogo p e below _ (T2.setTop (mkF m 9 #[.val .null] [.null, .null, (.ref kd), (.ref b), (.ref b)]))
  refine own_via (fun tq kq => XS.aconstNull X2.here hx rfl (hb hby d1_9) kq) ?_
  show Ogo p e below _ (T2.setTop (mkF m 10 #[.val .null] [.null, .null, .null, (.ref kd), (.ref b), (.ref b)]))
  refine own_via (fun tq kq => X2.ldc2Long hx hown (mvT hZ (hw _ (List.mem_of_getElem? (i := 10) rfl))) (g := (mkF m 10 #[.val .null] [.null, .null, .null, (.ref kd), (.ref b), (.ref b)])) rfl (hb hby d1_10) _ kq) ?_
  show Ogo p e below _ (T2.setTop (mkF m 13 #[.val .null] [(.long (-1 : Int64)), .null, .null, .null, (.ref kd), (.ref b), (.ref b)]))
  refine own_callI X2 hx hZ rfl hown (hw _ (List.mem_of_getElem? (i := 11) rfl)) (hw _ (List.mem_of_getElem? (i := 12) rfl)) (hw _ (List.mem_of_getElem? (i := 3) rfl)) (hw _ (List.mem_of_getElem? (i := 13) rfl)) (by decide) (rm_oi hw b kd (-1 : Int64) h1 n0 E_b F_kind_b F_key_b F_patterns_b F_value_b F_condition_b g_b) rfl e2 (W := 1) (by decide) (by decide) (by decide) (by decide) (by rw [hml]; rfl) (a := b) (argsL := [(.ref kd), .null, .null, .null, (.long (-1 : Int64))]) (rest := [(.ref b)]) (lenOf pd_1 rfl) rfl (Nat.le_of_eq rfl) (hb hby d1_13) ?_
  rintro _ T3 L3 X3 ⟨rfl, Nq, Kc, F_condition_b⟩
  have N := N.app Nq
  have E_b := E_b.keep Kc
  have zs := Nat.le_trans zs Kc.1
  have O := O.keep Kc (allS g_b all0)
  have K := K.trans Kc (allS (Or.inr sz_b) all0)
  show Ogo p e below _ (T3.setTop (mkF m 16 #[.val .null] [(.ref b)]))
  exact own_out X3 hlk (fun h => by rw [hret] at h; cases h) (by decide) (by decide) (⟨N, K, b, rfl, E_b, F_condition_b⟩) (fun fs hr => own_retA X3 hx hret rfl rfl (hb hby d1_16) hr)
theorem d8_0 : decode prog_43_method_7_code 0 = .ok (.new 8, 3) := by decide +kernel
theorem d8_3 : decode prog_43_method_7_code 3 = .ok (.dup, 1) := by decide +kernel
theorem d8_4 : decode prog_43_method_7_code 4 = .ok (.getstatic 59, 3) := by decide +kernel
theorem d8_7 : decode prog_43_method_7_code 7 = .ok (.aload_n 0, 1) := by decide +kernel
theorem d8_8 : decode prog_43_method_7_code 8 = .ok (.aconst_null, 1) := by decide +kernel
theorem d8_9 : decode prog_43_method_7_code 9 = .ok (.aconst_null, 1) := by decide +kernel
theorem d8_10 : decode prog_43_method_7_code 10 = .ok (.ldc2_w 38, 3) := by decide +kernel
theorem d8_13 : decode prog_43_method_7_code 13 = .ok (.invokespecial 40, 3) := by decide +kernel
theorem d8_16 : decode prog_43_method_7_code 16 = .ok (.areturn, 1) := by decide +kernel
set_option maxRecDepth 65536 in
set_option maxHeartbeats 40000000 in
theorem rm_ge {l : Launch} {Z : State} {a0 : Array Value} (hw : ∀ d ∈ tables_1, d.before a0 Z = true) (kd kg ks km : Addr) (h0 : Heap) (n0 : Nat) (S_kd : Sta Z Z.heap "com/example/keep_posted/keepposted/service/Operation$Kind" "DELETE" "Lcom/example/keep_posted/keepposted/service/Operation$Kind;" (.ref kd)) (S_kg : Sta Z Z.heap "com/example/keep_posted/keepposted/service/Operation$Kind" "GET" "Lcom/example/keep_posted/keepposted/service/Operation$Kind;" (.ref kg)) (S_ks : Sta Z Z.heap "com/example/keep_posted/keepposted/service/Operation$Kind" "SET" "Lcom/example/keep_posted/keepposted/service/Operation$Kind;" (.ref ks)) (S_km : Sta Z Z.heap "com/example/keep_posted/keepposted/service/Operation$Kind" "DELETE_MATCHING" "Lcom/example/keep_posted/keepposted/service/Operation$Kind;" (.ref km)) (O : Old Z n0 h0) (zs : n0 ≤ h0.size) :
    Opays l (⟨"com/example/keep_posted/keepposted/service/Operation", "get", "(Lcom/example/keep_posted/keepposted/model/Key;)Lcom/example/keep_posted/keepposted/service/Operation;"⟩ : MethodName) prog_43_method_7_code 1 (some (.object "com/example/keep_posted/keepposted/service/Operation")) ({ frames := 3, cells := 1, slots := 5, locals := 43 } : Room) [] Z h0 #[.null] (fun v h L => Fr n0 L ∧ Keep h0 h [] ∧ ∃ b, v = some (.ref b) ∧ Exa Z h b "com/example/keep_posted/keepposted/service/Operation" ∧ Fld Z h b "com/example/keep_posted/keepposted/service/Operation" "condition" "J" (.long (-1 : Int64))) := by
  refine own_enter (plainFor_of_name pn_1) ?_
  intro p e s m below meth c s₁ hx hby hml0 hown hnm hret hlk hZ e0 X0
  have hml : c.maxLocals = 1 := hml0
  replace hown : s.vm.findClass "com/example/keep_posted/keepposted/service/Operation" = some m.cls := hown
  have N := Fr.nil n0
  have hef : entryFrame m #[.null] 1 = mkF m 0 #[.val .null] [] := by first | (simp [entryFrame, mkF, argsToLocals, Value.category]; done) | rfl
  rw [hef]
  show Ogo p e below _ (s₁.setTop (mkF m 0 #[.val .null] []))
  have K := Keep.refl h0 []
  obtain ⟨T1, h1, X1, e1, E1, A1, D1, -, st1⟩ := newO X0 hx hZ hown (hw _ (List.mem_of_getElem? (i := 5) rfl)) (hw _ (List.mem_of_getElem? (i := 6) rfl)) (hw _ (List.mem_of_getElem? (i := 3) rfl)) e0 (g := (mkF m 0 #[.val .null] [])) rfl (hb hby d8_0) (by decide) (by decide)
  refine own_via st1 ?_
  obtain ⟨b, g1⟩ : ∃ z, z = h0.size := ⟨_, rfl⟩
  rw [← g1]
  rw [← g1] at A1 D1
  have g_b : n0 ≤ b := by rw [g1]; exact zs
  have sz_b : h0.size ≤ b := by rw [g1]; exact K.1
  have zs := Nat.le_trans zs E1.1
  have O := O.ext E1
  have K := K.ext E1
  have E_b := A1
  have F_kind_b : Fld Z h1 b "com/example/keep_posted/keepposted/service/Operation" "kind" "Lcom/example/keep_posted/keepposted/service/Operation$Kind;" .null := D1 (Or.inr (hw _ (List.mem_of_getElem? (i := 23) rfl))) (ty := (.object "com/example/keep_posted/keepposted/service/Operation$Kind")) (by decide)
  have F_key_b : Fld Z h1 b "com/example/keep_posted/keepposted/service/Operation" "key" "Lcom/example/keep_posted/keepposted/model/Key;" .null := D1 (Or.inr (hw _ (List.mem_of_getElem? (i := 25) rfl))) (ty := (.object "com/example/keep_posted/keepposted/model/Key")) (by decide)
  have F_patterns_b : Fld Z h1 b "com/example/keep_posted/keepposted/service/Operation" "patterns" "Ljava/util/List;" .null := D1 (Or.inr (hw _ (List.mem_of_getElem? (i := 27) rfl))) (ty := (.object "java/util/List")) (by decide)
  have F_value_b : Fld Z h1 b "com/example/keep_posted/keepposted/service/Operation" "value" "[B" .null := D1 (Or.inr (hw _ (List.mem_of_getElem? (i := 29) rfl))) (ty := (.array .byte)) (by decide)
  have F_condition_b : Fld Z h1 b "com/example/keep_posted/keepposted/service/Operation" "condition" "J" (.long (0 : Int64)) := D1 (Or.inr (hw _ (List.mem_of_getElem? (i := 31) rfl))) (ty := .long) (by decide)
  show Ogo p e below _ (T1.setTop (mkF m 3 #[.val .null] [(.ref b)]))
  refine own_via (fun tq kq => XS.dup X1.here hx rfl (hb hby d8_3) rfl rfl kq) ?_
  show Ogo p e below _ (T1.setTop (mkF m 4 #[.val .null] [(.ref b), (.ref b)]))
  obtain ⟨T2, X2, e2, st2⟩ := getS2 X1 hx hZ hown (host := "") (Or.inl (hw _ (List.mem_of_getElem? (i := 46) rfl))) Via.refl e1 (S_kg.ext O.2) (g := (mkF m 4 #[.val .null] [(.ref b), (.ref b)])) rfl (hb hby d8_4)
  refine own_via st2 ?_
  show Ogo p e below _ (T2.setTop (mkF m 7 #[.val .null] [(.ref kg), (.ref b), (.ref b)]))
  refine own_via (fun tq kq => XS.aloadN X2.here hx rfl (hb hby d8_7) rfl rfl kq) ?_
  show Ogo p e below _ (T2.setTop (mkF m 8 #[.val .null] [.null, (.ref kg), (.ref b), (.ref b)]))
  refine own_via (fun tq kq => XS.aconstNull X2.here hx rfl (hb hby d8_8) kq) ?_
  show Ogo p e below _ (T2.setTop (mkF m 9 #[.val .null] [.null, .null, (.ref kg), (.ref b), (.ref b)]))
  refine own_via (fun tq kq => XS.aconstNull X2.here hx rfl (hb hby d8_9) kq) ?_
  show Ogo p e below _ (T2.setTop (mkF m 10 #[.val .null] [.null, .null, .null, (.ref kg), (.ref b), (.ref b)]))
  refine own_via (fun tq kq => X2.ldc2Long hx hown (mvT hZ (hw _ (List.mem_of_getElem? (i := 10) rfl))) (g := (mkF m 10 #[.val .null] [.null, .null, .null, (.ref kg), (.ref b), (.ref b)])) rfl (hb hby d8_10) _ kq) ?_
  show Ogo p e below _ (T2.setTop (mkF m 13 #[.val .null] [(.long (-1 : Int64)), .null, .null, .null, (.ref kg), (.ref b), (.ref b)]))
  refine own_callI X2 hx hZ rfl hown (hw _ (List.mem_of_getElem? (i := 11) rfl)) (hw _ (List.mem_of_getElem? (i := 12) rfl)) (hw _ (List.mem_of_getElem? (i := 3) rfl)) (hw _ (List.mem_of_getElem? (i := 13) rfl)) (by decide) (rm_oi hw b kg (-1 : Int64) h1 n0 E_b F_kind_b F_key_b F_patterns_b F_value_b F_condition_b g_b) rfl e2 (W := 1) (by decide) (by decide) (by decide) (by decide) (by rw [hml]; rfl) (a := b) (argsL := [(.ref kg), .null, .null, .null, (.long (-1 : Int64))]) (rest := [(.ref b)]) (lenOf pd_1 rfl) rfl (Nat.le_of_eq rfl) (hb hby d8_13) ?_
  rintro _ T3 L3 X3 ⟨rfl, Nq, Kc, F_condition_b⟩
  have N := N.app Nq
  have E_b := E_b.keep Kc
  have zs := Nat.le_trans zs Kc.1
  have O := O.keep Kc (allS g_b all0)
  have K := K.trans Kc (allS (Or.inr sz_b) all0)
  show Ogo p e below _ (T3.setTop (mkF m 16 #[.val .null] [(.ref b)]))
  exact own_out X3 hlk (fun h => by rw [hret] at h; cases h) (by decide) (by decide) (⟨N, K, b, rfl, E_b, F_condition_b⟩) (fun fs hr => own_retA X3 hx hret rfl rfl (hb hby d8_16) hr)
theorem d6_0 : decode prog_43_method_5_code 0 = .ok (.new 8, 3) := by decide +kernel
theorem d6_3 : decode prog_43_method_5_code 3 = .ok (.dup, 1) := by decide +kernel
theorem d6_4 : decode prog_43_method_5_code 4 = .ok (.getstatic 47, 3) := by decide +kernel
theorem d6_7 : decode prog_43_method_5_code 7 = .ok (.aload_n 0, 1) := by decide +kernel
theorem d6_8 : decode prog_43_method_5_code 8 = .ok (.aconst_null, 1) := by decide +kernel
theorem d6_9 : decode prog_43_method_5_code 9 = .ok (.aconst_null, 1) := by decide +kernel
theorem d6_10 : decode prog_43_method_5_code 10 = .ok (.lload_n 1, 1) := by decide +kernel
theorem d6_11 : decode prog_43_method_5_code 11 = .ok (.invokestatic 43, 3) := by decide +kernel
theorem d6_14 : decode prog_43_method_5_code 14 = .ok (.invokespecial 40, 3) := by decide +kernel
theorem d6_17 : decode prog_43_method_5_code 17 = .ok (.areturn, 1) := by decide +kernel
set_option maxRecDepth 65536 in
set_option maxHeartbeats 40000000 in
theorem rm_di {l : Launch} {Z : State} {a0 : Array Value} (hw : ∀ d ∈ tables_1, d.before a0 Z = true) (q : Int64) (kd kg ks km : Addr) (h0 : Heap) (n0 : Nat) (hq : 0 ≤ q.toInt) (S_kd : Sta Z Z.heap "com/example/keep_posted/keepposted/service/Operation$Kind" "DELETE" "Lcom/example/keep_posted/keepposted/service/Operation$Kind;" (.ref kd)) (S_kg : Sta Z Z.heap "com/example/keep_posted/keepposted/service/Operation$Kind" "GET" "Lcom/example/keep_posted/keepposted/service/Operation$Kind;" (.ref kg)) (S_ks : Sta Z Z.heap "com/example/keep_posted/keepposted/service/Operation$Kind" "SET" "Lcom/example/keep_posted/keepposted/service/Operation$Kind;" (.ref ks)) (S_km : Sta Z Z.heap "com/example/keep_posted/keepposted/service/Operation$Kind" "DELETE_MATCHING" "Lcom/example/keep_posted/keepposted/service/Operation$Kind;" (.ref km)) (O : Old Z n0 h0) (zs : n0 ≤ h0.size) :
    Opays l (⟨"com/example/keep_posted/keepposted/service/Operation", "deleteIf", "(Lcom/example/keep_posted/keepposted/model/Key;J)Lcom/example/keep_posted/keepposted/service/Operation;"⟩ : MethodName) prog_43_method_5_code 3 (some (.object "com/example/keep_posted/keepposted/service/Operation")) ({ frames := 3, cells := 1, slots := 5, locals := 43 } : Room) [] Z h0 #[.null, (.long q)] (fun v h L => Fr n0 L ∧ Keep h0 h [] ∧ ∃ b, v = some (.ref b) ∧ Exa Z h b "com/example/keep_posted/keepposted/service/Operation" ∧ Fld Z h b "com/example/keep_posted/keepposted/service/Operation" "condition" "J" (.long q)) := by
  refine own_enter (plainFor_of_name pn_1) ?_
  intro p e s m below meth c s₁ hx hby hml0 hown hnm hret hlk hZ e0 X0
  have hml : c.maxLocals = 3 := hml0
  replace hown : s.vm.findClass "com/example/keep_posted/keepposted/service/Operation" = some m.cls := hown
  have N := Fr.nil n0
  have hef : entryFrame m #[.null, (.long q)] 3 = mkF m 0 #[.val .null, .val (.long q), .second] [] := by first | (simp [entryFrame, mkF, argsToLocals, Value.category]; done) | rfl
  rw [hef]
  show Ogo p e below _ (s₁.setTop (mkF m 0 #[.val .null, .val (.long q), .second] []))
  have K := Keep.refl h0 []
  obtain ⟨T1, h1, X1, e1, E1, A1, D1, -, st1⟩ := newO X0 hx hZ hown (hw _ (List.mem_of_getElem? (i := 5) rfl)) (hw _ (List.mem_of_getElem? (i := 6) rfl)) (hw _ (List.mem_of_getElem? (i := 3) rfl)) e0 (g := (mkF m 0 #[.val .null, .val (.long q), .second] [])) rfl (hb hby d6_0) (by decide) (by decide)
  refine own_via st1 ?_
  obtain ⟨b, g1⟩ : ∃ z, z = h0.size := ⟨_, rfl⟩
  rw [← g1]
  rw [← g1] at A1 D1
  have g_b : n0 ≤ b := by rw [g1]; exact zs
  have sz_b : h0.size ≤ b := by rw [g1]; exact K.1
  have zs := Nat.le_trans zs E1.1
  have O := O.ext E1
  have K := K.ext E1
  have E_b := A1
  have F_kind_b : Fld Z h1 b "com/example/keep_posted/keepposted/service/Operation" "kind" "Lcom/example/keep_posted/keepposted/service/Operation$Kind;" .null := D1 (Or.inr (hw _ (List.mem_of_getElem? (i := 23) rfl))) (ty := (.object "com/example/keep_posted/keepposted/service/Operation$Kind")) (by decide)
  have F_key_b : Fld Z h1 b "com/example/keep_posted/keepposted/service/Operation" "key" "Lcom/example/keep_posted/keepposted/model/Key;" .null := D1 (Or.inr (hw _ (List.mem_of_getElem? (i := 25) rfl))) (ty := (.object "com/example/keep_posted/keepposted/model/Key")) (by decide)
  have F_patterns_b : Fld Z h1 b "com/example/keep_posted/keepposted/service/Operation" "patterns" "Ljava/util/List;" .null := D1 (Or.inr (hw _ (List.mem_of_getElem? (i := 27) rfl))) (ty := (.object "java/util/List")) (by decide)
  have F_value_b : Fld Z h1 b "com/example/keep_posted/keepposted/service/Operation" "value" "[B" .null := D1 (Or.inr (hw _ (List.mem_of_getElem? (i := 29) rfl))) (ty := (.array .byte)) (by decide)
  have F_condition_b : Fld Z h1 b "com/example/keep_posted/keepposted/service/Operation" "condition" "J" (.long (0 : Int64)) := D1 (Or.inr (hw _ (List.mem_of_getElem? (i := 31) rfl))) (ty := .long) (by decide)
  show Ogo p e below _ (T1.setTop (mkF m 3 #[.val .null, .val (.long q), .second] [(.ref b)]))
  refine own_via (fun tq kq => XS.dup X1.here hx rfl (hb hby d6_3) rfl rfl kq) ?_
  show Ogo p e below _ (T1.setTop (mkF m 4 #[.val .null, .val (.long q), .second] [(.ref b), (.ref b)]))
  obtain ⟨T2, X2, e2, st2⟩ := getS2 X1 hx hZ hown (host := "") (Or.inl (hw _ (List.mem_of_getElem? (i := 7) rfl))) Via.refl e1 (S_kd.ext O.2) (g := (mkF m 4 #[.val .null, .val (.long q), .second] [(.ref b), (.ref b)])) rfl (hb hby d6_4)
  refine own_via st2 ?_
  show Ogo p e below _ (T2.setTop (mkF m 7 #[.val .null, .val (.long q), .second] [(.ref kd), (.ref b), (.ref b)]))
  refine own_via (fun tq kq => XS.aloadN X2.here hx rfl (hb hby d6_7) rfl rfl kq) ?_
  show Ogo p e below _ (T2.setTop (mkF m 8 #[.val .null, .val (.long q), .second] [.null, (.ref kd), (.ref b), (.ref b)]))
  refine own_via (fun tq kq => XS.aconstNull X2.here hx rfl (hb hby d6_8) kq) ?_
  show Ogo p e below _ (T2.setTop (mkF m 9 #[.val .null, .val (.long q), .second] [.null, .null, (.ref kd), (.ref b), (.ref b)]))
  refine own_via (fun tq kq => XS.aconstNull X2.here hx rfl (hb hby d6_9) kq) ?_
  show Ogo p e below _ (T2.setTop (mkF m 10 #[.val .null, .val (.long q), .second] [.null, .null, .null, (.ref kd), (.ref b), (.ref b)]))
  refine own_via (fun tq kq => XS.lloadN X2.here hx rfl (hb hby d6_10) rfl kq) ?_
  show Ogo p e below _ (T2.setTop (mkF m 11 #[.val .null, .val (.long q), .second] [(.long q), .null, .null, .null, (.ref kd), (.ref b), (.ref b)]))
  refine own_callS X2 hx hZ hown (hw _ (List.mem_of_getElem? (i := 40) rfl)) (hw _ (List.mem_of_getElem? (i := 41) rfl)) (hw _ (List.mem_of_getElem? (i := 3) rfl)) (hw _ (List.mem_of_getElem? (i := 42) rfl)) (by decide) (rm_cc hw q h1 n0 hq) rfl e2 (W := 6) (by decide) (by decide) (by decide) (by decide) (by rw [hml]; rfl) (argsL := [(.long q)]) (rest := [.null, .null, .null, (.ref kd), (.ref b), (.ref b)]) (lenOf pd_2 rfl) rfl (Nat.le_of_eq rfl) (hb hby d6_11) ?_
  rintro _ T3 L3 X3 ⟨rfl, Nq, hk⟩
  have N := N.app Nq
  have hk3 := hk
  show Ogo p e below _ (T3.setTop (mkF m 14 #[.val .null, .val (.long q), .second] [(.long q), .null, .null, .null, (.ref kd), (.ref b), (.ref b)]))
  refine own_callI X3 hx hZ rfl hown (hw _ (List.mem_of_getElem? (i := 11) rfl)) (hw _ (List.mem_of_getElem? (i := 12) rfl)) (hw _ (List.mem_of_getElem? (i := 3) rfl)) (hw _ (List.mem_of_getElem? (i := 13) rfl)) (by decide) (rm_oi hw b kd q h1 n0 E_b F_kind_b F_key_b F_patterns_b F_value_b F_condition_b g_b) rfl hk3 (W := 1) (by decide) (by decide) (by decide) (by decide) (by rw [hml]; rfl) (a := b) (argsL := [(.ref kd), .null, .null, .null, (.long q)]) (rest := [(.ref b)]) (lenOf pd_1 rfl) rfl (Nat.le_of_eq rfl) (hb hby d6_14) ?_
  rintro _ T4 L4 X4 ⟨rfl, Nq, Kc, F_condition_b⟩
  have N := N.app Nq
  have E_b := E_b.keep Kc
  have zs := Nat.le_trans zs Kc.1
  have O := O.keep Kc (allS g_b all0)
  have K := K.trans Kc (allS (Or.inr sz_b) all0)
  show Ogo p e below _ (T4.setTop (mkF m 17 #[.val .null, .val (.long q), .second] [(.ref b)]))
  exact own_out X4 hlk (fun h => by rw [hret] at h; cases h) (by decide) (by decide) (⟨N, K, b, rfl, E_b, F_condition_b⟩) (fun fs hr => own_retA X4 hx hret rfl rfl (hb hby d6_17) hr)
set_option maxRecDepth 65536 in
set_option maxHeartbeats 40000000 in
theorem rm_law {l : Launch} {Z : State} {a0 : Array Value} (hw : ∀ d ∈ tables_1, d.before a0 Z = true) (k1 : Int32) (q1 : Int64) (kd kg ks km : Addr) (h0 : Heap) (n0 : Nat) (zs : n0 ≤ h0.size) (S_kd : Sta Z Z.heap "com/example/keep_posted/keepposted/service/Operation$Kind" "DELETE" "Lcom/example/keep_posted/keepposted/service/Operation$Kind;" (.ref kd)) (S_kg : Sta Z Z.heap "com/example/keep_posted/keepposted/service/Operation$Kind" "GET" "Lcom/example/keep_posted/keepposted/service/Operation$Kind;" (.ref kg)) (S_ks : Sta Z Z.heap "com/example/keep_posted/keepposted/service/Operation$Kind" "SET" "Lcom/example/keep_posted/keepposted/service/Operation$Kind;" (.ref ks)) (S_km : Sta Z Z.heap "com/example/keep_posted/keepposted/service/Operation$Kind" "DELETE_MATCHING" "Lcom/example/keep_posted/keepposted/service/Operation$Kind;" (.ref km)) (O : Old Z n0 h0) :
    Opays l x code maxLocals ret room_1 tables_1 Z h0 #[(.int k1), (.long q1)] (fun v h L => v = some (.int 1) ∧ Fr n0 L) := by
  refine own_enter (plainFor_of_name pn_2) ?_
  intro p e s m below meth c s₁ hx hby hml0 hown hnm hret hlk hZ e0 X0
  have hml : c.maxLocals = 11 := hml0
  replace hown : s.vm.findClass "com/example/keep_posted/keepposted/service/OperationConditionalPinLaw" = some m.cls := hown
  have N := Fr.nil n0
  have hef : entryFrame m #[(.int k1), (.long q1)] maxLocals = mkF m 0 #[.val (.int k1), .val (.long q1), .second, .unset, .unset, .unset, .unset, .unset, .unset, .unset, .unset] [] := by first | (simp [entryFrame, mkF, argsToLocals, Value.category, maxLocals]; done) | rfl
  rw [hef]
  show Ogo p e below _ (s₁.setTop (mkF m 0 #[.val (.int k1), .val (.long q1), .second, .unset, .unset, .unset, .unset, .unset, .unset, .unset, .unset] []))
  refine own_via (fun tq kq => XS.lloadN X0.here hx rfl (hb hby at_0) rfl kq) ?_
  show Ogo p e below _ (s₁.setTop (mkF m 1 #[.val (.int k1), .val (.long q1), .second, .unset, .unset, .unset, .unset, .unset, .unset, .unset, .unset] [(.long q1)]))
  refine own_via (fun tq kq => X0.ldc2Long hx hown (mvT hZ (hw _ (List.mem_of_getElem? (i := 0) rfl))) (g := (mkF m 1 #[.val (.int k1), .val (.long q1), .second, .unset, .unset, .unset, .unset, .unset, .unset, .unset, .unset] [(.long q1)])) rfl (hb hby at_1) _ kq) ?_
  show Ogo p e below _ (s₁.setTop (mkF m 4 #[.val (.int k1), .val (.long q1), .second, .unset, .unset, .unset, .unset, .unset, .unset, .unset, .unset] [(.long (9223372036854775807 : Int64)), (.long q1)]))
  refine own_via (fun tq kq => XS.land X0.here hx rfl (hb hby at_4) rfl kq) ?_
  show Ogo p e below _ (s₁.setTop (mkF m 5 #[.val (.int k1), .val (.long q1), .second, .unset, .unset, .unset, .unset, .unset, .unset, .unset, .unset] [(.long (q1 &&& (9223372036854775807 : Int64)))]))
  refine own_via (fun tq kq => XS.lstoreN X0.here hx rfl (hb hby at_5) rfl (l' := #[.val (.int k1), .val (.long q1), .second, .val (.long (q1 &&& (9223372036854775807 : Int64))), .second, .unset, .unset, .unset, .unset, .unset, .unset]) rfl kq) ?_
  show Ogo p e below _ (s₁.setTop (mkF m 6 #[.val (.int k1), .val (.long q1), .second, .val (.long (q1 &&& (9223372036854775807 : Int64))), .second, .unset, .unset, .unset, .unset, .unset, .unset] []))
  obtain ⟨rr, hrr⟩ : ∃ z, z = (q1 &&& (9223372036854775807 : Int64)) := ⟨_, rfl⟩
  rw [← hrr]
  show Ogo p e below _ (s₁.setTop (mkF m 6 #[.val (.int k1), .val (.long q1), .second, .val (.long rr), .second, .unset, .unset, .unset, .unset, .unset, .unset] []))
  have hr0 : 0 ≤ rr.toInt := by rw [hrr]; exact own_maskL q1
  refine own_via (fun tq kq => XS.iloadN X0.here hx rfl (hb hby at_6) rfl kq) ?_
  show Ogo p e below _ (s₁.setTop (mkF m 7 #[.val (.int k1), .val (.long q1), .second, .val (.long rr), .second, .unset, .unset, .unset, .unset, .unset, .unset] [(.int k1)]))
  refine own_via (fun tq kq => XS.bipush X0.here hx rfl (hb hby at_7) kq) ?_
  show Ogo p e below _ (s₁.setTop (mkF m 9 #[.val (.int k1), .val (.long q1), .second, .val (.long rr), .second, .unset, .unset, .unset, .unset, .unset, .unset] [(.int (7 : Int32)), (.int k1)]))
  refine own_via (fun tq kq => XS.iand X0.here hx rfl (hb hby at_9) rfl kq) ?_
  show Ogo p e below _ (s₁.setTop (mkF m 10 #[.val (.int k1), .val (.long q1), .second, .val (.long rr), .second, .unset, .unset, .unset, .unset, .unset, .unset] [(.int (k1 &&& (7 : Int32)))]))
  refine own_via (fun tq kq => XS.istore X0.here hx rfl (hb hby at_10) rfl (l' := #[.val (.int k1), .val (.long q1), .second, .val (.long rr), .second, .val (.int (k1 &&& (7 : Int32))), .unset, .unset, .unset, .unset, .unset]) rfl kq) ?_
  show Ogo p e below _ (s₁.setTop (mkF m 12 #[.val (.int k1), .val (.long q1), .second, .val (.long rr), .second, .val (.int (k1 &&& (7 : Int32))), .unset, .unset, .unset, .unset, .unset] []))
  obtain ⟨sel, hsel⟩ : ∃ z, z = (k1 &&& (7 : Int32)) := ⟨_, rfl⟩
  rw [← hsel]
  show Ogo p e below _ (s₁.setTop (mkF m 12 #[.val (.int k1), .val (.long q1), .second, .val (.long rr), .second, .val (.int sel), .unset, .unset, .unset, .unset, .unset] []))
  refine own_via (fun tq kq => XS.iload X0.here hx rfl (hb hby at_12) rfl kq) ?_
  show Ogo p e below _ (s₁.setTop (mkF m 14 #[.val (.int k1), .val (.long q1), .second, .val (.long rr), .second, .val (.int sel), .unset, .unset, .unset, .unset, .unset] [(.int sel)]))
  by_cases hc14 : sel = (0 : Int32)
  · refine own_via (fun tq kq => XS.ifNo X0.here hx rfl (hb hby at_14) rfl ((if0 _ _).trans (teq (hc14 : sel = (0 : Int32))).2) kq) ?_
    show Ogo p e below _ (s₁.setTop (mkF m 17 #[.val (.int k1), .val (.long q1), .second, .val (.long rr), .second, .val (.int sel), .unset, .unset, .unset, .unset, .unset] []))
    refine own_via (fun tq kq => XS.aconstNull X0.here hx rfl (hb hby at_17) kq) ?_
    show Ogo p e below _ (s₁.setTop (mkF m 18 #[.val (.int k1), .val (.long q1), .second, .val (.long rr), .second, .val (.int sel), .unset, .unset, .unset, .unset, .unset] [.null]))
    refine own_callS X0 hx hZ hown (hw _ (List.mem_of_getElem? (i := 1) rfl)) (hw _ (List.mem_of_getElem? (i := 2) rfl)) (hw _ (List.mem_of_getElem? (i := 3) rfl)) (hw _ (List.mem_of_getElem? (i := 4) rfl)) (by decide) (rm_de hw kd kg ks km h0 n0 S_kd S_kg S_ks S_km O zs) rfl e0 (W := 0) (by decide) (by decide) (by decide) (by decide) (by rw [hml]; rfl) (argsL := [.null]) (rest := []) (lenOf pd_3 rfl) rfl (Nat.le_of_eq rfl) (hb hby at_18) ?_
    rintro _ T1 L1 X1 ⟨Nq, Kc, b, rfl, E_b, F_condition_b⟩
    have N := N.app Nq
    have zs := Nat.le_trans zs Kc.1
    have O := O.keep Kc all0
    show Ogo p e below _ (T1.setTop (mkF m 21 #[.val (.int k1), .val (.long q1), .second, .val (.long rr), .second, .val (.int sel), .unset, .unset, .unset, .unset, .unset] [(.ref b)]))
    refine own_via (fun tq kq => XS.astore X1.here hx rfl (hb hby at_21) rfl rfl (l' := #[.val (.int k1), .val (.long q1), .second, .val (.long rr), .second, .val (.int sel), .val (.ref b), .unset, .unset, .unset, .unset]) rfl kq) ?_
    show Ogo p e below _ (T1.setTop (mkF m 23 #[.val (.int k1), .val (.long q1), .second, .val (.long rr), .second, .val (.int sel), .val (.ref b), .unset, .unset, .unset, .unset] []))
    refine own_via (fun tq kq => XS.iconst X1.here hx rfl (hb hby at_23) kq) ?_
    show Ogo p e below _ (T1.setTop (mkF m 24 #[.val (.int k1), .val (.long q1), .second, .val (.long rr), .second, .val (.int sel), .val (.ref b), .unset, .unset, .unset, .unset] [(.int (0 : Int32))]))
    refine own_via (fun tq kq => XS.istore X1.here hx rfl (hb hby at_24) rfl (l' := #[.val (.int k1), .val (.long q1), .second, .val (.long rr), .second, .val (.int sel), .val (.ref b), .val (.int (0 : Int32)), .unset, .unset, .unset]) rfl kq) ?_
    show Ogo p e below _ (T1.setTop (mkF m 26 #[.val (.int k1), .val (.long q1), .second, .val (.long rr), .second, .val (.int sel), .val (.ref b), .val (.int (0 : Int32)), .unset, .unset, .unset] []))
    refine own_via (fun tq kq => XS.goto X1.here hx rfl (pc0 := 26) (pc' := 167) rfl (hb hby at_26) (by decide) (by decide) kq) ?_
    show Ogo p e below _ (T1.setTop (mkF m 167 #[.val (.int k1), .val (.long q1), .second, .val (.long rr), .second, .val (.int sel), .val (.ref b), .val (.int (0 : Int32)), .unset, .unset, .unset] []))
    refine own_via (fun tq kq => XS.aload X1.here hx rfl (hb hby at_167) rfl rfl kq) ?_
    show Ogo p e below _ (T1.setTop (mkF m 169 #[.val (.int k1), .val (.long q1), .second, .val (.long rr), .second, .val (.int sel), .val (.ref b), .val (.int (0 : Int32)), .unset, .unset, .unset] [(.ref b)]))
    refine own_callV X1 hx hZ hown (hw _ (List.mem_of_getElem? (i := 32) rfl)) (hw _ (List.mem_of_getElem? (i := 33) rfl)) (hw _ (List.mem_of_getElem? (i := 35) rfl)) (hw _ (List.mem_of_getElem? (i := 34) rfl)) (hw _ (List.mem_of_getElem? (i := 3) rfl)) (hw _ (List.mem_of_getElem? (i := 36) rfl)) (notFace_of_selects (args := #[]) (mvT hZ (hw _ (List.mem_of_getElem? (i := 35) rfl)))) (by decide) (rm_co hw b (-1 : Int64) (0 : Int32) T1.heap n0 F_condition_b rfl) rfl rfl E_b (W := 0) (by decide) (by decide) (by decide) (by decide) (by rw [hml]; rfl) (b := b) (argsL := []) (rest := []) (lenOf pd_4 rfl) rfl (Nat.le_of_eq rfl) (hb hby at_169) ?_
    rintro _ T2 L2 X2 ⟨rfl, Nq, hk⟩
    have N := N.app Nq
    have hk2 := hk
    show Ogo p e below _ (T2.setTop (mkF m 172 #[.val (.int k1), .val (.long q1), .second, .val (.long rr), .second, .val (.int sel), .val (.ref b), .val (.int (0 : Int32)), .unset, .unset, .unset] [(.int (0 : Int32))]))
    refine own_via (fun tq kq => XS.iload X2.here hx rfl (hb hby at_172) rfl kq) ?_
    show Ogo p e below _ (T2.setTop (mkF m 174 #[.val (.int k1), .val (.long q1), .second, .val (.long rr), .second, .val (.int sel), .val (.ref b), .val (.int (0 : Int32)), .unset, .unset, .unset] [(.int (0 : Int32)), (.int (0 : Int32))]))
    refine own_via (fun tq kq => XS.icmpNo X2.here hx rfl (hb hby at_174) rfl (teq (rfl : (0 : Int32) = (0 : Int32))).2 kq) ?_
    show Ogo p e below _ (T2.setTop (mkF m 177 #[.val (.int k1), .val (.long q1), .second, .val (.long rr), .second, .val (.int sel), .val (.ref b), .val (.int (0 : Int32)), .unset, .unset, .unset] []))
    refine own_via (fun tq kq => XS.iconst X2.here hx rfl (hb hby at_177) kq) ?_
    show Ogo p e below _ (T2.setTop (mkF m 178 #[.val (.int k1), .val (.long q1), .second, .val (.long rr), .second, .val (.int sel), .val (.ref b), .val (.int (0 : Int32)), .unset, .unset, .unset] [(.int (1 : Int32))]))
    refine own_via (fun tq kq => XS.goto X2.here hx rfl (pc0 := 178) (pc' := 182) rfl (hb hby at_178) (by decide) (by decide) kq) ?_
    show Ogo p e below _ (T2.setTop (mkF m 182 #[.val (.int k1), .val (.long q1), .second, .val (.long rr), .second, .val (.int sel), .val (.ref b), .val (.int (0 : Int32)), .unset, .unset, .unset] [(.int (1 : Int32))]))
    exact own_out X2 hlk (fun h => by rw [hret] at h; cases h) (by decide) (by decide) (by first | exact ⟨rfl, N⟩ | (rw [hk2]; exact ⟨rfl, N⟩)) (fun fs hr => retN X2 hx (t := .boolean) hret (by simp) (hb hby at_182) hr)
  · refine own_via (fun tq kq => XS.ifYes X0.here hx rfl (pc0 := 14) (pc' := 29) rfl (hb hby at_14) rfl ((if0 _ _).trans (feq (hc14 : ¬ (sel = (0 : Int32)))).2) (by decide) (by decide) kq) ?_
    show Ogo p e below _ (s₁.setTop (mkF m 29 #[.val (.int k1), .val (.long q1), .second, .val (.long rr), .second, .val (.int sel), .unset, .unset, .unset, .unset, .unset] []))
    refine own_via (fun tq kq => XS.iload X0.here hx rfl (hb hby at_29) rfl kq) ?_
    show Ogo p e below _ (s₁.setTop (mkF m 31 #[.val (.int k1), .val (.long q1), .second, .val (.long rr), .second, .val (.int sel), .unset, .unset, .unset, .unset, .unset] [(.int sel)]))
    refine own_via (fun tq kq => XS.iconst X0.here hx rfl (hb hby at_31) kq) ?_
    show Ogo p e below _ (s₁.setTop (mkF m 32 #[.val (.int k1), .val (.long q1), .second, .val (.long rr), .second, .val (.int sel), .unset, .unset, .unset, .unset, .unset] [(.int (1 : Int32)), (.int sel)]))
    by_cases hc32 : sel = (1 : Int32)
    · refine own_via (fun tq kq => XS.icmpNo X0.here hx rfl (hb hby at_32) rfl (teq (hc32 : sel = (1 : Int32))).2 kq) ?_
      show Ogo p e below _ (s₁.setTop (mkF m 35 #[.val (.int k1), .val (.long q1), .second, .val (.long rr), .second, .val (.int sel), .unset, .unset, .unset, .unset, .unset] []))
      refine own_via (fun tq kq => XS.aconstNull X0.here hx rfl (hb hby at_35) kq) ?_
      show Ogo p e below _ (s₁.setTop (mkF m 36 #[.val (.int k1), .val (.long q1), .second, .val (.long rr), .second, .val (.int sel), .unset, .unset, .unset, .unset, .unset] [.null]))
      refine own_via (fun tq kq => XS.lloadN X0.here hx rfl (hb hby at_36) rfl kq) ?_
      show Ogo p e below _ (s₁.setTop (mkF m 37 #[.val (.int k1), .val (.long q1), .second, .val (.long rr), .second, .val (.int sel), .unset, .unset, .unset, .unset, .unset] [(.long rr), .null]))
      refine own_callS X0 hx hZ hown (hw _ (List.mem_of_getElem? (i := 37) rfl)) (hw _ (List.mem_of_getElem? (i := 38) rfl)) (hw _ (List.mem_of_getElem? (i := 3) rfl)) (hw _ (List.mem_of_getElem? (i := 39) rfl)) (by decide) (rm_di hw rr kd kg ks km h0 n0 hr0 S_kd S_kg S_ks S_km O zs) rfl e0 (W := 0) (by decide) (by decide) (by decide) (by decide) (by rw [hml]; rfl) (argsL := [.null, (.long rr)]) (rest := []) (lenOf pd_5 rfl) rfl (Nat.le_of_eq rfl) (hb hby at_37) ?_
      rintro _ T3 L3 X3 ⟨Nq, Kc, b, rfl, E_b, F_condition_b⟩
      have N := N.app Nq
      have zs := Nat.le_trans zs Kc.1
      have O := O.keep Kc all0
      show Ogo p e below _ (T3.setTop (mkF m 40 #[.val (.int k1), .val (.long q1), .second, .val (.long rr), .second, .val (.int sel), .unset, .unset, .unset, .unset, .unset] [(.ref b)]))
      refine own_via (fun tq kq => XS.astore X3.here hx rfl (hb hby at_40) rfl rfl (l' := #[.val (.int k1), .val (.long q1), .second, .val (.long rr), .second, .val (.int sel), .val (.ref b), .unset, .unset, .unset, .unset]) rfl kq) ?_
      show Ogo p e below _ (T3.setTop (mkF m 42 #[.val (.int k1), .val (.long q1), .second, .val (.long rr), .second, .val (.int sel), .val (.ref b), .unset, .unset, .unset, .unset] []))
      refine own_via (fun tq kq => XS.iconst X3.here hx rfl (hb hby at_42) kq) ?_
      show Ogo p e below _ (T3.setTop (mkF m 43 #[.val (.int k1), .val (.long q1), .second, .val (.long rr), .second, .val (.int sel), .val (.ref b), .unset, .unset, .unset, .unset] [(.int (1 : Int32))]))
      refine own_via (fun tq kq => XS.istore X3.here hx rfl (hb hby at_43) rfl (l' := #[.val (.int k1), .val (.long q1), .second, .val (.long rr), .second, .val (.int sel), .val (.ref b), .val (.int (1 : Int32)), .unset, .unset, .unset]) rfl kq) ?_
      show Ogo p e below _ (T3.setTop (mkF m 45 #[.val (.int k1), .val (.long q1), .second, .val (.long rr), .second, .val (.int sel), .val (.ref b), .val (.int (1 : Int32)), .unset, .unset, .unset] []))
      refine own_via (fun tq kq => XS.goto X3.here hx rfl (pc0 := 45) (pc' := 167) rfl (hb hby at_45) (by decide) (by decide) kq) ?_
      show Ogo p e below _ (T3.setTop (mkF m 167 #[.val (.int k1), .val (.long q1), .second, .val (.long rr), .second, .val (.int sel), .val (.ref b), .val (.int (1 : Int32)), .unset, .unset, .unset] []))
      refine own_via (fun tq kq => XS.aload X3.here hx rfl (hb hby at_167) rfl rfl kq) ?_
      show Ogo p e below _ (T3.setTop (mkF m 169 #[.val (.int k1), .val (.long q1), .second, .val (.long rr), .second, .val (.int sel), .val (.ref b), .val (.int (1 : Int32)), .unset, .unset, .unset] [(.ref b)]))
      refine own_callV X3 hx hZ hown (hw _ (List.mem_of_getElem? (i := 32) rfl)) (hw _ (List.mem_of_getElem? (i := 33) rfl)) (hw _ (List.mem_of_getElem? (i := 35) rfl)) (hw _ (List.mem_of_getElem? (i := 34) rfl)) (hw _ (List.mem_of_getElem? (i := 3) rfl)) (hw _ (List.mem_of_getElem? (i := 36) rfl)) (notFace_of_selects (args := #[]) (mvT hZ (hw _ (List.mem_of_getElem? (i := 35) rfl)))) (by decide) (rm_co hw b rr (1 : Int32) T3.heap n0 F_condition_b (by rw [if_neg (by intro z; rw [z] at hr0; revert hr0; decide)])) rfl rfl E_b (W := 0) (by decide) (by decide) (by decide) (by decide) (by rw [hml]; rfl) (b := b) (argsL := []) (rest := []) (lenOf pd_4 rfl) rfl (Nat.le_of_eq rfl) (hb hby at_169) ?_
      rintro _ T4 L4 X4 ⟨rfl, Nq, hk⟩
      have N := N.app Nq
      have hk4 := hk
      show Ogo p e below _ (T4.setTop (mkF m 172 #[.val (.int k1), .val (.long q1), .second, .val (.long rr), .second, .val (.int sel), .val (.ref b), .val (.int (1 : Int32)), .unset, .unset, .unset] [(.int (1 : Int32))]))
      refine own_via (fun tq kq => XS.iload X4.here hx rfl (hb hby at_172) rfl kq) ?_
      show Ogo p e below _ (T4.setTop (mkF m 174 #[.val (.int k1), .val (.long q1), .second, .val (.long rr), .second, .val (.int sel), .val (.ref b), .val (.int (1 : Int32)), .unset, .unset, .unset] [(.int (1 : Int32)), (.int (1 : Int32))]))
      refine own_via (fun tq kq => XS.icmpNo X4.here hx rfl (hb hby at_174) rfl (teq (rfl : (1 : Int32) = (1 : Int32))).2 kq) ?_
      show Ogo p e below _ (T4.setTop (mkF m 177 #[.val (.int k1), .val (.long q1), .second, .val (.long rr), .second, .val (.int sel), .val (.ref b), .val (.int (1 : Int32)), .unset, .unset, .unset] []))
      refine own_via (fun tq kq => XS.iconst X4.here hx rfl (hb hby at_177) kq) ?_
      show Ogo p e below _ (T4.setTop (mkF m 178 #[.val (.int k1), .val (.long q1), .second, .val (.long rr), .second, .val (.int sel), .val (.ref b), .val (.int (1 : Int32)), .unset, .unset, .unset] [(.int (1 : Int32))]))
      refine own_via (fun tq kq => XS.goto X4.here hx rfl (pc0 := 178) (pc' := 182) rfl (hb hby at_178) (by decide) (by decide) kq) ?_
      show Ogo p e below _ (T4.setTop (mkF m 182 #[.val (.int k1), .val (.long q1), .second, .val (.long rr), .second, .val (.int sel), .val (.ref b), .val (.int (1 : Int32)), .unset, .unset, .unset] [(.int (1 : Int32))]))
      exact own_out X4 hlk (fun h => by rw [hret] at h; cases h) (by decide) (by decide) (by first | exact ⟨rfl, N⟩ | (rw [hk4]; exact ⟨rfl, N⟩)) (fun fs hr => retN X4 hx (t := .boolean) hret (by simp) (hb hby at_182) hr)
    · refine own_via (fun tq kq => XS.icmpYes X0.here hx rfl (pc0 := 32) (pc' := 48) rfl (hb hby at_32) rfl (feq (hc32 : ¬ (sel = (1 : Int32)))).2 (by decide) (by decide) kq) ?_
      show Ogo p e below _ (s₁.setTop (mkF m 48 #[.val (.int k1), .val (.long q1), .second, .val (.long rr), .second, .val (.int sel), .unset, .unset, .unset, .unset, .unset] []))
      refine own_via (fun tq kq => XS.iload X0.here hx rfl (hb hby at_48) rfl kq) ?_
      show Ogo p e below _ (s₁.setTop (mkF m 50 #[.val (.int k1), .val (.long q1), .second, .val (.long rr), .second, .val (.int sel), .unset, .unset, .unset, .unset, .unset] [(.int sel)]))
      refine own_via (fun tq kq => XS.iconst X0.here hx rfl (hb hby at_50) kq) ?_
      show Ogo p e below _ (s₁.setTop (mkF m 51 #[.val (.int k1), .val (.long q1), .second, .val (.long rr), .second, .val (.int sel), .unset, .unset, .unset, .unset, .unset] [(.int (2 : Int32)), (.int sel)]))
      by_cases hc51 : sel = (2 : Int32)
      · refine own_via (fun tq kq => XS.icmpNo X0.here hx rfl (hb hby at_51) rfl (teq (hc51 : sel = (2 : Int32))).2 kq) ?_
        show Ogo p e below _ (s₁.setTop (mkF m 54 #[.val (.int k1), .val (.long q1), .second, .val (.long rr), .second, .val (.int sel), .unset, .unset, .unset, .unset, .unset] []))
        refine own_via (fun tq kq => XS.aconstNull X0.here hx rfl (hb hby at_54) kq) ?_
        show Ogo p e below _ (s₁.setTop (mkF m 55 #[.val (.int k1), .val (.long q1), .second, .val (.long rr), .second, .val (.int sel), .unset, .unset, .unset, .unset, .unset] [.null]))
        refine own_callS X0 hx hZ hown (hw _ (List.mem_of_getElem? (i := 43) rfl)) (hw _ (List.mem_of_getElem? (i := 44) rfl)) (hw _ (List.mem_of_getElem? (i := 3) rfl)) (hw _ (List.mem_of_getElem? (i := 45) rfl)) (by decide) (rm_ge hw kd kg ks km h0 n0 S_kd S_kg S_ks S_km O zs) rfl e0 (W := 0) (by decide) (by decide) (by decide) (by decide) (by rw [hml]; rfl) (argsL := [.null]) (rest := []) (lenOf pd_3 rfl) rfl (Nat.le_of_eq rfl) (hb hby at_55) ?_
        rintro _ T5 L5 X5 ⟨Nq, Kc, b, rfl, E_b, F_condition_b⟩
        have N := N.app Nq
        have zs := Nat.le_trans zs Kc.1
        have O := O.keep Kc all0
        show Ogo p e below _ (T5.setTop (mkF m 58 #[.val (.int k1), .val (.long q1), .second, .val (.long rr), .second, .val (.int sel), .unset, .unset, .unset, .unset, .unset] [(.ref b)]))
        refine own_via (fun tq kq => XS.astore X5.here hx rfl (hb hby at_58) rfl rfl (l' := #[.val (.int k1), .val (.long q1), .second, .val (.long rr), .second, .val (.int sel), .val (.ref b), .unset, .unset, .unset, .unset]) rfl kq) ?_
        show Ogo p e below _ (T5.setTop (mkF m 60 #[.val (.int k1), .val (.long q1), .second, .val (.long rr), .second, .val (.int sel), .val (.ref b), .unset, .unset, .unset, .unset] []))
        refine own_via (fun tq kq => XS.iconst X5.here hx rfl (hb hby at_60) kq) ?_
        show Ogo p e below _ (T5.setTop (mkF m 61 #[.val (.int k1), .val (.long q1), .second, .val (.long rr), .second, .val (.int sel), .val (.ref b), .unset, .unset, .unset, .unset] [(.int (0 : Int32))]))
        refine own_via (fun tq kq => XS.istore X5.here hx rfl (hb hby at_61) rfl (l' := #[.val (.int k1), .val (.long q1), .second, .val (.long rr), .second, .val (.int sel), .val (.ref b), .val (.int (0 : Int32)), .unset, .unset, .unset]) rfl kq) ?_
        show Ogo p e below _ (T5.setTop (mkF m 63 #[.val (.int k1), .val (.long q1), .second, .val (.long rr), .second, .val (.int sel), .val (.ref b), .val (.int (0 : Int32)), .unset, .unset, .unset] []))
        refine own_via (fun tq kq => XS.goto X5.here hx rfl (pc0 := 63) (pc' := 167) rfl (hb hby at_63) (by decide) (by decide) kq) ?_
        show Ogo p e below _ (T5.setTop (mkF m 167 #[.val (.int k1), .val (.long q1), .second, .val (.long rr), .second, .val (.int sel), .val (.ref b), .val (.int (0 : Int32)), .unset, .unset, .unset] []))
        refine own_via (fun tq kq => XS.aload X5.here hx rfl (hb hby at_167) rfl rfl kq) ?_
        show Ogo p e below _ (T5.setTop (mkF m 169 #[.val (.int k1), .val (.long q1), .second, .val (.long rr), .second, .val (.int sel), .val (.ref b), .val (.int (0 : Int32)), .unset, .unset, .unset] [(.ref b)]))
        refine own_callV X5 hx hZ hown (hw _ (List.mem_of_getElem? (i := 32) rfl)) (hw _ (List.mem_of_getElem? (i := 33) rfl)) (hw _ (List.mem_of_getElem? (i := 35) rfl)) (hw _ (List.mem_of_getElem? (i := 34) rfl)) (hw _ (List.mem_of_getElem? (i := 3) rfl)) (hw _ (List.mem_of_getElem? (i := 36) rfl)) (notFace_of_selects (args := #[]) (mvT hZ (hw _ (List.mem_of_getElem? (i := 35) rfl)))) (by decide) (rm_co hw b (-1 : Int64) (0 : Int32) T5.heap n0 F_condition_b rfl) rfl rfl E_b (W := 0) (by decide) (by decide) (by decide) (by decide) (by rw [hml]; rfl) (b := b) (argsL := []) (rest := []) (lenOf pd_4 rfl) rfl (Nat.le_of_eq rfl) (hb hby at_169) ?_
        rintro _ T6 L6 X6 ⟨rfl, Nq, hk⟩
        have N := N.app Nq
        have hk6 := hk
        show Ogo p e below _ (T6.setTop (mkF m 172 #[.val (.int k1), .val (.long q1), .second, .val (.long rr), .second, .val (.int sel), .val (.ref b), .val (.int (0 : Int32)), .unset, .unset, .unset] [(.int (0 : Int32))]))
        refine own_via (fun tq kq => XS.iload X6.here hx rfl (hb hby at_172) rfl kq) ?_
        show Ogo p e below _ (T6.setTop (mkF m 174 #[.val (.int k1), .val (.long q1), .second, .val (.long rr), .second, .val (.int sel), .val (.ref b), .val (.int (0 : Int32)), .unset, .unset, .unset] [(.int (0 : Int32)), (.int (0 : Int32))]))
        refine own_via (fun tq kq => XS.icmpNo X6.here hx rfl (hb hby at_174) rfl (teq (rfl : (0 : Int32) = (0 : Int32))).2 kq) ?_
        show Ogo p e below _ (T6.setTop (mkF m 177 #[.val (.int k1), .val (.long q1), .second, .val (.long rr), .second, .val (.int sel), .val (.ref b), .val (.int (0 : Int32)), .unset, .unset, .unset] []))
        refine own_via (fun tq kq => XS.iconst X6.here hx rfl (hb hby at_177) kq) ?_
        show Ogo p e below _ (T6.setTop (mkF m 178 #[.val (.int k1), .val (.long q1), .second, .val (.long rr), .second, .val (.int sel), .val (.ref b), .val (.int (0 : Int32)), .unset, .unset, .unset] [(.int (1 : Int32))]))
        refine own_via (fun tq kq => XS.goto X6.here hx rfl (pc0 := 178) (pc' := 182) rfl (hb hby at_178) (by decide) (by decide) kq) ?_
        show Ogo p e below _ (T6.setTop (mkF m 182 #[.val (.int k1), .val (.long q1), .second, .val (.long rr), .second, .val (.int sel), .val (.ref b), .val (.int (0 : Int32)), .unset, .unset, .unset] [(.int (1 : Int32))]))
        exact own_out X6 hlk (fun h => by rw [hret] at h; cases h) (by decide) (by decide) (by first | exact ⟨rfl, N⟩ | (rw [hk6]; exact ⟨rfl, N⟩)) (fun fs hr => retN X6 hx (t := .boolean) hret (by simp) (hb hby at_182) hr)
      · refine own_via (fun tq kq => XS.icmpYes X0.here hx rfl (pc0 := 51) (pc' := 66) rfl (hb hby at_51) rfl (feq (hc51 : ¬ (sel = (2 : Int32)))).2 (by decide) (by decide) kq) ?_
        show Ogo p e below _ (s₁.setTop (mkF m 66 #[.val (.int k1), .val (.long q1), .second, .val (.long rr), .second, .val (.int sel), .unset, .unset, .unset, .unset, .unset] []))
        suffices hj : ∀ (T7 : State) (X7 : Stand p l e room_1 s m #[(.int k1), (.long q1)] below meth c T7 [] 0 0) (e7 : T7.heap = h0) (kk : Addr), Ogo p e below (Onar s room_1 (fun v h L => v = some (.int 1) ∧ Fr n0 L)) (T7.setTop (mkF m 120 #[.val (.int k1), .val (.long q1), .second, .val (.long rr), .second, .val (.int sel), .unset, .unset, .val (.ref kk), .unset, .unset] [])) by
          refine own_via (fun tq kq => XS.iload X0.here hx rfl (hb hby at_66) rfl kq) ?_
          show Ogo p e below _ (s₁.setTop (mkF m 68 #[.val (.int k1), .val (.long q1), .second, .val (.long rr), .second, .val (.int sel), .unset, .unset, .unset, .unset, .unset] [(.int sel)]))
          refine own_via (fun tq kq => XS.iconst X0.here hx rfl (hb hby at_68) kq) ?_
          show Ogo p e below _ (s₁.setTop (mkF m 69 #[.val (.int k1), .val (.long q1), .second, .val (.long rr), .second, .val (.int sel), .unset, .unset, .unset, .unset, .unset] [(.int (3 : Int32)), (.int sel)]))
          by_cases hc69 : sel = (3 : Int32)
          · refine own_via (fun tq kq => XS.icmpYes X0.here hx rfl (pc0 := 69) (pc' := 79) rfl (hb hby at_69) rfl (teq (hc69 : sel = (3 : Int32))).1 (by decide) (by decide) kq) ?_
            show Ogo p e below _ (s₁.setTop (mkF m 79 #[.val (.int k1), .val (.long q1), .second, .val (.long rr), .second, .val (.int sel), .unset, .unset, .unset, .unset, .unset] []))
            obtain ⟨T8, X8, e8, st8⟩ := getS2 X0 hx hZ hown (host := "") (Or.inl (hw _ (List.mem_of_getElem? (i := 48) rfl))) Via.refl e0 (S_ks.ext O.2) (g := (mkF m 79 #[.val (.int k1), .val (.long q1), .second, .val (.long rr), .second, .val (.int sel), .unset, .unset, .unset, .unset, .unset] [])) rfl (hb hby at_79)
            refine own_via st8 ?_
            show Ogo p e below _ (T8.setTop (mkF m 82 #[.val (.int k1), .val (.long q1), .second, .val (.long rr), .second, .val (.int sel), .unset, .unset, .unset, .unset, .unset] [(.ref ks)]))
            refine own_via (fun tq kq => XS.astore X8.here hx rfl (hb hby at_82) rfl rfl (l' := #[.val (.int k1), .val (.long q1), .second, .val (.long rr), .second, .val (.int sel), .unset, .unset, .val (.ref ks), .unset, .unset]) rfl kq) ?_
            show Ogo p e below _ (T8.setTop (mkF m 84 #[.val (.int k1), .val (.long q1), .second, .val (.long rr), .second, .val (.int sel), .unset, .unset, .val (.ref ks), .unset, .unset] []))
            refine own_via (fun tq kq => XS.goto X8.here hx rfl (pc0 := 84) (pc' := 120) rfl (hb hby at_84) (by decide) (by decide) kq) ?_
            show Ogo p e below _ (T8.setTop (mkF m 120 #[.val (.int k1), .val (.long q1), .second, .val (.long rr), .second, .val (.int sel), .unset, .unset, .val (.ref ks), .unset, .unset] []))
            exact hj _ X8 e8 _
          · refine own_via (fun tq kq => XS.icmpNo X0.here hx rfl (hb hby at_69) rfl (feq (hc69 : ¬ (sel = (3 : Int32)))).1 kq) ?_
            show Ogo p e below _ (s₁.setTop (mkF m 72 #[.val (.int k1), .val (.long q1), .second, .val (.long rr), .second, .val (.int sel), .unset, .unset, .unset, .unset, .unset] []))
            refine own_via (fun tq kq => XS.iload X0.here hx rfl (hb hby at_72) rfl kq) ?_
            show Ogo p e below _ (s₁.setTop (mkF m 74 #[.val (.int k1), .val (.long q1), .second, .val (.long rr), .second, .val (.int sel), .unset, .unset, .unset, .unset, .unset] [(.int sel)]))
            refine own_via (fun tq kq => XS.bipush X0.here hx rfl (hb hby at_74) kq) ?_
            show Ogo p e below _ (s₁.setTop (mkF m 76 #[.val (.int k1), .val (.long q1), .second, .val (.long rr), .second, .val (.int sel), .unset, .unset, .unset, .unset, .unset] [(.int (7 : Int32)), (.int sel)]))
            by_cases hc76 : sel = (7 : Int32)
            · refine own_via (fun tq kq => XS.icmpNo X0.here hx rfl (hb hby at_76) rfl (teq (hc76 : sel = (7 : Int32))).2 kq) ?_
              show Ogo p e below _ (s₁.setTop (mkF m 79 #[.val (.int k1), .val (.long q1), .second, .val (.long rr), .second, .val (.int sel), .unset, .unset, .unset, .unset, .unset] []))
              obtain ⟨T9, X9, e9, st9⟩ := getS2 X0 hx hZ hown (host := "") (Or.inl (hw _ (List.mem_of_getElem? (i := 48) rfl))) Via.refl e0 (S_ks.ext O.2) (g := (mkF m 79 #[.val (.int k1), .val (.long q1), .second, .val (.long rr), .second, .val (.int sel), .unset, .unset, .unset, .unset, .unset] [])) rfl (hb hby at_79)
              refine own_via st9 ?_
              show Ogo p e below _ (T9.setTop (mkF m 82 #[.val (.int k1), .val (.long q1), .second, .val (.long rr), .second, .val (.int sel), .unset, .unset, .unset, .unset, .unset] [(.ref ks)]))
              refine own_via (fun tq kq => XS.astore X9.here hx rfl (hb hby at_82) rfl rfl (l' := #[.val (.int k1), .val (.long q1), .second, .val (.long rr), .second, .val (.int sel), .unset, .unset, .val (.ref ks), .unset, .unset]) rfl kq) ?_
              show Ogo p e below _ (T9.setTop (mkF m 84 #[.val (.int k1), .val (.long q1), .second, .val (.long rr), .second, .val (.int sel), .unset, .unset, .val (.ref ks), .unset, .unset] []))
              refine own_via (fun tq kq => XS.goto X9.here hx rfl (pc0 := 84) (pc' := 120) rfl (hb hby at_84) (by decide) (by decide) kq) ?_
              show Ogo p e below _ (T9.setTop (mkF m 120 #[.val (.int k1), .val (.long q1), .second, .val (.long rr), .second, .val (.int sel), .unset, .unset, .val (.ref ks), .unset, .unset] []))
              exact hj _ X9 e9 _
            · refine own_via (fun tq kq => XS.icmpYes X0.here hx rfl (pc0 := 76) (pc' := 87) rfl (hb hby at_76) rfl (feq (hc76 : ¬ (sel = (7 : Int32)))).2 (by decide) (by decide) kq) ?_
              show Ogo p e below _ (s₁.setTop (mkF m 87 #[.val (.int k1), .val (.long q1), .second, .val (.long rr), .second, .val (.int sel), .unset, .unset, .unset, .unset, .unset] []))
              refine own_via (fun tq kq => XS.iload X0.here hx rfl (hb hby at_87) rfl kq) ?_
              show Ogo p e below _ (s₁.setTop (mkF m 89 #[.val (.int k1), .val (.long q1), .second, .val (.long rr), .second, .val (.int sel), .unset, .unset, .unset, .unset, .unset] [(.int sel)]))
              refine own_via (fun tq kq => XS.iconst X0.here hx rfl (hb hby at_89) kq) ?_
              show Ogo p e below _ (s₁.setTop (mkF m 90 #[.val (.int k1), .val (.long q1), .second, .val (.long rr), .second, .val (.int sel), .unset, .unset, .unset, .unset, .unset] [(.int (4 : Int32)), (.int sel)]))
              by_cases hc90 : sel = (4 : Int32)
              · refine own_via (fun tq kq => XS.icmpNo X0.here hx rfl (hb hby at_90) rfl (teq (hc90 : sel = (4 : Int32))).2 kq) ?_
                show Ogo p e below _ (s₁.setTop (mkF m 93 #[.val (.int k1), .val (.long q1), .second, .val (.long rr), .second, .val (.int sel), .unset, .unset, .unset, .unset, .unset] []))
                obtain ⟨T10, X10, e10, st10⟩ := getS2 X0 hx hZ hown (host := "") (Or.inl (hw _ (List.mem_of_getElem? (i := 55) rfl))) Via.refl e0 (S_kd.ext O.2) (g := (mkF m 93 #[.val (.int k1), .val (.long q1), .second, .val (.long rr), .second, .val (.int sel), .unset, .unset, .unset, .unset, .unset] [])) rfl (hb hby at_93)
                refine own_via st10 ?_
                show Ogo p e below _ (T10.setTop (mkF m 96 #[.val (.int k1), .val (.long q1), .second, .val (.long rr), .second, .val (.int sel), .unset, .unset, .unset, .unset, .unset] [(.ref kd)]))
                refine own_via (fun tq kq => XS.astore X10.here hx rfl (hb hby at_96) rfl rfl (l' := #[.val (.int k1), .val (.long q1), .second, .val (.long rr), .second, .val (.int sel), .unset, .unset, .val (.ref kd), .unset, .unset]) rfl kq) ?_
                show Ogo p e below _ (T10.setTop (mkF m 98 #[.val (.int k1), .val (.long q1), .second, .val (.long rr), .second, .val (.int sel), .unset, .unset, .val (.ref kd), .unset, .unset] []))
                refine own_via (fun tq kq => XS.goto X10.here hx rfl (pc0 := 98) (pc' := 120) rfl (hb hby at_98) (by decide) (by decide) kq) ?_
                show Ogo p e below _ (T10.setTop (mkF m 120 #[.val (.int k1), .val (.long q1), .second, .val (.long rr), .second, .val (.int sel), .unset, .unset, .val (.ref kd), .unset, .unset] []))
                exact hj _ X10 e10 _
              · refine own_via (fun tq kq => XS.icmpYes X0.here hx rfl (pc0 := 90) (pc' := 101) rfl (hb hby at_90) rfl (feq (hc90 : ¬ (sel = (4 : Int32)))).2 (by decide) (by decide) kq) ?_
                show Ogo p e below _ (s₁.setTop (mkF m 101 #[.val (.int k1), .val (.long q1), .second, .val (.long rr), .second, .val (.int sel), .unset, .unset, .unset, .unset, .unset] []))
                refine own_via (fun tq kq => XS.iload X0.here hx rfl (hb hby at_101) rfl kq) ?_
                show Ogo p e below _ (s₁.setTop (mkF m 103 #[.val (.int k1), .val (.long q1), .second, .val (.long rr), .second, .val (.int sel), .unset, .unset, .unset, .unset, .unset] [(.int sel)]))
                refine own_via (fun tq kq => XS.iconst X0.here hx rfl (hb hby at_103) kq) ?_
                show Ogo p e below _ (s₁.setTop (mkF m 104 #[.val (.int k1), .val (.long q1), .second, .val (.long rr), .second, .val (.int sel), .unset, .unset, .unset, .unset, .unset] [(.int (5 : Int32)), (.int sel)]))
                by_cases hc104 : sel = (5 : Int32)
                · refine own_via (fun tq kq => XS.icmpNo X0.here hx rfl (hb hby at_104) rfl (teq (hc104 : sel = (5 : Int32))).2 kq) ?_
                  show Ogo p e below _ (s₁.setTop (mkF m 107 #[.val (.int k1), .val (.long q1), .second, .val (.long rr), .second, .val (.int sel), .unset, .unset, .unset, .unset, .unset] []))
                  obtain ⟨T11, X11, e11, st11⟩ := getS2 X0 hx hZ hown (host := "") (Or.inl (hw _ (List.mem_of_getElem? (i := 53) rfl))) Via.refl e0 (S_km.ext O.2) (g := (mkF m 107 #[.val (.int k1), .val (.long q1), .second, .val (.long rr), .second, .val (.int sel), .unset, .unset, .unset, .unset, .unset] [])) rfl (hb hby at_107)
                  refine own_via st11 ?_
                  show Ogo p e below _ (T11.setTop (mkF m 110 #[.val (.int k1), .val (.long q1), .second, .val (.long rr), .second, .val (.int sel), .unset, .unset, .unset, .unset, .unset] [(.ref km)]))
                  refine own_via (fun tq kq => XS.astore X11.here hx rfl (hb hby at_110) rfl rfl (l' := #[.val (.int k1), .val (.long q1), .second, .val (.long rr), .second, .val (.int sel), .unset, .unset, .val (.ref km), .unset, .unset]) rfl kq) ?_
                  show Ogo p e below _ (T11.setTop (mkF m 112 #[.val (.int k1), .val (.long q1), .second, .val (.long rr), .second, .val (.int sel), .unset, .unset, .val (.ref km), .unset, .unset] []))
                  refine own_via (fun tq kq => XS.goto X11.here hx rfl (pc0 := 112) (pc' := 120) rfl (hb hby at_112) (by decide) (by decide) kq) ?_
                  show Ogo p e below _ (T11.setTop (mkF m 120 #[.val (.int k1), .val (.long q1), .second, .val (.long rr), .second, .val (.int sel), .unset, .unset, .val (.ref km), .unset, .unset] []))
                  exact hj _ X11 e11 _
                · refine own_via (fun tq kq => XS.icmpYes X0.here hx rfl (pc0 := 104) (pc' := 115) rfl (hb hby at_104) rfl (feq (hc104 : ¬ (sel = (5 : Int32)))).2 (by decide) (by decide) kq) ?_
                  show Ogo p e below _ (s₁.setTop (mkF m 115 #[.val (.int k1), .val (.long q1), .second, .val (.long rr), .second, .val (.int sel), .unset, .unset, .unset, .unset, .unset] []))
                  obtain ⟨T12, X12, e12, st12⟩ := getS2 X0 hx hZ hown (host := "") (Or.inl (hw _ (List.mem_of_getElem? (i := 56) rfl))) Via.refl e0 (S_kg.ext O.2) (g := (mkF m 115 #[.val (.int k1), .val (.long q1), .second, .val (.long rr), .second, .val (.int sel), .unset, .unset, .unset, .unset, .unset] [])) rfl (hb hby at_115)
                  refine own_via st12 ?_
                  show Ogo p e below _ (T12.setTop (mkF m 118 #[.val (.int k1), .val (.long q1), .second, .val (.long rr), .second, .val (.int sel), .unset, .unset, .unset, .unset, .unset] [(.ref kg)]))
                  refine own_via (fun tq kq => XS.astore X12.here hx rfl (hb hby at_118) rfl rfl (l' := #[.val (.int k1), .val (.long q1), .second, .val (.long rr), .second, .val (.int sel), .unset, .unset, .val (.ref kg), .unset, .unset]) rfl kq) ?_
                  show Ogo p e below _ (T12.setTop (mkF m 120 #[.val (.int k1), .val (.long q1), .second, .val (.long rr), .second, .val (.int sel), .unset, .unset, .val (.ref kg), .unset, .unset] []))
                  exact hj _ X12 e12 _
        intro T7 X7 e7 kk
        show Ogo p e below _ (T7.setTop (mkF m 120 #[.val (.int k1), .val (.long q1), .second, .val (.long rr), .second, .val (.int sel), .unset, .unset, .val (.ref kk), .unset, .unset] []))
        suffices hj : ∀ cv : Int64, (cv = -1 ∨ 0 ≤ cv.toInt) → Ogo p e below (Onar s room_1 (fun v h L => v = some (.int 1) ∧ Fr n0 L)) (T7.setTop (mkF m 135 #[.val (.int k1), .val (.long q1), .second, .val (.long rr), .second, .val (.int sel), .unset, .unset, .val (.ref kk), .unset, .unset] [(.long cv)])) by
          refine own_via (fun tq kq => XS.iloadN X7.here hx rfl (hb hby at_120) rfl kq) ?_
          show Ogo p e below _ (T7.setTop (mkF m 121 #[.val (.int k1), .val (.long q1), .second, .val (.long rr), .second, .val (.int sel), .unset, .unset, .val (.ref kk), .unset, .unset] [(.int k1)]))
          refine own_via (fun tq kq => XS.iconst X7.here hx rfl (hb hby at_121) kq) ?_
          show Ogo p e below _ (T7.setTop (mkF m 122 #[.val (.int k1), .val (.long q1), .second, .val (.long rr), .second, .val (.int sel), .unset, .unset, .val (.ref kk), .unset, .unset] [(.int (3 : Int32)), (.int k1)]))
          refine own_via (fun tq kq => XS.iushr X7.here hx rfl (hb hby at_122) rfl kq) ?_
          show Ogo p e below _ (T7.setTop (mkF m 123 #[.val (.int k1), .val (.long q1), .second, .val (.long rr), .second, .val (.int sel), .unset, .unset, .val (.ref kk), .unset, .unset] [(.int ((k1.toUInt32 >>> ((3 : Int32) &&& 31).toUInt32).toInt32))]))
          refine own_via (fun tq kq => XS.iconst X7.here hx rfl (hb hby at_123) kq) ?_
          show Ogo p e below _ (T7.setTop (mkF m 124 #[.val (.int k1), .val (.long q1), .second, .val (.long rr), .second, .val (.int sel), .unset, .unset, .val (.ref kk), .unset, .unset] [(.int (1 : Int32)), (.int ((k1.toUInt32 >>> ((3 : Int32) &&& 31).toUInt32).toInt32))]))
          refine own_via (fun tq kq => XS.iand X7.here hx rfl (hb hby at_124) rfl kq) ?_
          show Ogo p e below _ (T7.setTop (mkF m 125 #[.val (.int k1), .val (.long q1), .second, .val (.long rr), .second, .val (.int sel), .unset, .unset, .val (.ref kk), .unset, .unset] [(.int (((k1.toUInt32 >>> ((3 : Int32) &&& 31).toUInt32).toInt32) &&& (1 : Int32)))]))
          by_cases hc125 : (((k1.toUInt32 >>> ((3 : Int32) &&& 31).toUInt32).toInt32) &&& (1 : Int32)) = (0 : Int32)
          · refine own_via (fun tq kq => XS.ifYes X7.here hx rfl (pc0 := 125) (pc' := 134) rfl (hb hby at_125) rfl ((if0 _ _).trans (teq (hc125 : (((k1.toUInt32 >>> ((3 : Int32) &&& 31).toUInt32).toInt32) &&& (1 : Int32)) = (0 : Int32))).1) (by decide) (by decide) kq) ?_
            show Ogo p e below _ (T7.setTop (mkF m 134 #[.val (.int k1), .val (.long q1), .second, .val (.long rr), .second, .val (.int sel), .unset, .unset, .val (.ref kk), .unset, .unset] []))
            refine own_via (fun tq kq => XS.lloadN X7.here hx rfl (hb hby at_134) rfl kq) ?_
            show Ogo p e below _ (T7.setTop (mkF m 135 #[.val (.int k1), .val (.long q1), .second, .val (.long rr), .second, .val (.int sel), .unset, .unset, .val (.ref kk), .unset, .unset] [(.long rr)]))
            exact hj _ (Or.inr hr0)
          · refine own_via (fun tq kq => XS.ifNo X7.here hx rfl (hb hby at_125) rfl ((if0 _ _).trans (feq (hc125 : ¬ ((((k1.toUInt32 >>> ((3 : Int32) &&& 31).toUInt32).toInt32) &&& (1 : Int32)) = (0 : Int32)))).1) kq) ?_
            show Ogo p e below _ (T7.setTop (mkF m 128 #[.val (.int k1), .val (.long q1), .second, .val (.long rr), .second, .val (.int sel), .unset, .unset, .val (.ref kk), .unset, .unset] []))
            refine own_via (fun tq kq => X7.ldc2Long hx hown (mvT hZ (hw _ (List.mem_of_getElem? (i := 50) rfl))) (g := (mkF m 128 #[.val (.int k1), .val (.long q1), .second, .val (.long rr), .second, .val (.int sel), .unset, .unset, .val (.ref kk), .unset, .unset] [])) rfl (hb hby at_128) _ kq) ?_
            show Ogo p e below _ (T7.setTop (mkF m 131 #[.val (.int k1), .val (.long q1), .second, .val (.long rr), .second, .val (.int sel), .unset, .unset, .val (.ref kk), .unset, .unset] [(.long (-1 : Int64))]))
            refine own_via (fun tq kq => XS.goto X7.here hx rfl (pc0 := 131) (pc' := 135) rfl (hb hby at_131) (by decide) (by decide) kq) ?_
            show Ogo p e below _ (T7.setTop (mkF m 135 #[.val (.int k1), .val (.long q1), .second, .val (.long rr), .second, .val (.int sel), .unset, .unset, .val (.ref kk), .unset, .unset] [(.long (-1 : Int64))]))
            exact hj _ (Or.inl rfl)
        intro cv hcv
        show Ogo p e below _ (T7.setTop (mkF m 135 #[.val (.int k1), .val (.long q1), .second, .val (.long rr), .second, .val (.int sel), .unset, .unset, .val (.ref kk), .unset, .unset] [(.long cv)]))
        refine own_via (fun tq kq => XS.lstore X7.here hx rfl (hb hby at_135) rfl (l' := #[.val (.int k1), .val (.long q1), .second, .val (.long rr), .second, .val (.int sel), .unset, .unset, .val (.ref kk), .val (.long cv), .second]) rfl kq) ?_
        show Ogo p e below _ (T7.setTop (mkF m 137 #[.val (.int k1), .val (.long q1), .second, .val (.long rr), .second, .val (.int sel), .unset, .unset, .val (.ref kk), .val (.long cv), .second] []))
        obtain ⟨T13, h13, X13, e13, E13, A13, D13, -, st13⟩ := newO X7 hx hZ hown (hw _ (List.mem_of_getElem? (i := 51) rfl)) (hw _ (List.mem_of_getElem? (i := 6) rfl)) (hw _ (List.mem_of_getElem? (i := 3) rfl)) e7 (g := (mkF m 137 #[.val (.int k1), .val (.long q1), .second, .val (.long rr), .second, .val (.int sel), .unset, .unset, .val (.ref kk), .val (.long cv), .second] [])) rfl (hb hby at_137) (by decide) (by decide)
        refine own_via st13 ?_
        obtain ⟨b, g13⟩ : ∃ z, z = h0.size := ⟨_, rfl⟩
        rw [← g13]
        rw [← g13] at A13 D13
        have g_b : n0 ≤ b := by rw [g13]; exact zs
        have zs := Nat.le_trans zs E13.1
        have O := O.ext E13
        have E_b := A13
        have F_kind_b : Fld Z h13 b "com/example/keep_posted/keepposted/service/Operation" "kind" "Lcom/example/keep_posted/keepposted/service/Operation$Kind;" .null := D13 (Or.inr (hw _ (List.mem_of_getElem? (i := 23) rfl))) (ty := (.object "com/example/keep_posted/keepposted/service/Operation$Kind")) (by decide)
        have F_key_b : Fld Z h13 b "com/example/keep_posted/keepposted/service/Operation" "key" "Lcom/example/keep_posted/keepposted/model/Key;" .null := D13 (Or.inr (hw _ (List.mem_of_getElem? (i := 25) rfl))) (ty := (.object "com/example/keep_posted/keepposted/model/Key")) (by decide)
        have F_patterns_b : Fld Z h13 b "com/example/keep_posted/keepposted/service/Operation" "patterns" "Ljava/util/List;" .null := D13 (Or.inr (hw _ (List.mem_of_getElem? (i := 27) rfl))) (ty := (.object "java/util/List")) (by decide)
        have F_value_b : Fld Z h13 b "com/example/keep_posted/keepposted/service/Operation" "value" "[B" .null := D13 (Or.inr (hw _ (List.mem_of_getElem? (i := 29) rfl))) (ty := (.array .byte)) (by decide)
        have F_condition_b : Fld Z h13 b "com/example/keep_posted/keepposted/service/Operation" "condition" "J" (.long (0 : Int64)) := D13 (Or.inr (hw _ (List.mem_of_getElem? (i := 31) rfl))) (ty := .long) (by decide)
        show Ogo p e below _ (T13.setTop (mkF m 140 #[.val (.int k1), .val (.long q1), .second, .val (.long rr), .second, .val (.int sel), .unset, .unset, .val (.ref kk), .val (.long cv), .second] [(.ref b)]))
        refine own_via (fun tq kq => XS.dup X13.here hx rfl (hb hby at_140) rfl rfl kq) ?_
        show Ogo p e below _ (T13.setTop (mkF m 141 #[.val (.int k1), .val (.long q1), .second, .val (.long rr), .second, .val (.int sel), .unset, .unset, .val (.ref kk), .val (.long cv), .second] [(.ref b), (.ref b)]))
        refine own_via (fun tq kq => XS.aload X13.here hx rfl (hb hby at_141) rfl rfl kq) ?_
        show Ogo p e below _ (T13.setTop (mkF m 143 #[.val (.int k1), .val (.long q1), .second, .val (.long rr), .second, .val (.int sel), .unset, .unset, .val (.ref kk), .val (.long cv), .second] [(.ref kk), (.ref b), (.ref b)]))
        refine own_via (fun tq kq => XS.aconstNull X13.here hx rfl (hb hby at_143) kq) ?_
        show Ogo p e below _ (T13.setTop (mkF m 144 #[.val (.int k1), .val (.long q1), .second, .val (.long rr), .second, .val (.int sel), .unset, .unset, .val (.ref kk), .val (.long cv), .second] [.null, (.ref kk), (.ref b), (.ref b)]))
        refine own_via (fun tq kq => XS.aconstNull X13.here hx rfl (hb hby at_144) kq) ?_
        show Ogo p e below _ (T13.setTop (mkF m 145 #[.val (.int k1), .val (.long q1), .second, .val (.long rr), .second, .val (.int sel), .unset, .unset, .val (.ref kk), .val (.long cv), .second] [.null, .null, (.ref kk), (.ref b), (.ref b)]))
        refine own_via (fun tq kq => XS.aconstNull X13.here hx rfl (hb hby at_145) kq) ?_
        show Ogo p e below _ (T13.setTop (mkF m 146 #[.val (.int k1), .val (.long q1), .second, .val (.long rr), .second, .val (.int sel), .unset, .unset, .val (.ref kk), .val (.long cv), .second] [.null, .null, .null, (.ref kk), (.ref b), (.ref b)]))
        refine own_via (fun tq kq => XS.lload X13.here hx rfl (hb hby at_146) rfl kq) ?_
        show Ogo p e below _ (T13.setTop (mkF m 148 #[.val (.int k1), .val (.long q1), .second, .val (.long rr), .second, .val (.int sel), .unset, .unset, .val (.ref kk), .val (.long cv), .second] [(.long cv), .null, .null, .null, (.ref kk), (.ref b), (.ref b)]))
        refine own_callI X13 hx hZ rfl hown (hw _ (List.mem_of_getElem? (i := 52) rfl)) (hw _ (List.mem_of_getElem? (i := 12) rfl)) (hw _ (List.mem_of_getElem? (i := 3) rfl)) (hw _ (List.mem_of_getElem? (i := 13) rfl)) (by decide) (rm_oi hw b kk cv h13 n0 E_b F_kind_b F_key_b F_patterns_b F_value_b F_condition_b g_b) rfl e13 (W := 1) (by decide) (by decide) (by decide) (by decide) (by rw [hml]; rfl) (a := b) (argsL := [(.ref kk), .null, .null, .null, (.long cv)]) (rest := [(.ref b)]) (lenOf pd_1 rfl) rfl (Nat.le_of_eq rfl) (hb hby at_148) ?_
        rintro _ T14 L14 X14 ⟨rfl, Nq, Kc, F_condition_b⟩
        have N := N.app Nq
        have E_b := E_b.keep Kc
        have zs := Nat.le_trans zs Kc.1
        have O := O.keep Kc (allS g_b all0)
        show Ogo p e below _ (T14.setTop (mkF m 151 #[.val (.int k1), .val (.long q1), .second, .val (.long rr), .second, .val (.int sel), .unset, .unset, .val (.ref kk), .val (.long cv), .second] [(.ref b)]))
        refine own_via (fun tq kq => XS.astore X14.here hx rfl (hb hby at_151) rfl rfl (l' := #[.val (.int k1), .val (.long q1), .second, .val (.long rr), .second, .val (.int sel), .val (.ref b), .unset, .val (.ref kk), .val (.long cv), .second]) rfl kq) ?_
        show Ogo p e below _ (T14.setTop (mkF m 153 #[.val (.int k1), .val (.long q1), .second, .val (.long rr), .second, .val (.int sel), .val (.ref b), .unset, .val (.ref kk), .val (.long cv), .second] []))
        refine own_via (fun tq kq => XS.lload X14.here hx rfl (hb hby at_153) rfl kq) ?_
        show Ogo p e below _ (T14.setTop (mkF m 155 #[.val (.int k1), .val (.long q1), .second, .val (.long rr), .second, .val (.int sel), .val (.ref b), .unset, .val (.ref kk), .val (.long cv), .second] [(.long cv)]))
        refine own_via (fun tq kq => XS.lconst X14.here hx rfl (hb hby at_155) kq) ?_
        show Ogo p e below _ (T14.setTop (mkF m 156 #[.val (.int k1), .val (.long q1), .second, .val (.long rr), .second, .val (.int sel), .val (.ref b), .unset, .val (.ref kk), .val (.long cv), .second] [(.long (0 : Int64)), (.long cv)]))
        refine own_via (fun tq kq => XS.lcmp X14.here hx rfl (hb hby at_156) rfl kq) ?_
        show Ogo p e below _ (T14.setTop (mkF m 157 #[.val (.int k1), .val (.long q1), .second, .val (.long rr), .second, .val (.int sel), .val (.ref b), .unset, .val (.ref kk), .val (.long cv), .second] [(.int (lcmpW cv (0 : Int64)))]))
        rcases hcv with hcv | hcv
        · refine own_via (fun tq kq => XS.ifYes X14.here hx rfl (pc0 := 157) (pc' := 164) rfl (hb hby at_157) rfl ((if0 _ _).trans (tlt (o_lt (by rw [hcv]; decide) : (lcmpW cv (0 : Int64)) < (0 : Int32))).1) (by decide) (by decide) kq) ?_
          show Ogo p e below _ (T14.setTop (mkF m 164 #[.val (.int k1), .val (.long q1), .second, .val (.long rr), .second, .val (.int sel), .val (.ref b), .unset, .val (.ref kk), .val (.long cv), .second] []))
          refine own_via (fun tq kq => XS.iconst X14.here hx rfl (hb hby at_164) kq) ?_
          show Ogo p e below _ (T14.setTop (mkF m 165 #[.val (.int k1), .val (.long q1), .second, .val (.long rr), .second, .val (.int sel), .val (.ref b), .unset, .val (.ref kk), .val (.long cv), .second] [(.int (0 : Int32))]))
          refine own_via (fun tq kq => XS.istore X14.here hx rfl (hb hby at_165) rfl (l' := #[.val (.int k1), .val (.long q1), .second, .val (.long rr), .second, .val (.int sel), .val (.ref b), .val (.int (0 : Int32)), .val (.ref kk), .val (.long cv), .second]) rfl kq) ?_
          show Ogo p e below _ (T14.setTop (mkF m 167 #[.val (.int k1), .val (.long q1), .second, .val (.long rr), .second, .val (.int sel), .val (.ref b), .val (.int (0 : Int32)), .val (.ref kk), .val (.long cv), .second] []))
          refine own_via (fun tq kq => XS.aload X14.here hx rfl (hb hby at_167) rfl rfl kq) ?_
          show Ogo p e below _ (T14.setTop (mkF m 169 #[.val (.int k1), .val (.long q1), .second, .val (.long rr), .second, .val (.int sel), .val (.ref b), .val (.int (0 : Int32)), .val (.ref kk), .val (.long cv), .second] [(.ref b)]))
          refine own_callV X14 hx hZ hown (hw _ (List.mem_of_getElem? (i := 32) rfl)) (hw _ (List.mem_of_getElem? (i := 33) rfl)) (hw _ (List.mem_of_getElem? (i := 35) rfl)) (hw _ (List.mem_of_getElem? (i := 34) rfl)) (hw _ (List.mem_of_getElem? (i := 3) rfl)) (hw _ (List.mem_of_getElem? (i := 36) rfl)) (notFace_of_selects (args := #[]) (mvT hZ (hw _ (List.mem_of_getElem? (i := 35) rfl)))) (by decide) (rm_co hw b cv (0 : Int32) T14.heap n0 F_condition_b (by rw [if_pos hcv])) rfl rfl E_b (W := 0) (by decide) (by decide) (by decide) (by decide) (by rw [hml]; rfl) (b := b) (argsL := []) (rest := []) (lenOf pd_4 rfl) rfl (Nat.le_of_eq rfl) (hb hby at_169) ?_
          rintro _ T15 L15 X15 ⟨rfl, Nq, hk⟩
          have N := N.app Nq
          have hk15 := hk
          show Ogo p e below _ (T15.setTop (mkF m 172 #[.val (.int k1), .val (.long q1), .second, .val (.long rr), .second, .val (.int sel), .val (.ref b), .val (.int (0 : Int32)), .val (.ref kk), .val (.long cv), .second] [(.int (0 : Int32))]))
          refine own_via (fun tq kq => XS.iload X15.here hx rfl (hb hby at_172) rfl kq) ?_
          show Ogo p e below _ (T15.setTop (mkF m 174 #[.val (.int k1), .val (.long q1), .second, .val (.long rr), .second, .val (.int sel), .val (.ref b), .val (.int (0 : Int32)), .val (.ref kk), .val (.long cv), .second] [(.int (0 : Int32)), (.int (0 : Int32))]))
          refine own_via (fun tq kq => XS.icmpNo X15.here hx rfl (hb hby at_174) rfl (teq (rfl : (0 : Int32) = (0 : Int32))).2 kq) ?_
          show Ogo p e below _ (T15.setTop (mkF m 177 #[.val (.int k1), .val (.long q1), .second, .val (.long rr), .second, .val (.int sel), .val (.ref b), .val (.int (0 : Int32)), .val (.ref kk), .val (.long cv), .second] []))
          refine own_via (fun tq kq => XS.iconst X15.here hx rfl (hb hby at_177) kq) ?_
          show Ogo p e below _ (T15.setTop (mkF m 178 #[.val (.int k1), .val (.long q1), .second, .val (.long rr), .second, .val (.int sel), .val (.ref b), .val (.int (0 : Int32)), .val (.ref kk), .val (.long cv), .second] [(.int (1 : Int32))]))
          refine own_via (fun tq kq => XS.goto X15.here hx rfl (pc0 := 178) (pc' := 182) rfl (hb hby at_178) (by decide) (by decide) kq) ?_
          show Ogo p e below _ (T15.setTop (mkF m 182 #[.val (.int k1), .val (.long q1), .second, .val (.long rr), .second, .val (.int sel), .val (.ref b), .val (.int (0 : Int32)), .val (.ref kk), .val (.long cv), .second] [(.int (1 : Int32))]))
          exact own_out X15 hlk (fun h => by rw [hret] at h; cases h) (by decide) (by decide) (by first | exact ⟨rfl, N⟩ | (rw [hk15]; exact ⟨rfl, N⟩)) (fun fs hr => retN X15 hx (t := .boolean) hret (by simp) (hb hby at_182) hr)
        · refine own_via (fun tq kq => XS.ifNo X14.here hx rfl (hb hby at_157) rfl ((if0 _ _).trans (flt (o_nlt hcv : ¬ ((lcmpW cv (0 : Int64)) < (0 : Int32)))).1) kq) ?_
          show Ogo p e below _ (T14.setTop (mkF m 160 #[.val (.int k1), .val (.long q1), .second, .val (.long rr), .second, .val (.int sel), .val (.ref b), .unset, .val (.ref kk), .val (.long cv), .second] []))
          refine own_via (fun tq kq => XS.iconst X14.here hx rfl (hb hby at_160) kq) ?_
          show Ogo p e below _ (T14.setTop (mkF m 161 #[.val (.int k1), .val (.long q1), .second, .val (.long rr), .second, .val (.int sel), .val (.ref b), .unset, .val (.ref kk), .val (.long cv), .second] [(.int (1 : Int32))]))
          refine own_via (fun tq kq => XS.goto X14.here hx rfl (pc0 := 161) (pc' := 165) rfl (hb hby at_161) (by decide) (by decide) kq) ?_
          show Ogo p e below _ (T14.setTop (mkF m 165 #[.val (.int k1), .val (.long q1), .second, .val (.long rr), .second, .val (.int sel), .val (.ref b), .unset, .val (.ref kk), .val (.long cv), .second] [(.int (1 : Int32))]))
          refine own_via (fun tq kq => XS.istore X14.here hx rfl (hb hby at_165) rfl (l' := #[.val (.int k1), .val (.long q1), .second, .val (.long rr), .second, .val (.int sel), .val (.ref b), .val (.int (1 : Int32)), .val (.ref kk), .val (.long cv), .second]) rfl kq) ?_
          show Ogo p e below _ (T14.setTop (mkF m 167 #[.val (.int k1), .val (.long q1), .second, .val (.long rr), .second, .val (.int sel), .val (.ref b), .val (.int (1 : Int32)), .val (.ref kk), .val (.long cv), .second] []))
          refine own_via (fun tq kq => XS.aload X14.here hx rfl (hb hby at_167) rfl rfl kq) ?_
          show Ogo p e below _ (T14.setTop (mkF m 169 #[.val (.int k1), .val (.long q1), .second, .val (.long rr), .second, .val (.int sel), .val (.ref b), .val (.int (1 : Int32)), .val (.ref kk), .val (.long cv), .second] [(.ref b)]))
          refine own_callV X14 hx hZ hown (hw _ (List.mem_of_getElem? (i := 32) rfl)) (hw _ (List.mem_of_getElem? (i := 33) rfl)) (hw _ (List.mem_of_getElem? (i := 35) rfl)) (hw _ (List.mem_of_getElem? (i := 34) rfl)) (hw _ (List.mem_of_getElem? (i := 3) rfl)) (hw _ (List.mem_of_getElem? (i := 36) rfl)) (notFace_of_selects (args := #[]) (mvT hZ (hw _ (List.mem_of_getElem? (i := 35) rfl)))) (by decide) (rm_co hw b cv (1 : Int32) T14.heap n0 F_condition_b (by rw [if_neg (fun z => by rw [z] at hcv; revert hcv; decide)])) rfl rfl E_b (W := 0) (by decide) (by decide) (by decide) (by decide) (by rw [hml]; rfl) (b := b) (argsL := []) (rest := []) (lenOf pd_4 rfl) rfl (Nat.le_of_eq rfl) (hb hby at_169) ?_
          rintro _ T16 L16 X16 ⟨rfl, Nq, hk⟩
          have N := N.app Nq
          have hk16 := hk
          show Ogo p e below _ (T16.setTop (mkF m 172 #[.val (.int k1), .val (.long q1), .second, .val (.long rr), .second, .val (.int sel), .val (.ref b), .val (.int (1 : Int32)), .val (.ref kk), .val (.long cv), .second] [(.int (1 : Int32))]))
          refine own_via (fun tq kq => XS.iload X16.here hx rfl (hb hby at_172) rfl kq) ?_
          show Ogo p e below _ (T16.setTop (mkF m 174 #[.val (.int k1), .val (.long q1), .second, .val (.long rr), .second, .val (.int sel), .val (.ref b), .val (.int (1 : Int32)), .val (.ref kk), .val (.long cv), .second] [(.int (1 : Int32)), (.int (1 : Int32))]))
          refine own_via (fun tq kq => XS.icmpNo X16.here hx rfl (hb hby at_174) rfl (teq (rfl : (1 : Int32) = (1 : Int32))).2 kq) ?_
          show Ogo p e below _ (T16.setTop (mkF m 177 #[.val (.int k1), .val (.long q1), .second, .val (.long rr), .second, .val (.int sel), .val (.ref b), .val (.int (1 : Int32)), .val (.ref kk), .val (.long cv), .second] []))
          refine own_via (fun tq kq => XS.iconst X16.here hx rfl (hb hby at_177) kq) ?_
          show Ogo p e below _ (T16.setTop (mkF m 178 #[.val (.int k1), .val (.long q1), .second, .val (.long rr), .second, .val (.int sel), .val (.ref b), .val (.int (1 : Int32)), .val (.ref kk), .val (.long cv), .second] [(.int (1 : Int32))]))
          refine own_via (fun tq kq => XS.goto X16.here hx rfl (pc0 := 178) (pc' := 182) rfl (hb hby at_178) (by decide) (by decide) kq) ?_
          show Ogo p e below _ (T16.setTop (mkF m 182 #[.val (.int k1), .val (.long q1), .second, .val (.long rr), .second, .val (.int sel), .val (.ref b), .val (.int (1 : Int32)), .val (.ref kk), .val (.long cv), .second] [(.int (1 : Int32))]))
          exact own_out X16 hlk (fun h => by rw [hret] at h; cases h) (by decide) (by decide) (by first | exact ⟨rfl, N⟩ | (rw [hk16]; exact ⟨rfl, N⟩)) (fun fs hr => retN X16 hx (t := .boolean) hret (by simp) (hb hby at_182) hr)
set_option maxRecDepth 65536 in
set_option maxHeartbeats 40000000 in
theorem own_comes {Post : Tables → Env → Array Value → State → Outcome → State → Prop} (hpost : ∀ tb e args s v u, (limb_1_1.after args s (.returned v) u = true ∧ limb_1_2.after args s (.returned v) u = true ∧ True) → FrameEnd s (.returned v) u (Jvm.fieldLocs frame_1_writes args s ++ Jvm.arrayLocs frame_1_arrays args s ++ Jvm.staticLocs frame_1_statics s) 16 128 → Post tb e args s (.returned v) u) :
    ArmFor flags0 classFile x code maxLocals ret World_1 tables_1 room_1 Calls_1 rest_1 Pre_1 Post := by
  intro l hfl _ _ p e ha hc hk s m args below hf hA hF happ hP
  obtain ⟨hcalls, hrest, hpre⟩ := hP
  obtain ⟨-, -, -, hnamed, -, -, -, hat⟩ := (Spec.applies_iff hf).mp happ
  obtain ⟨hg, hn⟩ := and_e (Cond.before_iff.mp (show (Jvm.Cond.and given_1 narrow_1).before args s = true from hpre))
  obtain ⟨q0, r0⟩ := and_e hg
  obtain ⟨q1, r1⟩ := and_e r0
  obtain ⟨w0, w1, rfl⟩ : ∃ w0 w1 : Value, args = #[w0, w1] := by
    have hs : args.size = 2 := by simpa [Cond.value, given_1] using q0
    obtain ⟨L⟩ := args
    match L, hs with
    | [w0, w1], _ => exact ⟨w0, w1, rfl⟩
  have hw := fun d (hd : d ∈ tables_1) => atoms_spec (ws := Jvm.Cond.code x code maxLocals ret :: tables_1) hat d (List.mem_cons_of_mem _ hd)
  have hfit : Fit s := fun {y c} hc i hi => by
    obtain ⟨ha, rfl⟩ := Array.getElem?_eq_some_iff.mp hc
    have q := List.all_eq_true.mp ((Array.all_eq_true_iff_forall_mem.mp hF) _ (Array.getElem_mem ha)) i (List.mem_range.mpr hi)
    simpa [Array.getElem?_eq_getElem hi] using q
  obtain ⟨i0, ei0⟩ := is_v q1
  obtain rfl : w0 = (.int i0) := Option.some.inj ei0
  obtain ⟨i1, ei1⟩ := isL_v r1
  obtain rfl : w1 = (.long i1) := Option.some.inj ei1
  obtain ⟨n0, m0⟩ := and_e hn
  obtain ⟨kd, ev0⟩ := exa_v n0
  have S_kd := Sta.start ev0 (Or.inr ⟨(hw _ (List.mem_of_getElem? (i := 8) rfl)), (hw _ (List.mem_of_getElem? (i := 9) rfl))⟩)
  obtain ⟨n1, m1⟩ := and_e m0
  obtain ⟨kg, ev1⟩ := exa_v n1
  have S_kg := Sta.start ev1 (Or.inr ⟨(hw _ (List.mem_of_getElem? (i := 8) rfl)), (hw _ (List.mem_of_getElem? (i := 47) rfl))⟩)
  obtain ⟨n2, m2⟩ := and_e m1
  obtain ⟨ks, ev2⟩ := exa_v n2
  have S_ks := Sta.start ev2 (Or.inr ⟨(hw _ (List.mem_of_getElem? (i := 8) rfl)), (hw _ (List.mem_of_getElem? (i := 49) rfl))⟩)
  obtain ⟨km, ev3⟩ := exa_v m2
  have S_km := Sta.start ev3 (Or.inr ⟨(hw _ (List.mem_of_getElem? (i := 8) rfl)), (hw _ (List.mem_of_getElem? (i := 54) rfl))⟩)
  obtain ⟨n, o, h1, h2, h3, _, L, rfl, ⟨rfl, N⟩, hq⟩ := rm_law hw i0 i1 kd kg ks km s.heap s.heap.size (Nat.le_refl _) S_kd S_kg S_ks S_km (Old.start s) p e ha hc hk s m _ below hf ((Spec.applies_iff_loose hf).mp happ).1 ⟨rfl, State.Warmed39.refl s, rfl⟩ trivial
  refine ⟨n, _, h1, h2, h3, hpost _ _ _ _ _ _ ⟨Cond.after_iff.mpr rfl, Cond.after_iff.mpr (eq_i res_at (Term.int_eval (1)) rfl), trivial⟩ ⟨hq.1, hq.2.1, (hq.2.2.sift fun y hy => Or.inr (N y hy)).mono (by decide) (by decide)⟩⟩
theorem main_1_1 : Claimed_1_1 := own_comes fun _ _ _ _ _ _ h hF => ⟨h.1, hF⟩
theorem main_1_2 : Claimed_1_2 := own_comes fun _ _ _ _ _ _ h hF => ⟨h.2.1, hF⟩
end Jvm.Pilot.@@N@@
namespace Jvm.Pilot.@@N@@
open Jvm Jvm.ClassFile Sem Op Lib Jvm.Free Jvm.Stand Jvm.Pilot.@@N@@.Jvm.D
/-! MADE BY PROGRAM (witnessworld.py) out of the Statement's table words and the real class files: 14 classes; the members and pool entries that the words name. The judged class is class 1, her method 1. -/
namespace start1
open Jvm.ClassFile
def u (s : String) : CpInfo := .utf8 (stringToUtf16 s)
/-- a pool by its gaps: so many unusable entries, then the entry; so many at the end -/
def gap : Nat → List CpInfo → List CpInfo
  | 0, r => r
  | n + 1, r => .unusable :: gap n r
def poolList (es : List (Nat × CpInfo)) (last : Nat) : List CpInfo := es.foldr (fun e r => gap e.1 (e.2 :: r)) (gap last [])
def pool (es : List (Nat × CpInfo)) (last : Nat) : Array CpInfo := ⟨poolList es last⟩
def fileOf (pool : Array CpInfo) (this : Nat) (attrs : Array Attribute := #[]) (ms : Array MethodInfo := #[]) (fl : Nat := 33) (sup : Nat := 0) (ifs : Array Nat := #[]) (fds : Array FieldInfo := #[]) : ClassFile where
  minorVersion := 0
  majorVersion := 65
  constantPool := pool
  accessFlags := fl
  thisClass := this
  superClass := sup
  interfaces := ifs
  fields := fds
  methods := ms
  attributes := attrs
def plain (name : String) (sup : Option ClassId) : Class where
  name := name
  kind := .ordinary
  loader := none
  accessFlags := 33
  super := sup
  interfaces := #[]
  cf := none
  fields := #[]
  methods := #[]
  instanceTypes := #[]
  staticTypes := #[]
  resolved := #[]
  callSites := []
  init := .initialized
  statics := none
  mirror := none

def pool0 : Array CpInfo := pool [(5, u "<init>"), (0, u "()V"), (1, .class_ 10), (1, u "java/lang/Object")] 113

def k0c0 : Code := { maxStack := 0, maxLocals := 1, code := object_method_1_code, exceptionTable := #[], attributes := #[] }
def k0m0 : Method := { name := "<init>", desc := "()V", sig := { parameters := [], returnType := none }, accessFlags := 1, code := some k0c0 }
/-- java/lang/Object -/
def k0 : Class := { plain "java/lang/Object" none with
  accessFlags := 33
  interfaces := #[]
  cf := some (fileOf pool0 8 #[] #[{ accessFlags := 1, nameIndex := 5, descriptorIndex := 6, attributes := #[] }] 33 0 #[] #[])
  fields := #[]
  methods := #[k0m0]
  instanceTypes := #[]
  staticTypes := #[]
  resolved := Array.replicate 124 none
  statics := none }

def pool1 : Array CpInfo := pool [(2, .class_ 4), (1, u "java/lang/Object"), (0, u "<init>"), (0, u "()V"), (2, .long 9223372036854775807), (1, .methodref 12 13), (0, .class_ 14), (0, .nameAndType 15 16), (0, u "com/example/keep_posted/keepposted/service/Operation"), (0, u "delete"), (0, u "(Lcom/example/keep_posted/keepposted/model/Key;)Lcom/example/keep_posted/keepposted/service/Operation;"), (0, .methodref 12 18), (0, .nameAndType 19 20), (0, u "deleteIf"), (0, u "(Lcom/example/keep_posted/keepposted/model/Key;J)Lcom/example/keep_posted/keepposted/service/Operation;"), (0, .methodref 12 22), (0, .nameAndType 23 16), (0, u "get"), (0, .fieldref 25 26), (0, .class_ 27), (0, .nameAndType 28 29), (0, u "com/example/keep_posted/keepposted/service/Operation$Kind"), (0, u "SET"), (0, u "Lcom/example/keep_posted/keepposted/service/Operation$Kind;"), (0, .fieldref 25 31), (0, .nameAndType 32 29), (0, u "DELETE"), (0, .fieldref 25 34), (0, .nameAndType 35 29), (0, u "DELETE_MATCHING"), (0, .fieldref 25 37), (0, .nameAndType 38 29), (0, u "GET"), (0, .long 18446744073709551615), (1, .methodref 12 42), (0, .nameAndType 5 43), (0, u "(Lcom/example/keep_posted/keepposted/service/Operation$Kind;Lcom/example/keep_posted/keepposted/model/Key;Ljava/util/List;[BJ)V"), (0, .methodref 12 45), (0, .nameAndType 46 47), (0, u "conditional"), (0, u "()Z"), (0, .class_ 49), (0, u "com/example/keep_posted/keepposted/service/OperationConditionalPinLaw"), (2, u "law"), (0, u "(IJ)Z")] 5

def k1m0 : Method := { name := "<init>", desc := "()V", sig := { parameters := [], returnType := none }, accessFlags := 1, code := none }
def k1c1 : Code := { maxStack := 8, maxLocals := 11, code := code, exceptionTable := #[], attributes := #[] }
def k1m1 : Method := { name := "law", desc := "(IJ)Z", sig := { parameters := [.int, .long], returnType := some .boolean }, accessFlags := 9, code := some k1c1 }
/-- com/example/keep_posted/keepposted/service/OperationConditionalPinLaw -/
def k1 : Class := { plain "com/example/keep_posted/keepposted/service/OperationConditionalPinLaw" (some 0) with
  accessFlags := 49
  interfaces := #[]
  cf := some (fileOf pool1 48 #[] #[{ accessFlags := 1, nameIndex := 5, descriptorIndex := 6, attributes := #[] }, { accessFlags := 9, nameIndex := 52, descriptorIndex := 53, attributes := #[] }] 49 2 #[] #[])
  fields := #[]
  methods := #[k1m0, k1m1]
  instanceTypes := #[]
  staticTypes := #[]
  resolved := Array.replicate 59 none
  statics := none }

def pool2 : Array CpInfo := pool [(1, .methodref 2 3), (0, .class_ 4), (0, .nameAndType 5 6), (0, u "java/lang/Object"), (0, u "<init>"), (0, u "()V"), (0, .class_ 8), (0, u "java/lang/Record")] 13

def k2c0 : Code := { maxStack := 1, maxLocals := 1, code := jdk_30_method_1_code, exceptionTable := #[], attributes := #[] }
def k2m0 : Method := { name := "<init>", desc := "()V", sig := { parameters := [], returnType := none }, accessFlags := 4, code := some k2c0 }
/-- java/lang/Record -/
def k2 : Class := { plain "java/lang/Record" (some 0) with
  accessFlags := 1057
  interfaces := #[]
  cf := some (fileOf pool2 7 #[] #[{ accessFlags := 4, nameIndex := 5, descriptorIndex := 6, attributes := #[] }] 1057 2 #[] #[])
  fields := #[]
  methods := #[k2m0]
  instanceTypes := #[]
  staticTypes := #[]
  resolved := Array.replicate 22 none
  statics := none }

def pool3 : Array CpInfo := pool [(1, .methodref 2 3), (0, .class_ 4), (0, .nameAndType 5 6), (0, u "java/lang/Record"), (0, u "<init>"), (0, u "()V"), (0, .fieldref 8 9), (0, .class_ 10), (0, .nameAndType 11 12), (0, u "com/example/keep_posted/keepposted/service/Operation"), (0, u "kind"), (0, u "Lcom/example/keep_posted/keepposted/service/Operation$Kind;"), (0, .fieldref 8 14), (0, .nameAndType 15 16), (0, u "key"), (0, u "Lcom/example/keep_posted/keepposted/model/Key;"), (0, .fieldref 8 18), (0, .nameAndType 19 20), (0, u "patterns"), (0, u "Ljava/util/List;"), (0, .fieldref 8 22), (0, .nameAndType 23 24), (0, u "value"), (0, u "[B"), (0, .fieldref 8 26), (0, .nameAndType 27 28), (0, u "condition"), (0, u "J"), (5, .class_ 36), (1, u "com/example/keep_posted/keepposted/service/Operation$Kind"), (1, .long 18446744073709551615), (1, .methodref 8 41), (0, .nameAndType 5 42), (0, u "(Lcom/example/keep_posted/keepposted/service/Operation$Kind;Lcom/example/keep_posted/keepposted/model/Key;Ljava/util/List;[BJ)V"), (0, .methodref 8 44), (0, .nameAndType 45 46), (0, u "checkedCondition"), (0, u "(J)J"), (0, .fieldref 34 48), (0, .nameAndType 49 12), (0, u "DELETE"), (9, .fieldref 34 60), (0, .nameAndType 61 12), (0, u "GET"), (44, u "MOST_PAIR_BYTES"), (0, u "I"), (2, u "UNCONDITIONAL"), (8, u "delete"), (0, u "(Lcom/example/keep_posted/keepposted/model/Key;)Lcom/example/keep_posted/keepposted/service/Operation;"), (0, u "deleteIf"), (0, u "(Lcom/example/keep_posted/keepposted/model/Key;J)Lcom/example/keep_posted/keepposted/service/Operation;"), (2, u "get"), (0, u "conditional"), (0, u "()Z")] 44

def k3c0 : Code := { maxStack := 3, maxLocals := 7, code := prog_43_method_1_code, exceptionTable := #[], attributes := #[] }
def k3m0 : Method := { name := "<init>", desc := "(Lcom/example/keep_posted/keepposted/service/Operation$Kind;Lcom/example/keep_posted/keepposted/model/Key;Ljava/util/List;[BJ)V", sig := { parameters := [(.object "com/example/keep_posted/keepposted/service/Operation$Kind"), (.object "com/example/keep_posted/keepposted/model/Key"), (.object "java/util/List"), (.array .byte), .long], returnType := none }, accessFlags := 1, code := some k3c0 }
def k3c1 : Code := { maxStack := 8, maxLocals := 1, code := prog_43_method_4_code, exceptionTable := #[], attributes := #[] }
def k3m1 : Method := { name := "delete", desc := "(Lcom/example/keep_posted/keepposted/model/Key;)Lcom/example/keep_posted/keepposted/service/Operation;", sig := { parameters := [(.object "com/example/keep_posted/keepposted/model/Key")], returnType := some (.object "com/example/keep_posted/keepposted/service/Operation") }, accessFlags := 9, code := some k3c1 }
def k3c2 : Code := { maxStack := 8, maxLocals := 3, code := prog_43_method_5_code, exceptionTable := #[], attributes := #[] }
def k3m2 : Method := { name := "deleteIf", desc := "(Lcom/example/keep_posted/keepposted/model/Key;J)Lcom/example/keep_posted/keepposted/service/Operation;", sig := { parameters := [(.object "com/example/keep_posted/keepposted/model/Key"), .long], returnType := some (.object "com/example/keep_posted/keepposted/service/Operation") }, accessFlags := 9, code := some k3c2 }
def k3c3 : Code := { maxStack := 8, maxLocals := 1, code := prog_43_method_7_code, exceptionTable := #[], attributes := #[] }
def k3m3 : Method := { name := "get", desc := "(Lcom/example/keep_posted/keepposted/model/Key;)Lcom/example/keep_posted/keepposted/service/Operation;", sig := { parameters := [(.object "com/example/keep_posted/keepposted/model/Key")], returnType := some (.object "com/example/keep_posted/keepposted/service/Operation") }, accessFlags := 9, code := some k3c3 }
def k3c4 : Code := { maxStack := 4, maxLocals := 1, code := prog_43_method_8_code, exceptionTable := #[], attributes := #[] }
def k3m4 : Method := { name := "conditional", desc := "()Z", sig := { parameters := [], returnType := some .boolean }, accessFlags := 1, code := some k3c4 }
def k3c5 : Code := { maxStack := 4, maxLocals := 2, code := prog_43_method_11_code, exceptionTable := #[], attributes := #[] }
def k3m5 : Method := { name := "checkedCondition", desc := "(J)J", sig := { parameters := [.long], returnType := some .long }, accessFlags := 10, code := some k3c5 }
/-- com/example/keep_posted/keepposted/service/Operation -/
def k3 : Class := { plain "com/example/keep_posted/keepposted/service/Operation" (some 2) with
  accessFlags := 49
  interfaces := #[]
  cf := some (fileOf pool3 8 #[.nestMembers #[34]] #[{ accessFlags := 1, nameIndex := 5, descriptorIndex := 42, attributes := #[] }, { accessFlags := 9, nameIndex := 119, descriptorIndex := 120, attributes := #[] }, { accessFlags := 9, nameIndex := 121, descriptorIndex := 122, attributes := #[] }, { accessFlags := 9, nameIndex := 125, descriptorIndex := 120, attributes := #[] }, { accessFlags := 1, nameIndex := 126, descriptorIndex := 127, attributes := #[] }, { accessFlags := 10, nameIndex := 45, descriptorIndex := 46, attributes := #[] }] 49 2 #[] #[{ accessFlags := 18, nameIndex := 11, descriptorIndex := 12, attributes := #[] }, { accessFlags := 18, nameIndex := 15, descriptorIndex := 16, attributes := #[] }, { accessFlags := 18, nameIndex := 19, descriptorIndex := 20, attributes := #[] }, { accessFlags := 18, nameIndex := 23, descriptorIndex := 24, attributes := #[] }, { accessFlags := 18, nameIndex := 27, descriptorIndex := 28, attributes := #[] }, { accessFlags := 25, nameIndex := 106, descriptorIndex := 107, attributes := #[] }, { accessFlags := 25, nameIndex := 110, descriptorIndex := 28, attributes := #[] }])
  fields := #[{ name := "kind", type := (.object "com/example/keep_posted/keepposted/service/Operation$Kind"), accessFlags := 18, slot := 0, constantValue := 0 }, { name := "key", type := (.object "com/example/keep_posted/keepposted/model/Key"), accessFlags := 18, slot := 1, constantValue := 0 }, { name := "patterns", type := (.object "java/util/List"), accessFlags := 18, slot := 2, constantValue := 0 }, { name := "value", type := (.array .byte), accessFlags := 18, slot := 3, constantValue := 0 }, { name := "condition", type := .long, accessFlags := 18, slot := 4, constantValue := 0 }, { name := "MOST_PAIR_BYTES", type := .int, accessFlags := 25, slot := 0, constantValue := 0 }, { name := "UNCONDITIONAL", type := .long, accessFlags := 25, slot := 1, constantValue := 0 }]
  methods := #[k3m0, k3m1, k3m2, k3m3, k3m4, k3m5]
  instanceTypes := #[(.object "com/example/keep_posted/keepposted/service/Operation$Kind"), (.object "com/example/keep_posted/keepposted/model/Key"), (.object "java/util/List"), (.array .byte), .long]
  staticTypes := #[.int, .long]
  resolved := Array.replicate 172 none
  statics := none }

def pool4 : Array CpInfo := pool [(1, .class_ 2), (0, u "java/lang/constant/Constable"), (0, .class_ 4), (0, u "java/lang/Object")] 6

/-- java/lang/constant/Constable -/
def k4 : Class := { plain "java/lang/constant/Constable" (some 0) with
  accessFlags := 1537
  interfaces := #[]
  cf := some (fileOf pool4 1 #[] #[] 1537 3 #[] #[])
  fields := #[]
  methods := #[]
  instanceTypes := #[]
  staticTypes := #[]
  resolved := Array.replicate 11 none
  statics := none }

def pool5 : Array CpInfo := pool [(1, .class_ 2), (0, u "java/lang/Comparable"), (0, .class_ 4), (0, u "java/lang/Object")] 7

/-- java/lang/Comparable -/
def k5 : Class := { plain "java/lang/Comparable" (some 0) with
  accessFlags := 1537
  interfaces := #[]
  cf := some (fileOf pool5 1 #[] #[] 1537 3 #[] #[])
  fields := #[]
  methods := #[]
  instanceTypes := #[]
  staticTypes := #[]
  resolved := Array.replicate 12 none
  statics := none }

def pool6 : Array CpInfo := pool [(1, .class_ 2), (0, u "java/io/Serializable"), (0, .class_ 4), (0, u "java/lang/Object")] 2

/-- java/io/Serializable -/
def k6 : Class := { plain "java/io/Serializable" (some 0) with
  accessFlags := 1537
  interfaces := #[]
  cf := some (fileOf pool6 1 #[] #[] 1537 3 #[] #[])
  fields := #[]
  methods := #[]
  instanceTypes := #[]
  staticTypes := #[]
  resolved := Array.replicate 7 none
  statics := none }

def pool7 : Array CpInfo := pool [(2, .class_ 4), (1, u "java/lang/Enum"), (0, u "name"), (0, u "Ljava/lang/String;"), (2, u "ordinal"), (0, u "I"), (1, .class_ 14), (1, u "java/lang/Object"), (4, u "hash"), (86, .class_ 108), (1, u "java/lang/Enum$EnumDesc"), (2, .class_ 112), (0, u "java/lang/constant/Constable"), (0, .class_ 114), (0, u "java/lang/Comparable"), (0, .class_ 116), (0, u "java/io/Serializable")] 87

/-- java/lang/Enum -/
def k7 : Class := { plain "java/lang/Enum" (some 0) with
  accessFlags := 1057
  interfaces := #[4, 5, 6]
  cf := some (fileOf pool7 2 #[.nestMembers #[106]] #[] 1057 12 #[111, 113, 115] #[{ accessFlags := 18, nameIndex := 5, descriptorIndex := 6, attributes := #[] }, { accessFlags := 18, nameIndex := 9, descriptorIndex := 10, attributes := #[] }, { accessFlags := 2, nameIndex := 19, descriptorIndex := 10, attributes := #[] }])
  fields := #[{ name := "name", type := (.object "java/lang/String"), accessFlags := 18, slot := 0, constantValue := 0 }, { name := "ordinal", type := .int, accessFlags := 18, slot := 1, constantValue := 0 }, { name := "hash", type := .int, accessFlags := 2, slot := 2, constantValue := 0 }]
  methods := #[]
  instanceTypes := #[(.object "java/lang/String"), .int, .int]
  staticTypes := #[]
  resolved := Array.replicate 204 none
  statics := none }

def pool8 : Array CpInfo := pool [(1, .class_ 2), (0, u "com/example/keep_posted/keepposted/service/Operation$Kind"), (2, u "SET"), (0, u "Lcom/example/keep_posted/keepposted/service/Operation$Kind;"), (2, u "DELETE"), (2, u "DELETE_MATCHING"), (2, u "GET"), (2, u "$VALUES"), (0, u "[Lcom/example/keep_posted/keepposted/service/Operation$Kind;"), (6, .class_ 28), (1, u "java/lang/Enum"), (27, .class_ 57), (0, u "com/example/keep_posted/keepposted/service/Operation")] 2

/-- com/example/keep_posted/keepposted/service/Operation$Kind -/
def k8 : Class := { plain "com/example/keep_posted/keepposted/service/Operation$Kind" (some 7) with
  accessFlags := 16433
  interfaces := #[]
  cf := some (fileOf pool8 1 #[.nestHost 56] #[] 16433 26 #[] #[{ accessFlags := 16409, nameIndex := 5, descriptorIndex := 6, attributes := #[] }, { accessFlags := 16409, nameIndex := 9, descriptorIndex := 6, attributes := #[] }, { accessFlags := 16409, nameIndex := 12, descriptorIndex := 6, attributes := #[] }, { accessFlags := 16409, nameIndex := 15, descriptorIndex := 6, attributes := #[] }, { accessFlags := 4122, nameIndex := 18, descriptorIndex := 19, attributes := #[] }])
  fields := #[{ name := "SET", type := (.object "com/example/keep_posted/keepposted/service/Operation$Kind"), accessFlags := 16409, slot := 0, constantValue := 0 }, { name := "DELETE", type := (.object "com/example/keep_posted/keepposted/service/Operation$Kind"), accessFlags := 16409, slot := 1, constantValue := 0 }, { name := "DELETE_MATCHING", type := (.object "com/example/keep_posted/keepposted/service/Operation$Kind"), accessFlags := 16409, slot := 2, constantValue := 0 }, { name := "GET", type := (.object "com/example/keep_posted/keepposted/service/Operation$Kind"), accessFlags := 16409, slot := 3, constantValue := 0 }, { name := "$VALUES", type := (.array (.object "com/example/keep_posted/keepposted/service/Operation$Kind")), accessFlags := 4122, slot := 4, constantValue := 0 }]
  methods := #[]
  instanceTypes := #[(.object "java/lang/String"), .int, .int]
  staticTypes := #[(.object "com/example/keep_posted/keepposted/service/Operation$Kind"), (.object "com/example/keep_posted/keepposted/service/Operation$Kind"), (.object "com/example/keep_posted/keepposted/service/Operation$Kind"), (.object "com/example/keep_posted/keepposted/service/Operation$Kind"), (.array (.object "com/example/keep_posted/keepposted/service/Operation$Kind"))]
  resolved := Array.replicate 60 none
  statics := some 0 }

def pool9 : Array CpInfo := pool [(1, u "java/lang/Cloneable"), (0, .class_ 1), (0, u "java/lang/Object"), (0, .class_ 3)] 3

/-- java/lang/Cloneable -/
def k9 : Class := { plain "java/lang/Cloneable" (some 0) with
  accessFlags := 1537
  interfaces := #[]
  cf := some (fileOf pool9 2 #[] #[] 1537 4 #[] #[])
  fields := #[]
  methods := #[]
  instanceTypes := #[]
  staticTypes := #[]
  resolved := Array.replicate 8 none
  statics := none }

/-- the primitive byte -/
def k10 : Class := { plain "byte" none with kind := .primitive 'B', accessFlags := 0x411 }
/-- [B -/
def k11 : Class := { plain "[B" (some 0) with kind := .array 10 .byte, interfaces := #[9, 6], accessFlags := 1041 }

/-- the primitive int -/
def k12 : Class := { plain "int" none with kind := .primitive 'I', accessFlags := 0x411 }
/-- [I -/
def k13 : Class := { plain "[I" (some 0) with kind := .array 12 .int, interfaces := #[9, 6], accessFlags := 1041 }

def heap : Heap := #[{ cls := 8, slots := #[.ref 1, .ref 2, .ref 3, .ref 4, .null], vm := .statics 8 },
  { cls := 8, slots := #[.null, .int 0, .int 0], vm := .none },
  { cls := 8, slots := #[.null, .int 1, .int 0], vm := .none },
  { cls := 8, slots := #[.null, .int 2, .int 0], vm := .none },
  { cls := 8, slots := #[.null, .int 3, .int 0], vm := .none }]
def classes : Array Class := #[k0, k1, k2, k3, k4, k5, k6, k7, k8, k9, k10, k11, k12, k13]
def interned : List (Array UInt16 × Addr) := []
def slotsUsed : Nat := 17
def theMethod : MethodId := ⟨1, 1⟩
def args0 : Array Value := #[.int 3, .long 5]
def aboutOver (below : List Frame) : State where
  vm := { classes := classes, interned := interned.toArray }
  heap := heap
  slotsUsed := slotsUsed
  threads := #[{ frames := .invoking theMethod args0 :: below }]
def below0 : List Frame := [.native { method := ⟨0, 0⟩, args := #[] }]
def about1 : State := aboutOver below0
def p0 : Program := .bare "" "" ""
def e0 : Env := launch0.env 0 0 0
theorem w_frames : about1.frames = Frame.invoking theMethod args0 :: below0 := rfl
set_option maxRecDepth 65536 in
theorem w_args : argsFit about1.vm theMethod args0 = true := by decide +kernel
set_option maxRecDepth 65536 in
theorem w_heap : heapFits about1 = true := by decide +kernel
set_option maxRecDepth 65536 in
theorem w_runnable : about1.curStatus? = some .runnable := by decide +kernel
set_option maxRecDepth 65536 in
theorem w_alone : about1.alone = true := by decide +kernel
set_option maxRecDepth 65536 in
theorem w_named : about1.methodNamed? x = some theMethod := by decide +kernel
set_option maxRecDepth 65536 in
theorem w_hears : about1.hears theMethod below0 = true := by decide +kernel
set_option maxRecDepth 65536 in
theorem w_ripe : about1.ripe theMethod args0 below0 = true := by decide +kernel
theorem w_running : about1.status = .running := rfl
set_option maxRecDepth 65536 in
theorem w_room : about1.hasRoom e0.platform room_1 = true :=
  launch0.hasRoom_least _ room_1 (by decide +kernel) (by decide +kernel) (by decide +kernel) (by decide +kernel) (by decide +kernel) (by decide +kernel)
theorem allAtoms_all (ts : List Jvm.Cond) (a : Array Jvm.Value) (st : Jvm.State) : (allAtoms ts).before a st = ts.all (fun c => c.before a st) := by
  induction ts with
  | nil => rfl
  | cons c t ih =>
    show (Jvm.Cond.and c (allAtoms t)).before a st = _
    rw [Jvm.Cond.before_and, ih, List.all_cons]
def words1 : List Jvm.Cond := Jvm.Cond.code x code maxLocals ret :: tables_1
/-- a 'code' word, met by the world's own term for the bytes: nothing is compared byte by byte -/
theorem code_word {y : MethodName} {bytes : ByteArray} {mx : Nat} {rt : Option FieldType} {a : Array Value} {s : State} {m : MethodId} {meth : Method} {c : Code} (h1 : s.methodNamed? y = some m) (h2 : s.vm.method? m = some meth) (h3 : meth.code = some c) (h4 : c.code = bytes)
    (h5 : (c.maxLocals == mx && c.exceptionTable.isEmpty && decide (c.maxStack ≤ mostOperands) && decide (meth.sig.returnType = rt) && !meth.locks && decide (parseMethodDescriptor y.desc = some meth.sig)) = true) : (Jvm.Cond.code y bytes mx rt).before a s = true := by
  simp only [Bool.and_eq_true, beq_iff_eq, Bool.not_eq_true', decide_eq_true_eq] at h5
  obtain ⟨⟨⟨⟨⟨g1, g2⟩, g3⟩, g4⟩, g5⟩, g6⟩ := h5
  simp [Cond.before, Cond.holds, Cond.value, h1, h2, h3, h4, g1, g2, g3, g4, g5, g6]
def isCode : Jvm.Cond → Bool
  | .code _ _ _ _ => true
  | _ => false
theorem all_split {L : List Jvm.Cond} {P : Jvm.Cond → Bool} (h1 : L.all (fun c => isCode c || P c) = true) (h2 : ∀ c ∈ L.filter isCode, P c = true) : L.all P = true := by
  refine List.all_eq_true.mpr fun c hc => ?_
  have h := List.all_eq_true.mp h1 c hc
  rcases Bool.eq_false_or_eq_true (isCode c) with hi | hi
  · exact h2 c (List.mem_filter.mpr ⟨hc, hi⟩)
  · simpa [hi] using h
set_option maxRecDepth 65536 in
theorem w_c0 : (Jvm.Cond.code x code maxLocals ret).before args0 about1 = true := code_word (m := ⟨1, 1⟩) (meth := k1m1) (c := k1c1) (by decide +kernel) rfl rfl rfl (by decide +kernel)
set_option maxRecDepth 65536 in
theorem w_c1 : (Jvm.Cond.code ({ cls := "com/example/keep_posted/keepposted/service/Operation", name := "delete", desc := "(Lcom/example/keep_posted/keepposted/model/Key;)Lcom/example/keep_posted/keepposted/service/Operation;" } : Jvm.MethodName) prog_43_method_4_code (1 : Nat) (Option.some (Jvm.ClassFile.FieldType.object "com/example/keep_posted/keepposted/service/Operation"))).before args0 about1 = true := code_word (m := ⟨3, 1⟩) (meth := k3m1) (c := k3c1) (by decide +kernel) rfl rfl rfl (by decide +kernel)
set_option maxRecDepth 65536 in
theorem w_c2 : (Jvm.Cond.code ({ cls := "com/example/keep_posted/keepposted/service/Operation", name := "<init>", desc := "(Lcom/example/keep_posted/keepposted/service/Operation$Kind;Lcom/example/keep_posted/keepposted/model/Key;Ljava/util/List;[BJ)V" } : Jvm.MethodName) prog_43_method_1_code (7 : Nat) (Option.none : Option Jvm.ClassFile.FieldType)).before args0 about1 = true := code_word (m := ⟨3, 0⟩) (meth := k3m0) (c := k3c0) (by decide +kernel) rfl rfl rfl (by decide +kernel)
set_option maxRecDepth 65536 in
theorem w_c3 : (Jvm.Cond.code ({ cls := "java/lang/Record", name := "<init>", desc := "()V" } : Jvm.MethodName) jdk_30_method_1_code (1 : Nat) (Option.none : Option Jvm.ClassFile.FieldType)).before args0 about1 = true := code_word (m := ⟨2, 0⟩) (meth := k2m0) (c := k2c0) (by decide +kernel) rfl rfl rfl (by decide +kernel)
set_option maxRecDepth 65536 in
theorem w_c4 : (Jvm.Cond.code ({ cls := "java/lang/Object", name := "<init>", desc := "()V" } : Jvm.MethodName) object_method_1_code (1 : Nat) (Option.none : Option Jvm.ClassFile.FieldType)).before args0 about1 = true := code_word (m := ⟨0, 0⟩) (meth := k0m0) (c := k0c0) (by decide +kernel) rfl rfl rfl (by decide +kernel)
set_option maxRecDepth 65536 in
theorem w_c5 : (Jvm.Cond.code ({ cls := "com/example/keep_posted/keepposted/service/Operation", name := "conditional", desc := "()Z" } : Jvm.MethodName) prog_43_method_8_code (1 : Nat) (Option.some Jvm.ClassFile.FieldType.boolean)).before args0 about1 = true := code_word (m := ⟨3, 4⟩) (meth := k3m4) (c := k3c4) (by decide +kernel) rfl rfl rfl (by decide +kernel)
set_option maxRecDepth 65536 in
theorem w_c6 : (Jvm.Cond.code ({ cls := "com/example/keep_posted/keepposted/service/Operation", name := "deleteIf", desc := "(Lcom/example/keep_posted/keepposted/model/Key;J)Lcom/example/keep_posted/keepposted/service/Operation;" } : Jvm.MethodName) prog_43_method_5_code (3 : Nat) (Option.some (Jvm.ClassFile.FieldType.object "com/example/keep_posted/keepposted/service/Operation"))).before args0 about1 = true := code_word (m := ⟨3, 2⟩) (meth := k3m2) (c := k3c2) (by decide +kernel) rfl rfl rfl (by decide +kernel)
set_option maxRecDepth 65536 in
theorem w_c7 : (Jvm.Cond.code ({ cls := "com/example/keep_posted/keepposted/service/Operation", name := "checkedCondition", desc := "(J)J" } : Jvm.MethodName) prog_43_method_11_code (2 : Nat) (Option.some Jvm.ClassFile.FieldType.long)).before args0 about1 = true := code_word (m := ⟨3, 5⟩) (meth := k3m5) (c := k3c5) (by decide +kernel) rfl rfl rfl (by decide +kernel)
set_option maxRecDepth 65536 in
theorem w_c8 : (Jvm.Cond.code ({ cls := "com/example/keep_posted/keepposted/service/Operation", name := "get", desc := "(Lcom/example/keep_posted/keepposted/model/Key;)Lcom/example/keep_posted/keepposted/service/Operation;" } : Jvm.MethodName) prog_43_method_7_code (1 : Nat) (Option.some (Jvm.ClassFile.FieldType.object "com/example/keep_posted/keepposted/service/Operation"))).before args0 about1 = true := code_word (m := ⟨3, 3⟩) (meth := k3m3) (c := k3c3) (by decide +kernel) rfl rfl rfl (by decide +kernel)
def codes1 : List Jvm.Cond := [Jvm.Cond.code x code maxLocals ret, Jvm.Cond.code ({ cls := "com/example/keep_posted/keepposted/service/Operation", name := "delete", desc := "(Lcom/example/keep_posted/keepposted/model/Key;)Lcom/example/keep_posted/keepposted/service/Operation;" } : Jvm.MethodName) prog_43_method_4_code (1 : Nat) (Option.some (Jvm.ClassFile.FieldType.object "com/example/keep_posted/keepposted/service/Operation")), Jvm.Cond.code ({ cls := "com/example/keep_posted/keepposted/service/Operation", name := "<init>", desc := "(Lcom/example/keep_posted/keepposted/service/Operation$Kind;Lcom/example/keep_posted/keepposted/model/Key;Ljava/util/List;[BJ)V" } : Jvm.MethodName) prog_43_method_1_code (7 : Nat) (Option.none : Option Jvm.ClassFile.FieldType), Jvm.Cond.code ({ cls := "java/lang/Record", name := "<init>", desc := "()V" } : Jvm.MethodName) jdk_30_method_1_code (1 : Nat) (Option.none : Option Jvm.ClassFile.FieldType), Jvm.Cond.code ({ cls := "java/lang/Object", name := "<init>", desc := "()V" } : Jvm.MethodName) object_method_1_code (1 : Nat) (Option.none : Option Jvm.ClassFile.FieldType), Jvm.Cond.code ({ cls := "com/example/keep_posted/keepposted/service/Operation", name := "conditional", desc := "()Z" } : Jvm.MethodName) prog_43_method_8_code (1 : Nat) (Option.some Jvm.ClassFile.FieldType.boolean), Jvm.Cond.code ({ cls := "com/example/keep_posted/keepposted/service/Operation", name := "deleteIf", desc := "(Lcom/example/keep_posted/keepposted/model/Key;J)Lcom/example/keep_posted/keepposted/service/Operation;" } : Jvm.MethodName) prog_43_method_5_code (3 : Nat) (Option.some (Jvm.ClassFile.FieldType.object "com/example/keep_posted/keepposted/service/Operation")), Jvm.Cond.code ({ cls := "com/example/keep_posted/keepposted/service/Operation", name := "checkedCondition", desc := "(J)J" } : Jvm.MethodName) prog_43_method_11_code (2 : Nat) (Option.some Jvm.ClassFile.FieldType.long), Jvm.Cond.code ({ cls := "com/example/keep_posted/keepposted/service/Operation", name := "get", desc := "(Lcom/example/keep_posted/keepposted/model/Key;)Lcom/example/keep_posted/keepposted/service/Operation;" } : Jvm.MethodName) prog_43_method_7_code (1 : Nat) (Option.some (Jvm.ClassFile.FieldType.object "com/example/keep_posted/keepposted/service/Operation"))]
set_option maxRecDepth 65536 in
theorem codes_eq : words1.filter isCode = codes1 := rfl
theorem w_codes : ∀ c ∈ words1.filter isCode, c.before args0 about1 = true := by
  rw [codes_eq]
  intro c hc
  simp only [codes1, List.mem_cons, List.not_mem_nil, or_false] at hc
  rcases hc with rfl | rfl | rfl | rfl | rfl | rfl | rfl | rfl | rfl
  · exact w_c0
  · exact w_c1
  · exact w_c2
  · exact w_c3
  · exact w_c4
  · exact w_c5
  · exact w_c6
  · exact w_c7
  · exact w_c8
set_option maxRecDepth 65536 in
theorem w_t1 : (words1.take 24).all (fun c => isCode c || c.before args0 about1) = true := by decide +kernel
set_option maxRecDepth 65536 in
theorem w_t2 : ((words1.drop 24).take 24).all (fun c => isCode c || c.before args0 about1) = true := by decide +kernel
set_option maxRecDepth 65536 in
theorem w_t3 : ((words1.drop 24).drop 24).all (fun c => isCode c || c.before args0 about1) = true := by decide +kernel
theorem w_tables : (allAtoms (Jvm.Cond.code x code maxLocals ret :: tables_1)).before args0 about1 = true := by
  rw [allAtoms_all]
  show words1.all (fun c => c.before args0 about1) = true
  refine all_split ?_ w_codes
  rw [← List.take_append_drop 24 words1, List.all_append, w_t1, ← List.take_append_drop 24 (words1.drop 24), List.all_append, w_t2, w_t3]
  rfl
set_option maxRecDepth 65536 in
theorem w_case : (Jvm.Cond.and given_1 narrow_1).before args0 about1 = true := by decide +kernel
theorem w_applies : (headSpec (Jvm.Cond.code x code maxLocals ret :: tables_1) room_1).applies x e0.platform about1 = true :=
  (Spec.applies_iff w_frames).mpr ⟨w_running, w_runnable, w_alone, w_named, w_hears, w_ripe, w_room, w_tables⟩
theorem atStart : AtStart classFile x code maxLocals ret World_1 tables_1 room_1 Calls_1 rest_1 Pre_1 launch0 p0 e0 about1 theMethod args0 below0 :=
  ⟨lists_1, trivial, launch0.admits_env _ _ _, launch0.least_env, fairChoices_fair.cas, fairChoices_fair.clock, w_frames, w_args, w_heap, w_applies, trivial, trivial, w_case⟩
end start1
theorem witness_1 : WitnessClaimed_1 := ⟨start1.p0, start1.e0, start1.about1, start1.theMethod, start1.args0, start1.below0, start1.atStart⟩
end Jvm.Pilot.@@N@@
