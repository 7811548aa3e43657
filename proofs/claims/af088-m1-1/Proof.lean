import JvmDerived
import JvmDerived.Pilot.@@N@@Statement
import JvmDerived.Pilot.@@N@@Code
set_option linter.unusedVariables false
set_option linter.unusedSimpArgs false
namespace Jvm.RoadKit
open Sem ClassFile Op Lib Jvm.Stand Jvm.Free Jvm.LawKit
section New
variable {p : Program} {l : Launch} {e : Env} {R : Room} {s : State} {m : MethodId} {args : Array Value} {below : List Frame} {meth : Method} {c : Code} {T : State} {locs : List Loc} {cells slots : Nat}
theorem retI (X : Stand p l e R s m args below meth c T locs cells slots) (hx : p.tables.exec = Jvm.exec) {pc : Nat} {Ls : Array Slot} {z : Int32} {rest : List Value} (hret : meth.sig.returnType = some .int) (hd : decode c.code pc = .ok (.ireturn, 1)) {fs : List Frame}
    (hl : ∀ (f : JFrame) (acts : List Action), f.method = m → f.locked = none → f.entered = [] → (doReturn e (T.setTop f) acts (some (.int z))).1 = T.setFrames fs) : Steps p.tables e below (T.setTop (mkF m pc Ls (.int z :: rest))) (T.setFrames fs) := by
  have hm' : T.vm.method? m = some meth := X.method'
  have hn : narrow .int (.int z) = .int z := rfl
  show Steps p.tables e below (T.setTop { method := m, pc := pc, locals := Ls, stack := _ :: rest, locked := none }) _
  jvm_step X.here [X.here.top, hx, hd, hm', hret, hn]
  first | (intro acts; rw [hl _ acts rfl rfl rfl]) | rw [hl _ _ rfl rfl rfl]
  exact Steps.refl _
end New
end Jvm.RoadKit
namespace Jvm.Pilot.@@N@@
open Jvm Jvm.ClassFile Sem Op Lib Jvm.Free Jvm.Stand Jvm.LawKit Jvm.RoadKit Bundle Jvm.Pilot.@@N@@.Jvm.D
/-! ## The walk in continuation-passing form: what is left to run returns, and Q says of what it returns, of the heap and of the places written -/
def Ogo (p : Program) (e : Env) (below : List Frame) (P : Outcome → State → Prop) (A : State) : Prop :=
  ∃ s₂ o, Steps p.tables e below A s₂ ∧ s₂.status = .running ∧ Ended s₂ below o ∧ P o s₂
/-- it returned v, Q says of v, of the heap and of the places written; nothing else was done since s -/
def Onar (s : State) (R : Room) (Q : Option Value → Heap → List Loc → Prop) (o : Outcome) (t : State) : Prop := ∃ v L, o = .returned v ∧ Q v t.heap L ∧ FrameEnd s o t L R.cells R.slots
abbrev Opays (l : Launch) (y : MethodName) (bytes : ByteArray) (maxL : Nat) (rt : Option FieldType) (rm : Room) (ws : List Jvm.Cond) (Z : State) (h0 : Heap) (as : Array Value) (Q : Option Value → Heap → List Loc → Prop) : Prop :=
  MetFree l y (head1 (Jvm.Cond.code y bytes maxL rt :: ws) rm) (fun a U => a = as ∧ Z.Warmed39 U.vm ∧ U.heap = h0) (fun _ _ _ _ _ => True) (fun _ U o U' => ∃ v L, o = .returned v ∧ Q v U'.heap L ∧ FrameEnd U o U' L rm.cells rm.slots)
section Own
variable {p : Program} {l : Launch} {e : Env} {R : Room} {s : State} {m : MethodId} {args : Array Value} {below : List Frame} {meth : Method} {c : Code} {T : State} {locs : List Loc} {cells slots : Nat} {Z : State} {a0 : Array Value} {h : Heap} {Q : Option Value → Heap → List Loc → Prop} {A B : State} {P : Outcome → State → Prop}
theorem own_via (st : ∀ t, Steps p.tables e below B t → Steps p.tables e below A t) (k : Ogo p e below P B) : Ogo p e below P A := by
  obtain ⟨s₂, o, h1, h2⟩ := k
  exact ⟨s₂, o, st _ h1, h2⟩
theorem own_enter {y : MethodName} {bytes : ByteArray} {maxL : Nat} {rt : Option FieldType} {rm : Room} {ws : List Jvm.Cond} {h0 : Heap} {as : Array Value} (hp : plainFor y = true)
    (body : ∀ p e s m below meth c s₁, p.tables.exec = Jvm.exec → c.code = bytes → c.maxLocals = maxL → s.vm.findClass y.cls = some m.cls → meth.name = y.name → meth.sig.returnType = rt → meth.locks = false → Z.Warmed39 s.vm → s₁.heap = h0 →
      Stand p l e rm s m as below meth c s₁ [] 0 0 → Ogo p e below (Onar s rm Q) (s₁.setTop (entryFrame m as maxL))) : Opays l y bytes maxL rt rm ws Z h0 as Q := by
  refine MetFree.of_bodySF hp hisR ?_
  intro p e s m args below meth c s₁ Bd hml0 hP hK
  obtain ⟨rfl, hZ, hh⟩ := hP
  have X0 : Stand p l e rm s m args below meth c s₁ [] 0 0 := Stand.of_body Bd
  have e0 : s₁.heap = h0 := by rw [← hh, Bd.state]; rfl
  exact body p e s m below meth c s₁ Bd.exec Bd.bytes hml0 (findClass_of_methodNamed Bd.named) (name_of_methodNamed Bd.named Bd.method).1 Bd.returns Bd.notSynchronized hZ e0 X0
theorem own_out (X : Stand p l e R s m args below meth c T locs cells slots) (hlk : meth.locks = false) {v : Option Value} (hv : meth.sig.returnType = none → v = none) (hc : cells ≤ R.cells) (hs : slots ≤ R.slots) (hQ : Q v T.heap locs)
    (k : ∀ fs, (∀ (f : JFrame) (acts : List Action), f.method = m → f.locked = none → f.entered = [] → (doReturn e (T.setTop f) acts v).1 = T.setFrames fs) → Steps p.tables e below A (T.setFrames fs)) : Ogo p e below (Onar s R Q) A := by
  obtain ⟨fs, hr, hrun, hended, hW, hsame⟩ := X.leave (v := v) hv hlk
  exact ⟨_, _, k fs hr, hrun, hended, _, _, rfl, hQ, ⟨_, rfl⟩, hW, hsame.mono hc hs⟩
theorem own_retL (X : Stand p l e R s m args below meth c T locs cells slots) (hx : p.tables.exec = Jvm.exec) {pc : Nat} {Ls : Array Slot} {z : Int64} {rest : List Value} (hret : meth.sig.returnType = some .long) (hd : decode c.code pc = .ok (.lreturn, 1)) {fs : List Frame}
    (hl : ∀ (f : JFrame) (acts : List Action), f.method = m → f.locked = none → f.entered = [] → (doReturn e (T.setTop f) acts (some (.long z))).1 = T.setFrames fs) : Steps p.tables e below (T.setTop (mkF m pc Ls (.long z :: rest))) (T.setFrames fs) :=
  retOut X hx hret rfl (Or.inr (Or.inl ⟨rfl, rfl, _, rfl⟩)) hd hl
theorem own_retD (X : Stand p l e R s m args below meth c T locs cells slots) (hx : p.tables.exec = Jvm.exec) {pc : Nat} {Ls : Array Slot} {z : UInt64} {rest : List Value} (hret : meth.sig.returnType = some .double) (hd : decode c.code pc = .ok (.dreturn, 1)) {fs : List Frame}
    (hl : ∀ (f : JFrame) (acts : List Action), f.method = m → f.locked = none → f.entered = [] → (doReturn e (T.setTop f) acts (some (.double z))).1 = T.setFrames fs) : Steps p.tables e below (T.setTop (mkF m pc Ls (.double z :: rest))) (T.setFrames fs) :=
  retOut X hx hret rfl (Or.inr (Or.inr (Or.inl ⟨rfl, rfl, _, rfl⟩))) hd hl
theorem own_retA (X : Stand p l e R s m args below meth c T locs cells slots) (hx : p.tables.exec = Jvm.exec) {pc : Nat} {Ls : Array Slot} {w : Value} {t : FieldType} {rest : List Value} (hret : meth.sig.returnType = some t) (ht : t.isReference = true) (hv : w.isRef = true) (hd : decode c.code pc = .ok (.areturn, 1)) {fs : List Frame}
    (hl : ∀ (f : JFrame) (acts : List Action), f.method = m → f.locked = none → f.entered = [] → (doReturn e (T.setTop f) acts (some w)).1 = T.setFrames fs) : Steps p.tables e below (T.setTop (mkF m pc Ls (w :: rest))) (T.setFrames fs) :=
  retOut X hx hret (by cases t <;> first | rfl | cases ht) (Or.inr (Or.inr (Or.inr (Or.inr ⟨rfl, ht, hv⟩)))) hd hl
theorem own_lrem {g : JFrame} {target : State} (X : Stand p l e R s m args below meth c T locs cells slots) (hx : p.tables.exec = Jvm.exec) (hg : g.method = m) {x y : Int64} {rest : List Value} (hd : decode c.code g.pc = .ok (.lrem, 1)) (hs : g.stack = .long y :: .long x :: rest) (hy : y ≠ 0)
    (hr : Steps p.tables e below (T.setTop { g with pc := g.pc + 1, stack := .long (x % y) :: rest }) target) : Steps p.tables e below (T.setTop g) target :=
  XS.lrem X.here hx hg hd hs hy (by rw [lrem_mod]; exact hr)
/-! calls: the callee's contract pays -/
theorem own_callS (X : Stand p l e R s m args below meth c T locs cells slots) (hx : p.tables.exec = Jvm.exec) (hZ : Z.Warmed39 s.vm) {own : String} {index : Nat} {y : MethodName} {bytes : ByteArray} {maxL : Nat} {rt : Option FieldType}
    (hown : s.vm.findClass own = some m.cls) (wl : (Jvm.Cond.methodLink own index y).before a0 Z = true) (wst : (Jvm.Cond.static y).before a0 Z = true) (wi : (Jvm.Cond.initialized y.cls).before a0 Z = true) (wc : (Jvm.Cond.code y bytes maxL rt).before a0 Z = true)
    (hy : y.cls ≠ "java/lang/invoke/MethodHandle" ∧ y.cls ≠ "java/lang/invoke/VarHandle") {rm : Room} {as : Array Value} {Qc : Option Value → Heap → List Loc → Prop} (hM : Opays l y bytes maxL rt rm [] Z h as Qc) {argsL rest : List Value} (ha : argsL.toArray = as) (eT : T.heap = h) {W : Nat} (hf : rm.frames + 1 ≤ R.frames) (hl : W + (maxL + 11) + rm.locals ≤ R.locals) (hc : cells + rm.cells ≤ R.cells) (hs : slots + rm.slots ≤ R.slots)
    {pc : Nat} {Ls : Array Slot} {st : List Value} (hsize : Ls.size = c.maxLocals) (hlen : ∀ sig, parseMethodDescriptor y.desc = some sig → argsL.length = sig.parameters.length) (hst : st = argsL.reverse ++ rest) (hW : (rest.map fun v => v.category).sum ≤ W) (hd : decode c.code pc = .ok (.invokestatic index, 3))
    (k : ∀ v T' L, Stand p l e R s m args below meth c T' (locs ++ L) (cells + rm.cells) (slots + rm.slots) → Qc v T'.heap L → Ogo p e below P (T'.setTop (mkF m (pc + 3) Ls (v.toList ++ rest)))) : Ogo p e below P (T.setTop (mkF m pc Ls st)) := by
  obtain ⟨v, _, ⟨T', L', k', n'⟩, -, X', ⟨Lc, hQ, l1, y1, z1⟩, step⟩ := Jvm.LawKit.callS X hx (y := y) hown (mvT hZ wl) (mvT hZ wst) (mvT hZ wi) (mvT hZ wc) hy (backOf (W := W) hM hZ wc wi hf hl) (g := mkF m pc Ls st) rfl hsize (argsL := argsL) (rest := rest) hlen hst (by show 2 * 0 + _ ≤ _; omega) hd (fun _ _ => ⟨ha, eT, hc, hs⟩)
  dsimp only [Pt.U, Pt.locs, Pt.cells, Pt.slots] at X' l1 y1 z1 step hQ
  subst l1 y1 z1
  exact own_via step (k v T' Lc X' hQ)
theorem own_callI (X : Stand p l e R s m args below meth c T locs cells slots) (hx : p.tables.exec = Jvm.exec) (hZ : Z.Warmed39 s.vm) {own : String} {index : Nat} {y : MethodName} {bytes : ByteArray} {maxL : Nat} (hy1 : y.name = "<init>")
    (hown : s.vm.findClass own = some m.cls) (wl : (Jvm.Cond.methodLink own index y).before a0 Z = true) (wst : (Jvm.Cond.instanceMethod y).before a0 Z = true) (wi : (Jvm.Cond.initialized y.cls).before a0 Z = true) (wc : (Jvm.Cond.code y bytes maxL none).before a0 Z = true)
    (hy : y.cls ≠ "java/lang/invoke/MethodHandle" ∧ y.cls ≠ "java/lang/invoke/VarHandle") {rm : Room} {as : Array Value} {Qc : Option Value → Heap → List Loc → Prop} (hM : Opays l y bytes maxL none rm [] Z h as Qc) {a : Addr} {argsL rest : List Value} (ha : (.ref a :: argsL).toArray = as) (eT : T.heap = h) {W : Nat} (hf : rm.frames + 1 ≤ R.frames) (hl : W + (maxL + 11) + rm.locals ≤ R.locals) (hc : cells + rm.cells ≤ R.cells) (hs : slots + rm.slots ≤ R.slots)
    {pc : Nat} {Ls : Array Slot} {st : List Value} (hsize : Ls.size = c.maxLocals) (hlen : ∀ sig, parseMethodDescriptor y.desc = some sig → argsL.length = sig.parameters.length) (hst : st = argsL.reverse ++ .ref a :: rest) (hW : (rest.map fun v => v.category).sum ≤ W) (hd : decode c.code pc = .ok (.invokespecial index, 3))
    (k : ∀ v T' L, Stand p l e R s m args below meth c T' (locs ++ L) (cells + rm.cells) (slots + rm.slots) → Qc v T'.heap L → Ogo p e below P (T'.setTop (mkF m (pc + 3) Ls (v.toList ++ rest)))) : Ogo p e below P (T.setTop (mkF m pc Ls st)) := by
  obtain ⟨v, _, ⟨T', L', k', n'⟩, -, X', ⟨Lc, hQ, l1, y1, z1⟩, step⟩ := X.specialBack hx (y := y) hy1 hown (mvT hZ wl) (mvT hZ wst) (mvT hZ wc) hy (backOf (W := W) hM hZ wc wi hf hl) (g := mkF m pc Ls st) rfl hsize (Steps.refl _) (a := a) (argsL := argsL) (rest := rest) hlen hst (by show 2 * 0 + _ ≤ _; omega) hd (fun _ _ => ⟨ha, eT, hc, hs⟩)
  dsimp only [Pt.U, Pt.locs, Pt.cells, Pt.slots] at X' l1 y1 z1 step hQ
  subst l1 y1 z1
  exact own_via (fun _ q => step.trans q) (k v T' Lc X' hQ)
theorem own_callV (X : Stand p l e R s m args below meth c T locs cells slots) (hx : p.tables.exec = Jvm.exec) (hZ : Z.Warmed39 s.vm) {own C : String} {index : Nat} {y z : MethodName} {bytes : ByteArray} {maxL : Nat} {rt : Option FieldType}
    (hown : s.vm.findClass own = some m.cls) (wl : (Jvm.Cond.methodLink own index y).before a0 Z = true) (wd : (Jvm.Cond.declares y).before a0 Z = true) (ws : (Jvm.Cond.selects C y z).before a0 Z = true) (wst : (Jvm.Cond.instanceMethod z).before a0 Z = true) (wi : (Jvm.Cond.initialized z.cls).before a0 Z = true) (wc : (Jvm.Cond.code z bytes maxL rt).before a0 Z = true) (hyz : NotFace s y)
    (hy : y.cls ≠ "java/lang/invoke/MethodHandle" ∧ y.cls ≠ "java/lang/invoke/VarHandle") {rm : Room} {as : Array Value} {Qc : Option Value → Heap → List Loc → Prop} (hM : Opays l z bytes maxL rt rm [] Z h as Qc) {b : Addr} {argsL rest : List Value} (ha : (.ref b :: argsL).toArray = as) (eT : T.heap = h) (F : Exa Z h b C) {W : Nat} (hf : rm.frames + 1 ≤ R.frames) (hl : W + (maxL + 11) + rm.locals ≤ R.locals) (hc : cells + rm.cells ≤ R.cells) (hs : slots + rm.slots ≤ R.slots)
    {pc : Nat} {Ls : Array Slot} {st : List Value} (hsize : Ls.size = c.maxLocals) (hlen : ∀ sig, parseMethodDescriptor y.desc = some sig → argsL.length = sig.parameters.length) (hst : st = argsL.reverse ++ .ref b :: rest) (hW : (rest.map fun v => v.category).sum ≤ W) (hd : decode c.code pc = .ok (.invokevirtual index, 3))
    (k : ∀ v T' L, Stand p l e R s m args below meth c T' (locs ++ L) (cells + rm.cells) (slots + rm.slots) → Qc v T'.heap L → Ogo p e below P (T'.setTop (mkF m (pc + 3) Ls (v.toList ++ rest)))) : Ogo p e below P (T.setTop (mkF m pc Ls st)) := by
  obtain ⟨cq, kq, qa, qb, qc⟩ := isOf hZ eT F
  obtain ⟨v, _, ⟨T', L', k', n'⟩, -, X', ⟨Lc, hQ, l1, y1, z1⟩, step⟩ := X.virtualBack hx (y := y) (z := z) hown (mvT hZ wl) (mvT hZ wd) hyz (mvT hZ ws) (mvT hZ wst) hy (backOf (W := W) hM hZ wc wi hf hl) qa qc (g := mkF m pc Ls st) rfl hsize (Steps.refl _) (argsL := argsL) (rest := rest) hlen hst (by show 2 * 0 + _ ≤ _; omega) hd (fun _ _ => ⟨ha, eT, hc, hs⟩)
  dsimp only [Pt.U, Pt.locs, Pt.cells, Pt.slots] at X' l1 y1 z1 step hQ
  subst l1 y1 z1
  exact own_via (fun _ q => step.trans q) (k v T' Lc X' hQ)
/-- a private method of a class that is no interface -/
theorem own_callP (X : Stand p l e R s m args below meth c T locs cells slots) (hx : p.tables.exec = Jvm.exec) (hZ : Z.Warmed39 s.vm) {own C : String} {index kk : Nat} {y : MethodName} {bytes : ByteArray} {maxL : Nat} {rt : Option FieldType}
    (hown : s.vm.findClass own = some m.cls) (wl : (Jvm.Cond.methodLink own index y).before a0 Z = true) (wst : (Jvm.Cond.instanceMethod y).before a0 Z = true) (wp : (Jvm.Cond.privateMethod y).before a0 Z = true) (wi : (Jvm.Cond.initialized y.cls).before a0 Z = true) (wn : (Jvm.Cond.instantiable y.cls kk).before a0 Z = true) (wc : (Jvm.Cond.code y bytes maxL rt).before a0 Z = true)
    (hy : y.cls ≠ "java/lang/invoke/MethodHandle" ∧ y.cls ≠ "java/lang/invoke/VarHandle") {rm : Room} {as : Array Value} {Qc : Option Value → Heap → List Loc → Prop} (hM : Opays l y bytes maxL rt rm [] Z h as Qc) {b : Addr} {argsL rest : List Value} (ha : (.ref b :: argsL).toArray = as) (eT : T.heap = h) (F : Exa Z h b C) {W : Nat} (hf : rm.frames + 1 ≤ R.frames) (hl : W + (maxL + 11) + rm.locals ≤ R.locals) (hc : cells + rm.cells ≤ R.cells) (hs : slots + rm.slots ≤ R.slots)
    {pc : Nat} {Ls : Array Slot} {st : List Value} (hsize : Ls.size = c.maxLocals) (hlen : ∀ sig, parseMethodDescriptor y.desc = some sig → argsL.length = sig.parameters.length) (hst : st = argsL.reverse ++ .ref b :: rest) (hW : (rest.map fun v => v.category).sum ≤ W) (hd : decode c.code pc = .ok (.invokevirtual index, 3))
    (k : ∀ v T' L, Stand p l e R s m args below meth c T' (locs ++ L) (cells + rm.cells) (slots + rm.slots) → Qc v T'.heap L → Ogo p e below P (T'.setTop (mkF m (pc + 3) Ls (v.toList ++ rest)))) : Ogo p e below P (T.setTop (mkF m pc Ls st)) := by
  obtain ⟨cq, q1, q2⟩ := F.cell
  have hpriv : s.PrivateAt y := Cond.privateMethod_at (mvP hZ wp (args := #[]))
  obtain ⟨c2, k2, i1, i2, i3, i4, -⟩ := Cond.instantiable_spec (mv (s := s) (args := args) hZ wn)
  have hni : k2.isInterface = false := (Bool.or_eq_false_iff.mp i4).1
  obtain ⟨v, _, ⟨T', L', k', n'⟩, -, X', ⟨Lc, hQ, l1, y1, z1⟩, step⟩ := X.privateBack hx (y := y) hown (mvT hZ wl) (mvT hZ wst) (selects_self_of_private i1 i2 hni hpriv (mvT hZ wst) hy) hpriv (mvT hZ wc) hy (backOf (W := W) hM hZ wc wi hf hl) (g := mkF m pc Ls st) rfl hsize (Steps.refl _) (a := b) (by rw [eT]; exact q1) q2 (argsL := argsL) (rest := rest) hlen hst (by show 2 * 0 + _ ≤ _; omega) hd (fun _ _ => ⟨ha, eT, hc, hs⟩)
  dsimp only [Pt.U, Pt.locs, Pt.cells, Pt.slots] at X' l1 y1 z1 step hQ
  subst l1 y1 z1
  exact own_via (fun _ q => step.trans q) (k v T' Lc X' hQ)
/-- a method of an interface -/
theorem own_callF (X : Stand p l e R s m args below meth c T locs cells slots) (hx : p.tables.exec = Jvm.exec) (hZ : Z.Warmed39 s.vm) {own C : String} {index count : Nat} {y z : MethodName} {bytes : ByteArray} {maxL : Nat} {rt : Option FieldType}
    (hown : s.vm.findClass own = some m.cls) (wl : (Jvm.Cond.methodLink own index y).before a0 Z = true) (wd : (Jvm.Cond.declares y).before a0 Z = true) (wf : (Jvm.Cond.interfaceMethod y.cls y.cls y.name y.desc).before args s = true) (ws : (Jvm.Cond.selects C y z).before a0 Z = true) (wst : (Jvm.Cond.instanceMethod z).before a0 Z = true) (wp : (Jvm.Cond.publicMethod z).before a0 Z = true) (wu : (Jvm.Cond.unhidden C y.name y.desc).before a0 Z = true) (wk : (Jvm.Cond.castable C y.cls).before a0 Z = true) (wi : (Jvm.Cond.initialized z.cls).before a0 Z = true) (wc : (Jvm.Cond.code z bytes maxL rt).before a0 Z = true)
    (hy : y.cls ≠ "java/lang/invoke/MethodHandle" ∧ y.cls ≠ "java/lang/invoke/VarHandle") {rm : Room} {as : Array Value} {Qc : Option Value → Heap → List Loc → Prop} (hM : Opays l z bytes maxL rt rm [] Z h as Qc) {b : Addr} {argsL rest : List Value} (ha : (.ref b :: argsL).toArray = as) (eT : T.heap = h) (F : Exa Z h b C) {W : Nat} (hf : rm.frames + 1 ≤ R.frames) (hl : W + (maxL + 11) + rm.locals ≤ R.locals) (hc : cells + rm.cells ≤ R.cells) (hs : slots + rm.slots ≤ R.slots)
    {pc : Nat} {Ls : Array Slot} {st : List Value} (hsize : Ls.size = c.maxLocals) (hlen : ∀ sig, parseMethodDescriptor y.desc = some sig → argsL.length = sig.parameters.length) (hst : st = argsL.reverse ++ .ref b :: rest) (hW : (rest.map fun v => v.category).sum ≤ W) (hd : decode c.code pc = .ok (.invokeinterface index count, 5))
    (k : ∀ v T' L, Stand p l e R s m args below meth c T' (locs ++ L) (cells + rm.cells) (slots + rm.slots) → Qc v T'.heap L → Ogo p e below P (T'.setTop (mkF m (pc + 5) Ls (v.toList ++ rest)))) : Ogo p e below P (T.setTop (mkF m pc Ls st)) := by
  obtain ⟨cq, kq, qa, qb, qc⟩ := isOf hZ eT F
  obtain ⟨v, _, ⟨T', L', k', n'⟩, -, X', ⟨Lc, hQ, l1, y1, z1⟩, step⟩ := X.interfaceBack hx (xi := y) (y := z) hown (mvT hZ wl) (mvT hZ wd) wf (mvT hZ ws) (mvT hZ wst) (mvT hZ wp) (mvT hZ wu) (mvT hZ wk) hy (backOf (W := W) hM hZ wc wi hf hl) qa qb qc (g := mkF m pc Ls st) rfl hsize (Steps.refl _) (argsL := argsL) (rest := rest) hlen hst (by show 2 * 0 + _ ≤ _; omega) hd (fun _ _ => ⟨ha, eT, hc, hs⟩)
  dsimp only [Pt.U, Pt.locs, Pt.cells, Pt.slots] at X' l1 y1 z1 step hQ
  subst l1 y1 z1
  exact own_via (fun _ q => step.trans q) (k v T' Lc X' hQ)
end Own
/-! ## An array by its values: n places, place j holds f j -/
/-- the array at a has n places of kind ty; place j holds f j -/
def Oar (Z : State) (h : Heap) (a : Addr) (ty : FieldType) (n : Nat) (f : Nat → Value) : Prop := n < 2 ^ 31 ∧ ∃ cl : Cell, Arr Z h a cl ty ∧ cl.slots.size = n ∧ ∀ j, j < n → cl.slots[j]? = some (f j)
section Own2
variable {p : Program} {l : Launch} {e : Env} {R : Room} {s : State} {m : MethodId} {args : Array Value} {below : List Frame} {meth : Method} {c : Code} {T : State} {locs : List Loc} {cells slots : Nat} {Z : State} {a0 : Array Value} {h h' : Heap} {P : Outcome → State → Prop} {a b : Addr} {ty : FieldType} {n i sl : Nat} {f : Nat → Value} {v : Value} {ws : List Addr} {j z : Int32}
theorem Oar.lt (A : Oar Z h a ty n f) : a < h.size := by obtain ⟨_, cl, A, _⟩ := A; exact A.lt
theorem Oar.ext (A : Oar Z h a ty n f) (E : Ext h h') : Oar Z h' a ty n f := by obtain ⟨q, cl, A, r⟩ := A; exact ⟨q, cl, A.ext E, r⟩
theorem Oar.other (A : Oar Z h b ty n f) (W : Wr h h' a sl v) (q : b ≠ a) : Oar Z h' b ty n f := by obtain ⟨z, cl, A, r⟩ := A; exact ⟨z, cl, A.other W q, r⟩
theorem Oar.keep (A : Oar Z h a ty n f) (K : Keep h h' ws) (q : a ∉ ws) : Oar Z h' a ty n f := by obtain ⟨z, cl, A, r⟩ := A; exact ⟨z, cl, ⟨K.2.1 a cl A.1 q, A.2⟩, r⟩
theorem Oar.cast {f' : Nat → Value} (A : Oar Z h a ty n f) (q : ∀ j, j < n → f j = f' j) : Oar Z h a ty n f' := by obtain ⟨z, cl, A, S, r⟩ := A; exact ⟨z, cl, A, S, fun j hj => by rw [← q j hj]; exact r j hj⟩
theorem Oar.new {k : ClassId} (A : Arr Z h a (newA k ty z) ty) (hz : ¬ z < 0) (hn : z.toNatClampNeg = n) : Oar Z h a ty n (fun _ => defaultValue ty) := by
  subst hn
  refine ⟨(back32 hz).2, _, A, sz_new _ _ _, fun j hj => ?_⟩
  simp [newA, hj]
theorem Oar.set (A : Oar Z h a ty n f) (W : Wr h h' a i v) : Oar Z h' a ty n (fun j => if j = i then v else f j) := by
  obtain ⟨q, cl, A, S, H⟩ := A
  obtain ⟨cell, e1, -, e3, -⟩ := id W
  cases A.1.symm.trans e1
  refine ⟨q, _, A.same W, by rw [sz_set]; exact S, fun j hj => ?_⟩
  by_cases u : i = j
  · subst u; simp [Cell.setSlot, e3]
  · have u' : ¬ j = i := fun x => u x.symm
    simp only [if_neg u', Cell.setSlot]; rw [Array.getElem?_setIfInBounds_ne u]; exact H j hj
theorem own_cl (hj : j.toInt = (i : Int)) : ¬ j < 0 ∧ j.toNatClampNeg = i := by
  refine ⟨fun q => ?_, ?_⟩
  · rw [Int32.lt_iff_toInt_lt] at q; have : (0 : Int32).toInt = 0 := rfl; omega
  · simp only [Int32.toNatClampNeg, hj]; rfl
theorem Oar.at (A : Oar Z h a ty n f) (hj : j.toInt = (i : Int)) (hi : i < n) : ∃ cl : Cell, Arr Z h a cl ty ∧ ¬ (j < 0 ∨ cl.slots.size ≤ j.toNatClampNeg) ∧ cl.slots[j.toNatClampNeg]? = some (f i) := by
  obtain ⟨q, cl, A, S, H⟩ := A
  obtain ⟨q1, q2⟩ := own_cl hj
  exact ⟨cl, A, fun q => q.elim q1 fun u => by rw [q2, S] at u; omega, by rw [q2]; exact H i hi⟩
/-- arraylength -/
theorem own_alen (X : Stand p l e R s m args below meth c T locs cells slots) (hx : p.tables.exec = Jvm.exec) (hZ : Z.Warmed39 s.vm) (eT : T.heap = h) (A : Oar Z h a ty n f) (hz : z.toInt = (n : Int)) {pc : Nat} {Ls : Array Slot} {rest : List Value} (hd : decode c.code pc = .ok (.arraylength, 1))
    (k : Ogo p e below P (T.setTop (mkF m (pc + 1) Ls (.int z :: rest)))) : Ogo p e below P (T.setTop (mkF m pc Ls (.ref a :: rest))) := by
  obtain ⟨q, cl, A, S, H⟩ := A
  have e1 : cl.slots.size.toInt32 = z := Int32.toInt_inj.mp (by rw [S, len_toInt q, hz])
  refine own_via (fun t k => X.arraylength hx (by rw [eT]; exact A.1) (State.isArrayOf_alike hZ.alike A.2.1) (g := mkF m pc Ls (.ref a :: rest)) rfl rfl hd _ k) ?_
  rw [e1]; exact k
theorem own_iald (X : Stand p l e R s m args below meth c T locs cells slots) (hx : p.tables.exec = Jvm.exec) (hZ : Z.Warmed39 s.vm) (eT : T.heap = h) (A : Oar Z h a .int n f) (hj : j.toInt = (i : Int)) (hi : i < n) (hv : f i = v) {pc : Nat} {Ls : Array Slot} {rest : List Value} (hd : decode c.code pc = .ok (.iaload, 1))
    (k : Ogo p e below P (T.setTop (mkF m (pc + 1) Ls (v :: rest)))) : Ogo p e below P (T.setTop (mkF m pc Ls (.int j :: .ref a :: rest))) := by
  obtain ⟨cl, A, h1, h2⟩ := A.at hj hi
  rw [hv] at h2
  exact own_via (fun t k => X.iaload hx (j := j) (v := v) (by rw [eT]; exact A.1) (State.isArrayOf_alike hZ.alike A.2.1) A.2.2 h1 h2 (g := mkF m pc Ls (.int j :: .ref a :: rest)) rfl rfl hd _ k) k
theorem own_bald (X : Stand p l e R s m args below meth c T locs cells slots) (hx : p.tables.exec = Jvm.exec) (hZ : Z.Warmed39 s.vm) (eT : T.heap = h) (A : Oar Z h a .byte n f) (hj : j.toInt = (i : Int)) (hi : i < n) (hv : f i = v) {pc : Nat} {Ls : Array Slot} {rest : List Value} (hd : decode c.code pc = .ok (.baload, 1))
    (k : Ogo p e below P (T.setTop (mkF m (pc + 1) Ls (v :: rest)))) : Ogo p e below P (T.setTop (mkF m pc Ls (.int j :: .ref a :: rest))) := by
  obtain ⟨cl, A, h1, h2⟩ := A.at hj hi
  rw [hv] at h2
  exact own_via (fun t k => X.baloadBytes hx (j := j) (v := v) (by rw [eT]; exact A.1) (State.isArrayOf_alike hZ.alike A.2.1) A.2.2 h1 h2 (g := mkF m pc Ls (.int j :: .ref a :: rest)) rfl rfl hd _ k) k
theorem own_zald (X : Stand p l e R s m args below meth c T locs cells slots) (hx : p.tables.exec = Jvm.exec) (hZ : Z.Warmed39 s.vm) (eT : T.heap = h) (A : Oar Z h a .boolean n f) (hj : j.toInt = (i : Int)) (hi : i < n) (hv : f i = v) {pc : Nat} {Ls : Array Slot} {rest : List Value} (hd : decode c.code pc = .ok (.baload, 1))
    (k : Ogo p e below P (T.setTop (mkF m (pc + 1) Ls (v :: rest)))) : Ogo p e below P (T.setTop (mkF m pc Ls (.int j :: .ref a :: rest))) := by
  obtain ⟨cl, A, h1, h2⟩ := A.at hj hi
  rw [hv] at h2
  exact own_via (fun t k => X.baloadBooleans hx (j := j) (v := v) (by rw [eT]; exact A.1) (State.isArrayOf_alike hZ.alike A.2.1) A.2.2 h1 h2 (g := mkF m pc Ls (.int j :: .ref a :: rest)) rfl rfl hd _ k) k
theorem own_dald (X : Stand p l e R s m args below meth c T locs cells slots) (hx : p.tables.exec = Jvm.exec) (hZ : Z.Warmed39 s.vm) (eT : T.heap = h) (A : Oar Z h a .double n f) (hj : j.toInt = (i : Int)) (hi : i < n) (hv : f i = v) {pc : Nat} {Ls : Array Slot} {rest : List Value} (hd : decode c.code pc = .ok (.daload, 1))
    (k : Ogo p e below P (T.setTop (mkF m (pc + 1) Ls (v :: rest)))) : Ogo p e below P (T.setTop (mkF m pc Ls (.int j :: .ref a :: rest))) := by
  obtain ⟨cl, A, h1, h2⟩ := A.at hj hi
  rw [hv] at h2
  exact own_via (fun t k => X.daload hx (j := j) (v := v) (by rw [eT]; exact A.1) (State.isArrayOf_alike hZ.alike A.2.1) A.2.2 h1 h2 (g := mkF m pc Ls (.int j :: .ref a :: rest)) rfl rfl hd _ k) k
theorem own_aald (X : Stand p l e R s m args below meth c T locs cells slots) (hx : p.tables.exec = Jvm.exec) (hZ : Z.Warmed39 s.vm) (eT : T.heap = h) (A : Oar Z h a ty n f) (ht : ty.isReference = true) (hj : j.toInt = (i : Int)) (hi : i < n) (hv : f i = v) {pc : Nat} {Ls : Array Slot} {rest : List Value} (hd : decode c.code pc = .ok (.aaload, 1))
    (k : Ogo p e below P (T.setTop (mkF m (pc + 1) Ls (v :: rest)))) : Ogo p e below P (T.setTop (mkF m pc Ls (.int j :: .ref a :: rest))) := by
  obtain ⟨cl, A, h1, h2⟩ := A.at hj hi
  rw [hv] at h2
  exact own_via (fun t k => X.aaload hx (j := j) (v := v) (by rw [eT]; exact A.1) (State.isArrayOf_alike hZ.alike A.2.1) ht A.2.2 h1 h2 (g := mkF m pc Ls (.int j :: .ref a :: rest)) rfl rfl hd _ k) k
theorem own_iast (X : Stand p l e R s m args below meth c T locs cells slots) (hx : p.tables.exec = Jvm.exec) (hZ : Z.Warmed39 s.vm) (eT : T.heap = h) (A : Oar Z h a .int n f) {x : Int32} (hj : j.toInt = (i : Int)) (hi : i < n) {pc : Nat} {Ls : Array Slot} {rest : List Value} (hd : decode c.code pc = .ok (.iastore, 1)) :
    ∃ T' h', Stand p l e R s m args below meth c T' (locs ++ [⟨a, i⟩]) cells slots ∧ T'.heap = h' ∧ Wr h h' a i (.int x) ∧ Oar Z h' a .int n (fun q => if q = i then .int x else f q) ∧ ∀ t, Steps p.tables e below (T'.setTop (mkF m (pc + 1) Ls rest)) t → Steps p.tables e below (T.setTop (mkF m pc Ls (.int x :: .int j :: .ref a :: rest))) t := by
  obtain ⟨cl, A', h1, h2⟩ := A.at hj hi
  obtain ⟨T', h', X', e', W, st⟩ := stI X hx hZ eT A' (j := j) (x := x) h1 (g := mkF m pc Ls (.int x :: .int j :: .ref a :: rest)) rfl rfl hd
  rw [(own_cl hj).2] at X' W
  exact ⟨T', h', X', e', W, A.set W, st⟩
theorem own_bast (X : Stand p l e R s m args below meth c T locs cells slots) (hx : p.tables.exec = Jvm.exec) (hZ : Z.Warmed39 s.vm) (eT : T.heap = h) (A : Oar Z h a .byte n f) {x : Int32} (hj : j.toInt = (i : Int)) (hi : i < n) {pc : Nat} {Ls : Array Slot} {rest : List Value} (hd : decode c.code pc = .ok (.bastore, 1)) :
    ∃ T' h', Stand p l e R s m args below meth c T' (locs ++ [⟨a, i⟩]) cells slots ∧ T'.heap = h' ∧ Wr h h' a i (.int (nar .byte x)) ∧ Oar Z h' a .byte n (fun q => if q = i then .int (nar .byte x) else f q) ∧ ∀ t, Steps p.tables e below (T'.setTop (mkF m (pc + 1) Ls rest)) t → Steps p.tables e below (T.setTop (mkF m pc Ls (.int x :: .int j :: .ref a :: rest))) t := by
  obtain ⟨cl, A', h1, h2⟩ := A.at hj hi
  obtain ⟨T', h', X', e', W, st⟩ := stB X hx hZ eT A' (j := j) (x := x) h1 (g := mkF m pc Ls (.int x :: .int j :: .ref a :: rest)) rfl rfl hd
  rw [(own_cl hj).2] at X' W
  exact ⟨T', h', X', e', W, A.set W, st⟩
theorem own_zast (X : Stand p l e R s m args below meth c T locs cells slots) (hx : p.tables.exec = Jvm.exec) (hZ : Z.Warmed39 s.vm) (eT : T.heap = h) (A : Oar Z h a .boolean n f) {x : Int32} (hj : j.toInt = (i : Int)) (hi : i < n) {pc : Nat} {Ls : Array Slot} {rest : List Value} (hd : decode c.code pc = .ok (.bastore, 1)) :
    ∃ T' h', Stand p l e R s m args below meth c T' (locs ++ [⟨a, i⟩]) cells slots ∧ T'.heap = h' ∧ Wr h h' a i (.int (nar .boolean x)) ∧ Oar Z h' a .boolean n (fun q => if q = i then .int (nar .boolean x) else f q) ∧ ∀ t, Steps p.tables e below (T'.setTop (mkF m (pc + 1) Ls rest)) t → Steps p.tables e below (T.setTop (mkF m pc Ls (.int x :: .int j :: .ref a :: rest))) t := by
  obtain ⟨cl, A', h1, h2⟩ := A.at hj hi
  obtain ⟨T', h', X', e', W, st⟩ := stZ X hx hZ eT A' (j := j) (x := x) h1 (g := mkF m pc Ls (.int x :: .int j :: .ref a :: rest)) rfl rfl hd
  rw [(own_cl hj).2] at X' W
  exact ⟨T', h', X', e', W, A.set W, st⟩
theorem own_dast (X : Stand p l e R s m args below meth c T locs cells slots) (hx : p.tables.exec = Jvm.exec) (hZ : Z.Warmed39 s.vm) (eT : T.heap = h) (A : Oar Z h a .double n f) {x : UInt64} (hj : j.toInt = (i : Int)) (hi : i < n) {pc : Nat} {Ls : Array Slot} {rest : List Value} (hd : decode c.code pc = .ok (.dastore, 1)) :
    ∃ T' h', Stand p l e R s m args below meth c T' (locs ++ [⟨a, i⟩]) cells slots ∧ T'.heap = h' ∧ Wr h h' a i (.double x) ∧ Oar Z h' a .double n (fun q => if q = i then .double x else f q) ∧ ∀ t, Steps p.tables e below (T'.setTop (mkF m (pc + 1) Ls rest)) t → Steps p.tables e below (T.setTop (mkF m pc Ls (.double x :: .int j :: .ref a :: rest))) t := by
  obtain ⟨cl, A', h1, h2⟩ := A.at hj hi
  obtain ⟨T', h', X', e', W, st⟩ := stD X hx hZ eT A' (j := j) (x := x) h1 (g := mkF m pc Ls (.double x :: .int j :: .ref a :: rest)) rfl rfl hd
  rw [(own_cl hj).2] at X' W
  exact ⟨T', h', X', e', W, A.set W, st⟩
theorem own_aast (X : Stand p l e R s m args below meth c T locs cells slots) (hx : p.tables.exec = Jvm.exec) (hZ : Z.Warmed39 s.vm) (eT : T.heap = h) (A : Oar Z h a ty n f) (ht : ty.isReference = true) (F : Sto Z h a v) (hj : j.toInt = (i : Int)) (hi : i < n) {pc : Nat} {Ls : Array Slot} {rest : List Value} (hd : decode c.code pc = .ok (.aastore, 1)) :
    ∃ T' h', Stand p l e R s m args below meth c T' (locs ++ [⟨a, i⟩]) cells slots ∧ T'.heap = h' ∧ Wr h h' a i v ∧ Oar Z h' a ty n (fun q => if q = i then v else f q) ∧ ∀ t, Steps p.tables e below (T'.setTop (mkF m (pc + 1) Ls rest)) t → Steps p.tables e below (T.setTop (mkF m pc Ls (v :: .int j :: .ref a :: rest))) t := by
  obtain ⟨cl, A', h1, h2⟩ := A.at hj hi
  obtain ⟨T', h', X', e', W, st⟩ := stR X hx hZ eT A' (j := j) h1 ht F (g := mkF m pc Ls (v :: .int j :: .ref a :: rest)) rfl rfl hd
  rw [(own_cl hj).2] at X' W
  exact ⟨T', h', X', e', W, A.set W, st⟩
theorem own_pref {F : Nat → Value} {d : Value} {i j : Nat} : (if j = i then F i else if j < i then F j else d) = if j < i + 1 then F j else d := by
  by_cases u : j = i
  · subst u; simp
  · rw [if_neg u]
    by_cases w : j < i
    · rw [if_pos w, if_pos (by omega)]
    · rw [if_neg w, if_neg (by omega)]
/-! numbers: comparisons by their values -/
theorem o_lt {x y : Int64} (q : x.toInt < y.toInt) : lcmpW x y < (0 : Int32) := (lw_lt _ _).mpr (Int64.lt_iff_toInt_lt.mpr q)
theorem o_nlt {x y : Int64} (q : y.toInt ≤ x.toInt) : ¬ (lcmpW x y < (0 : Int32)) := fun u => by have := Int64.lt_iff_toInt_lt.mp ((lw_lt _ _).mp u); omega
theorem o_gt {x y : Int64} (q : y.toInt < x.toInt) : (0 : Int32) < lcmpW x y := (lw_gt _ _).mpr (Int64.lt_iff_toInt_lt.mpr q)
theorem o_ngt {x y : Int64} (q : x.toInt ≤ y.toInt) : ¬ ((0 : Int32) < lcmpW x y) := fun u => by have := Int64.lt_iff_toInt_lt.mp ((lw_gt _ _).mp u); omega
theorem o_eq {x y : Int64} (q : x.toInt = y.toInt) : lcmpW x y = (0 : Int32) := (lw_eq _ _).mpr (Int64.toInt_inj.mp q)
theorem o_ne {x y : Int64} (q : x.toInt ≠ y.toInt) : ¬ (lcmpW x y = (0 : Int32)) := fun u => q (congrArg Int64.toInt ((lw_eq _ _).mp u))
theorem i_lt {x y : Int32} (q : x.toInt < y.toInt) : x < y := Int32.lt_iff_toInt_lt.mpr q
theorem i_nlt {x y : Int32} (q : y.toInt ≤ x.toInt) : ¬ (x < y) := fun u => by have := Int32.lt_iff_toInt_lt.mp u; omega
theorem i_eq {x y : Int32} (q : x.toInt = y.toInt) : x = y := Int32.toInt_inj.mp q
theorem i_ne {x y : Int32} (q : x.toInt ≠ y.toInt) : ¬ (x = y) := fun u => q (congrArg Int32.toInt u)
theorem i_lt' {x y : Int32} (q : x < y) : x.toInt < y.toInt := Int32.lt_iff_toInt_lt.mp q
theorem i_nlt' {x y : Int32} (q : ¬ (x < y)) : y.toInt ≤ x.toInt := by rw [Int32.lt_iff_toInt_lt] at q; omega
end Own2
theorem pd_0 : parseMethodDescriptor "(I)V" = some ⟨[.int], none⟩ := by decide +kernel
theorem pd_1 : parseMethodDescriptor "(ID)V" = some ⟨[.int, .double], none⟩ := by decide +kernel
theorem pd_2 : parseMethodDescriptor "()V" = some ⟨[], none⟩ := by decide +kernel
theorem pd_3 : parseMethodDescriptor "()I" = some ⟨[], some .int⟩ := by decide +kernel
theorem pd_4 : parseMethodDescriptor "(I)D" = some ⟨[.int], some .double⟩ := by decide +kernel
theorem pd_5 : parseMethodDescriptor "(I)I" = some ⟨[.int], some .int⟩ := by decide +kernel
theorem pd_6 : parseMethodDescriptor "(Lcom/example/depister/depister/core/model/Accumulator;IDI)V" = some ⟨[(.object "com/example/depister/depister/core/model/Accumulator"), .int, .double, .int], none⟩ := by decide +kernel
theorem pn_0 : plainName "com/example/depister/depister/core/model/Accumulator" = true := by first | (simp [plainName, overriddenIn]; done) | decide +kernel
theorem pn_1 : plainName "com/example/depister/depister/core/model/AccumulatorClearPinLaw" = true := by first | (simp [plainName, overriddenIn]; done) | decide +kernel

/-! ## The accumulator as it stands in a heap, and what is known of its numbers -/
def Acc (Z : State) (h : Heap) (a sc li dc : Addr) (n : Nat) (dn : Nat → Nat) (fl : Nat → Int32) (w : Nat → Int64) : Prop :=
  Exa Z h a "com/example/depister/depister/core/model/Accumulator" ∧ Fld Z h a "com/example/depister/depister/core/model/Accumulator" "scores" "[D" (.ref sc) ∧ Fld Z h a "com/example/depister/depister/core/model/Accumulator" "listed" "[Z" (.ref li) ∧ Fld Z h a "com/example/depister/depister/core/model/Accumulator" "documents" "[I" (.ref dc) ∧ Fld Z h a "com/example/depister/depister/core/model/Accumulator" "count" "I" (.int (Int32.ofNat n)) ∧
  Oar Z h sc .double 4 (fun q => .double (FP.l2d (w q))) ∧ Oar Z h li .boolean 4 (fun q => .int (fl q)) ∧ Oar Z h dc .int 4 (fun q => .int (Int32.ofNat (dn q)))
def AccN (n0 : Nat) (a sc li dc : Addr) : Prop := (a ≠ sc ∧ a ≠ li ∧ a ≠ dc ∧ sc ≠ li ∧ sc ≠ dc ∧ li ≠ dc) ∧ n0 ≤ a ∧ n0 ≤ sc ∧ n0 ≤ li ∧ n0 ≤ dc
/-- lo: from which place on the listed documents are still listed -/
def AccI (lo n : Nat) (dn : Nat → Nat) (fl : Nat → Int32) (w : Nat → Int64) (M : Int) : Prop :=
  (∀ i, i < n → dn i < 4) ∧ (∀ j, j < 4 → fl j = 0 ∨ ∃ i, lo ≤ i ∧ i < n ∧ dn i = j) ∧ (∀ j, j < 4 → fl j = 0 → w j = 0) ∧ ∀ j, j < 4 → -M ≤ (w j).toInt ∧ (w j).toInt ≤ M
theorem Acc.keep {Z : State} {h h' : Heap} {a sc li dc : Addr} {n : Nat} {dn : Nat → Nat} {fl : Nat → Int32} {w : Nat → Int64} (A : Acc Z h a sc li dc n dn fl w) (K : Keep h h' []) : Acc Z h' a sc li dc n dn fl w := by
  obtain ⟨h1, h2, h3, h4, h5, h6, h7, h8⟩ := A
  exact ⟨h1.keep K, h2.keep K nin0, h3.keep K nin0, h4.keep K nin0, h5.keep K nin0, h6.keep K nin0, h7.keep K nin0, h8.keep K nin0⟩
theorem own_n32 {n : Nat} (h : n < 100) : (Int32.ofNat n).toInt = (n : Int) := Int32.toInt_ofNat_small (by omega)
theorem own_add {p q : Int32} (h1 : -2147483648 ≤ p.toInt + q.toInt) (h2 : p.toInt + q.toInt < 2147483648) : (p + q).toInt = p.toInt + q.toInt := by
  have := c_iadd p q; have := rng32 (p + q); omega
theorem own_succ {n : Nat} (h : n < 50) : Int32.ofNat n + 1 = Int32.ofNat (n + 1) := Int32.toInt_inj.mp (by
  have e1 : (1 : Int32).toInt = 1 := rfl
  rw [own_add (by rw [own_n32 (by omega), e1]; omega) (by rw [own_n32 (by omega), e1]; omega), own_n32 (by omega), own_n32 (by omega), e1]; omega)
theorem own_and3 (x : Int32) : ∃ d : Nat, (x &&& 3) = Int32.ofNat d ∧ d < 4 := by
  have h := c_and x 3 (by decide)
  have e3 : (3 : Int32).toInt = 3 := rfl
  refine ⟨(x &&& 3).toInt.toNat, Int32.toInt_inj.mp ?_, by omega⟩
  rw [own_n32 (by omega)]; omega
theorem own_b {a : Int64} (h1 : -8589934592 ≤ a.toInt) (h2 : a.toInt ≤ 8589934592) : B53 a := ⟨by omega, by omega⟩
theorem own_lsum {a b : Int64} (h1 : -8589934592 ≤ a.toInt) (h2 : a.toInt ≤ 8589934592) (h3 : -2147483648 ≤ b.toInt) (h4 : b.toInt ≤ 2147483648) : (a + b).toInt = a.toInt + b.toInt := by
  have := c_ladd a b; have := rng64 (a + b); omega
/-- list(d) where d isn't listed -/
theorem own_listI {lo n : Nat} {dn : Nat → Nat} {fl fl' : Nat → Int32} {dn' : Nat → Nat} {w : Nat → Int64} {M : Int} {d : Nat} (I : AccI lo n dn fl w M) (hlo : lo ≤ n) (hd : d < 4) (h1 : fl' d ≠ 0) (h2 : ∀ q, q ≠ d → fl' q = fl q) (h3 : dn' n = d) (h4 : ∀ q, q ≠ n → dn' q = dn q) (h5 : fl d = 0) : AccI lo (n + 1) dn' fl' w M := by
  obtain ⟨i1, i2, i3, i4⟩ := I
  refine ⟨fun i hi => ?_, fun j hj => ?_, fun j hj hf => ?_, i4⟩
  · by_cases u : i = n
    · rw [u, h3]; exact hd
    · rw [h4 i u]; exact i1 i (by omega)
  · by_cases u : j = d
    · exact Or.inr ⟨n, hlo, by omega, by rw [h3, u]⟩
    · rw [h2 j u]
      rcases i2 j hj with e | ⟨i, e1, e2, e3⟩
      · exact Or.inl e
      · exact Or.inr ⟨i, e1, by omega, by rw [h4 i (by omega)]; exact e3⟩
  · by_cases u : j = d
    · exact absurd (u ▸ hf) h1
    · exact i3 j hj (by rw [← h2 j u]; exact hf)
/-- a score changes at a listed place -/
theorem own_scoreI {lo n : Nat} {dn : Nat → Nat} {fl : Nat → Int32} {w w' : Nat → Int64} {M M' : Int} {d : Nat} (I : AccI lo n dn fl w M) (h1 : fl d ≠ 0) (h2 : ∀ q, q ≠ d → w' q = w q) (h3 : -M' ≤ (w' d).toInt ∧ (w' d).toInt ≤ M') (h4 : M ≤ M') : AccI lo n dn fl w' M' := by
  obtain ⟨i1, i2, i3, i4⟩ := I
  refine ⟨i1, i2, fun j hj hf => ?_, fun j hj => ?_⟩
  · by_cases u : j = d
    · exact absurd (u ▸ hf) h1
    · rw [h2 j u]; exact i3 j hj hf
  · by_cases u : j = d
    · rw [u]; exact h3
    · rw [h2 j u]; have := i4 j hj; omega
/-- one turn of clear -/
theorem own_clearI {i n : Nat} {dn : Nat → Nat} {fl fl' : Nat → Int32} {w w' : Nat → Int64} {M : Int} (I : AccI i n dn fl w M) (hM : 0 ≤ M) (h1 : w' (dn i) = 0) (h2 : ∀ q, q ≠ dn i → w' q = w q) (h3 : fl' (dn i) = 0) (h4 : ∀ q, q ≠ dn i → fl' q = fl q) : AccI (i + 1) n dn fl' w' M := by
  obtain ⟨i1, i2, i3, i4⟩ := I
  refine ⟨i1, fun j hj => ?_, fun j hj hf => ?_, fun j hj => ?_⟩
  · by_cases u : j = dn i
    · exact Or.inl (u ▸ h3)
    · rw [h4 j u]
      rcases i2 j hj with e | ⟨k, e1, e2, e3⟩
      · exact Or.inl e
      · exact Or.inr ⟨k, (Decidable.em (k = i)).elim (fun z => absurd (by rw [← e3, z]) u) (fun z => by omega), e2, e3⟩
  · by_cases u : j = dn i
    · rw [u, h1]
    · rw [h2 j u]; exact i3 j hj (by rw [← h4 j u]; exact hf)
  · by_cases u : j = dn i
    · rw [u, h1]; exact ⟨by show -M ≤ (0 : Int); omega, by show (0 : Int) ≤ M; omega⟩
    · rw [h2 j u]; exact i4 j hj
theorem own_ist {Z : State} {h : Heap} {a : Addr} {n i : Nat} {x : Int32} {g : Nat → Int32} {ty : FieldType} (A : Oar Z h a ty n (fun q => if q = i then .int x else .int (g q))) : ∃ g' : Nat → Int32, Oar Z h a ty n (fun q => .int (g' q)) ∧ g' i = x ∧ ∀ q, q ≠ i → g' q = g q :=
  ⟨fun q => if q = i then x else g q, A.cast (fun j _ => by by_cases u : j = i <;> simp [u]), by simp, fun q u => by simp [u]⟩
theorem own_nst {Z : State} {h : Heap} {a : Addr} {n i d : Nat} {g : Nat → Nat} (A : Oar Z h a .int n (fun q => if q = i then .int (Int32.ofNat d) else .int (Int32.ofNat (g q)))) : ∃ g' : Nat → Nat, Oar Z h a .int n (fun q => .int (Int32.ofNat (g' q))) ∧ g' i = d ∧ ∀ q, q ≠ i → g' q = g q :=
  ⟨fun q => if q = i then d else g q, A.cast (fun j _ => by by_cases u : j = i <;> simp [u]), by simp, fun q u => by simp [u]⟩
theorem own_dst {Z : State} {h : Heap} {a : Addr} {n i : Nat} {x : Int64} {g : Nat → Int64} (A : Oar Z h a .double n (fun q => if q = i then .double (FP.l2d x) else .double (FP.l2d (g q)))) : ∃ g' : Nat → Int64, Oar Z h a .double n (fun q => .double (FP.l2d (g' q))) ∧ g' i = x ∧ ∀ q, q ≠ i → g' q = g q :=
  ⟨fun q => if q = i then x else g q, A.cast (fun j _ => by by_cases u : j = i <;> simp [u]), by simp, fun q u => by simp [u]⟩
theorem d7_0 : decode prog_25_method_4_code 0 = .ok (.aload_n 0, 1) := by decide +kernel
theorem d7_1 : decode prog_25_method_4_code 1 = .ok (.getfield 13, 3) := by decide +kernel
theorem d7_4 : decode prog_25_method_4_code 4 = .ok (.iload_n 1, 1) := by decide +kernel
theorem d7_5 : decode prog_25_method_4_code 5 = .ok (.baload, 1) := by decide +kernel
theorem d7_6 : decode prog_25_method_4_code 6 = .ok (.ifCond .ne 27, 3) := by decide +kernel
theorem d7_9 : decode prog_25_method_4_code 9 = .ok (.aload_n 0, 1) := by decide +kernel
theorem d7_10 : decode prog_25_method_4_code 10 = .ok (.getfield 13, 3) := by decide +kernel
theorem d7_13 : decode prog_25_method_4_code 13 = .ok (.iload_n 1, 1) := by decide +kernel
theorem d7_14 : decode prog_25_method_4_code 14 = .ok (.iconst 1, 1) := by decide +kernel
theorem d7_15 : decode prog_25_method_4_code 15 = .ok (.bastore, 1) := by decide +kernel
theorem d7_16 : decode prog_25_method_4_code 16 = .ok (.aload_n 0, 1) := by decide +kernel
theorem d7_17 : decode prog_25_method_4_code 17 = .ok (.getfield 17, 3) := by decide +kernel
theorem d7_20 : decode prog_25_method_4_code 20 = .ok (.aload_n 0, 1) := by decide +kernel
theorem d7_21 : decode prog_25_method_4_code 21 = .ok (.dup, 1) := by decide +kernel
theorem d7_22 : decode prog_25_method_4_code 22 = .ok (.getfield 25, 3) := by decide +kernel
theorem d7_25 : decode prog_25_method_4_code 25 = .ok (.dup_x1, 1) := by decide +kernel
theorem d7_26 : decode prog_25_method_4_code 26 = .ok (.iconst 1, 1) := by decide +kernel
theorem d7_27 : decode prog_25_method_4_code 27 = .ok (.iadd, 1) := by decide +kernel
theorem d7_28 : decode prog_25_method_4_code 28 = .ok (.putfield 25, 3) := by decide +kernel
theorem d7_31 : decode prog_25_method_4_code 31 = .ok (.iload_n 1, 1) := by decide +kernel
theorem d7_32 : decode prog_25_method_4_code 32 = .ok (.iastore, 1) := by decide +kernel
theorem d7_33 : decode prog_25_method_4_code 33 = .ok (.return_, 1) := by decide +kernel
set_option maxRecDepth 65536 in
set_option maxHeartbeats 40000000 in
theorem rm_ls {l : Launch} {Z : State} {a0 : Array Value} (hw : ∀ d ∈ tables_1, d.before a0 Z = true) (a sc li dc : Addr) (n : Nat) (dn : Nat → Nat) (fl : Nat → Int32) (w : Nat → Int64) (d lo : Nat) (M : Int) (h0 : Heap) (n0 : Nat) (HA : Acc Z h0 a sc li dc n dn fl w) (HN : AccN n0 a sc li dc) (HI : AccI lo n dn fl w M) (hd : d < 4) (hn : n < 4) (hlo : lo ≤ n) :
    Opays l (⟨"com/example/depister/depister/core/model/Accumulator", "list", "(I)V"⟩ : MethodName) prog_25_method_4_code 2 none ({ frames := 0, cells := 0, slots := 0, locals := 0 } : Room) [] Z h0 #[(.ref a), (.int (Int32.ofNat d))] (fun v h L => v = none ∧ Fr n0 L ∧ Keep h0 h [a, li, dc] ∧ ∃ n' dn' fl', Acc Z h a sc li dc n' dn' fl' w ∧ AccI lo n' dn' fl' w M ∧ n' ≤ n + 1 ∧ n ≤ n' ∧ fl' d ≠ 0 ∧ (fl d = 0 → n' = n + 1 ∧ dn' n = d)) := by
  refine own_enter (plainFor_of_name pn_0) ?_
  intro p e s m below meth c s₁ hx hby hml0 hown hnm hret hlk hZ e0 X0
  have hml : c.maxLocals = 2 := hml0
  replace hown : s.vm.findClass "com/example/depister/depister/core/model/Accumulator" = some m.cls := hown
  have N := Fr.nil n0
  have hef : entryFrame m #[(.ref a), (.int (Int32.ofNat d))] 2 = mkF m 0 #[.val (.ref a), .val (.int (Int32.ofNat d))] [] := by first | (simp [entryFrame, mkF, argsToLocals, Value.category]; done) | rfl
  rw [hef]
  show Ogo p e below _ (s₁.setTop (mkF m 0 #[.val (.ref a), .val (.int (Int32.ofNat d))] []))
  obtain ⟨E_a, F_scores_a, F_listed_a, F_documents_a, F_count_a, A_sc, A_li, A_dc⟩ := HA
  obtain ⟨⟨ne1, ne2, ne3, ne4, ne5, ne6⟩, g_a, g_sc, g_li, g_dc⟩ := id HN
  have K := Keep.refl h0 [a, li, dc]
  refine own_via (fun tq kq => XS.aloadN X0.here hx rfl (hb hby d7_0) rfl rfl kq) ?_
  show Ogo p e below _ (s₁.setTop (mkF m 1 #[.val (.ref a), .val (.int (Int32.ofNat d))] [(.ref a)]))
  obtain ⟨T1, X1, e1, st1⟩ := getF X0 hx hZ hown (host := "") (Or.inl (hw _ (List.mem_of_getElem? (i := 13) rfl))) Via.refl e0 F_listed_a (g := (mkF m 1 #[.val (.ref a), .val (.int (Int32.ofNat d))] [(.ref a)])) rfl rfl (hb hby d7_1)
  refine own_via st1 ?_
  show Ogo p e below _ (T1.setTop (mkF m 4 #[.val (.ref a), .val (.int (Int32.ofNat d))] [(.ref li)]))
  refine own_via (fun tq kq => XS.iloadN X1.here hx rfl (hb hby d7_4) rfl kq) ?_
  show Ogo p e below _ (T1.setTop (mkF m 5 #[.val (.ref a), .val (.int (Int32.ofNat d))] [(.int (Int32.ofNat d)), (.ref li)]))
  refine own_zald X1 hx hZ e1 A_li (j := (Int32.ofNat d)) (i := d) (v := (.int (fl d))) (own_n32 (by omega)) hd rfl (hb hby d7_5) ?_
  show Ogo p e below _ (T1.setTop (mkF m 6 #[.val (.ref a), .val (.int (Int32.ofNat d))] [(.int (fl d))]))
  by_cases hc6 : (fl d) = (0 : Int32)
  · refine own_via (fun tq kq => XS.ifNo X1.here hx rfl (hb hby d7_6) rfl ((if0 _ _).trans (teq (hc6 : (fl d) = (0 : Int32))).2) kq) ?_
    show Ogo p e below _ (T1.setTop (mkF m 9 #[.val (.ref a), .val (.int (Int32.ofNat d))] []))
    refine own_via (fun tq kq => XS.aloadN X1.here hx rfl (hb hby d7_9) rfl rfl kq) ?_
    show Ogo p e below _ (T1.setTop (mkF m 10 #[.val (.ref a), .val (.int (Int32.ofNat d))] [(.ref a)]))
    obtain ⟨T2, X2, e2, st2⟩ := getF X1 hx hZ hown (host := "") (Or.inl (hw _ (List.mem_of_getElem? (i := 13) rfl))) Via.refl e1 F_listed_a (g := (mkF m 10 #[.val (.ref a), .val (.int (Int32.ofNat d))] [(.ref a)])) rfl rfl (hb hby d7_10)
    refine own_via st2 ?_
    show Ogo p e below _ (T2.setTop (mkF m 13 #[.val (.ref a), .val (.int (Int32.ofNat d))] [(.ref li)]))
    refine own_via (fun tq kq => XS.iloadN X2.here hx rfl (hb hby d7_13) rfl kq) ?_
    show Ogo p e below _ (T2.setTop (mkF m 14 #[.val (.ref a), .val (.int (Int32.ofNat d))] [(.int (Int32.ofNat d)), (.ref li)]))
    refine own_via (fun tq kq => XS.iconst X2.here hx rfl (hb hby d7_14) kq) ?_
    show Ogo p e below _ (T2.setTop (mkF m 15 #[.val (.ref a), .val (.int (Int32.ofNat d))] [(.int (1 : Int32)), (.int (Int32.ofNat d)), (.ref li)]))
    obtain ⟨T3, h3, X3, e3, W3, A_li', st3⟩ := own_zast X2 hx hZ e2 A_li (x := (1 : Int32)) (j := (Int32.ofNat d)) (i := d) (own_n32 (by omega)) hd (pc := 15) (Ls := #[.val (.ref a), .val (.int (Int32.ofNat d))]) (rest := []) (hb hby d7_15)
    refine own_via st3 ?_
    have E_a := E_a.wr W3
    have F_scores_a := F_scores_a.other W3 (Or.inl ne2)
    have F_listed_a := F_listed_a.other W3 (Or.inl ne2)
    have F_documents_a := F_documents_a.other W3 (Or.inl ne2)
    have F_count_a := F_count_a.other W3 (Or.inl ne2)
    have A_sc := A_sc.other W3 ne4
    have A_dc := A_dc.other W3 (Ne.symm ne6)
    have K := K.wr W3 (Or.inl (List.mem_of_getElem? (i := 1) rfl))
    have N := Fr.snoc X3 N g_li
    have A_li := A_li'
    show Ogo p e below _ (T3.setTop (mkF m 16 #[.val (.ref a), .val (.int (Int32.ofNat d))] []))
    obtain ⟨fl', A_li, k1, k2⟩ := own_ist A_li
    refine own_via (fun tq kq => XS.aloadN X3.here hx rfl (hb hby d7_16) rfl rfl kq) ?_
    show Ogo p e below _ (T3.setTop (mkF m 17 #[.val (.ref a), .val (.int (Int32.ofNat d))] [(.ref a)]))
    obtain ⟨T4, X4, e4, st4⟩ := getF X3 hx hZ hown (host := "") (Or.inl (hw _ (List.mem_of_getElem? (i := 16) rfl))) Via.refl e3 F_documents_a (g := (mkF m 17 #[.val (.ref a), .val (.int (Int32.ofNat d))] [(.ref a)])) rfl rfl (hb hby d7_17)
    refine own_via st4 ?_
    show Ogo p e below _ (T4.setTop (mkF m 20 #[.val (.ref a), .val (.int (Int32.ofNat d))] [(.ref dc)]))
    refine own_via (fun tq kq => XS.aloadN X4.here hx rfl (hb hby d7_20) rfl rfl kq) ?_
    show Ogo p e below _ (T4.setTop (mkF m 21 #[.val (.ref a), .val (.int (Int32.ofNat d))] [(.ref a), (.ref dc)]))
    refine own_via (fun tq kq => XS.dup X4.here hx rfl (hb hby d7_21) rfl rfl kq) ?_
    show Ogo p e below _ (T4.setTop (mkF m 22 #[.val (.ref a), .val (.int (Int32.ofNat d))] [(.ref a), (.ref a), (.ref dc)]))
    obtain ⟨T5, X5, e5, st5⟩ := getF X4 hx hZ hown (host := "") (Or.inl (hw _ (List.mem_of_getElem? (i := 23) rfl))) Via.refl e4 F_count_a (g := (mkF m 22 #[.val (.ref a), .val (.int (Int32.ofNat d))] [(.ref a), (.ref a), (.ref dc)])) rfl rfl (hb hby d7_22)
    refine own_via st5 ?_
    show Ogo p e below _ (T5.setTop (mkF m 25 #[.val (.ref a), .val (.int (Int32.ofNat d))] [(.int (Int32.ofNat n)), (.ref a), (.ref dc)]))
    refine own_via (fun tq kq => XS.dupX1 X5.here hx rfl (hb hby d7_25) rfl rfl rfl kq) ?_
    show Ogo p e below _ (T5.setTop (mkF m 26 #[.val (.ref a), .val (.int (Int32.ofNat d))] [(.int (Int32.ofNat n)), (.ref a), (.int (Int32.ofNat n)), (.ref dc)]))
    refine own_via (fun tq kq => XS.iconst X5.here hx rfl (hb hby d7_26) kq) ?_
    show Ogo p e below _ (T5.setTop (mkF m 27 #[.val (.ref a), .val (.int (Int32.ofNat d))] [(.int (1 : Int32)), (.int (Int32.ofNat n)), (.ref a), (.int (Int32.ofNat n)), (.ref dc)]))
    refine own_via (fun tq kq => XS.iadd X5.here hx rfl (hb hby d7_27) rfl kq) ?_
    show Ogo p e below _ (T5.setTop (mkF m 28 #[.val (.ref a), .val (.int (Int32.ofNat d))] [(.int ((Int32.ofNat n) + (1 : Int32))), (.ref a), (.int (Int32.ofNat n)), (.ref dc)]))
    rw [own_succ (by omega)]
    show Ogo p e below _ (T5.setTop (mkF m 28 #[.val (.ref a), .val (.int (Int32.ofNat d))] [(.int (Int32.ofNat (n + 1))), (.ref a), (.int (Int32.ofNat n)), (.ref dc)]))
    obtain ⟨T6, h6, X6, e6, W6, st6⟩ := putF X5 hx hZ hown (host := "") (Or.inl (hw _ (List.mem_of_getElem? (i := 23) rfl))) Via.refl e5 F_count_a E_a (Or.inl (hw _ (List.mem_of_getElem? (i := 24) rfl))) (hw _ (List.mem_of_getElem? (i := 1) rfl)) (ty := .int) (by decide) rfl rfl (g := (mkF m 28 #[.val (.ref a), .val (.int (Int32.ofNat d))] [(.int (Int32.ofNat (n + 1))), (.ref a), (.int (Int32.ofNat n)), (.ref dc)])) rfl rfl (hb hby d7_28)
    refine own_via st6 ?_
    have E_a := E_a.wr W6
    have F_scores_a := F_scores_a.other W6 (Or.inr (slot_ne (Or.inr (hw _ (List.mem_of_getElem? (i := 11) rfl))) (Or.inl (hw _ (List.mem_of_getElem? (i := 24) rfl))) (by decide) (t := (.array .double)) (t' := .int) (by decide) (by decide)))
    have F_listed_a := F_listed_a.other W6 (Or.inr (slot_ne (Or.inr (hw _ (List.mem_of_getElem? (i := 14) rfl))) (Or.inl (hw _ (List.mem_of_getElem? (i := 24) rfl))) (by decide) (t := (.array .boolean)) (t' := .int) (by decide) (by decide)))
    have F_documents_a := F_documents_a.other W6 (Or.inr (slot_ne (Or.inr (hw _ (List.mem_of_getElem? (i := 17) rfl))) (Or.inl (hw _ (List.mem_of_getElem? (i := 24) rfl))) (by decide) (t := (.array .int)) (t' := .int) (by decide) (by decide)))
    have F_count_a := F_count_a.same W6
    have A_sc := A_sc.other W6 (Ne.symm ne1)
    have A_li := A_li.other W6 (Ne.symm ne2)
    have A_dc := A_dc.other W6 (Ne.symm ne3)
    have K := K.wr W6 (Or.inl (List.mem_of_getElem? (i := 0) rfl))
    have N := Fr.snoc X6 N g_a
    show Ogo p e below _ (T6.setTop (mkF m 31 #[.val (.ref a), .val (.int (Int32.ofNat d))] [(.int (Int32.ofNat n)), (.ref dc)]))
    refine own_via (fun tq kq => XS.iloadN X6.here hx rfl (hb hby d7_31) rfl kq) ?_
    show Ogo p e below _ (T6.setTop (mkF m 32 #[.val (.ref a), .val (.int (Int32.ofNat d))] [(.int (Int32.ofNat d)), (.int (Int32.ofNat n)), (.ref dc)]))
    obtain ⟨T7, h7, X7, e7, W7, A_dc', st7⟩ := own_iast X6 hx hZ e6 A_dc (x := (Int32.ofNat d)) (j := (Int32.ofNat n)) (i := n) (own_n32 (by omega)) hn (pc := 32) (Ls := #[.val (.ref a), .val (.int (Int32.ofNat d))]) (rest := []) (hb hby d7_32)
    refine own_via st7 ?_
    have E_a := E_a.wr W7
    have F_scores_a := F_scores_a.other W7 (Or.inl ne3)
    have F_listed_a := F_listed_a.other W7 (Or.inl ne3)
    have F_documents_a := F_documents_a.other W7 (Or.inl ne3)
    have F_count_a := F_count_a.other W7 (Or.inl ne3)
    have A_sc := A_sc.other W7 ne5
    have A_li := A_li.other W7 ne6
    have K := K.wr W7 (Or.inl (List.mem_of_getElem? (i := 2) rfl))
    have N := Fr.snoc X7 N g_dc
    have A_dc := A_dc'
    show Ogo p e below _ (T7.setTop (mkF m 33 #[.val (.ref a), .val (.int (Int32.ofNat d))] []))
    obtain ⟨dn', A_dc, k3, k4⟩ := own_nst A_dc
    have k5 : fl' d ≠ 0 := by rw [k1]; decide
    exact own_out X7 hlk (fun _ => rfl) (by decide) (by decide) (by first | exact ⟨rfl, N, K, n + 1, dn', fl', ⟨E_a, F_scores_a, F_listed_a, F_documents_a, F_count_a, A_sc, A_li, A_dc⟩, own_listI HI hlo hd k5 k2 k3 k4 hc6, by omega, by omega, k5, fun _ => ⟨rfl, k3⟩⟩ | (rw [e7]; exact ⟨rfl, N, K, n + 1, dn', fl', ⟨E_a, F_scores_a, F_listed_a, F_documents_a, F_count_a, A_sc, A_li, A_dc⟩, own_listI HI hlo hd k5 k2 k3 k4 hc6, by omega, by omega, k5, fun _ => ⟨rfl, k3⟩⟩)) (fun fs hr => X7.returnOut hx hret (hb hby d7_33) hr)
  · refine own_via (fun tq kq => XS.ifYes X1.here hx rfl (pc0 := 6) (pc' := 33) rfl (hb hby d7_6) rfl ((if0 _ _).trans (feq (hc6 : ¬ ((fl d) = (0 : Int32)))).2) (by decide) (by decide) kq) ?_
    show Ogo p e below _ (T1.setTop (mkF m 33 #[.val (.ref a), .val (.int (Int32.ofNat d))] []))
    exact own_out X1 hlk (fun _ => rfl) (by decide) (by decide) (by first | exact ⟨rfl, N, K, n, dn, fl, ⟨E_a, F_scores_a, F_listed_a, F_documents_a, F_count_a, A_sc, A_li, A_dc⟩, HI, by omega, by omega, hc6, fun z => absurd z hc6⟩ | (rw [e1]; exact ⟨rfl, N, K, n, dn, fl, ⟨E_a, F_scores_a, F_listed_a, F_documents_a, F_count_a, A_sc, A_li, A_dc⟩, HI, by omega, by omega, hc6, fun z => absurd z hc6⟩)) (fun fs hr => X1.returnOut hx hret (hb hby d7_33) hr)
theorem d6_0 : decode prog_25_method_2_code 0 = .ok (.aload_n 0, 1) := by decide +kernel
theorem d6_1 : decode prog_25_method_2_code 1 = .ok (.iload_n 1, 1) := by decide +kernel
theorem d6_2 : decode prog_25_method_2_code 2 = .ok (.invokevirtual 21, 3) := by decide +kernel
theorem d6_5 : decode prog_25_method_2_code 5 = .ok (.aload_n 0, 1) := by decide +kernel
theorem d6_6 : decode prog_25_method_2_code 6 = .ok (.getfield 7, 3) := by decide +kernel
theorem d6_9 : decode prog_25_method_2_code 9 = .ok (.iload_n 1, 1) := by decide +kernel
theorem d6_10 : decode prog_25_method_2_code 10 = .ok (.dup2, 1) := by decide +kernel
theorem d6_11 : decode prog_25_method_2_code 11 = .ok (.daload, 1) := by decide +kernel
theorem d6_12 : decode prog_25_method_2_code 12 = .ok (.dload_n 2, 1) := by decide +kernel
theorem d6_13 : decode prog_25_method_2_code 13 = .ok (.dadd, 1) := by decide +kernel
theorem d6_14 : decode prog_25_method_2_code 14 = .ok (.dastore, 1) := by decide +kernel
theorem d6_15 : decode prog_25_method_2_code 15 = .ok (.return_, 1) := by decide +kernel
set_option maxRecDepth 65536 in
set_option maxHeartbeats 40000000 in
theorem rm_ad {l : Launch} {Z : State} {a0 : Array Value} (hw : ∀ d ∈ tables_1, d.before a0 Z = true) (a sc li dc : Addr) (n : Nat) (dn : Nat → Nat) (fl : Nat → Int32) (w : Nat → Int64) (d lo : Nat) (M : Int) (xv : Int64) (h0 : Heap) (n0 : Nat) (HA : Acc Z h0 a sc li dc n dn fl w) (HN : AccN n0 a sc li dc) (HI : AccI lo n dn fl w M) (hd : d < 4) (hn : n < 4) (hlo : lo ≤ n) (hx1 : -2147483648 ≤ xv.toInt) (hx2 : xv.toInt ≤ 2147483648) (hM0 : 0 ≤ M) (hM : M ≤ 6442450944) :
    Opays l (⟨"com/example/depister/depister/core/model/Accumulator", "add", "(ID)V"⟩ : MethodName) prog_25_method_2_code 4 none ({ frames := 1, cells := 0, slots := 0, locals := 13 } : Room) [] Z h0 #[(.ref a), (.int (Int32.ofNat d)), (.double (FP.l2d xv))] (fun v h L => v = none ∧ Fr n0 L ∧ Keep h0 h [a, li, dc, sc] ∧ ∃ n' dn' fl' w', Acc Z h a sc li dc n' dn' fl' w' ∧ AccI lo n' dn' fl' w' (M + 2147483648) ∧ n' ≤ n + 1 ∧ n ≤ n' ∧ (fl d = 0 → n' = n + 1 ∧ dn' n = d)) := by
  refine own_enter (plainFor_of_name pn_0) ?_
  intro p e s m below meth c s₁ hx hby hml0 hown hnm hret hlk hZ e0 X0
  have hml : c.maxLocals = 4 := hml0
  replace hown : s.vm.findClass "com/example/depister/depister/core/model/Accumulator" = some m.cls := hown
  have N := Fr.nil n0
  have hef : entryFrame m #[(.ref a), (.int (Int32.ofNat d)), (.double (FP.l2d xv))] 4 = mkF m 0 #[.val (.ref a), .val (.int (Int32.ofNat d)), .val (.double (FP.l2d xv)), .second] [] := by first | (simp [entryFrame, mkF, argsToLocals, Value.category]; done) | rfl
  rw [hef]
  show Ogo p e below _ (s₁.setTop (mkF m 0 #[.val (.ref a), .val (.int (Int32.ofNat d)), .val (.double (FP.l2d xv)), .second] []))
  have HA0 := HA
  obtain ⟨E_a, F_scores_a, F_listed_a, F_documents_a, F_count_a, A_sc, A_li, A_dc⟩ := HA
  obtain ⟨⟨ne1, ne2, ne3, ne4, ne5, ne6⟩, g_a, g_sc, g_li, g_dc⟩ := id HN
  have K := Keep.refl h0 [a, li, dc, sc]
  refine own_via (fun tq kq => XS.aloadN X0.here hx rfl (hb hby d6_0) rfl rfl kq) ?_
  show Ogo p e below _ (s₁.setTop (mkF m 1 #[.val (.ref a), .val (.int (Int32.ofNat d)), .val (.double (FP.l2d xv)), .second] [(.ref a)]))
  refine own_via (fun tq kq => XS.iloadN X0.here hx rfl (hb hby d6_1) rfl kq) ?_
  show Ogo p e below _ (s₁.setTop (mkF m 2 #[.val (.ref a), .val (.int (Int32.ofNat d)), .val (.double (FP.l2d xv)), .second] [(.int (Int32.ofNat d)), (.ref a)]))
  refine own_callP X0 hx hZ hown (hw _ (List.mem_of_getElem? (i := 40) rfl)) (hw _ (List.mem_of_getElem? (i := 41) rfl)) (hw _ (List.mem_of_getElem? (i := 42) rfl)) (hw _ (List.mem_of_getElem? (i := 2) rfl)) (hw _ (List.mem_of_getElem? (i := 1) rfl)) (hw _ (List.mem_of_getElem? (i := 43) rfl)) (by decide) (rm_ls hw a sc li dc n dn fl w d lo M h0 n0 HA0 HN HI hd hn hlo) rfl e0 E_a (W := 0) (by decide) (by decide) (by decide) (by decide) (by rw [hml]; rfl) (b := a) (argsL := [(.int (Int32.ofNat d))]) (rest := []) (lenOf pd_0 rfl) rfl (Nat.le_of_eq rfl) (hb hby d6_2) ?_
  rintro _ T1 L1 X1 ⟨rfl, Nq, Kc, n', dn', fl', HA', HI', hn1, hn2, hfl, hex⟩
  have N := N.app Nq
  have E_a := E_a.keep Kc
  have A_sc := A_sc.keep Kc (ninS (Ne.symm ne1) (ninS ne4 (ninS ne5 nin0)))
  have K := K.trans Kc (allS (Or.inl (List.mem_of_getElem? (i := 0) rfl)) (allS (Or.inl (List.mem_of_getElem? (i := 1) rfl)) (allS (Or.inl (List.mem_of_getElem? (i := 2) rfl)) all0)))
  show Ogo p e below _ (T1.setTop (mkF m 5 #[.val (.ref a), .val (.int (Int32.ofNat d)), .val (.double (FP.l2d xv)), .second] []))
  obtain ⟨E_a, F_scores_a, F_listed_a, F_documents_a, F_count_a, A_sc, A_li, A_dc⟩ := HA'
  have hwd := HI'.2.2.2 d hd
  refine own_via (fun tq kq => XS.aloadN X1.here hx rfl (hb hby d6_5) rfl rfl kq) ?_
  show Ogo p e below _ (T1.setTop (mkF m 6 #[.val (.ref a), .val (.int (Int32.ofNat d)), .val (.double (FP.l2d xv)), .second] [(.ref a)]))
  obtain ⟨T2, X2, e2, st2⟩ := getF X1 hx hZ hown (host := "") (Or.inl (hw _ (List.mem_of_getElem? (i := 10) rfl))) Via.refl rfl F_scores_a (g := (mkF m 6 #[.val (.ref a), .val (.int (Int32.ofNat d)), .val (.double (FP.l2d xv)), .second] [(.ref a)])) rfl rfl (hb hby d6_6)
  refine own_via st2 ?_
  show Ogo p e below _ (T2.setTop (mkF m 9 #[.val (.ref a), .val (.int (Int32.ofNat d)), .val (.double (FP.l2d xv)), .second] [(.ref sc)]))
  refine own_via (fun tq kq => XS.iloadN X2.here hx rfl (hb hby d6_9) rfl kq) ?_
  show Ogo p e below _ (T2.setTop (mkF m 10 #[.val (.ref a), .val (.int (Int32.ofNat d)), .val (.double (FP.l2d xv)), .second] [(.int (Int32.ofNat d)), (.ref sc)]))
  refine own_via (fun tq kq => XT.dup2 X2.here hx rfl (hb hby d6_10) rfl rfl rfl kq) ?_
  show Ogo p e below _ (T2.setTop (mkF m 11 #[.val (.ref a), .val (.int (Int32.ofNat d)), .val (.double (FP.l2d xv)), .second] [(.int (Int32.ofNat d)), (.ref sc), (.int (Int32.ofNat d)), (.ref sc)]))
  refine own_dald X2 hx hZ e2 A_sc (j := (Int32.ofNat d)) (i := d) (v := (.double (FP.l2d (w d)))) (own_n32 (by omega)) hd rfl (hb hby d6_11) ?_
  show Ogo p e below _ (T2.setTop (mkF m 12 #[.val (.ref a), .val (.int (Int32.ofNat d)), .val (.double (FP.l2d xv)), .second] [(.double (FP.l2d (w d))), (.int (Int32.ofNat d)), (.ref sc)]))
  refine own_via (fun tq kq => XS.dloadN X2.here hx rfl (hb hby d6_12) rfl kq) ?_
  show Ogo p e below _ (T2.setTop (mkF m 13 #[.val (.ref a), .val (.int (Int32.ofNat d)), .val (.double (FP.l2d xv)), .second] [(.double (FP.l2d xv)), (.double (FP.l2d (w d))), (.int (Int32.ofNat d)), (.ref sc)]))
  refine own_via (fun tq kq => XS.daddS X2.here hx rfl (hb hby d6_13) rfl (nn_w (dadd_w (own_b (by omega) (by omega)) (own_b (by omega) (by omega)))) (dadd_w (own_b (by omega) (by omega)) (own_b (by omega) (by omega))) kq) ?_
  show Ogo p e below _ (T2.setTop (mkF m 14 #[.val (.ref a), .val (.int (Int32.ofNat d)), .val (.double (FP.l2d xv)), .second] [(.double (FP.l2d ((w d) + xv))), (.int (Int32.ofNat d)), (.ref sc)]))
  have hs := own_lsum (a := w d) (b := xv) (by omega) (by omega) hx1 hx2
  obtain ⟨T3, h3, X3, e3, W3, A_sc', st3⟩ := own_dast X2 hx hZ e2 A_sc (x := (FP.l2d ((w d) + xv))) (j := (Int32.ofNat d)) (i := d) (own_n32 (by omega)) hd (pc := 14) (Ls := #[.val (.ref a), .val (.int (Int32.ofNat d)), .val (.double (FP.l2d xv)), .second]) (rest := []) (hb hby d6_14)
  refine own_via st3 ?_
  have E_a := E_a.wr W3
  have F_scores_a := F_scores_a.other W3 (Or.inl ne1)
  have F_listed_a := F_listed_a.other W3 (Or.inl ne1)
  have F_documents_a := F_documents_a.other W3 (Or.inl ne1)
  have F_count_a := F_count_a.other W3 (Or.inl ne1)
  have A_li := A_li.other W3 (Ne.symm ne4)
  have A_dc := A_dc.other W3 (Ne.symm ne5)
  have K := K.wr W3 (Or.inl (List.mem_of_getElem? (i := 3) rfl))
  have N := Fr.snoc X3 N g_sc
  have A_sc := A_sc'
  show Ogo p e below _ (T3.setTop (mkF m 15 #[.val (.ref a), .val (.int (Int32.ofNat d)), .val (.double (FP.l2d xv)), .second] []))
  obtain ⟨w', A_sc, k1, k2⟩ := own_dst A_sc
  exact own_out X3 hlk (fun _ => rfl) (by decide) (by decide) (by first | exact ⟨rfl, N, K, n', dn', fl', w', ⟨E_a, F_scores_a, F_listed_a, F_documents_a, F_count_a, A_sc, A_li, A_dc⟩, own_scoreI HI' hfl k2 (by rw [k1]; exact ⟨by omega, by omega⟩) (by omega), hn1, hn2, hex⟩ | (rw [e3]; exact ⟨rfl, N, K, n', dn', fl', w', ⟨E_a, F_scores_a, F_listed_a, F_documents_a, F_count_a, A_sc, A_li, A_dc⟩, own_scoreI HI' hfl k2 (by rw [k1]; exact ⟨by omega, by omega⟩) (by omega), hn1, hn2, hex⟩)) (fun fs hr => X3.returnOut hx hret (hb hby d6_15) hr)
theorem d10_0 : decode prog_25_method_3_code 0 = .ok (.aload_n 0, 1) := by decide +kernel
theorem d10_1 : decode prog_25_method_3_code 1 = .ok (.iload_n 1, 1) := by decide +kernel
theorem d10_2 : decode prog_25_method_3_code 2 = .ok (.invokevirtual 21, 3) := by decide +kernel
theorem d10_5 : decode prog_25_method_3_code 5 = .ok (.aload_n 0, 1) := by decide +kernel
theorem d10_6 : decode prog_25_method_3_code 6 = .ok (.getfield 7, 3) := by decide +kernel
theorem d10_9 : decode prog_25_method_3_code 9 = .ok (.iload_n 1, 1) := by decide +kernel
theorem d10_10 : decode prog_25_method_3_code 10 = .ok (.dload_n 2, 1) := by decide +kernel
theorem d10_11 : decode prog_25_method_3_code 11 = .ok (.dastore, 1) := by decide +kernel
theorem d10_12 : decode prog_25_method_3_code 12 = .ok (.return_, 1) := by decide +kernel
set_option maxRecDepth 65536 in
set_option maxHeartbeats 40000000 in
theorem rm_se {l : Launch} {Z : State} {a0 : Array Value} (hw : ∀ d ∈ tables_1, d.before a0 Z = true) (a sc li dc : Addr) (n : Nat) (dn : Nat → Nat) (fl : Nat → Int32) (w : Nat → Int64) (d lo : Nat) (M : Int) (xv : Int64) (h0 : Heap) (n0 : Nat) (HA : Acc Z h0 a sc li dc n dn fl w) (HN : AccN n0 a sc li dc) (HI : AccI lo n dn fl w M) (hd : d < 4) (hn : n < 4) (hlo : lo ≤ n) (hx1 : -2147483648 ≤ xv.toInt) (hx2 : xv.toInt ≤ 2147483648) (hM0 : 0 ≤ M) (hM : M ≤ 6442450944) :
    Opays l (⟨"com/example/depister/depister/core/model/Accumulator", "set", "(ID)V"⟩ : MethodName) prog_25_method_3_code 4 none ({ frames := 1, cells := 0, slots := 0, locals := 13 } : Room) [] Z h0 #[(.ref a), (.int (Int32.ofNat d)), (.double (FP.l2d xv))] (fun v h L => v = none ∧ Fr n0 L ∧ Keep h0 h [a, li, dc, sc] ∧ ∃ n' dn' fl' w', Acc Z h a sc li dc n' dn' fl' w' ∧ AccI lo n' dn' fl' w' (M + 2147483648) ∧ n' ≤ n + 1 ∧ n ≤ n' ∧ (fl d = 0 → n' = n + 1 ∧ dn' n = d)) := by
  refine own_enter (plainFor_of_name pn_0) ?_
  intro p e s m below meth c s₁ hx hby hml0 hown hnm hret hlk hZ e0 X0
  have hml : c.maxLocals = 4 := hml0
  replace hown : s.vm.findClass "com/example/depister/depister/core/model/Accumulator" = some m.cls := hown
  have N := Fr.nil n0
  have hef : entryFrame m #[(.ref a), (.int (Int32.ofNat d)), (.double (FP.l2d xv))] 4 = mkF m 0 #[.val (.ref a), .val (.int (Int32.ofNat d)), .val (.double (FP.l2d xv)), .second] [] := by first | (simp [entryFrame, mkF, argsToLocals, Value.category]; done) | rfl
  rw [hef]
  show Ogo p e below _ (s₁.setTop (mkF m 0 #[.val (.ref a), .val (.int (Int32.ofNat d)), .val (.double (FP.l2d xv)), .second] []))
  have HA0 := HA
  obtain ⟨E_a, F_scores_a, F_listed_a, F_documents_a, F_count_a, A_sc, A_li, A_dc⟩ := HA
  obtain ⟨⟨ne1, ne2, ne3, ne4, ne5, ne6⟩, g_a, g_sc, g_li, g_dc⟩ := id HN
  have K := Keep.refl h0 [a, li, dc, sc]
  refine own_via (fun tq kq => XS.aloadN X0.here hx rfl (hb hby d10_0) rfl rfl kq) ?_
  show Ogo p e below _ (s₁.setTop (mkF m 1 #[.val (.ref a), .val (.int (Int32.ofNat d)), .val (.double (FP.l2d xv)), .second] [(.ref a)]))
  refine own_via (fun tq kq => XS.iloadN X0.here hx rfl (hb hby d10_1) rfl kq) ?_
  show Ogo p e below _ (s₁.setTop (mkF m 2 #[.val (.ref a), .val (.int (Int32.ofNat d)), .val (.double (FP.l2d xv)), .second] [(.int (Int32.ofNat d)), (.ref a)]))
  refine own_callP X0 hx hZ hown (hw _ (List.mem_of_getElem? (i := 40) rfl)) (hw _ (List.mem_of_getElem? (i := 41) rfl)) (hw _ (List.mem_of_getElem? (i := 42) rfl)) (hw _ (List.mem_of_getElem? (i := 2) rfl)) (hw _ (List.mem_of_getElem? (i := 1) rfl)) (hw _ (List.mem_of_getElem? (i := 43) rfl)) (by decide) (rm_ls hw a sc li dc n dn fl w d lo M h0 n0 HA0 HN HI hd hn hlo) rfl e0 E_a (W := 0) (by decide) (by decide) (by decide) (by decide) (by rw [hml]; rfl) (b := a) (argsL := [(.int (Int32.ofNat d))]) (rest := []) (lenOf pd_0 rfl) rfl (Nat.le_of_eq rfl) (hb hby d10_2) ?_
  rintro _ T1 L1 X1 ⟨rfl, Nq, Kc, n', dn', fl', HA', HI', hn1, hn2, hfl, hex⟩
  have N := N.app Nq
  have E_a := E_a.keep Kc
  have A_sc := A_sc.keep Kc (ninS (Ne.symm ne1) (ninS ne4 (ninS ne5 nin0)))
  have K := K.trans Kc (allS (Or.inl (List.mem_of_getElem? (i := 0) rfl)) (allS (Or.inl (List.mem_of_getElem? (i := 1) rfl)) (allS (Or.inl (List.mem_of_getElem? (i := 2) rfl)) all0)))
  show Ogo p e below _ (T1.setTop (mkF m 5 #[.val (.ref a), .val (.int (Int32.ofNat d)), .val (.double (FP.l2d xv)), .second] []))
  obtain ⟨E_a, F_scores_a, F_listed_a, F_documents_a, F_count_a, A_sc, A_li, A_dc⟩ := HA'
  have hwd := HI'.2.2.2 d hd
  refine own_via (fun tq kq => XS.aloadN X1.here hx rfl (hb hby d10_5) rfl rfl kq) ?_
  show Ogo p e below _ (T1.setTop (mkF m 6 #[.val (.ref a), .val (.int (Int32.ofNat d)), .val (.double (FP.l2d xv)), .second] [(.ref a)]))
  obtain ⟨T2, X2, e2, st2⟩ := getF X1 hx hZ hown (host := "") (Or.inl (hw _ (List.mem_of_getElem? (i := 10) rfl))) Via.refl rfl F_scores_a (g := (mkF m 6 #[.val (.ref a), .val (.int (Int32.ofNat d)), .val (.double (FP.l2d xv)), .second] [(.ref a)])) rfl rfl (hb hby d10_6)
  refine own_via st2 ?_
  show Ogo p e below _ (T2.setTop (mkF m 9 #[.val (.ref a), .val (.int (Int32.ofNat d)), .val (.double (FP.l2d xv)), .second] [(.ref sc)]))
  refine own_via (fun tq kq => XS.iloadN X2.here hx rfl (hb hby d10_9) rfl kq) ?_
  show Ogo p e below _ (T2.setTop (mkF m 10 #[.val (.ref a), .val (.int (Int32.ofNat d)), .val (.double (FP.l2d xv)), .second] [(.int (Int32.ofNat d)), (.ref sc)]))
  refine own_via (fun tq kq => XS.dloadN X2.here hx rfl (hb hby d10_10) rfl kq) ?_
  show Ogo p e below _ (T2.setTop (mkF m 11 #[.val (.ref a), .val (.int (Int32.ofNat d)), .val (.double (FP.l2d xv)), .second] [(.double (FP.l2d xv)), (.int (Int32.ofNat d)), (.ref sc)]))
  obtain ⟨T3, h3, X3, e3, W3, A_sc', st3⟩ := own_dast X2 hx hZ e2 A_sc (x := (FP.l2d xv)) (j := (Int32.ofNat d)) (i := d) (own_n32 (by omega)) hd (pc := 11) (Ls := #[.val (.ref a), .val (.int (Int32.ofNat d)), .val (.double (FP.l2d xv)), .second]) (rest := []) (hb hby d10_11)
  refine own_via st3 ?_
  have E_a := E_a.wr W3
  have F_scores_a := F_scores_a.other W3 (Or.inl ne1)
  have F_listed_a := F_listed_a.other W3 (Or.inl ne1)
  have F_documents_a := F_documents_a.other W3 (Or.inl ne1)
  have F_count_a := F_count_a.other W3 (Or.inl ne1)
  have A_li := A_li.other W3 (Ne.symm ne4)
  have A_dc := A_dc.other W3 (Ne.symm ne5)
  have K := K.wr W3 (Or.inl (List.mem_of_getElem? (i := 3) rfl))
  have N := Fr.snoc X3 N g_sc
  have A_sc := A_sc'
  show Ogo p e below _ (T3.setTop (mkF m 12 #[.val (.ref a), .val (.int (Int32.ofNat d)), .val (.double (FP.l2d xv)), .second] []))
  obtain ⟨w', A_sc, k1, k2⟩ := own_dst A_sc
  exact own_out X3 hlk (fun _ => rfl) (by decide) (by decide) (by first | exact ⟨rfl, N, K, n', dn', fl', w', ⟨E_a, F_scores_a, F_listed_a, F_documents_a, F_count_a, A_sc, A_li, A_dc⟩, own_scoreI HI' hfl k2 (by rw [k1]; exact ⟨by omega, by omega⟩) (by omega), hn1, hn2, hex⟩ | (rw [e3]; exact ⟨rfl, N, K, n', dn', fl', w', ⟨E_a, F_scores_a, F_listed_a, F_documents_a, F_count_a, A_sc, A_li, A_dc⟩, own_scoreI HI' hfl k2 (by rw [k1]; exact ⟨by omega, by omega⟩) (by omega), hn1, hn2, hex⟩)) (fun fs hr => X3.returnOut hx hret (hb hby d10_12) hr)
theorem d9_0 : decode method_3_code 0 = .ok (.iload 4, 2) := by decide +kernel
theorem d9_2 : decode method_3_code 2 = .ok (.ifCond .eq 12, 3) := by decide +kernel
theorem d9_5 : decode method_3_code 5 = .ok (.aload_n 0, 1) := by decide +kernel
theorem d9_6 : decode method_3_code 6 = .ok (.iload_n 1, 1) := by decide +kernel
theorem d9_7 : decode method_3_code 7 = .ok (.dload_n 2, 1) := by decide +kernel
theorem d9_8 : decode method_3_code 8 = .ok (.invokevirtual 37, 3) := by decide +kernel
theorem d9_11 : decode method_3_code 11 = .ok (.goto 9, 3) := by decide +kernel
theorem d9_14 : decode method_3_code 14 = .ok (.aload_n 0, 1) := by decide +kernel
theorem d9_15 : decode method_3_code 15 = .ok (.iload_n 1, 1) := by decide +kernel
theorem d9_16 : decode method_3_code 16 = .ok (.dload_n 2, 1) := by decide +kernel
theorem d9_17 : decode method_3_code 17 = .ok (.invokevirtual 29, 3) := by decide +kernel
theorem d9_20 : decode method_3_code 20 = .ok (.return_, 1) := by decide +kernel
set_option maxRecDepth 65536 in
set_option maxHeartbeats 40000000 in
theorem rm_mu {l : Launch} {Z : State} {a0 : Array Value} (hw : ∀ d ∈ tables_1, d.before a0 Z = true) (a sc li dc : Addr) (n : Nat) (dn : Nat → Nat) (fl : Nat → Int32) (w : Nat → Int64) (d lo : Nat) (M : Int) (xv : Int64) (us : Int32) (h0 : Heap) (n0 : Nat) (HA : Acc Z h0 a sc li dc n dn fl w) (HN : AccN n0 a sc li dc) (HI : AccI lo n dn fl w M) (hd : d < 4) (hn : n < 4) (hlo : lo ≤ n) (hx1 : -2147483648 ≤ xv.toInt) (hx2 : xv.toInt ≤ 2147483648) (hM0 : 0 ≤ M) (hM : M ≤ 6442450944) :
    Opays l (⟨"com/example/depister/depister/core/model/AccumulatorClearPinLaw", "mutate", "(Lcom/example/depister/depister/core/model/Accumulator;IDI)V"⟩ : MethodName) method_3_code 5 none ({ frames := 2, cells := 0, slots := 0, locals := 28 } : Room) [] Z h0 #[(.ref a), (.int (Int32.ofNat d)), (.double (FP.l2d xv)), (.int us)] (fun v h L => v = none ∧ Fr n0 L ∧ Keep h0 h [a, li, dc, sc] ∧ ∃ n' dn' fl' w', Acc Z h a sc li dc n' dn' fl' w' ∧ AccI lo n' dn' fl' w' (M + 2147483648) ∧ n' ≤ n + 1 ∧ n ≤ n' ∧ (fl d = 0 → n' = n + 1 ∧ dn' n = d)) := by
  refine own_enter (plainFor_of_name pn_1) ?_
  intro p e s m below meth c s₁ hx hby hml0 hown hnm hret hlk hZ e0 X0
  have hml : c.maxLocals = 5 := hml0
  replace hown : s.vm.findClass "com/example/depister/depister/core/model/AccumulatorClearPinLaw" = some m.cls := hown
  have N := Fr.nil n0
  have hef : entryFrame m #[(.ref a), (.int (Int32.ofNat d)), (.double (FP.l2d xv)), (.int us)] 5 = mkF m 0 #[.val (.ref a), .val (.int (Int32.ofNat d)), .val (.double (FP.l2d xv)), .second, .val (.int us)] [] := by first | (simp [entryFrame, mkF, argsToLocals, Value.category]; done) | rfl
  rw [hef]
  show Ogo p e below _ (s₁.setTop (mkF m 0 #[.val (.ref a), .val (.int (Int32.ofNat d)), .val (.double (FP.l2d xv)), .second, .val (.int us)] []))
  have E_a := HA.1
  refine own_via (fun tq kq => XS.iload X0.here hx rfl (hb hby d9_0) rfl kq) ?_
  show Ogo p e below _ (s₁.setTop (mkF m 2 #[.val (.ref a), .val (.int (Int32.ofNat d)), .val (.double (FP.l2d xv)), .second, .val (.int us)] [(.int us)]))
  by_cases hc2 : us = (0 : Int32)
  · refine own_via (fun tq kq => XS.ifYes X0.here hx rfl (pc0 := 2) (pc' := 14) rfl (hb hby d9_2) rfl ((if0 _ _).trans (teq (hc2 : us = (0 : Int32))).1) (by decide) (by decide) kq) ?_
    show Ogo p e below _ (s₁.setTop (mkF m 14 #[.val (.ref a), .val (.int (Int32.ofNat d)), .val (.double (FP.l2d xv)), .second, .val (.int us)] []))
    refine own_via (fun tq kq => XS.aloadN X0.here hx rfl (hb hby d9_14) rfl rfl kq) ?_
    show Ogo p e below _ (s₁.setTop (mkF m 15 #[.val (.ref a), .val (.int (Int32.ofNat d)), .val (.double (FP.l2d xv)), .second, .val (.int us)] [(.ref a)]))
    refine own_via (fun tq kq => XS.iloadN X0.here hx rfl (hb hby d9_15) rfl kq) ?_
    show Ogo p e below _ (s₁.setTop (mkF m 16 #[.val (.ref a), .val (.int (Int32.ofNat d)), .val (.double (FP.l2d xv)), .second, .val (.int us)] [(.int (Int32.ofNat d)), (.ref a)]))
    refine own_via (fun tq kq => XS.dloadN X0.here hx rfl (hb hby d9_16) rfl kq) ?_
    show Ogo p e below _ (s₁.setTop (mkF m 17 #[.val (.ref a), .val (.int (Int32.ofNat d)), .val (.double (FP.l2d xv)), .second, .val (.int us)] [(.double (FP.l2d xv)), (.int (Int32.ofNat d)), (.ref a)]))
    refine own_callV X0 hx hZ hown (hw _ (List.mem_of_getElem? (i := 35) rfl)) (hw _ (List.mem_of_getElem? (i := 36) rfl)) (hw _ (List.mem_of_getElem? (i := 38) rfl)) (hw _ (List.mem_of_getElem? (i := 37) rfl)) (hw _ (List.mem_of_getElem? (i := 2) rfl)) (hw _ (List.mem_of_getElem? (i := 39) rfl)) (notFace_of_selects (args := #[]) (mvT hZ (hw _ (List.mem_of_getElem? (i := 38) rfl)))) (by decide) (rm_ad hw a sc li dc n dn fl w d lo M xv h0 n0 HA HN HI hd hn hlo hx1 hx2 hM0 hM) rfl e0 E_a (W := 0) (by decide) (by decide) (by decide) (by decide) (by rw [hml]; rfl) (b := a) (argsL := [(.int (Int32.ofNat d)), (.double (FP.l2d xv))]) (rest := []) (lenOf pd_1 rfl) rfl (Nat.le_of_eq rfl) (hb hby d9_17) ?_
    rintro _ T1 L1 X1 ⟨rfl, Nq, Kc, hres⟩
    have N := N.app Nq
    have E_a := E_a.keep Kc
    show Ogo p e below _ (T1.setTop (mkF m 20 #[.val (.ref a), .val (.int (Int32.ofNat d)), .val (.double (FP.l2d xv)), .second, .val (.int us)] []))
    exact own_out X1 hlk (fun _ => rfl) (by decide) (by decide) (⟨rfl, N, Kc, hres⟩) (fun fs hr => X1.returnOut hx hret (hb hby d9_20) hr)
  · refine own_via (fun tq kq => XS.ifNo X0.here hx rfl (hb hby d9_2) rfl ((if0 _ _).trans (feq (hc2 : ¬ (us = (0 : Int32)))).1) kq) ?_
    show Ogo p e below _ (s₁.setTop (mkF m 5 #[.val (.ref a), .val (.int (Int32.ofNat d)), .val (.double (FP.l2d xv)), .second, .val (.int us)] []))
    refine own_via (fun tq kq => XS.aloadN X0.here hx rfl (hb hby d9_5) rfl rfl kq) ?_
    show Ogo p e below _ (s₁.setTop (mkF m 6 #[.val (.ref a), .val (.int (Int32.ofNat d)), .val (.double (FP.l2d xv)), .second, .val (.int us)] [(.ref a)]))
    refine own_via (fun tq kq => XS.iloadN X0.here hx rfl (hb hby d9_6) rfl kq) ?_
    show Ogo p e below _ (s₁.setTop (mkF m 7 #[.val (.ref a), .val (.int (Int32.ofNat d)), .val (.double (FP.l2d xv)), .second, .val (.int us)] [(.int (Int32.ofNat d)), (.ref a)]))
    refine own_via (fun tq kq => XS.dloadN X0.here hx rfl (hb hby d9_7) rfl kq) ?_
    show Ogo p e below _ (s₁.setTop (mkF m 8 #[.val (.ref a), .val (.int (Int32.ofNat d)), .val (.double (FP.l2d xv)), .second, .val (.int us)] [(.double (FP.l2d xv)), (.int (Int32.ofNat d)), (.ref a)]))
    refine own_callV X0 hx hZ hown (hw _ (List.mem_of_getElem? (i := 53) rfl)) (hw _ (List.mem_of_getElem? (i := 54) rfl)) (hw _ (List.mem_of_getElem? (i := 56) rfl)) (hw _ (List.mem_of_getElem? (i := 55) rfl)) (hw _ (List.mem_of_getElem? (i := 2) rfl)) (hw _ (List.mem_of_getElem? (i := 57) rfl)) (notFace_of_selects (args := #[]) (mvT hZ (hw _ (List.mem_of_getElem? (i := 56) rfl)))) (by decide) (rm_se hw a sc li dc n dn fl w d lo M xv h0 n0 HA HN HI hd hn hlo hx1 hx2 hM0 hM) rfl e0 E_a (W := 0) (by decide) (by decide) (by decide) (by decide) (by rw [hml]; rfl) (b := a) (argsL := [(.int (Int32.ofNat d)), (.double (FP.l2d xv))]) (rest := []) (lenOf pd_1 rfl) rfl (Nat.le_of_eq rfl) (hb hby d9_8) ?_
    rintro _ T2 L2 X2 ⟨rfl, Nq, Kc, hres⟩
    have N := N.app Nq
    have E_a := E_a.keep Kc
    show Ogo p e below _ (T2.setTop (mkF m 11 #[.val (.ref a), .val (.int (Int32.ofNat d)), .val (.double (FP.l2d xv)), .second, .val (.int us)] []))
    refine own_via (fun tq kq => XS.goto X2.here hx rfl (pc0 := 11) (pc' := 20) rfl (hb hby d9_11) (by decide) (by decide) kq) ?_
    show Ogo p e below _ (T2.setTop (mkF m 20 #[.val (.ref a), .val (.int (Int32.ofNat d)), .val (.double (FP.l2d xv)), .second, .val (.int us)] []))
    exact own_out X2 hlk (fun _ => rfl) (by decide) (by decide) (⟨rfl, N, Kc, hres⟩) (fun fs hr => X2.returnOut hx hret (hb hby d9_20) hr)
theorem d1_0 : decode prog_25_method_1_code 0 = .ok (.aload_n 0, 1) := by decide +kernel
theorem d1_1 : decode prog_25_method_1_code 1 = .ok (.invokespecial 1, 3) := by decide +kernel
theorem d1_4 : decode prog_25_method_1_code 4 = .ok (.aload_n 0, 1) := by decide +kernel
theorem d1_5 : decode prog_25_method_1_code 5 = .ok (.iload_n 1, 1) := by decide +kernel
theorem d1_6 : decode prog_25_method_1_code 6 = .ok (.newarray .double, 2) := by decide +kernel
theorem d1_8 : decode prog_25_method_1_code 8 = .ok (.putfield 7, 3) := by decide +kernel
theorem d1_11 : decode prog_25_method_1_code 11 = .ok (.aload_n 0, 1) := by decide +kernel
theorem d1_12 : decode prog_25_method_1_code 12 = .ok (.iload_n 1, 1) := by decide +kernel
theorem d1_13 : decode prog_25_method_1_code 13 = .ok (.newarray .boolean, 2) := by decide +kernel
theorem d1_15 : decode prog_25_method_1_code 15 = .ok (.putfield 13, 3) := by decide +kernel
theorem d1_18 : decode prog_25_method_1_code 18 = .ok (.aload_n 0, 1) := by decide +kernel
theorem d1_19 : decode prog_25_method_1_code 19 = .ok (.iload_n 1, 1) := by decide +kernel
theorem d1_20 : decode prog_25_method_1_code 20 = .ok (.newarray .int, 2) := by decide +kernel
theorem d1_22 : decode prog_25_method_1_code 22 = .ok (.putfield 17, 3) := by decide +kernel
theorem d1_25 : decode prog_25_method_1_code 25 = .ok (.return_, 1) := by decide +kernel
set_option maxRecDepth 65536 in
set_option maxHeartbeats 40000000 in
theorem rm_in {l : Launch} {Z : State} {a0 : Array Value} (hw : ∀ d ∈ tables_1, d.before a0 Z = true) (a : Addr) (h0 : Heap) (n0 : Nat) (E_a : Exa Z h0 a "com/example/depister/depister/core/model/Accumulator") (F_scores_a : Fld Z h0 a "com/example/depister/depister/core/model/Accumulator" "scores" "[D" .null) (F_listed_a : Fld Z h0 a "com/example/depister/depister/core/model/Accumulator" "listed" "[Z" .null) (F_documents_a : Fld Z h0 a "com/example/depister/depister/core/model/Accumulator" "documents" "[I" .null) (F_count_a : Fld Z h0 a "com/example/depister/depister/core/model/Accumulator" "count" "I" (.int (0 : Int32))) (g_a : n0 ≤ a) (zs : n0 ≤ h0.size) :
    Opays l (⟨"com/example/depister/depister/core/model/Accumulator", "<init>", "(I)V"⟩ : MethodName) prog_25_method_1_code 2 none ({ frames := 1, cells := 3, slots := 12, locals := 12 } : Room) [] Z h0 #[(.ref a), (.int (4 : Int32))] (fun v h L => v = none ∧ Fr n0 L ∧ Keep h0 h [a] ∧ ∃ sc li dc, Acc Z h a sc li dc 0 (fun _ => 0) (fun _ => 0) (fun _ => 0) ∧ AccN n0 a sc li dc) := by
  refine own_enter (plainFor_of_name pn_0) ?_
  intro p e s m below meth c s₁ hx hby hml0 hown hnm hret hlk hZ e0 X0
  have hml : c.maxLocals = 2 := hml0
  replace hown : s.vm.findClass "com/example/depister/depister/core/model/Accumulator" = some m.cls := hown
  have N := Fr.nil n0
  have hef : entryFrame m #[(.ref a), (.int (4 : Int32))] 2 = mkF m 0 #[.val (.ref a), .val (.int (4 : Int32))] [] := by first | (simp [entryFrame, mkF, argsToLocals, Value.category]; done) | rfl
  rw [hef]
  show Ogo p e below _ (s₁.setTop (mkF m 0 #[.val (.ref a), .val (.int (4 : Int32))] []))
  have K := Keep.refl h0 [a]
  refine own_via (fun tq kq => XS.aloadN X0.here hx rfl (hb hby d1_0) rfl rfl kq) ?_
  show Ogo p e below _ (s₁.setTop (mkF m 1 #[.val (.ref a), .val (.int (4 : Int32))] [(.ref a)]))
  obtain ⟨T1, X1, e1, st1⟩ := initO X0 hx hZ hown (hw _ (List.mem_of_getElem? (i := 6) rfl)) (hw _ (List.mem_of_getElem? (i := 7) rfl)) (hw _ (List.mem_of_getElem? (i := 8) rfl)) e0 (g := (mkF m 1 #[.val (.ref a), .val (.int (4 : Int32))] [(.ref a)])) rfl (by rw [hml]; rfl) rfl (hb hby d1_1) (by decide) (W := 0) (by show 2 * 0 + _ ≤ _; exact Nat.le_of_eq rfl) (by decide)
  refine own_via st1 ?_
  show Ogo p e below _ (T1.setTop (mkF m 4 #[.val (.ref a), .val (.int (4 : Int32))] []))
  refine own_via (fun tq kq => XS.aloadN X1.here hx rfl (hb hby d1_4) rfl rfl kq) ?_
  show Ogo p e below _ (T1.setTop (mkF m 5 #[.val (.ref a), .val (.int (4 : Int32))] [(.ref a)]))
  refine own_via (fun tq kq => XS.iloadN X1.here hx rfl (hb hby d1_5) rfl kq) ?_
  show Ogo p e below _ (T1.setTop (mkF m 6 #[.val (.ref a), .val (.int (4 : Int32))] [(.int (4 : Int32)), (.ref a)]))
  obtain ⟨T2, h2, k2, X2, e2, E2, A2, st2⟩ := newP X1 hx hZ (hw _ (List.mem_of_getElem? (i := 9) rfl)) e1 (g := (mkF m 6 #[.val (.ref a), .val (.int (4 : Int32))] [(.int (4 : Int32)), (.ref a)])) rfl (hb hby d1_6) rfl (by decide) (cap := 4) (by decide) (by decide) (by decide) (by decide)
  refine own_via st2 ?_
  obtain ⟨sc, g2⟩ : ∃ z, z = h0.size := ⟨_, rfl⟩
  rw [← g2]
  rw [← g2] at A2
  have lt_a_sc : a < sc := by rw [g2]; exact E_a.lt
  have g_sc : n0 ≤ sc := by rw [g2]; exact zs
  have sz_sc : h0.size ≤ sc := by rw [g2]; exact K.1
  have E_a := E_a.ext E2
  have F_scores_a := F_scores_a.ext E2
  have F_listed_a := F_listed_a.ext E2
  have F_documents_a := F_documents_a.ext E2
  have F_count_a := F_count_a.ext E2
  have zs := Nat.le_trans zs E2.1
  have K := K.ext E2
  have A_sc : Oar Z h2 sc .double 4 (fun _ => defaultValue .double) := Oar.new A2 (by decide) rfl
  show Ogo p e below _ (T2.setTop (mkF m 8 #[.val (.ref a), .val (.int (4 : Int32))] [(.ref sc), (.ref a)]))
  obtain ⟨T3, h3, X3, e3, W3, st3⟩ := putF X2 hx hZ hown (host := "") (Or.inl (hw _ (List.mem_of_getElem? (i := 10) rfl))) Via.refl e2 F_scores_a E_a (Or.inr ⟨(hw _ (List.mem_of_getElem? (i := 11) rfl)), rfl, hnm⟩) (hw _ (List.mem_of_getElem? (i := 1) rfl)) (ty := (.array .double)) (by decide) rfl rfl (g := (mkF m 8 #[.val (.ref a), .val (.int (4 : Int32))] [(.ref sc), (.ref a)])) rfl rfl (hb hby d1_8)
  refine own_via st3 ?_
  have E_a := E_a.wr W3
  have F_scores_a := F_scores_a.same W3
  have F_listed_a := F_listed_a.other W3 (Or.inr (slot_ne (Or.inr (hw _ (List.mem_of_getElem? (i := 14) rfl))) (Or.inr (hw _ (List.mem_of_getElem? (i := 11) rfl))) (by decide) (t := (.array .boolean)) (t' := (.array .double)) (by decide) (by decide)))
  have F_documents_a := F_documents_a.other W3 (Or.inr (slot_ne (Or.inr (hw _ (List.mem_of_getElem? (i := 17) rfl))) (Or.inr (hw _ (List.mem_of_getElem? (i := 11) rfl))) (by decide) (t := (.array .int)) (t' := (.array .double)) (by decide) (by decide)))
  have F_count_a := F_count_a.other W3 (Or.inr (slot_ne (Or.inl (hw _ (List.mem_of_getElem? (i := 24) rfl))) (Or.inr (hw _ (List.mem_of_getElem? (i := 11) rfl))) (by decide) (t := .int) (t' := (.array .double)) (by decide) (by decide)))
  have A_sc := A_sc.other W3 (Nat.ne_of_gt lt_a_sc)
  have zs := Nat.le_trans zs (Keep.of_wr W3).1
  have K := K.wr W3 (Or.inl (List.mem_of_getElem? (i := 0) rfl))
  have N := Fr.snoc X3 N g_a
  show Ogo p e below _ (T3.setTop (mkF m 11 #[.val (.ref a), .val (.int (4 : Int32))] []))
  refine own_via (fun tq kq => XS.aloadN X3.here hx rfl (hb hby d1_11) rfl rfl kq) ?_
  show Ogo p e below _ (T3.setTop (mkF m 12 #[.val (.ref a), .val (.int (4 : Int32))] [(.ref a)]))
  refine own_via (fun tq kq => XS.iloadN X3.here hx rfl (hb hby d1_12) rfl kq) ?_
  show Ogo p e below _ (T3.setTop (mkF m 13 #[.val (.ref a), .val (.int (4 : Int32))] [(.int (4 : Int32)), (.ref a)]))
  obtain ⟨T4, h4, k4, X4, e4, E4, A4, st4⟩ := newP X3 hx hZ (hw _ (List.mem_of_getElem? (i := 12) rfl)) e3 (g := (mkF m 13 #[.val (.ref a), .val (.int (4 : Int32))] [(.int (4 : Int32)), (.ref a)])) rfl (hb hby d1_13) rfl (by decide) (cap := 4) (by decide) (by decide) (by decide) (by decide)
  refine own_via st4 ?_
  obtain ⟨li, g4⟩ : ∃ z, z = h3.size := ⟨_, rfl⟩
  rw [← g4]
  rw [← g4] at A4
  have lt_a_li : a < li := by rw [g4]; exact E_a.lt
  have lt_sc_li : sc < li := by rw [g4]; exact A_sc.lt
  have g_li : n0 ≤ li := by rw [g4]; exact zs
  have sz_li : h0.size ≤ li := by rw [g4]; exact K.1
  have E_a := E_a.ext E4
  have F_scores_a := F_scores_a.ext E4
  have F_listed_a := F_listed_a.ext E4
  have F_documents_a := F_documents_a.ext E4
  have F_count_a := F_count_a.ext E4
  have A_sc := A_sc.ext E4
  have zs := Nat.le_trans zs E4.1
  have K := K.ext E4
  have A_li : Oar Z h4 li .boolean 4 (fun _ => defaultValue .boolean) := Oar.new A4 (by decide) rfl
  show Ogo p e below _ (T4.setTop (mkF m 15 #[.val (.ref a), .val (.int (4 : Int32))] [(.ref li), (.ref a)]))
  obtain ⟨T5, h5, X5, e5, W5, st5⟩ := putF X4 hx hZ hown (host := "") (Or.inl (hw _ (List.mem_of_getElem? (i := 13) rfl))) Via.refl e4 F_listed_a E_a (Or.inr ⟨(hw _ (List.mem_of_getElem? (i := 14) rfl)), rfl, hnm⟩) (hw _ (List.mem_of_getElem? (i := 1) rfl)) (ty := (.array .boolean)) (by decide) rfl rfl (g := (mkF m 15 #[.val (.ref a), .val (.int (4 : Int32))] [(.ref li), (.ref a)])) rfl rfl (hb hby d1_15)
  refine own_via st5 ?_
  have E_a := E_a.wr W5
  have F_scores_a := F_scores_a.other W5 (Or.inr (slot_ne (Or.inr (hw _ (List.mem_of_getElem? (i := 11) rfl))) (Or.inr (hw _ (List.mem_of_getElem? (i := 14) rfl))) (by decide) (t := (.array .double)) (t' := (.array .boolean)) (by decide) (by decide)))
  have F_listed_a := F_listed_a.same W5
  have F_documents_a := F_documents_a.other W5 (Or.inr (slot_ne (Or.inr (hw _ (List.mem_of_getElem? (i := 17) rfl))) (Or.inr (hw _ (List.mem_of_getElem? (i := 14) rfl))) (by decide) (t := (.array .int)) (t' := (.array .boolean)) (by decide) (by decide)))
  have F_count_a := F_count_a.other W5 (Or.inr (slot_ne (Or.inl (hw _ (List.mem_of_getElem? (i := 24) rfl))) (Or.inr (hw _ (List.mem_of_getElem? (i := 14) rfl))) (by decide) (t := .int) (t' := (.array .boolean)) (by decide) (by decide)))
  have A_sc := A_sc.other W5 (Nat.ne_of_gt lt_a_sc)
  have A_li := A_li.other W5 (Nat.ne_of_gt lt_a_li)
  have zs := Nat.le_trans zs (Keep.of_wr W5).1
  have K := K.wr W5 (Or.inl (List.mem_of_getElem? (i := 0) rfl))
  have N := Fr.snoc X5 N g_a
  show Ogo p e below _ (T5.setTop (mkF m 18 #[.val (.ref a), .val (.int (4 : Int32))] []))
  refine own_via (fun tq kq => XS.aloadN X5.here hx rfl (hb hby d1_18) rfl rfl kq) ?_
  show Ogo p e below _ (T5.setTop (mkF m 19 #[.val (.ref a), .val (.int (4 : Int32))] [(.ref a)]))
  refine own_via (fun tq kq => XS.iloadN X5.here hx rfl (hb hby d1_19) rfl kq) ?_
  show Ogo p e below _ (T5.setTop (mkF m 20 #[.val (.ref a), .val (.int (4 : Int32))] [(.int (4 : Int32)), (.ref a)]))
  obtain ⟨T6, h6, k6, X6, e6, E6, A6, st6⟩ := newP X5 hx hZ (hw _ (List.mem_of_getElem? (i := 15) rfl)) e5 (g := (mkF m 20 #[.val (.ref a), .val (.int (4 : Int32))] [(.int (4 : Int32)), (.ref a)])) rfl (hb hby d1_20) rfl (by decide) (cap := 4) (by decide) (by decide) (by decide) (by decide)
  refine own_via st6 ?_
  obtain ⟨dc, g6⟩ : ∃ z, z = h5.size := ⟨_, rfl⟩
  rw [← g6]
  rw [← g6] at A6
  have lt_a_dc : a < dc := by rw [g6]; exact E_a.lt
  have lt_sc_dc : sc < dc := by rw [g6]; exact A_sc.lt
  have lt_li_dc : li < dc := by rw [g6]; exact A_li.lt
  have g_dc : n0 ≤ dc := by rw [g6]; exact zs
  have sz_dc : h0.size ≤ dc := by rw [g6]; exact K.1
  have E_a := E_a.ext E6
  have F_scores_a := F_scores_a.ext E6
  have F_listed_a := F_listed_a.ext E6
  have F_documents_a := F_documents_a.ext E6
  have F_count_a := F_count_a.ext E6
  have A_sc := A_sc.ext E6
  have A_li := A_li.ext E6
  have zs := Nat.le_trans zs E6.1
  have K := K.ext E6
  have A_dc : Oar Z h6 dc .int 4 (fun _ => defaultValue .int) := Oar.new A6 (by decide) rfl
  show Ogo p e below _ (T6.setTop (mkF m 22 #[.val (.ref a), .val (.int (4 : Int32))] [(.ref dc), (.ref a)]))
  obtain ⟨T7, h7, X7, e7, W7, st7⟩ := putF X6 hx hZ hown (host := "") (Or.inl (hw _ (List.mem_of_getElem? (i := 16) rfl))) Via.refl e6 F_documents_a E_a (Or.inr ⟨(hw _ (List.mem_of_getElem? (i := 17) rfl)), rfl, hnm⟩) (hw _ (List.mem_of_getElem? (i := 1) rfl)) (ty := (.array .int)) (by decide) rfl rfl (g := (mkF m 22 #[.val (.ref a), .val (.int (4 : Int32))] [(.ref dc), (.ref a)])) rfl rfl (hb hby d1_22)
  refine own_via st7 ?_
  have E_a := E_a.wr W7
  have F_scores_a := F_scores_a.other W7 (Or.inr (slot_ne (Or.inr (hw _ (List.mem_of_getElem? (i := 11) rfl))) (Or.inr (hw _ (List.mem_of_getElem? (i := 17) rfl))) (by decide) (t := (.array .double)) (t' := (.array .int)) (by decide) (by decide)))
  have F_listed_a := F_listed_a.other W7 (Or.inr (slot_ne (Or.inr (hw _ (List.mem_of_getElem? (i := 14) rfl))) (Or.inr (hw _ (List.mem_of_getElem? (i := 17) rfl))) (by decide) (t := (.array .boolean)) (t' := (.array .int)) (by decide) (by decide)))
  have F_documents_a := F_documents_a.same W7
  have F_count_a := F_count_a.other W7 (Or.inr (slot_ne (Or.inl (hw _ (List.mem_of_getElem? (i := 24) rfl))) (Or.inr (hw _ (List.mem_of_getElem? (i := 17) rfl))) (by decide) (t := .int) (t' := (.array .int)) (by decide) (by decide)))
  have A_sc := A_sc.other W7 (Nat.ne_of_gt lt_a_sc)
  have A_li := A_li.other W7 (Nat.ne_of_gt lt_a_li)
  have A_dc := A_dc.other W7 (Nat.ne_of_gt lt_a_dc)
  have zs := Nat.le_trans zs (Keep.of_wr W7).1
  have K := K.wr W7 (Or.inl (List.mem_of_getElem? (i := 0) rfl))
  have N := Fr.snoc X7 N g_a
  show Ogo p e below _ (T7.setTop (mkF m 25 #[.val (.ref a), .val (.int (4 : Int32))] []))
  have A_sc := A_sc.cast (f' := fun q => .double (FP.l2d ((fun _ => (0 : Int64)) q))) (fun j _ => by show Value.double 0 = Value.double (FP.l2d 0); rw [l2d_zero])
  exact own_out X7 hlk (fun _ => rfl) (by decide) (by decide) (by first | exact ⟨rfl, N, K, sc, li, dc, ⟨E_a, F_scores_a, F_listed_a, F_documents_a, F_count_a, A_sc, A_li, A_dc⟩, ⟨(Nat.ne_of_lt lt_a_sc), (Nat.ne_of_lt lt_a_li), (Nat.ne_of_lt lt_a_dc), (Nat.ne_of_lt lt_sc_li), (Nat.ne_of_lt lt_sc_dc), (Nat.ne_of_lt lt_li_dc)⟩, g_a, g_sc, g_li, g_dc⟩ | (rw [e7]; exact ⟨rfl, N, K, sc, li, dc, ⟨E_a, F_scores_a, F_listed_a, F_documents_a, F_count_a, A_sc, A_li, A_dc⟩, ⟨(Nat.ne_of_lt lt_a_sc), (Nat.ne_of_lt lt_a_li), (Nat.ne_of_lt lt_a_dc), (Nat.ne_of_lt lt_sc_li), (Nat.ne_of_lt lt_sc_dc), (Nat.ne_of_lt lt_li_dc)⟩, g_a, g_sc, g_li, g_dc⟩)) (fun fs hr => X7.returnOut hx hret (hb hby d1_25) hr)
theorem d4_0 : decode prog_25_method_5_code 0 = .ok (.aload_n 0, 1) := by decide +kernel
theorem d4_1 : decode prog_25_method_5_code 1 = .ok (.getfield 25, 3) := by decide +kernel
theorem d4_4 : decode prog_25_method_5_code 4 = .ok (.ireturn, 1) := by decide +kernel
set_option maxRecDepth 65536 in
set_option maxHeartbeats 40000000 in
theorem rm_cn {l : Launch} {Z : State} {a0 : Array Value} (hw : ∀ d ∈ tables_1, d.before a0 Z = true) (a : Addr) (u : Int32) (h0 : Heap) (n0 : Nat) (F_count_a : Fld Z h0 a "com/example/depister/depister/core/model/Accumulator" "count" "I" (.int u)) :
    Opays l (⟨"com/example/depister/depister/core/model/Accumulator", "count", "()I"⟩ : MethodName) prog_25_method_5_code 1 (some .int) ({ frames := 0, cells := 0, slots := 0, locals := 0 } : Room) [] Z h0 #[(.ref a)] (fun v h L => v = some (.int u) ∧ Fr n0 L ∧ h = h0) := by
  refine own_enter (plainFor_of_name pn_0) ?_
  intro p e s m below meth c s₁ hx hby hml0 hown hnm hret hlk hZ e0 X0
  have hml : c.maxLocals = 1 := hml0
  replace hown : s.vm.findClass "com/example/depister/depister/core/model/Accumulator" = some m.cls := hown
  have N := Fr.nil n0
  have hef : entryFrame m #[(.ref a)] 1 = mkF m 0 #[.val (.ref a)] [] := by first | (simp [entryFrame, mkF, argsToLocals, Value.category]; done) | rfl
  rw [hef]
  show Ogo p e below _ (s₁.setTop (mkF m 0 #[.val (.ref a)] []))
  refine own_via (fun tq kq => XS.aloadN X0.here hx rfl (hb hby d4_0) rfl rfl kq) ?_
  show Ogo p e below _ (s₁.setTop (mkF m 1 #[.val (.ref a)] [(.ref a)]))
  obtain ⟨T1, X1, e1, st1⟩ := getF X0 hx hZ hown (host := "") (Or.inl (hw _ (List.mem_of_getElem? (i := 23) rfl))) Via.refl e0 F_count_a (g := (mkF m 1 #[.val (.ref a)] [(.ref a)])) rfl rfl (hb hby d4_1)
  refine own_via st1 ?_
  show Ogo p e below _ (T1.setTop (mkF m 4 #[.val (.ref a)] [(.int u)]))
  exact own_out X1 hlk (fun h => by rw [hret] at h; cases h) (by decide) (by decide) (by first | exact ⟨rfl, N, rfl⟩ | (rw [e1]; exact ⟨rfl, N, rfl⟩)) (fun fs hr => retI X1 hx hret (hb hby d4_4) hr)
theorem d5_0 : decode prog_25_method_7_code 0 = .ok (.aload_n 0, 1) := by decide +kernel
theorem d5_1 : decode prog_25_method_7_code 1 = .ok (.getfield 7, 3) := by decide +kernel
theorem d5_4 : decode prog_25_method_7_code 4 = .ok (.iload_n 1, 1) := by decide +kernel
theorem d5_5 : decode prog_25_method_7_code 5 = .ok (.daload, 1) := by decide +kernel
theorem d5_6 : decode prog_25_method_7_code 6 = .ok (.dreturn, 1) := by decide +kernel
set_option maxRecDepth 65536 in
set_option maxHeartbeats 40000000 in
theorem rm_sc {l : Launch} {Z : State} {a0 : Array Value} (hw : ∀ d ∈ tables_1, d.before a0 Z = true) (a sc : Addr) (w : Nat → Int64) (d : Nat) (h0 : Heap) (n0 : Nat) (F_scores_a : Fld Z h0 a "com/example/depister/depister/core/model/Accumulator" "scores" "[D" (.ref sc)) (A_sc : Oar Z h0 sc .double 4 (fun q => .double (FP.l2d (w q)))) (hd : d < 4) :
    Opays l (⟨"com/example/depister/depister/core/model/Accumulator", "score", "(I)D"⟩ : MethodName) prog_25_method_7_code 2 (some .double) ({ frames := 0, cells := 0, slots := 0, locals := 0 } : Room) [] Z h0 #[(.ref a), (.int (Int32.ofNat d))] (fun v h L => v = some (.double (FP.l2d (w d))) ∧ Fr n0 L ∧ h = h0) := by
  refine own_enter (plainFor_of_name pn_0) ?_
  intro p e s m below meth c s₁ hx hby hml0 hown hnm hret hlk hZ e0 X0
  have hml : c.maxLocals = 2 := hml0
  replace hown : s.vm.findClass "com/example/depister/depister/core/model/Accumulator" = some m.cls := hown
  have N := Fr.nil n0
  have hef : entryFrame m #[(.ref a), (.int (Int32.ofNat d))] 2 = mkF m 0 #[.val (.ref a), .val (.int (Int32.ofNat d))] [] := by first | (simp [entryFrame, mkF, argsToLocals, Value.category]; done) | rfl
  rw [hef]
  show Ogo p e below _ (s₁.setTop (mkF m 0 #[.val (.ref a), .val (.int (Int32.ofNat d))] []))
  refine own_via (fun tq kq => XS.aloadN X0.here hx rfl (hb hby d5_0) rfl rfl kq) ?_
  show Ogo p e below _ (s₁.setTop (mkF m 1 #[.val (.ref a), .val (.int (Int32.ofNat d))] [(.ref a)]))
  obtain ⟨T1, X1, e1, st1⟩ := getF X0 hx hZ hown (host := "") (Or.inl (hw _ (List.mem_of_getElem? (i := 10) rfl))) Via.refl e0 F_scores_a (g := (mkF m 1 #[.val (.ref a), .val (.int (Int32.ofNat d))] [(.ref a)])) rfl rfl (hb hby d5_1)
  refine own_via st1 ?_
  show Ogo p e below _ (T1.setTop (mkF m 4 #[.val (.ref a), .val (.int (Int32.ofNat d))] [(.ref sc)]))
  refine own_via (fun tq kq => XS.iloadN X1.here hx rfl (hb hby d5_4) rfl kq) ?_
  show Ogo p e below _ (T1.setTop (mkF m 5 #[.val (.ref a), .val (.int (Int32.ofNat d))] [(.int (Int32.ofNat d)), (.ref sc)]))
  refine own_dald X1 hx hZ e1 A_sc (j := (Int32.ofNat d)) (i := d) (v := (.double (FP.l2d (w d)))) (own_n32 (by omega)) hd rfl (hb hby d5_5) ?_
  show Ogo p e below _ (T1.setTop (mkF m 6 #[.val (.ref a), .val (.int (Int32.ofNat d))] [(.double (FP.l2d (w d)))]))
  exact own_out X1 hlk (fun h => by rw [hret] at h; cases h) (by decide) (by decide) (by first | exact ⟨rfl, N, rfl⟩ | (rw [e1]; exact ⟨rfl, N, rfl⟩)) (fun fs hr => own_retD X1 hx hret (hb hby d5_6) hr)
theorem d8_0 : decode prog_25_method_6_code 0 = .ok (.aload_n 0, 1) := by decide +kernel
theorem d8_1 : decode prog_25_method_6_code 1 = .ok (.getfield 17, 3) := by decide +kernel
theorem d8_4 : decode prog_25_method_6_code 4 = .ok (.iload_n 1, 1) := by decide +kernel
theorem d8_5 : decode prog_25_method_6_code 5 = .ok (.iaload, 1) := by decide +kernel
theorem d8_6 : decode prog_25_method_6_code 6 = .ok (.ireturn, 1) := by decide +kernel
set_option maxRecDepth 65536 in
set_option maxHeartbeats 40000000 in
theorem rm_do {l : Launch} {Z : State} {a0 : Array Value} (hw : ∀ d ∈ tables_1, d.before a0 Z = true) (a dc : Addr) (dn : Nat → Nat) (h0 : Heap) (n0 : Nat) (F_documents_a : Fld Z h0 a "com/example/depister/depister/core/model/Accumulator" "documents" "[I" (.ref dc)) (A_dc : Oar Z h0 dc .int 4 (fun q => .int (Int32.ofNat (dn q)))) :
    Opays l (⟨"com/example/depister/depister/core/model/Accumulator", "document", "(I)I"⟩ : MethodName) prog_25_method_6_code 2 (some .int) ({ frames := 0, cells := 0, slots := 0, locals := 0 } : Room) [] Z h0 #[(.ref a), (.int (0 : Int32))] (fun v h L => v = some (.int (Int32.ofNat (dn 0))) ∧ Fr n0 L ∧ h = h0) := by
  refine own_enter (plainFor_of_name pn_0) ?_
  intro p e s m below meth c s₁ hx hby hml0 hown hnm hret hlk hZ e0 X0
  have hml : c.maxLocals = 2 := hml0
  replace hown : s.vm.findClass "com/example/depister/depister/core/model/Accumulator" = some m.cls := hown
  have N := Fr.nil n0
  have hef : entryFrame m #[(.ref a), (.int (0 : Int32))] 2 = mkF m 0 #[.val (.ref a), .val (.int (0 : Int32))] [] := by first | (simp [entryFrame, mkF, argsToLocals, Value.category]; done) | rfl
  rw [hef]
  show Ogo p e below _ (s₁.setTop (mkF m 0 #[.val (.ref a), .val (.int (0 : Int32))] []))
  refine own_via (fun tq kq => XS.aloadN X0.here hx rfl (hb hby d8_0) rfl rfl kq) ?_
  show Ogo p e below _ (s₁.setTop (mkF m 1 #[.val (.ref a), .val (.int (0 : Int32))] [(.ref a)]))
  obtain ⟨T1, X1, e1, st1⟩ := getF X0 hx hZ hown (host := "") (Or.inl (hw _ (List.mem_of_getElem? (i := 16) rfl))) Via.refl e0 F_documents_a (g := (mkF m 1 #[.val (.ref a), .val (.int (0 : Int32))] [(.ref a)])) rfl rfl (hb hby d8_1)
  refine own_via st1 ?_
  show Ogo p e below _ (T1.setTop (mkF m 4 #[.val (.ref a), .val (.int (0 : Int32))] [(.ref dc)]))
  refine own_via (fun tq kq => XS.iloadN X1.here hx rfl (hb hby d8_4) rfl kq) ?_
  show Ogo p e below _ (T1.setTop (mkF m 5 #[.val (.ref a), .val (.int (0 : Int32))] [(.int (0 : Int32)), (.ref dc)]))
  refine own_iald X1 hx hZ e1 A_dc (j := (0 : Int32)) (i := 0) (v := (.int (Int32.ofNat (dn 0)))) (by decide) (by decide) rfl (hb hby d8_5) ?_
  show Ogo p e below _ (T1.setTop (mkF m 6 #[.val (.ref a), .val (.int (0 : Int32))] [(.int (Int32.ofNat (dn 0)))]))
  exact own_out X1 hlk (fun h => by rw [hret] at h; cases h) (by decide) (by decide) (by first | exact ⟨rfl, N, rfl⟩ | (rw [e1]; exact ⟨rfl, N, rfl⟩)) (fun fs hr => retI X1 hx hret (hb hby d8_6) hr)
theorem d3_0 : decode prog_25_method_8_code 0 = .ok (.iconst 0, 1) := by decide +kernel
theorem d3_1 : decode prog_25_method_8_code 1 = .ok (.istore_n 1, 1) := by decide +kernel
theorem d3_2 : decode prog_25_method_8_code 2 = .ok (.iload_n 1, 1) := by decide +kernel
theorem d3_3 : decode prog_25_method_8_code 3 = .ok (.aload_n 0, 1) := by decide +kernel
theorem d3_4 : decode prog_25_method_8_code 4 = .ok (.getfield 25, 3) := by decide +kernel
theorem d3_7 : decode prog_25_method_8_code 7 = .ok (.if_icmp .ge 33, 3) := by decide +kernel
theorem d3_10 : decode prog_25_method_8_code 10 = .ok (.aload_n 0, 1) := by decide +kernel
theorem d3_11 : decode prog_25_method_8_code 11 = .ok (.getfield 7, 3) := by decide +kernel
theorem d3_14 : decode prog_25_method_8_code 14 = .ok (.aload_n 0, 1) := by decide +kernel
theorem d3_15 : decode prog_25_method_8_code 15 = .ok (.getfield 17, 3) := by decide +kernel
theorem d3_18 : decode prog_25_method_8_code 18 = .ok (.iload_n 1, 1) := by decide +kernel
theorem d3_19 : decode prog_25_method_8_code 19 = .ok (.iaload, 1) := by decide +kernel
theorem d3_20 : decode prog_25_method_8_code 20 = .ok (.dconst 0, 1) := by decide +kernel
theorem d3_21 : decode prog_25_method_8_code 21 = .ok (.dastore, 1) := by decide +kernel
theorem d3_22 : decode prog_25_method_8_code 22 = .ok (.aload_n 0, 1) := by decide +kernel
theorem d3_23 : decode prog_25_method_8_code 23 = .ok (.getfield 13, 3) := by decide +kernel
theorem d3_26 : decode prog_25_method_8_code 26 = .ok (.aload_n 0, 1) := by decide +kernel
theorem d3_27 : decode prog_25_method_8_code 27 = .ok (.getfield 17, 3) := by decide +kernel
theorem d3_30 : decode prog_25_method_8_code 30 = .ok (.iload_n 1, 1) := by decide +kernel
theorem d3_31 : decode prog_25_method_8_code 31 = .ok (.iaload, 1) := by decide +kernel
theorem d3_32 : decode prog_25_method_8_code 32 = .ok (.iconst 0, 1) := by decide +kernel
theorem d3_33 : decode prog_25_method_8_code 33 = .ok (.bastore, 1) := by decide +kernel
theorem d3_34 : decode prog_25_method_8_code 34 = .ok (.iinc 1 1, 3) := by decide +kernel
theorem d3_37 : decode prog_25_method_8_code 37 = .ok (.goto (-35), 3) := by decide +kernel
theorem d3_40 : decode prog_25_method_8_code 40 = .ok (.aload_n 0, 1) := by decide +kernel
theorem d3_41 : decode prog_25_method_8_code 41 = .ok (.iconst 0, 1) := by decide +kernel
theorem d3_42 : decode prog_25_method_8_code 42 = .ok (.putfield 25, 3) := by decide +kernel
theorem d3_45 : decode prog_25_method_8_code 45 = .ok (.return_, 1) := by decide +kernel
set_option maxRecDepth 65536 in
set_option maxHeartbeats 40000000 in
theorem rm_cl {l : Launch} {Z : State} {a0 : Array Value} (hw : ∀ d ∈ tables_1, d.before a0 Z = true) (a sc li dc : Addr) (n : Nat) (dn : Nat → Nat) (fl : Nat → Int32) (w : Nat → Int64) (M : Int) (h0 : Heap) (n0 : Nat) (HA : Acc Z h0 a sc li dc n dn fl w) (HN : AccN n0 a sc li dc) (HI : AccI 0 n dn fl w M) (hn : n ≤ 4) (hM : 0 ≤ M) :
    Opays l (⟨"com/example/depister/depister/core/model/Accumulator", "clear", "()V"⟩ : MethodName) prog_25_method_8_code 2 none ({ frames := 0, cells := 0, slots := 0, locals := 0 } : Room) [] Z h0 #[(.ref a)] (fun v h L => v = none ∧ Fr n0 L ∧ Keep h0 h [a, sc, li] ∧ ∃ fl' w', Acc Z h a sc li dc 0 dn fl' w' ∧ (∀ j, j < 4 → fl' j = 0) ∧ ∀ j, j < 4 → w' j = 0) := by
  refine own_enter (plainFor_of_name pn_0) ?_
  intro p e s m below meth c s₁ hx hby hml0 hown hnm hret hlk hZ e0 X0
  have hml : c.maxLocals = 2 := hml0
  replace hown : s.vm.findClass "com/example/depister/depister/core/model/Accumulator" = some m.cls := hown
  have N := Fr.nil n0
  have hef : entryFrame m #[(.ref a)] 2 = mkF m 0 #[.val (.ref a), .unset] [] := by first | (simp [entryFrame, mkF, argsToLocals, Value.category]; done) | rfl
  rw [hef]
  show Ogo p e below _ (s₁.setTop (mkF m 0 #[.val (.ref a), .unset] []))
  have loop : ∀ (d i : Nat) (TL : State) (lc : List Loc) (hL : Heap) (fl : Nat → Int32) (w : Nat → Int64), i + d = n → Stand p l e ({ frames := 0, cells := 0, slots := 0, locals := 0 } : Room) s m #[(.ref a)] below meth c TL lc 0 0 → TL.heap = hL → Fr n0 lc → Keep h0 hL [a, sc, li] → Acc Z hL a sc li dc n dn fl w → AccI i n dn fl w M → Ogo p e below (Onar s ({ frames := 0, cells := 0, slots := 0, locals := 0 } : Room) (fun v h L => v = none ∧ Fr n0 L ∧ Keep h0 h [a, sc, li] ∧ ∃ fl' w', Acc Z h a sc li dc 0 dn fl' w' ∧ (∀ j, j < 4 → fl' j = 0) ∧ ∀ j, j < 4 → w' j = 0)) (TL.setTop (mkF m 2 #[.val (.ref a), .val (.int (Int32.ofNat i))] [])) := by
    intro d
    induction d with
    | zero =>
      intro i TL lc hL fl w hi XL eL N K HA HI
      obtain ⟨E_a, F_scores_a, F_listed_a, F_documents_a, F_count_a, A_sc, A_li, A_dc⟩ := HA
      obtain ⟨⟨ne1, ne2, ne3, ne4, ne5, ne6⟩, g_a, g_sc, g_li, g_dc⟩ := id HN
      show Ogo p e below _ (TL.setTop (mkF m 2 #[.val (.ref a), .val (.int (Int32.ofNat i))] []))
      refine own_via (fun tq kq => XS.iloadN XL.here hx rfl (hb hby d3_2) rfl kq) ?_
      show Ogo p e below _ (TL.setTop (mkF m 3 #[.val (.ref a), .val (.int (Int32.ofNat i))] [(.int (Int32.ofNat i))]))
      refine own_via (fun tq kq => XS.aloadN XL.here hx rfl (hb hby d3_3) rfl rfl kq) ?_
      show Ogo p e below _ (TL.setTop (mkF m 4 #[.val (.ref a), .val (.int (Int32.ofNat i))] [(.ref a), (.int (Int32.ofNat i))]))
      obtain ⟨T1, X1, e1, st1⟩ := getF XL hx hZ hown (host := "") (Or.inl (hw _ (List.mem_of_getElem? (i := 23) rfl))) Via.refl eL F_count_a (g := (mkF m 4 #[.val (.ref a), .val (.int (Int32.ofNat i))] [(.ref a), (.int (Int32.ofNat i))])) rfl rfl (hb hby d3_4)
      refine own_via st1 ?_
      show Ogo p e below _ (T1.setTop (mkF m 7 #[.val (.ref a), .val (.int (Int32.ofNat i))] [(.int (Int32.ofNat n)), (.int (Int32.ofNat i))]))
      refine own_via (fun tq kq => XS.icmpYes X1.here hx rfl (pc0 := 7) (pc' := 40) rfl (hb hby d3_7) rfl (flt (i_nlt (by rw [own_n32 (by omega), own_n32 (by omega)]; omega) : ¬ ((Int32.ofNat i) < (Int32.ofNat n)))).2.1 (by decide) (by decide) kq) ?_
      show Ogo p e below _ (T1.setTop (mkF m 40 #[.val (.ref a), .val (.int (Int32.ofNat i))] []))
      refine own_via (fun tq kq => XS.aloadN X1.here hx rfl (hb hby d3_40) rfl rfl kq) ?_
      show Ogo p e below _ (T1.setTop (mkF m 41 #[.val (.ref a), .val (.int (Int32.ofNat i))] [(.ref a)]))
      refine own_via (fun tq kq => XS.iconst X1.here hx rfl (hb hby d3_41) kq) ?_
      show Ogo p e below _ (T1.setTop (mkF m 42 #[.val (.ref a), .val (.int (Int32.ofNat i))] [(.int (0 : Int32)), (.ref a)]))
      obtain ⟨T2, h2, X2, e2, W2, st2⟩ := putF X1 hx hZ hown (host := "") (Or.inl (hw _ (List.mem_of_getElem? (i := 23) rfl))) Via.refl e1 F_count_a E_a (Or.inl (hw _ (List.mem_of_getElem? (i := 24) rfl))) (hw _ (List.mem_of_getElem? (i := 1) rfl)) (ty := .int) (by decide) rfl rfl (g := (mkF m 42 #[.val (.ref a), .val (.int (Int32.ofNat i))] [(.int (0 : Int32)), (.ref a)])) rfl rfl (hb hby d3_42)
      refine own_via st2 ?_
      have E_a := E_a.wr W2
      have F_scores_a := F_scores_a.other W2 (Or.inr (slot_ne (Or.inr (hw _ (List.mem_of_getElem? (i := 11) rfl))) (Or.inl (hw _ (List.mem_of_getElem? (i := 24) rfl))) (by decide) (t := (.array .double)) (t' := .int) (by decide) (by decide)))
      have F_listed_a := F_listed_a.other W2 (Or.inr (slot_ne (Or.inr (hw _ (List.mem_of_getElem? (i := 14) rfl))) (Or.inl (hw _ (List.mem_of_getElem? (i := 24) rfl))) (by decide) (t := (.array .boolean)) (t' := .int) (by decide) (by decide)))
      have F_documents_a := F_documents_a.other W2 (Or.inr (slot_ne (Or.inr (hw _ (List.mem_of_getElem? (i := 17) rfl))) (Or.inl (hw _ (List.mem_of_getElem? (i := 24) rfl))) (by decide) (t := (.array .int)) (t' := .int) (by decide) (by decide)))
      have F_count_a := F_count_a.same W2
      have A_sc := A_sc.other W2 (Ne.symm ne1)
      have A_li := A_li.other W2 (Ne.symm ne2)
      have A_dc := A_dc.other W2 (Ne.symm ne3)
      have K := K.wr W2 (Or.inl (List.mem_of_getElem? (i := 0) rfl))
      have N := Fr.snoc X2 N g_a
      show Ogo p e below _ (T2.setTop (mkF m 45 #[.val (.ref a), .val (.int (Int32.ofNat i))] []))
      have hz : ∀ j, j < 4 → fl j = 0 := fun j hj => (HI.2.1 j hj).elim id (fun ⟨k, h1, h2, _⟩ => by omega)
      exact own_out X2 hlk (fun _ => rfl) (by decide) (by decide) (by first | exact ⟨rfl, N, K, fl, w, ⟨E_a, F_scores_a, F_listed_a, F_documents_a, F_count_a, A_sc, A_li, A_dc⟩, hz, fun j hj => HI.2.2.1 j hj (hz j hj)⟩ | (rw [e2]; exact ⟨rfl, N, K, fl, w, ⟨E_a, F_scores_a, F_listed_a, F_documents_a, F_count_a, A_sc, A_li, A_dc⟩, hz, fun j hj => HI.2.2.1 j hj (hz j hj)⟩)) (fun fs hr => X2.returnOut hx hret (hb hby d3_45) hr)
    | succ d ih =>
      intro i TL lc hL fl w hi XL eL N K HA HI
      obtain ⟨E_a, F_scores_a, F_listed_a, F_documents_a, F_count_a, A_sc, A_li, A_dc⟩ := HA
      obtain ⟨⟨ne1, ne2, ne3, ne4, ne5, ne6⟩, g_a, g_sc, g_li, g_dc⟩ := id HN
      show Ogo p e below _ (TL.setTop (mkF m 2 #[.val (.ref a), .val (.int (Int32.ofNat i))] []))
      refine own_via (fun tq kq => XS.iloadN XL.here hx rfl (hb hby d3_2) rfl kq) ?_
      show Ogo p e below _ (TL.setTop (mkF m 3 #[.val (.ref a), .val (.int (Int32.ofNat i))] [(.int (Int32.ofNat i))]))
      refine own_via (fun tq kq => XS.aloadN XL.here hx rfl (hb hby d3_3) rfl rfl kq) ?_
      show Ogo p e below _ (TL.setTop (mkF m 4 #[.val (.ref a), .val (.int (Int32.ofNat i))] [(.ref a), (.int (Int32.ofNat i))]))
      obtain ⟨T3, X3, e3, st3⟩ := getF XL hx hZ hown (host := "") (Or.inl (hw _ (List.mem_of_getElem? (i := 23) rfl))) Via.refl eL F_count_a (g := (mkF m 4 #[.val (.ref a), .val (.int (Int32.ofNat i))] [(.ref a), (.int (Int32.ofNat i))])) rfl rfl (hb hby d3_4)
      refine own_via st3 ?_
      show Ogo p e below _ (T3.setTop (mkF m 7 #[.val (.ref a), .val (.int (Int32.ofNat i))] [(.int (Int32.ofNat n)), (.int (Int32.ofNat i))]))
      refine own_via (fun tq kq => XS.icmpNo X3.here hx rfl (hb hby d3_7) rfl (tlt (i_lt (by rw [own_n32 (by omega), own_n32 (by omega)]; omega) : (Int32.ofNat i) < (Int32.ofNat n))).2.1 kq) ?_
      show Ogo p e below _ (T3.setTop (mkF m 10 #[.val (.ref a), .val (.int (Int32.ofNat i))] []))
      have hdn := HI.1 i (by omega)
      refine own_via (fun tq kq => XS.aloadN X3.here hx rfl (hb hby d3_10) rfl rfl kq) ?_
      show Ogo p e below _ (T3.setTop (mkF m 11 #[.val (.ref a), .val (.int (Int32.ofNat i))] [(.ref a)]))
      obtain ⟨T4, X4, e4, st4⟩ := getF X3 hx hZ hown (host := "") (Or.inl (hw _ (List.mem_of_getElem? (i := 10) rfl))) Via.refl e3 F_scores_a (g := (mkF m 11 #[.val (.ref a), .val (.int (Int32.ofNat i))] [(.ref a)])) rfl rfl (hb hby d3_11)
      refine own_via st4 ?_
      show Ogo p e below _ (T4.setTop (mkF m 14 #[.val (.ref a), .val (.int (Int32.ofNat i))] [(.ref sc)]))
      refine own_via (fun tq kq => XS.aloadN X4.here hx rfl (hb hby d3_14) rfl rfl kq) ?_
      show Ogo p e below _ (T4.setTop (mkF m 15 #[.val (.ref a), .val (.int (Int32.ofNat i))] [(.ref a), (.ref sc)]))
      obtain ⟨T5, X5, e5, st5⟩ := getF X4 hx hZ hown (host := "") (Or.inl (hw _ (List.mem_of_getElem? (i := 16) rfl))) Via.refl e4 F_documents_a (g := (mkF m 15 #[.val (.ref a), .val (.int (Int32.ofNat i))] [(.ref a), (.ref sc)])) rfl rfl (hb hby d3_15)
      refine own_via st5 ?_
      show Ogo p e below _ (T5.setTop (mkF m 18 #[.val (.ref a), .val (.int (Int32.ofNat i))] [(.ref dc), (.ref sc)]))
      refine own_via (fun tq kq => XS.iloadN X5.here hx rfl (hb hby d3_18) rfl kq) ?_
      show Ogo p e below _ (T5.setTop (mkF m 19 #[.val (.ref a), .val (.int (Int32.ofNat i))] [(.int (Int32.ofNat i)), (.ref dc), (.ref sc)]))
      refine own_iald X5 hx hZ e5 A_dc (j := (Int32.ofNat i)) (i := i) (v := (.int (Int32.ofNat (dn i)))) (own_n32 (by omega)) (by omega) rfl (hb hby d3_19) ?_
      show Ogo p e below _ (T5.setTop (mkF m 20 #[.val (.ref a), .val (.int (Int32.ofNat i))] [(.int (Int32.ofNat (dn i))), (.ref sc)]))
      refine own_via (fun tq kq => XS.dconst0 X5.here hx rfl (v := FP.l2d 0) (hb hby d3_20) l2d_zero.symm kq) ?_
      show Ogo p e below _ (T5.setTop (mkF m 21 #[.val (.ref a), .val (.int (Int32.ofNat i))] [(.double (FP.l2d 0)), (.int (Int32.ofNat (dn i))), (.ref sc)]))
      obtain ⟨T6, h6, X6, e6, W6, A_sc', st6⟩ := own_dast X5 hx hZ e5 A_sc (x := (FP.l2d 0)) (j := (Int32.ofNat (dn i))) (i := (dn i)) (own_n32 (by omega)) hdn (pc := 21) (Ls := #[.val (.ref a), .val (.int (Int32.ofNat i))]) (rest := []) (hb hby d3_21)
      refine own_via st6 ?_
      have E_a := E_a.wr W6
      have F_scores_a := F_scores_a.other W6 (Or.inl ne1)
      have F_listed_a := F_listed_a.other W6 (Or.inl ne1)
      have F_documents_a := F_documents_a.other W6 (Or.inl ne1)
      have F_count_a := F_count_a.other W6 (Or.inl ne1)
      have A_li := A_li.other W6 (Ne.symm ne4)
      have A_dc := A_dc.other W6 (Ne.symm ne5)
      have K := K.wr W6 (Or.inl (List.mem_of_getElem? (i := 1) rfl))
      have N := Fr.snoc X6 N g_sc
      have A_sc := A_sc'
      show Ogo p e below _ (T6.setTop (mkF m 22 #[.val (.ref a), .val (.int (Int32.ofNat i))] []))
      obtain ⟨w', A_sc, k1, k2⟩ := own_dst A_sc
      refine own_via (fun tq kq => XS.aloadN X6.here hx rfl (hb hby d3_22) rfl rfl kq) ?_
      show Ogo p e below _ (T6.setTop (mkF m 23 #[.val (.ref a), .val (.int (Int32.ofNat i))] [(.ref a)]))
      obtain ⟨T7, X7, e7, st7⟩ := getF X6 hx hZ hown (host := "") (Or.inl (hw _ (List.mem_of_getElem? (i := 13) rfl))) Via.refl e6 F_listed_a (g := (mkF m 23 #[.val (.ref a), .val (.int (Int32.ofNat i))] [(.ref a)])) rfl rfl (hb hby d3_23)
      refine own_via st7 ?_
      show Ogo p e below _ (T7.setTop (mkF m 26 #[.val (.ref a), .val (.int (Int32.ofNat i))] [(.ref li)]))
      refine own_via (fun tq kq => XS.aloadN X7.here hx rfl (hb hby d3_26) rfl rfl kq) ?_
      show Ogo p e below _ (T7.setTop (mkF m 27 #[.val (.ref a), .val (.int (Int32.ofNat i))] [(.ref a), (.ref li)]))
      obtain ⟨T8, X8, e8, st8⟩ := getF X7 hx hZ hown (host := "") (Or.inl (hw _ (List.mem_of_getElem? (i := 16) rfl))) Via.refl e7 F_documents_a (g := (mkF m 27 #[.val (.ref a), .val (.int (Int32.ofNat i))] [(.ref a), (.ref li)])) rfl rfl (hb hby d3_27)
      refine own_via st8 ?_
      show Ogo p e below _ (T8.setTop (mkF m 30 #[.val (.ref a), .val (.int (Int32.ofNat i))] [(.ref dc), (.ref li)]))
      refine own_via (fun tq kq => XS.iloadN X8.here hx rfl (hb hby d3_30) rfl kq) ?_
      show Ogo p e below _ (T8.setTop (mkF m 31 #[.val (.ref a), .val (.int (Int32.ofNat i))] [(.int (Int32.ofNat i)), (.ref dc), (.ref li)]))
      refine own_iald X8 hx hZ e8 A_dc (j := (Int32.ofNat i)) (i := i) (v := (.int (Int32.ofNat (dn i)))) (own_n32 (by omega)) (by omega) rfl (hb hby d3_31) ?_
      show Ogo p e below _ (T8.setTop (mkF m 32 #[.val (.ref a), .val (.int (Int32.ofNat i))] [(.int (Int32.ofNat (dn i))), (.ref li)]))
      refine own_via (fun tq kq => XS.iconst X8.here hx rfl (hb hby d3_32) kq) ?_
      show Ogo p e below _ (T8.setTop (mkF m 33 #[.val (.ref a), .val (.int (Int32.ofNat i))] [(.int (0 : Int32)), (.int (Int32.ofNat (dn i))), (.ref li)]))
      obtain ⟨T9, h9, X9, e9, W9, A_li', st9⟩ := own_zast X8 hx hZ e8 A_li (x := (0 : Int32)) (j := (Int32.ofNat (dn i))) (i := (dn i)) (own_n32 (by omega)) hdn (pc := 33) (Ls := #[.val (.ref a), .val (.int (Int32.ofNat i))]) (rest := []) (hb hby d3_33)
      refine own_via st9 ?_
      have E_a := E_a.wr W9
      have F_scores_a := F_scores_a.other W9 (Or.inl ne2)
      have F_listed_a := F_listed_a.other W9 (Or.inl ne2)
      have F_documents_a := F_documents_a.other W9 (Or.inl ne2)
      have F_count_a := F_count_a.other W9 (Or.inl ne2)
      have A_sc := A_sc.other W9 ne4
      have A_dc := A_dc.other W9 (Ne.symm ne6)
      have K := K.wr W9 (Or.inl (List.mem_of_getElem? (i := 2) rfl))
      have N := Fr.snoc X9 N g_li
      have A_li := A_li'
      show Ogo p e below _ (T9.setTop (mkF m 34 #[.val (.ref a), .val (.int (Int32.ofNat i))] []))
      obtain ⟨fl', A_li, k3, k4⟩ := own_ist A_li
      refine own_via (fun tq kq => XS.iinc X9.here hx rfl (hb hby d3_34) rfl (l' := #[.val (.ref a), .val (.int ((Int32.ofNat i) + (1 : Int32)))]) rfl kq) ?_
      show Ogo p e below _ (T9.setTop (mkF m 37 #[.val (.ref a), .val (.int ((Int32.ofNat i) + (1 : Int32)))] []))
      rw [own_succ (by omega)]
      show Ogo p e below _ (T9.setTop (mkF m 37 #[.val (.ref a), .val (.int (Int32.ofNat (i + 1)))] []))
      refine own_via (fun tq kq => XS.goto X9.here hx rfl (pc0 := 37) (pc' := 2) rfl (hb hby d3_37) (by decide) (by decide) kq) ?_
      show Ogo p e below _ (T9.setTop (mkF m 2 #[.val (.ref a), .val (.int (Int32.ofNat (i + 1)))] []))
      exact ih (i + 1) _ _ _ fl' w' (by omega) X9 e9 N K ⟨E_a, F_scores_a, F_listed_a, F_documents_a, F_count_a, A_sc, A_li, A_dc⟩ (own_clearI HI hM k1 k2 (by rw [k3]; rfl) k4)
  refine own_via (fun tq kq => XS.iconst X0.here hx rfl (hb hby d3_0) kq) ?_
  show Ogo p e below _ (s₁.setTop (mkF m 1 #[.val (.ref a), .unset] [(.int (0 : Int32))]))
  refine own_via (fun tq kq => XS.istoreN X0.here hx rfl (hb hby d3_1) rfl (l' := #[.val (.ref a), .val (.int (0 : Int32))]) rfl kq) ?_
  show Ogo p e below _ (s₁.setTop (mkF m 2 #[.val (.ref a), .val (.int (0 : Int32))] []))
  exact loop n 0 _ _ _ fl w (by omega) X0 e0 N (Keep.refl h0 _) HA HI
set_option maxRecDepth 65536 in
set_option maxHeartbeats 40000000 in
theorem rm_law {l : Launch} {Z : State} {a0 : Array Value} (hw : ∀ d ∈ tables_1, d.before a0 Z = true) (p1 p2 p3 v4 p5 p6 : Int32) (h0 : Heap) (n0 : Nat) (zs : n0 ≤ h0.size) :
    Opays l x code maxLocals ret room_1 tables_1 Z h0 #[(.int p1), (.int p2), (.int p3), (.int v4), (.int p5), (.int p6)] (fun v h L => v = some (.int 1) ∧ Fr n0 L) := by
  refine own_enter (plainFor_of_name pn_1) ?_
  intro p e s m below meth c s₁ hx hby hml0 hown hnm hret hlk hZ e0 X0
  have hml : c.maxLocals = 15 := hml0
  replace hown : s.vm.findClass "com/example/depister/depister/core/model/AccumulatorClearPinLaw" = some m.cls := hown
  have N := Fr.nil n0
  have hef : entryFrame m #[(.int p1), (.int p2), (.int p3), (.int v4), (.int p5), (.int p6)] maxLocals = mkF m 0 #[.val (.int p1), .val (.int p2), .val (.int p3), .val (.int v4), .val (.int p5), .val (.int p6), .unset, .unset, .unset, .unset, .unset, .unset, .unset, .unset, .unset] [] := by first | (simp [entryFrame, mkF, argsToLocals, Value.category, maxLocals]; done) | rfl
  rw [hef]
  show Ogo p e below _ (s₁.setTop (mkF m 0 #[.val (.int p1), .val (.int p2), .val (.int p3), .val (.int v4), .val (.int p5), .val (.int p6), .unset, .unset, .unset, .unset, .unset, .unset, .unset, .unset, .unset] []))
  refine own_via (fun tq kq => XS.iloadN X0.here hx rfl (hb hby at_0) rfl kq) ?_
  show Ogo p e below _ (s₁.setTop (mkF m 1 #[.val (.int p1), .val (.int p2), .val (.int p3), .val (.int v4), .val (.int p5), .val (.int p6), .unset, .unset, .unset, .unset, .unset, .unset, .unset, .unset, .unset] [(.int p1)]))
  refine own_via (fun tq kq => XS.iconst X0.here hx rfl (hb hby at_1) kq) ?_
  show Ogo p e below _ (s₁.setTop (mkF m 2 #[.val (.int p1), .val (.int p2), .val (.int p3), .val (.int v4), .val (.int p5), .val (.int p6), .unset, .unset, .unset, .unset, .unset, .unset, .unset, .unset, .unset] [(.int (3 : Int32)), (.int p1)]))
  refine own_via (fun tq kq => XS.iand X0.here hx rfl (hb hby at_2) rfl kq) ?_
  show Ogo p e below _ (s₁.setTop (mkF m 3 #[.val (.int p1), .val (.int p2), .val (.int p3), .val (.int v4), .val (.int p5), .val (.int p6), .unset, .unset, .unset, .unset, .unset, .unset, .unset, .unset, .unset] [(.int (p1 &&& (3 : Int32)))]))
  refine own_via (fun tq kq => XS.istore X0.here hx rfl (hb hby at_3) rfl (l' := #[.val (.int p1), .val (.int p2), .val (.int p3), .val (.int v4), .val (.int p5), .val (.int p6), .val (.int (p1 &&& (3 : Int32))), .unset, .unset, .unset, .unset, .unset, .unset, .unset, .unset]) rfl kq) ?_
  show Ogo p e below _ (s₁.setTop (mkF m 5 #[.val (.int p1), .val (.int p2), .val (.int p3), .val (.int v4), .val (.int p5), .val (.int p6), .val (.int (p1 &&& (3 : Int32))), .unset, .unset, .unset, .unset, .unset, .unset, .unset, .unset] []))
  refine own_via (fun tq kq => XS.iloadN X0.here hx rfl (hb hby at_5) rfl kq) ?_
  show Ogo p e below _ (s₁.setTop (mkF m 6 #[.val (.int p1), .val (.int p2), .val (.int p3), .val (.int v4), .val (.int p5), .val (.int p6), .val (.int (p1 &&& (3 : Int32))), .unset, .unset, .unset, .unset, .unset, .unset, .unset, .unset] [(.int p2)]))
  refine own_via (fun tq kq => XS.iconst X0.here hx rfl (hb hby at_6) kq) ?_
  show Ogo p e below _ (s₁.setTop (mkF m 7 #[.val (.int p1), .val (.int p2), .val (.int p3), .val (.int v4), .val (.int p5), .val (.int p6), .val (.int (p1 &&& (3 : Int32))), .unset, .unset, .unset, .unset, .unset, .unset, .unset, .unset] [(.int (3 : Int32)), (.int p2)]))
  refine own_via (fun tq kq => XS.iand X0.here hx rfl (hb hby at_7) rfl kq) ?_
  show Ogo p e below _ (s₁.setTop (mkF m 8 #[.val (.int p1), .val (.int p2), .val (.int p3), .val (.int v4), .val (.int p5), .val (.int p6), .val (.int (p1 &&& (3 : Int32))), .unset, .unset, .unset, .unset, .unset, .unset, .unset, .unset] [(.int (p2 &&& (3 : Int32)))]))
  refine own_via (fun tq kq => XS.istore X0.here hx rfl (hb hby at_8) rfl (l' := #[.val (.int p1), .val (.int p2), .val (.int p3), .val (.int v4), .val (.int p5), .val (.int p6), .val (.int (p1 &&& (3 : Int32))), .val (.int (p2 &&& (3 : Int32))), .unset, .unset, .unset, .unset, .unset, .unset, .unset]) rfl kq) ?_
  show Ogo p e below _ (s₁.setTop (mkF m 10 #[.val (.int p1), .val (.int p2), .val (.int p3), .val (.int v4), .val (.int p5), .val (.int p6), .val (.int (p1 &&& (3 : Int32))), .val (.int (p2 &&& (3 : Int32))), .unset, .unset, .unset, .unset, .unset, .unset, .unset] []))
  refine own_via (fun tq kq => XS.iloadN X0.here hx rfl (hb hby at_10) rfl kq) ?_
  show Ogo p e below _ (s₁.setTop (mkF m 11 #[.val (.int p1), .val (.int p2), .val (.int p3), .val (.int v4), .val (.int p5), .val (.int p6), .val (.int (p1 &&& (3 : Int32))), .val (.int (p2 &&& (3 : Int32))), .unset, .unset, .unset, .unset, .unset, .unset, .unset] [(.int p3)]))
  refine own_via (fun tq kq => XS.iconst X0.here hx rfl (hb hby at_11) kq) ?_
  show Ogo p e below _ (s₁.setTop (mkF m 12 #[.val (.int p1), .val (.int p2), .val (.int p3), .val (.int v4), .val (.int p5), .val (.int p6), .val (.int (p1 &&& (3 : Int32))), .val (.int (p2 &&& (3 : Int32))), .unset, .unset, .unset, .unset, .unset, .unset, .unset] [(.int (3 : Int32)), (.int p3)]))
  refine own_via (fun tq kq => XS.iand X0.here hx rfl (hb hby at_12) rfl kq) ?_
  show Ogo p e below _ (s₁.setTop (mkF m 13 #[.val (.int p1), .val (.int p2), .val (.int p3), .val (.int v4), .val (.int p5), .val (.int p6), .val (.int (p1 &&& (3 : Int32))), .val (.int (p2 &&& (3 : Int32))), .unset, .unset, .unset, .unset, .unset, .unset, .unset] [(.int (p3 &&& (3 : Int32)))]))
  refine own_via (fun tq kq => XS.istore X0.here hx rfl (hb hby at_13) rfl (l' := #[.val (.int p1), .val (.int p2), .val (.int p3), .val (.int v4), .val (.int p5), .val (.int p6), .val (.int (p1 &&& (3 : Int32))), .val (.int (p2 &&& (3 : Int32))), .val (.int (p3 &&& (3 : Int32))), .unset, .unset, .unset, .unset, .unset, .unset]) rfl kq) ?_
  show Ogo p e below _ (s₁.setTop (mkF m 15 #[.val (.int p1), .val (.int p2), .val (.int p3), .val (.int v4), .val (.int p5), .val (.int p6), .val (.int (p1 &&& (3 : Int32))), .val (.int (p2 &&& (3 : Int32))), .val (.int (p3 &&& (3 : Int32))), .unset, .unset, .unset, .unset, .unset, .unset] []))
  refine own_via (fun tq kq => XS.iload X0.here hx rfl (hb hby at_15) rfl kq) ?_
  show Ogo p e below _ (s₁.setTop (mkF m 17 #[.val (.int p1), .val (.int p2), .val (.int p3), .val (.int v4), .val (.int p5), .val (.int p6), .val (.int (p1 &&& (3 : Int32))), .val (.int (p2 &&& (3 : Int32))), .val (.int (p3 &&& (3 : Int32))), .unset, .unset, .unset, .unset, .unset, .unset] [(.int p6)]))
  refine own_via (fun tq kq => XS.iconst X0.here hx rfl (hb hby at_17) kq) ?_
  show Ogo p e below _ (s₁.setTop (mkF m 18 #[.val (.int p1), .val (.int p2), .val (.int p3), .val (.int v4), .val (.int p5), .val (.int p6), .val (.int (p1 &&& (3 : Int32))), .val (.int (p2 &&& (3 : Int32))), .val (.int (p3 &&& (3 : Int32))), .unset, .unset, .unset, .unset, .unset, .unset] [(.int (3 : Int32)), (.int p6)]))
  refine own_via (fun tq kq => XS.iand X0.here hx rfl (hb hby at_18) rfl kq) ?_
  show Ogo p e below _ (s₁.setTop (mkF m 19 #[.val (.int p1), .val (.int p2), .val (.int p3), .val (.int v4), .val (.int p5), .val (.int p6), .val (.int (p1 &&& (3 : Int32))), .val (.int (p2 &&& (3 : Int32))), .val (.int (p3 &&& (3 : Int32))), .unset, .unset, .unset, .unset, .unset, .unset] [(.int (p6 &&& (3 : Int32)))]))
  refine own_via (fun tq kq => XS.istore X0.here hx rfl (hb hby at_19) rfl (l' := #[.val (.int p1), .val (.int p2), .val (.int p3), .val (.int v4), .val (.int p5), .val (.int p6), .val (.int (p1 &&& (3 : Int32))), .val (.int (p2 &&& (3 : Int32))), .val (.int (p3 &&& (3 : Int32))), .val (.int (p6 &&& (3 : Int32))), .unset, .unset, .unset, .unset, .unset]) rfl kq) ?_
  show Ogo p e below _ (s₁.setTop (mkF m 21 #[.val (.int p1), .val (.int p2), .val (.int p3), .val (.int v4), .val (.int p5), .val (.int p6), .val (.int (p1 &&& (3 : Int32))), .val (.int (p2 &&& (3 : Int32))), .val (.int (p3 &&& (3 : Int32))), .val (.int (p6 &&& (3 : Int32))), .unset, .unset, .unset, .unset, .unset] []))
  obtain ⟨d1, qd1, ld1⟩ := own_and3 p1
  rw [qd1]
  obtain ⟨d2, qd2, ld2⟩ := own_and3 p2
  rw [qd2]
  obtain ⟨d3, qd3, ld3⟩ := own_and3 p3
  rw [qd3]
  obtain ⟨d4, qd4, ld4⟩ := own_and3 p6
  rw [qd4]
  show Ogo p e below _ (s₁.setTop (mkF m 21 #[.val (.int p1), .val (.int p2), .val (.int p3), .val (.int v4), .val (.int p5), .val (.int p6), .val (.int (Int32.ofNat d1)), .val (.int (Int32.ofNat d2)), .val (.int (Int32.ofNat d3)), .val (.int (Int32.ofNat d4)), .unset, .unset, .unset, .unset, .unset] []))
  refine own_via (fun tq kq => XS.iloadN X0.here hx rfl (hb hby at_21) rfl kq) ?_
  show Ogo p e below _ (s₁.setTop (mkF m 22 #[.val (.int p1), .val (.int p2), .val (.int p3), .val (.int v4), .val (.int p5), .val (.int p6), .val (.int (Int32.ofNat d1)), .val (.int (Int32.ofNat d2)), .val (.int (Int32.ofNat d3)), .val (.int (Int32.ofNat d4)), .unset, .unset, .unset, .unset, .unset] [(.int v4)]))
  refine own_via (fun tq kq => XS.i2dS X0.here hx rfl (v := FP.l2d (v4.toInt64)) (hb hby at_22) rfl (i2d_w _) kq) ?_
  show Ogo p e below _ (s₁.setTop (mkF m 23 #[.val (.int p1), .val (.int p2), .val (.int p3), .val (.int v4), .val (.int p5), .val (.int p6), .val (.int (Int32.ofNat d1)), .val (.int (Int32.ofNat d2)), .val (.int (Int32.ofNat d3)), .val (.int (Int32.ofNat d4)), .unset, .unset, .unset, .unset, .unset] [(.double (FP.l2d (v4.toInt64)))]))
  obtain ⟨xv, hxv⟩ : ∃ z, z = (v4.toInt64) := ⟨_, rfl⟩
  rw [← hxv]
  show Ogo p e below _ (s₁.setTop (mkF m 23 #[.val (.int p1), .val (.int p2), .val (.int p3), .val (.int v4), .val (.int p5), .val (.int p6), .val (.int (Int32.ofNat d1)), .val (.int (Int32.ofNat d2)), .val (.int (Int32.ofNat d3)), .val (.int (Int32.ofNat d4)), .unset, .unset, .unset, .unset, .unset] [(.double (FP.l2d xv))]))
  have hx1 : -2147483648 ≤ xv.toInt := by rw [hxv, c_i2l]; exact (rng32 v4).1
  have hx2 : xv.toInt ≤ 2147483648 := by rw [hxv, c_i2l]; have := (rng32 v4).2; omega
  refine own_via (fun tq kq => XS.dstore X0.here hx rfl (hb hby at_23) rfl (l' := #[.val (.int p1), .val (.int p2), .val (.int p3), .val (.int v4), .val (.int p5), .val (.int p6), .val (.int (Int32.ofNat d1)), .val (.int (Int32.ofNat d2)), .val (.int (Int32.ofNat d3)), .val (.int (Int32.ofNat d4)), .val (.double (FP.l2d xv)), .second, .unset, .unset, .unset]) rfl kq) ?_
  show Ogo p e below _ (s₁.setTop (mkF m 25 #[.val (.int p1), .val (.int p2), .val (.int p3), .val (.int v4), .val (.int p5), .val (.int p6), .val (.int (Int32.ofNat d1)), .val (.int (Int32.ofNat d2)), .val (.int (Int32.ofNat d3)), .val (.int (Int32.ofNat d4)), .val (.double (FP.l2d xv)), .second, .unset, .unset, .unset] []))
  refine own_via (fun tq kq => XS.iload X0.here hx rfl (hb hby at_25) rfl kq) ?_
  show Ogo p e below _ (s₁.setTop (mkF m 27 #[.val (.int p1), .val (.int p2), .val (.int p3), .val (.int v4), .val (.int p5), .val (.int p6), .val (.int (Int32.ofNat d1)), .val (.int (Int32.ofNat d2)), .val (.int (Int32.ofNat d3)), .val (.int (Int32.ofNat d4)), .val (.double (FP.l2d xv)), .second, .unset, .unset, .unset] [(.int p5)]))
  refine own_via (fun tq kq => XS.iconst X0.here hx rfl (hb hby at_27) kq) ?_
  show Ogo p e below _ (s₁.setTop (mkF m 28 #[.val (.int p1), .val (.int p2), .val (.int p3), .val (.int v4), .val (.int p5), .val (.int p6), .val (.int (Int32.ofNat d1)), .val (.int (Int32.ofNat d2)), .val (.int (Int32.ofNat d3)), .val (.int (Int32.ofNat d4)), .val (.double (FP.l2d xv)), .second, .unset, .unset, .unset] [(.int (3 : Int32)), (.int p5)]))
  refine own_via (fun tq kq => XS.iand X0.here hx rfl (hb hby at_28) rfl kq) ?_
  show Ogo p e below _ (s₁.setTop (mkF m 29 #[.val (.int p1), .val (.int p2), .val (.int p3), .val (.int v4), .val (.int p5), .val (.int p6), .val (.int (Int32.ofNat d1)), .val (.int (Int32.ofNat d2)), .val (.int (Int32.ofNat d3)), .val (.int (Int32.ofNat d4)), .val (.double (FP.l2d xv)), .second, .unset, .unset, .unset] [(.int (p5 &&& (3 : Int32)))]))
  refine own_via (fun tq kq => XS.istore X0.here hx rfl (hb hby at_29) rfl (l' := #[.val (.int p1), .val (.int p2), .val (.int p3), .val (.int v4), .val (.int p5), .val (.int p6), .val (.int (Int32.ofNat d1)), .val (.int (Int32.ofNat d2)), .val (.int (Int32.ofNat d3)), .val (.int (Int32.ofNat d4)), .val (.double (FP.l2d xv)), .second, .val (.int (p5 &&& (3 : Int32))), .unset, .unset]) rfl kq) ?_
  show Ogo p e below _ (s₁.setTop (mkF m 31 #[.val (.int p1), .val (.int p2), .val (.int p3), .val (.int v4), .val (.int p5), .val (.int p6), .val (.int (Int32.ofNat d1)), .val (.int (Int32.ofNat d2)), .val (.int (Int32.ofNat d3)), .val (.int (Int32.ofNat d4)), .val (.double (FP.l2d xv)), .second, .val (.int (p5 &&& (3 : Int32))), .unset, .unset] []))
  obtain ⟨kk, hkk⟩ : ∃ z, z = (p5 &&& (3 : Int32)) := ⟨_, rfl⟩
  rw [← hkk]
  show Ogo p e below _ (s₁.setTop (mkF m 31 #[.val (.int p1), .val (.int p2), .val (.int p3), .val (.int v4), .val (.int p5), .val (.int p6), .val (.int (Int32.ofNat d1)), .val (.int (Int32.ofNat d2)), .val (.int (Int32.ofNat d3)), .val (.int (Int32.ofNat d4)), .val (.double (FP.l2d xv)), .second, .val (.int kk), .unset, .unset] []))
  have l1 : (1 : Int32).toInt = 1 := rfl
  have l2 : (2 : Int32).toInt = 2 := rfl
  have l3 : (3 : Int32).toInt = 3 := rfl
  obtain ⟨T1, h1, X1, e1, E1, A1, D1, -, st1⟩ := newO X0 hx hZ hown (hw _ (List.mem_of_getElem? (i := 0) rfl)) (hw _ (List.mem_of_getElem? (i := 1) rfl)) (hw _ (List.mem_of_getElem? (i := 2) rfl)) e0 (g := (mkF m 31 #[.val (.int p1), .val (.int p2), .val (.int p3), .val (.int v4), .val (.int p5), .val (.int p6), .val (.int (Int32.ofNat d1)), .val (.int (Int32.ofNat d2)), .val (.int (Int32.ofNat d3)), .val (.int (Int32.ofNat d4)), .val (.double (FP.l2d xv)), .second, .val (.int kk), .unset, .unset] [])) rfl (hb hby at_31) (by decide) (by decide)
  refine own_via st1 ?_
  obtain ⟨a, g1⟩ : ∃ z, z = h0.size := ⟨_, rfl⟩
  rw [← g1]
  rw [← g1] at A1 D1
  have g_a : n0 ≤ a := by rw [g1]; exact zs
  have zs := Nat.le_trans zs E1.1
  have E_a := A1
  have F_scores_a : Fld Z h1 a "com/example/depister/depister/core/model/Accumulator" "scores" "[D" .null := D1 (Or.inr (hw _ (List.mem_of_getElem? (i := 11) rfl))) (ty := (.array .double)) (by decide)
  have F_listed_a : Fld Z h1 a "com/example/depister/depister/core/model/Accumulator" "listed" "[Z" .null := D1 (Or.inr (hw _ (List.mem_of_getElem? (i := 14) rfl))) (ty := (.array .boolean)) (by decide)
  have F_documents_a : Fld Z h1 a "com/example/depister/depister/core/model/Accumulator" "documents" "[I" .null := D1 (Or.inr (hw _ (List.mem_of_getElem? (i := 17) rfl))) (ty := (.array .int)) (by decide)
  have F_count_a : Fld Z h1 a "com/example/depister/depister/core/model/Accumulator" "count" "I" (.int (0 : Int32)) := D1 (Or.inl (hw _ (List.mem_of_getElem? (i := 24) rfl))) (ty := .int) (by decide)
  show Ogo p e below _ (T1.setTop (mkF m 34 #[.val (.int p1), .val (.int p2), .val (.int p3), .val (.int v4), .val (.int p5), .val (.int p6), .val (.int (Int32.ofNat d1)), .val (.int (Int32.ofNat d2)), .val (.int (Int32.ofNat d3)), .val (.int (Int32.ofNat d4)), .val (.double (FP.l2d xv)), .second, .val (.int kk), .unset, .unset] [(.ref a)]))
  refine own_via (fun tq kq => XS.dup X1.here hx rfl (hb hby at_34) rfl rfl kq) ?_
  show Ogo p e below _ (T1.setTop (mkF m 35 #[.val (.int p1), .val (.int p2), .val (.int p3), .val (.int v4), .val (.int p5), .val (.int p6), .val (.int (Int32.ofNat d1)), .val (.int (Int32.ofNat d2)), .val (.int (Int32.ofNat d3)), .val (.int (Int32.ofNat d4)), .val (.double (FP.l2d xv)), .second, .val (.int kk), .unset, .unset] [(.ref a), (.ref a)]))
  refine own_via (fun tq kq => XS.iconst X1.here hx rfl (hb hby at_35) kq) ?_
  show Ogo p e below _ (T1.setTop (mkF m 36 #[.val (.int p1), .val (.int p2), .val (.int p3), .val (.int v4), .val (.int p5), .val (.int p6), .val (.int (Int32.ofNat d1)), .val (.int (Int32.ofNat d2)), .val (.int (Int32.ofNat d3)), .val (.int (Int32.ofNat d4)), .val (.double (FP.l2d xv)), .second, .val (.int kk), .unset, .unset] [(.int (4 : Int32)), (.ref a), (.ref a)]))
  refine own_callI X1 hx hZ rfl hown (hw _ (List.mem_of_getElem? (i := 3) rfl)) (hw _ (List.mem_of_getElem? (i := 4) rfl)) (hw _ (List.mem_of_getElem? (i := 2) rfl)) (hw _ (List.mem_of_getElem? (i := 5) rfl)) (by decide) (rm_in hw a h1 n0 E_a F_scores_a F_listed_a F_documents_a F_count_a g_a zs) rfl e1 (W := 1) (by decide) (by decide) (by decide) (by decide) (by rw [hml]; rfl) (a := a) (argsL := [(.int (4 : Int32))]) (rest := [(.ref a)]) (lenOf pd_0 rfl) rfl (Nat.le_of_eq rfl) (hb hby at_36) ?_
  rintro _ T2 L2 X2 ⟨rfl, Nq, Kc, sc, li, dc, HA, HN⟩
  have N := N.app Nq
  have E_a := E_a.keep Kc
  have zs := Nat.le_trans zs Kc.1
  show Ogo p e below _ (T2.setTop (mkF m 39 #[.val (.int p1), .val (.int p2), .val (.int p3), .val (.int v4), .val (.int p5), .val (.int p6), .val (.int (Int32.ofNat d1)), .val (.int (Int32.ofNat d2)), .val (.int (Int32.ofNat d3)), .val (.int (Int32.ofNat d4)), .val (.double (FP.l2d xv)), .second, .val (.int kk), .unset, .unset] [(.ref a)]))
  have HI : AccI 0 0 (fun _ => 0) (fun _ => 0) (fun _ => 0) 0 := ⟨fun i hi => absurd hi (Nat.not_lt_zero i), fun j hj => Or.inl rfl, fun j hj _ => rfl, fun j hj => ⟨(by decide : -(0 : Int) ≤ (0 : Int64).toInt), (by decide : (0 : Int64).toInt ≤ (0 : Int))⟩⟩
  have E_a := HA.1
  refine own_via (fun tq kq => XS.astore X2.here hx rfl (hb hby at_39) rfl rfl (l' := #[.val (.int p1), .val (.int p2), .val (.int p3), .val (.int v4), .val (.int p5), .val (.int p6), .val (.int (Int32.ofNat d1)), .val (.int (Int32.ofNat d2)), .val (.int (Int32.ofNat d3)), .val (.int (Int32.ofNat d4)), .val (.double (FP.l2d xv)), .second, .val (.int kk), .val (.ref a), .unset]) rfl kq) ?_
  show Ogo p e below _ (T2.setTop (mkF m 41 #[.val (.int p1), .val (.int p2), .val (.int p3), .val (.int v4), .val (.int p5), .val (.int p6), .val (.int (Int32.ofNat d1)), .val (.int (Int32.ofNat d2)), .val (.int (Int32.ofNat d3)), .val (.int (Int32.ofNat d4)), .val (.double (FP.l2d xv)), .second, .val (.int kk), .val (.ref a), .unset] []))
  refine own_via (fun tq kq => XS.iload X2.here hx rfl (hb hby at_41) rfl kq) ?_
  show Ogo p e below _ (T2.setTop (mkF m 43 #[.val (.int p1), .val (.int p2), .val (.int p3), .val (.int v4), .val (.int p5), .val (.int p6), .val (.int (Int32.ofNat d1)), .val (.int (Int32.ofNat d2)), .val (.int (Int32.ofNat d3)), .val (.int (Int32.ofNat d4)), .val (.double (FP.l2d xv)), .second, .val (.int kk), .val (.ref a), .unset] [(.int kk)]))
  refine own_via (fun tq kq => XS.iconst X2.here hx rfl (hb hby at_43) kq) ?_
  show Ogo p e below _ (T2.setTop (mkF m 44 #[.val (.int p1), .val (.int p2), .val (.int p3), .val (.int v4), .val (.int p5), .val (.int p6), .val (.int (Int32.ofNat d1)), .val (.int (Int32.ofNat d2)), .val (.int (Int32.ofNat d3)), .val (.int (Int32.ofNat d4)), .val (.double (FP.l2d xv)), .second, .val (.int kk), .val (.ref a), .unset] [(.int (1 : Int32)), (.int kk)]))
  by_cases hc44 : kk < (1 : Int32)
  · refine own_via (fun tq kq => XS.icmpYes X2.here hx rfl (pc0 := 44) (pc' := 62) rfl (hb hby at_44) rfl (tlt (hc44 : kk < (1 : Int32))).1 (by decide) (by decide) kq) ?_
    show Ogo p e below _ (T2.setTop (mkF m 62 #[.val (.int p1), .val (.int p2), .val (.int p3), .val (.int v4), .val (.int p5), .val (.int p6), .val (.int (Int32.ofNat d1)), .val (.int (Int32.ofNat d2)), .val (.int (Int32.ofNat d3)), .val (.int (Int32.ofNat d4)), .val (.double (FP.l2d xv)), .second, .val (.int kk), .val (.ref a), .unset] []))
    refine own_via (fun tq kq => XS.iload X2.here hx rfl (hb hby at_62) rfl kq) ?_
    show Ogo p e below _ (T2.setTop (mkF m 64 #[.val (.int p1), .val (.int p2), .val (.int p3), .val (.int v4), .val (.int p5), .val (.int p6), .val (.int (Int32.ofNat d1)), .val (.int (Int32.ofNat d2)), .val (.int (Int32.ofNat d3)), .val (.int (Int32.ofNat d4)), .val (.double (FP.l2d xv)), .second, .val (.int kk), .val (.ref a), .unset] [(.int kk)]))
    refine own_via (fun tq kq => XS.iconst X2.here hx rfl (hb hby at_64) kq) ?_
    show Ogo p e below _ (T2.setTop (mkF m 65 #[.val (.int p1), .val (.int p2), .val (.int p3), .val (.int v4), .val (.int p5), .val (.int p6), .val (.int (Int32.ofNat d1)), .val (.int (Int32.ofNat d2)), .val (.int (Int32.ofNat d3)), .val (.int (Int32.ofNat d4)), .val (.double (FP.l2d xv)), .second, .val (.int kk), .val (.ref a), .unset] [(.int (2 : Int32)), (.int kk)]))
    refine own_via (fun tq kq => XS.icmpYes X2.here hx rfl (pc0 := 65) (pc' := 83) rfl (hb hby at_65) rfl (tlt (i_lt (by have := i_lt' hc44; omega) : kk < (2 : Int32))).1 (by decide) (by decide) kq) ?_
    show Ogo p e below _ (T2.setTop (mkF m 83 #[.val (.int p1), .val (.int p2), .val (.int p3), .val (.int v4), .val (.int p5), .val (.int p6), .val (.int (Int32.ofNat d1)), .val (.int (Int32.ofNat d2)), .val (.int (Int32.ofNat d3)), .val (.int (Int32.ofNat d4)), .val (.double (FP.l2d xv)), .second, .val (.int kk), .val (.ref a), .unset] []))
    refine own_via (fun tq kq => XS.iload X2.here hx rfl (hb hby at_83) rfl kq) ?_
    show Ogo p e below _ (T2.setTop (mkF m 85 #[.val (.int p1), .val (.int p2), .val (.int p3), .val (.int v4), .val (.int p5), .val (.int p6), .val (.int (Int32.ofNat d1)), .val (.int (Int32.ofNat d2)), .val (.int (Int32.ofNat d3)), .val (.int (Int32.ofNat d4)), .val (.double (FP.l2d xv)), .second, .val (.int kk), .val (.ref a), .unset] [(.int kk)]))
    refine own_via (fun tq kq => XS.iconst X2.here hx rfl (hb hby at_85) kq) ?_
    show Ogo p e below _ (T2.setTop (mkF m 86 #[.val (.int p1), .val (.int p2), .val (.int p3), .val (.int v4), .val (.int p5), .val (.int p6), .val (.int (Int32.ofNat d1)), .val (.int (Int32.ofNat d2)), .val (.int (Int32.ofNat d3)), .val (.int (Int32.ofNat d4)), .val (.double (FP.l2d xv)), .second, .val (.int kk), .val (.ref a), .unset] [(.int (3 : Int32)), (.int kk)]))
    refine own_via (fun tq kq => XS.icmpYes X2.here hx rfl (pc0 := 86) (pc' := 104) rfl (hb hby at_86) rfl (tlt (i_lt (by have := i_lt' hc44; omega) : kk < (3 : Int32))).1 (by decide) (by decide) kq) ?_
    show Ogo p e below _ (T2.setTop (mkF m 104 #[.val (.int p1), .val (.int p2), .val (.int p3), .val (.int v4), .val (.int p5), .val (.int p6), .val (.int (Int32.ofNat d1)), .val (.int (Int32.ofNat d2)), .val (.int (Int32.ofNat d3)), .val (.int (Int32.ofNat d4)), .val (.double (FP.l2d xv)), .second, .val (.int kk), .val (.ref a), .unset] []))
    refine own_via (fun tq kq => XS.aload X2.here hx rfl (hb hby at_104) rfl rfl kq) ?_
    show Ogo p e below _ (T2.setTop (mkF m 106 #[.val (.int p1), .val (.int p2), .val (.int p3), .val (.int v4), .val (.int p5), .val (.int p6), .val (.int (Int32.ofNat d1)), .val (.int (Int32.ofNat d2)), .val (.int (Int32.ofNat d3)), .val (.int (Int32.ofNat d4)), .val (.double (FP.l2d xv)), .second, .val (.int kk), .val (.ref a), .unset] [(.ref a)]))
    refine own_callV X2 hx hZ hown (hw _ (List.mem_of_getElem? (i := 18) rfl)) (hw _ (List.mem_of_getElem? (i := 19) rfl)) (hw _ (List.mem_of_getElem? (i := 21) rfl)) (hw _ (List.mem_of_getElem? (i := 20) rfl)) (hw _ (List.mem_of_getElem? (i := 2) rfl)) (hw _ (List.mem_of_getElem? (i := 22) rfl)) (notFace_of_selects (args := #[]) (mvT hZ (hw _ (List.mem_of_getElem? (i := 21) rfl)))) (by decide) (rm_cl hw a sc li dc 0 (fun _ => 0) (fun _ => 0) (fun _ => 0) 0 T2.heap n0 HA HN HI (by omega) (by decide)) rfl rfl E_a (W := 0) (by decide) (by decide) (by decide) (by decide) (by rw [hml]; rfl) (b := a) (argsL := []) (rest := []) (lenOf pd_2 rfl) rfl (Nat.le_of_eq rfl) (hb hby at_106) ?_
    rintro _ T3 L3 X3 ⟨rfl, Nq, Kc, flz, wz, HA, hfz, hwz⟩
    have N := N.app Nq
    have E_a := E_a.keep Kc
    have zs := Nat.le_trans zs Kc.1
    show Ogo p e below _ (T3.setTop (mkF m 109 #[.val (.int p1), .val (.int p2), .val (.int p3), .val (.int v4), .val (.int p5), .val (.int p6), .val (.int (Int32.ofNat d1)), .val (.int (Int32.ofNat d2)), .val (.int (Int32.ofNat d3)), .val (.int (Int32.ofNat d4)), .val (.double (FP.l2d xv)), .second, .val (.int kk), .val (.ref a), .unset] []))
    obtain ⟨E_a, F_scores_a, F_listed_a, F_documents_a, F_count_a, A_sc, A_li, A_dc⟩ := id HA
    refine own_via (fun tq kq => XS.aload X3.here hx rfl (hb hby at_109) rfl rfl kq) ?_
    show Ogo p e below _ (T3.setTop (mkF m 111 #[.val (.int p1), .val (.int p2), .val (.int p3), .val (.int v4), .val (.int p5), .val (.int p6), .val (.int (Int32.ofNat d1)), .val (.int (Int32.ofNat d2)), .val (.int (Int32.ofNat d3)), .val (.int (Int32.ofNat d4)), .val (.double (FP.l2d xv)), .second, .val (.int kk), .val (.ref a), .unset] [(.ref a)]))
    refine own_callV X3 hx hZ hown (hw _ (List.mem_of_getElem? (i := 25) rfl)) (hw _ (List.mem_of_getElem? (i := 26) rfl)) (hw _ (List.mem_of_getElem? (i := 28) rfl)) (hw _ (List.mem_of_getElem? (i := 27) rfl)) (hw _ (List.mem_of_getElem? (i := 2) rfl)) (hw _ (List.mem_of_getElem? (i := 29) rfl)) (notFace_of_selects (args := #[]) (mvT hZ (hw _ (List.mem_of_getElem? (i := 28) rfl)))) (by decide) (rm_cn hw a 0 T3.heap n0 F_count_a) rfl rfl E_a (W := 0) (by decide) (by decide) (by decide) (by decide) (by rw [hml]; rfl) (b := a) (argsL := []) (rest := []) (lenOf pd_3 rfl) rfl (Nat.le_of_eq rfl) (hb hby at_111) ?_
    rintro _ T4 L4 X4 ⟨rfl, Nq, hk⟩
    have N := N.app Nq
    have hk4 := hk
    show Ogo p e below _ (T4.setTop (mkF m 114 #[.val (.int p1), .val (.int p2), .val (.int p3), .val (.int v4), .val (.int p5), .val (.int p6), .val (.int (Int32.ofNat d1)), .val (.int (Int32.ofNat d2)), .val (.int (Int32.ofNat d3)), .val (.int (Int32.ofNat d4)), .val (.double (FP.l2d xv)), .second, .val (.int kk), .val (.ref a), .unset] [(.int (0 : Int32))]))
    refine own_via (fun tq kq => XS.ifNo X4.here hx rfl (hb hby at_114) rfl ((if0 _ _).trans (teq (rfl : (0 : Int32) = (0 : Int32))).2) kq) ?_
    show Ogo p e below _ (T4.setTop (mkF m 117 #[.val (.int p1), .val (.int p2), .val (.int p3), .val (.int v4), .val (.int p5), .val (.int p6), .val (.int (Int32.ofNat d1)), .val (.int (Int32.ofNat d2)), .val (.int (Int32.ofNat d3)), .val (.int (Int32.ofNat d4)), .val (.double (FP.l2d xv)), .second, .val (.int kk), .val (.ref a), .unset] []))
    refine own_via (fun tq kq => XS.aload X4.here hx rfl (hb hby at_117) rfl rfl kq) ?_
    show Ogo p e below _ (T4.setTop (mkF m 119 #[.val (.int p1), .val (.int p2), .val (.int p3), .val (.int v4), .val (.int p5), .val (.int p6), .val (.int (Int32.ofNat d1)), .val (.int (Int32.ofNat d2)), .val (.int (Int32.ofNat d3)), .val (.int (Int32.ofNat d4)), .val (.double (FP.l2d xv)), .second, .val (.int kk), .val (.ref a), .unset] [(.ref a)]))
    refine own_via (fun tq kq => XS.iload X4.here hx rfl (hb hby at_119) rfl kq) ?_
    show Ogo p e below _ (T4.setTop (mkF m 121 #[.val (.int p1), .val (.int p2), .val (.int p3), .val (.int v4), .val (.int p5), .val (.int p6), .val (.int (Int32.ofNat d1)), .val (.int (Int32.ofNat d2)), .val (.int (Int32.ofNat d3)), .val (.int (Int32.ofNat d4)), .val (.double (FP.l2d xv)), .second, .val (.int kk), .val (.ref a), .unset] [(.int (Int32.ofNat d1)), (.ref a)]))
    refine own_callV X4 hx hZ hown (hw _ (List.mem_of_getElem? (i := 30) rfl)) (hw _ (List.mem_of_getElem? (i := 31) rfl)) (hw _ (List.mem_of_getElem? (i := 33) rfl)) (hw _ (List.mem_of_getElem? (i := 32) rfl)) (hw _ (List.mem_of_getElem? (i := 2) rfl)) (hw _ (List.mem_of_getElem? (i := 34) rfl)) (notFace_of_selects (args := #[]) (mvT hZ (hw _ (List.mem_of_getElem? (i := 33) rfl)))) (by decide) (rm_sc hw a sc wz d1 T3.heap n0 F_scores_a A_sc ld1) rfl hk4 E_a (W := 0) (by decide) (by decide) (by decide) (by decide) (by rw [hml]; rfl) (b := a) (argsL := [(.int (Int32.ofNat d1))]) (rest := []) (lenOf pd_4 rfl) rfl (Nat.le_of_eq rfl) (hb hby at_121) ?_
    rintro _ T5 L5 X5 ⟨rfl, Nq, hk⟩
    have N := N.app Nq
    have hk5 := hk
    show Ogo p e below _ (T5.setTop (mkF m 124 #[.val (.int p1), .val (.int p2), .val (.int p3), .val (.int v4), .val (.int p5), .val (.int p6), .val (.int (Int32.ofNat d1)), .val (.int (Int32.ofNat d2)), .val (.int (Int32.ofNat d3)), .val (.int (Int32.ofNat d4)), .val (.double (FP.l2d xv)), .second, .val (.int kk), .val (.ref a), .unset] [(.double (FP.l2d (wz d1)))]))
    rw [hwz d1 ld1]
    show Ogo p e below _ (T5.setTop (mkF m 124 #[.val (.int p1), .val (.int p2), .val (.int p3), .val (.int v4), .val (.int p5), .val (.int p6), .val (.int (Int32.ofNat d1)), .val (.int (Int32.ofNat d2)), .val (.int (Int32.ofNat d3)), .val (.int (Int32.ofNat d4)), .val (.double (FP.l2d xv)), .second, .val (.int kk), .val (.ref a), .unset] [(.double (FP.l2d 0))]))
    refine own_via (fun tq kq => XS.dconst0 X5.here hx rfl (v := FP.l2d 0) (hb hby at_124) l2d_zero.symm kq) ?_
    show Ogo p e below _ (T5.setTop (mkF m 125 #[.val (.int p1), .val (.int p2), .val (.int p3), .val (.int v4), .val (.int p5), .val (.int p6), .val (.int (Int32.ofNat d1)), .val (.int (Int32.ofNat d2)), .val (.int (Int32.ofNat d3)), .val (.int (Int32.ofNat d4)), .val (.double (FP.l2d xv)), .second, .val (.int kk), .val (.ref a), .unset] [(.double (FP.l2d 0)), (.double (FP.l2d 0))]))
    refine own_via (fun tq kq => XS.dcmpS X5.here hx rfl (hb hby at_125) rfl (v := (0 : Int32)) (dcmpV_self (nn_w rfl) _) kq) ?_
    show Ogo p e below _ (T5.setTop (mkF m 126 #[.val (.int p1), .val (.int p2), .val (.int p3), .val (.int v4), .val (.int p5), .val (.int p6), .val (.int (Int32.ofNat d1)), .val (.int (Int32.ofNat d2)), .val (.int (Int32.ofNat d3)), .val (.int (Int32.ofNat d4)), .val (.double (FP.l2d xv)), .second, .val (.int kk), .val (.ref a), .unset] [(.int (0 : Int32))]))
    refine own_via (fun tq kq => XS.ifNo X5.here hx rfl (hb hby at_126) rfl ((if0 _ _).trans (teq (rfl : (0 : Int32) = (0 : Int32))).2) kq) ?_
    show Ogo p e below _ (T5.setTop (mkF m 129 #[.val (.int p1), .val (.int p2), .val (.int p3), .val (.int v4), .val (.int p5), .val (.int p6), .val (.int (Int32.ofNat d1)), .val (.int (Int32.ofNat d2)), .val (.int (Int32.ofNat d3)), .val (.int (Int32.ofNat d4)), .val (.double (FP.l2d xv)), .second, .val (.int kk), .val (.ref a), .unset] []))
    refine own_via (fun tq kq => XS.aload X5.here hx rfl (hb hby at_129) rfl rfl kq) ?_
    show Ogo p e below _ (T5.setTop (mkF m 131 #[.val (.int p1), .val (.int p2), .val (.int p3), .val (.int v4), .val (.int p5), .val (.int p6), .val (.int (Int32.ofNat d1)), .val (.int (Int32.ofNat d2)), .val (.int (Int32.ofNat d3)), .val (.int (Int32.ofNat d4)), .val (.double (FP.l2d xv)), .second, .val (.int kk), .val (.ref a), .unset] [(.ref a)]))
    refine own_via (fun tq kq => XS.iload X5.here hx rfl (hb hby at_131) rfl kq) ?_
    show Ogo p e below _ (T5.setTop (mkF m 133 #[.val (.int p1), .val (.int p2), .val (.int p3), .val (.int v4), .val (.int p5), .val (.int p6), .val (.int (Int32.ofNat d1)), .val (.int (Int32.ofNat d2)), .val (.int (Int32.ofNat d3)), .val (.int (Int32.ofNat d4)), .val (.double (FP.l2d xv)), .second, .val (.int kk), .val (.ref a), .unset] [(.int (Int32.ofNat d2)), (.ref a)]))
    refine own_callV X5 hx hZ hown (hw _ (List.mem_of_getElem? (i := 30) rfl)) (hw _ (List.mem_of_getElem? (i := 31) rfl)) (hw _ (List.mem_of_getElem? (i := 33) rfl)) (hw _ (List.mem_of_getElem? (i := 32) rfl)) (hw _ (List.mem_of_getElem? (i := 2) rfl)) (hw _ (List.mem_of_getElem? (i := 34) rfl)) (notFace_of_selects (args := #[]) (mvT hZ (hw _ (List.mem_of_getElem? (i := 33) rfl)))) (by decide) (rm_sc hw a sc wz d2 T3.heap n0 F_scores_a A_sc ld2) rfl hk5 E_a (W := 0) (by decide) (by decide) (by decide) (by decide) (by rw [hml]; rfl) (b := a) (argsL := [(.int (Int32.ofNat d2))]) (rest := []) (lenOf pd_4 rfl) rfl (Nat.le_of_eq rfl) (hb hby at_133) ?_
    rintro _ T6 L6 X6 ⟨rfl, Nq, hk⟩
    have N := N.app Nq
    have hk6 := hk
    show Ogo p e below _ (T6.setTop (mkF m 136 #[.val (.int p1), .val (.int p2), .val (.int p3), .val (.int v4), .val (.int p5), .val (.int p6), .val (.int (Int32.ofNat d1)), .val (.int (Int32.ofNat d2)), .val (.int (Int32.ofNat d3)), .val (.int (Int32.ofNat d4)), .val (.double (FP.l2d xv)), .second, .val (.int kk), .val (.ref a), .unset] [(.double (FP.l2d (wz d2)))]))
    rw [hwz d2 ld2]
    show Ogo p e below _ (T6.setTop (mkF m 136 #[.val (.int p1), .val (.int p2), .val (.int p3), .val (.int v4), .val (.int p5), .val (.int p6), .val (.int (Int32.ofNat d1)), .val (.int (Int32.ofNat d2)), .val (.int (Int32.ofNat d3)), .val (.int (Int32.ofNat d4)), .val (.double (FP.l2d xv)), .second, .val (.int kk), .val (.ref a), .unset] [(.double (FP.l2d 0))]))
    refine own_via (fun tq kq => XS.dconst0 X6.here hx rfl (v := FP.l2d 0) (hb hby at_136) l2d_zero.symm kq) ?_
    show Ogo p e below _ (T6.setTop (mkF m 137 #[.val (.int p1), .val (.int p2), .val (.int p3), .val (.int v4), .val (.int p5), .val (.int p6), .val (.int (Int32.ofNat d1)), .val (.int (Int32.ofNat d2)), .val (.int (Int32.ofNat d3)), .val (.int (Int32.ofNat d4)), .val (.double (FP.l2d xv)), .second, .val (.int kk), .val (.ref a), .unset] [(.double (FP.l2d 0)), (.double (FP.l2d 0))]))
    refine own_via (fun tq kq => XS.dcmpS X6.here hx rfl (hb hby at_137) rfl (v := (0 : Int32)) (dcmpV_self (nn_w rfl) _) kq) ?_
    show Ogo p e below _ (T6.setTop (mkF m 138 #[.val (.int p1), .val (.int p2), .val (.int p3), .val (.int v4), .val (.int p5), .val (.int p6), .val (.int (Int32.ofNat d1)), .val (.int (Int32.ofNat d2)), .val (.int (Int32.ofNat d3)), .val (.int (Int32.ofNat d4)), .val (.double (FP.l2d xv)), .second, .val (.int kk), .val (.ref a), .unset] [(.int (0 : Int32))]))
    refine own_via (fun tq kq => XS.ifNo X6.here hx rfl (hb hby at_138) rfl ((if0 _ _).trans (teq (rfl : (0 : Int32) = (0 : Int32))).2) kq) ?_
    show Ogo p e below _ (T6.setTop (mkF m 141 #[.val (.int p1), .val (.int p2), .val (.int p3), .val (.int v4), .val (.int p5), .val (.int p6), .val (.int (Int32.ofNat d1)), .val (.int (Int32.ofNat d2)), .val (.int (Int32.ofNat d3)), .val (.int (Int32.ofNat d4)), .val (.double (FP.l2d xv)), .second, .val (.int kk), .val (.ref a), .unset] []))
    refine own_via (fun tq kq => XS.aload X6.here hx rfl (hb hby at_141) rfl rfl kq) ?_
    show Ogo p e below _ (T6.setTop (mkF m 143 #[.val (.int p1), .val (.int p2), .val (.int p3), .val (.int v4), .val (.int p5), .val (.int p6), .val (.int (Int32.ofNat d1)), .val (.int (Int32.ofNat d2)), .val (.int (Int32.ofNat d3)), .val (.int (Int32.ofNat d4)), .val (.double (FP.l2d xv)), .second, .val (.int kk), .val (.ref a), .unset] [(.ref a)]))
    refine own_via (fun tq kq => XS.iload X6.here hx rfl (hb hby at_143) rfl kq) ?_
    show Ogo p e below _ (T6.setTop (mkF m 145 #[.val (.int p1), .val (.int p2), .val (.int p3), .val (.int v4), .val (.int p5), .val (.int p6), .val (.int (Int32.ofNat d1)), .val (.int (Int32.ofNat d2)), .val (.int (Int32.ofNat d3)), .val (.int (Int32.ofNat d4)), .val (.double (FP.l2d xv)), .second, .val (.int kk), .val (.ref a), .unset] [(.int (Int32.ofNat d3)), (.ref a)]))
    refine own_callV X6 hx hZ hown (hw _ (List.mem_of_getElem? (i := 30) rfl)) (hw _ (List.mem_of_getElem? (i := 31) rfl)) (hw _ (List.mem_of_getElem? (i := 33) rfl)) (hw _ (List.mem_of_getElem? (i := 32) rfl)) (hw _ (List.mem_of_getElem? (i := 2) rfl)) (hw _ (List.mem_of_getElem? (i := 34) rfl)) (notFace_of_selects (args := #[]) (mvT hZ (hw _ (List.mem_of_getElem? (i := 33) rfl)))) (by decide) (rm_sc hw a sc wz d3 T3.heap n0 F_scores_a A_sc ld3) rfl hk6 E_a (W := 0) (by decide) (by decide) (by decide) (by decide) (by rw [hml]; rfl) (b := a) (argsL := [(.int (Int32.ofNat d3))]) (rest := []) (lenOf pd_4 rfl) rfl (Nat.le_of_eq rfl) (hb hby at_145) ?_
    rintro _ T7 L7 X7 ⟨rfl, Nq, hk⟩
    have N := N.app Nq
    have hk7 := hk
    show Ogo p e below _ (T7.setTop (mkF m 148 #[.val (.int p1), .val (.int p2), .val (.int p3), .val (.int v4), .val (.int p5), .val (.int p6), .val (.int (Int32.ofNat d1)), .val (.int (Int32.ofNat d2)), .val (.int (Int32.ofNat d3)), .val (.int (Int32.ofNat d4)), .val (.double (FP.l2d xv)), .second, .val (.int kk), .val (.ref a), .unset] [(.double (FP.l2d (wz d3)))]))
    rw [hwz d3 ld3]
    show Ogo p e below _ (T7.setTop (mkF m 148 #[.val (.int p1), .val (.int p2), .val (.int p3), .val (.int v4), .val (.int p5), .val (.int p6), .val (.int (Int32.ofNat d1)), .val (.int (Int32.ofNat d2)), .val (.int (Int32.ofNat d3)), .val (.int (Int32.ofNat d4)), .val (.double (FP.l2d xv)), .second, .val (.int kk), .val (.ref a), .unset] [(.double (FP.l2d 0))]))
    refine own_via (fun tq kq => XS.dconst0 X7.here hx rfl (v := FP.l2d 0) (hb hby at_148) l2d_zero.symm kq) ?_
    show Ogo p e below _ (T7.setTop (mkF m 149 #[.val (.int p1), .val (.int p2), .val (.int p3), .val (.int v4), .val (.int p5), .val (.int p6), .val (.int (Int32.ofNat d1)), .val (.int (Int32.ofNat d2)), .val (.int (Int32.ofNat d3)), .val (.int (Int32.ofNat d4)), .val (.double (FP.l2d xv)), .second, .val (.int kk), .val (.ref a), .unset] [(.double (FP.l2d 0)), (.double (FP.l2d 0))]))
    refine own_via (fun tq kq => XS.dcmpS X7.here hx rfl (hb hby at_149) rfl (v := (0 : Int32)) (dcmpV_self (nn_w rfl) _) kq) ?_
    show Ogo p e below _ (T7.setTop (mkF m 150 #[.val (.int p1), .val (.int p2), .val (.int p3), .val (.int v4), .val (.int p5), .val (.int p6), .val (.int (Int32.ofNat d1)), .val (.int (Int32.ofNat d2)), .val (.int (Int32.ofNat d3)), .val (.int (Int32.ofNat d4)), .val (.double (FP.l2d xv)), .second, .val (.int kk), .val (.ref a), .unset] [(.int (0 : Int32))]))
    refine own_via (fun tq kq => XS.ifNo X7.here hx rfl (hb hby at_150) rfl ((if0 _ _).trans (teq (rfl : (0 : Int32) = (0 : Int32))).2) kq) ?_
    show Ogo p e below _ (T7.setTop (mkF m 153 #[.val (.int p1), .val (.int p2), .val (.int p3), .val (.int v4), .val (.int p5), .val (.int p6), .val (.int (Int32.ofNat d1)), .val (.int (Int32.ofNat d2)), .val (.int (Int32.ofNat d3)), .val (.int (Int32.ofNat d4)), .val (.double (FP.l2d xv)), .second, .val (.int kk), .val (.ref a), .unset] []))
    refine own_via (fun tq kq => XS.iconst X7.here hx rfl (hb hby at_153) kq) ?_
    show Ogo p e below _ (T7.setTop (mkF m 154 #[.val (.int p1), .val (.int p2), .val (.int p3), .val (.int v4), .val (.int p5), .val (.int p6), .val (.int (Int32.ofNat d1)), .val (.int (Int32.ofNat d2)), .val (.int (Int32.ofNat d3)), .val (.int (Int32.ofNat d4)), .val (.double (FP.l2d xv)), .second, .val (.int kk), .val (.ref a), .unset] [(.int (1 : Int32))]))
    refine own_via (fun tq kq => XS.goto X7.here hx rfl (pc0 := 154) (pc' := 158) rfl (hb hby at_154) (by decide) (by decide) kq) ?_
    show Ogo p e below _ (T7.setTop (mkF m 158 #[.val (.int p1), .val (.int p2), .val (.int p3), .val (.int v4), .val (.int p5), .val (.int p6), .val (.int (Int32.ofNat d1)), .val (.int (Int32.ofNat d2)), .val (.int (Int32.ofNat d3)), .val (.int (Int32.ofNat d4)), .val (.double (FP.l2d xv)), .second, .val (.int kk), .val (.ref a), .unset] [(.int (1 : Int32))]))
    refine own_via (fun tq kq => XS.istore X7.here hx rfl (hb hby at_158) rfl (l' := #[.val (.int p1), .val (.int p2), .val (.int p3), .val (.int v4), .val (.int p5), .val (.int p6), .val (.int (Int32.ofNat d1)), .val (.int (Int32.ofNat d2)), .val (.int (Int32.ofNat d3)), .val (.int (Int32.ofNat d4)), .val (.double (FP.l2d xv)), .second, .val (.int kk), .val (.ref a), .val (.int (1 : Int32))]) rfl kq) ?_
    show Ogo p e below _ (T7.setTop (mkF m 160 #[.val (.int p1), .val (.int p2), .val (.int p3), .val (.int v4), .val (.int p5), .val (.int p6), .val (.int (Int32.ofNat d1)), .val (.int (Int32.ofNat d2)), .val (.int (Int32.ofNat d3)), .val (.int (Int32.ofNat d4)), .val (.double (FP.l2d xv)), .second, .val (.int kk), .val (.ref a), .val (.int (1 : Int32))] []))
    refine own_via (fun tq kq => XS.aload X7.here hx rfl (hb hby at_160) rfl rfl kq) ?_
    show Ogo p e below _ (T7.setTop (mkF m 162 #[.val (.int p1), .val (.int p2), .val (.int p3), .val (.int v4), .val (.int p5), .val (.int p6), .val (.int (Int32.ofNat d1)), .val (.int (Int32.ofNat d2)), .val (.int (Int32.ofNat d3)), .val (.int (Int32.ofNat d4)), .val (.double (FP.l2d xv)), .second, .val (.int kk), .val (.ref a), .val (.int (1 : Int32))] [(.ref a)]))
    refine own_via (fun tq kq => XS.iload X7.here hx rfl (hb hby at_162) rfl kq) ?_
    show Ogo p e below _ (T7.setTop (mkF m 164 #[.val (.int p1), .val (.int p2), .val (.int p3), .val (.int v4), .val (.int p5), .val (.int p6), .val (.int (Int32.ofNat d1)), .val (.int (Int32.ofNat d2)), .val (.int (Int32.ofNat d3)), .val (.int (Int32.ofNat d4)), .val (.double (FP.l2d xv)), .second, .val (.int kk), .val (.ref a), .val (.int (1 : Int32))] [(.int (Int32.ofNat d4)), (.ref a)]))
    refine own_via (fun tq kq => XS.dload X7.here hx rfl (hb hby at_164) rfl kq) ?_
    show Ogo p e below _ (T7.setTop (mkF m 166 #[.val (.int p1), .val (.int p2), .val (.int p3), .val (.int v4), .val (.int p5), .val (.int p6), .val (.int (Int32.ofNat d1)), .val (.int (Int32.ofNat d2)), .val (.int (Int32.ofNat d3)), .val (.int (Int32.ofNat d4)), .val (.double (FP.l2d xv)), .second, .val (.int kk), .val (.ref a), .val (.int (1 : Int32))] [(.double (FP.l2d xv)), (.int (Int32.ofNat d4)), (.ref a)]))
    have HI : AccI 0 0 (fun _ => 0) flz wz 0 := ⟨fun i hi => absurd hi (Nat.not_lt_zero i), fun j hj => Or.inl (hfz j hj), fun j hj _ => hwz j hj, fun j hj => by rw [hwz j hj]; exact ⟨by decide, by decide⟩⟩
    refine own_callV X7 hx hZ hown (hw _ (List.mem_of_getElem? (i := 35) rfl)) (hw _ (List.mem_of_getElem? (i := 36) rfl)) (hw _ (List.mem_of_getElem? (i := 38) rfl)) (hw _ (List.mem_of_getElem? (i := 37) rfl)) (hw _ (List.mem_of_getElem? (i := 2) rfl)) (hw _ (List.mem_of_getElem? (i := 39) rfl)) (notFace_of_selects (args := #[]) (mvT hZ (hw _ (List.mem_of_getElem? (i := 38) rfl)))) (by decide) (rm_ad hw a sc li dc 0 (fun _ => 0) flz wz d4 0 0 xv T3.heap n0 HA HN HI ld4 (by decide) (by decide) hx1 hx2 (by decide) (by decide)) rfl hk7 E_a (W := 0) (by decide) (by decide) (by decide) (by decide) (by rw [hml]; rfl) (b := a) (argsL := [(.int (Int32.ofNat d4)), (.double (FP.l2d xv))]) (rest := []) (lenOf pd_1 rfl) rfl (Nat.le_of_eq rfl) (hb hby at_166) ?_
    rintro _ T8 L8 X8 ⟨rfl, Nq, Kc, n9, dn9, fl9, w9, HA, -, -, -, hex⟩
    have N := N.app Nq
    have E_a := E_a.keep Kc
    have zs := Nat.le_trans zs Kc.1
    show Ogo p e below _ (T8.setTop (mkF m 169 #[.val (.int p1), .val (.int p2), .val (.int p3), .val (.int v4), .val (.int p5), .val (.int p6), .val (.int (Int32.ofNat d1)), .val (.int (Int32.ofNat d2)), .val (.int (Int32.ofNat d3)), .val (.int (Int32.ofNat d4)), .val (.double (FP.l2d xv)), .second, .val (.int kk), .val (.ref a), .val (.int (1 : Int32))] []))
    obtain ⟨rfl, hd0⟩ := hex (hfz d4 ld4)
    obtain ⟨E_a, F_scores_a, F_listed_a, F_documents_a, F_count_a, A_sc, A_li, A_dc⟩ := id HA
    refine own_via (fun tq kq => XS.iload X8.here hx rfl (hb hby at_169) rfl kq) ?_
    show Ogo p e below _ (T8.setTop (mkF m 171 #[.val (.int p1), .val (.int p2), .val (.int p3), .val (.int v4), .val (.int p5), .val (.int p6), .val (.int (Int32.ofNat d1)), .val (.int (Int32.ofNat d2)), .val (.int (Int32.ofNat d3)), .val (.int (Int32.ofNat d4)), .val (.double (FP.l2d xv)), .second, .val (.int kk), .val (.ref a), .val (.int (1 : Int32))] [(.int (1 : Int32))]))
    refine own_via (fun tq kq => XS.ifNo X8.here hx rfl (hb hby at_171) rfl ((if0 _ _).trans (feq ((by decide) : ¬ ((1 : Int32) = (0 : Int32)))).1) kq) ?_
    show Ogo p e below _ (T8.setTop (mkF m 174 #[.val (.int p1), .val (.int p2), .val (.int p3), .val (.int v4), .val (.int p5), .val (.int p6), .val (.int (Int32.ofNat d1)), .val (.int (Int32.ofNat d2)), .val (.int (Int32.ofNat d3)), .val (.int (Int32.ofNat d4)), .val (.double (FP.l2d xv)), .second, .val (.int kk), .val (.ref a), .val (.int (1 : Int32))] []))
    refine own_via (fun tq kq => XS.aload X8.here hx rfl (hb hby at_174) rfl rfl kq) ?_
    show Ogo p e below _ (T8.setTop (mkF m 176 #[.val (.int p1), .val (.int p2), .val (.int p3), .val (.int v4), .val (.int p5), .val (.int p6), .val (.int (Int32.ofNat d1)), .val (.int (Int32.ofNat d2)), .val (.int (Int32.ofNat d3)), .val (.int (Int32.ofNat d4)), .val (.double (FP.l2d xv)), .second, .val (.int kk), .val (.ref a), .val (.int (1 : Int32))] [(.ref a)]))
    refine own_callV X8 hx hZ hown (hw _ (List.mem_of_getElem? (i := 25) rfl)) (hw _ (List.mem_of_getElem? (i := 26) rfl)) (hw _ (List.mem_of_getElem? (i := 28) rfl)) (hw _ (List.mem_of_getElem? (i := 27) rfl)) (hw _ (List.mem_of_getElem? (i := 2) rfl)) (hw _ (List.mem_of_getElem? (i := 29) rfl)) (notFace_of_selects (args := #[]) (mvT hZ (hw _ (List.mem_of_getElem? (i := 28) rfl)))) (by decide) (rm_cn hw a 1 T8.heap n0 F_count_a) rfl rfl E_a (W := 0) (by decide) (by decide) (by decide) (by decide) (by rw [hml]; rfl) (b := a) (argsL := []) (rest := []) (lenOf pd_3 rfl) rfl (Nat.le_of_eq rfl) (hb hby at_176) ?_
    rintro _ T9 L9 X9 ⟨rfl, Nq, hk⟩
    have N := N.app Nq
    have hk9 := hk
    show Ogo p e below _ (T9.setTop (mkF m 179 #[.val (.int p1), .val (.int p2), .val (.int p3), .val (.int v4), .val (.int p5), .val (.int p6), .val (.int (Int32.ofNat d1)), .val (.int (Int32.ofNat d2)), .val (.int (Int32.ofNat d3)), .val (.int (Int32.ofNat d4)), .val (.double (FP.l2d xv)), .second, .val (.int kk), .val (.ref a), .val (.int (1 : Int32))] [(.int (1 : Int32))]))
    refine own_via (fun tq kq => XS.iconst X9.here hx rfl (hb hby at_179) kq) ?_
    show Ogo p e below _ (T9.setTop (mkF m 180 #[.val (.int p1), .val (.int p2), .val (.int p3), .val (.int v4), .val (.int p5), .val (.int p6), .val (.int (Int32.ofNat d1)), .val (.int (Int32.ofNat d2)), .val (.int (Int32.ofNat d3)), .val (.int (Int32.ofNat d4)), .val (.double (FP.l2d xv)), .second, .val (.int kk), .val (.ref a), .val (.int (1 : Int32))] [(.int (1 : Int32)), (.int (1 : Int32))]))
    refine own_via (fun tq kq => XS.icmpNo X9.here hx rfl (hb hby at_180) rfl (teq (rfl : (1 : Int32) = (1 : Int32))).2 kq) ?_
    show Ogo p e below _ (T9.setTop (mkF m 183 #[.val (.int p1), .val (.int p2), .val (.int p3), .val (.int v4), .val (.int p5), .val (.int p6), .val (.int (Int32.ofNat d1)), .val (.int (Int32.ofNat d2)), .val (.int (Int32.ofNat d3)), .val (.int (Int32.ofNat d4)), .val (.double (FP.l2d xv)), .second, .val (.int kk), .val (.ref a), .val (.int (1 : Int32))] []))
    refine own_via (fun tq kq => XS.aload X9.here hx rfl (hb hby at_183) rfl rfl kq) ?_
    show Ogo p e below _ (T9.setTop (mkF m 185 #[.val (.int p1), .val (.int p2), .val (.int p3), .val (.int v4), .val (.int p5), .val (.int p6), .val (.int (Int32.ofNat d1)), .val (.int (Int32.ofNat d2)), .val (.int (Int32.ofNat d3)), .val (.int (Int32.ofNat d4)), .val (.double (FP.l2d xv)), .second, .val (.int kk), .val (.ref a), .val (.int (1 : Int32))] [(.ref a)]))
    refine own_via (fun tq kq => XS.iconst X9.here hx rfl (hb hby at_185) kq) ?_
    show Ogo p e below _ (T9.setTop (mkF m 186 #[.val (.int p1), .val (.int p2), .val (.int p3), .val (.int v4), .val (.int p5), .val (.int p6), .val (.int (Int32.ofNat d1)), .val (.int (Int32.ofNat d2)), .val (.int (Int32.ofNat d3)), .val (.int (Int32.ofNat d4)), .val (.double (FP.l2d xv)), .second, .val (.int kk), .val (.ref a), .val (.int (1 : Int32))] [(.int (0 : Int32)), (.ref a)]))
    refine own_callV X9 hx hZ hown (hw _ (List.mem_of_getElem? (i := 44) rfl)) (hw _ (List.mem_of_getElem? (i := 45) rfl)) (hw _ (List.mem_of_getElem? (i := 47) rfl)) (hw _ (List.mem_of_getElem? (i := 46) rfl)) (hw _ (List.mem_of_getElem? (i := 2) rfl)) (hw _ (List.mem_of_getElem? (i := 48) rfl)) (notFace_of_selects (args := #[]) (mvT hZ (hw _ (List.mem_of_getElem? (i := 47) rfl)))) (by decide) (rm_do hw a dc dn9 T8.heap n0 F_documents_a A_dc) rfl hk9 E_a (W := 0) (by decide) (by decide) (by decide) (by decide) (by rw [hml]; rfl) (b := a) (argsL := [(.int (0 : Int32))]) (rest := []) (lenOf pd_5 rfl) rfl (Nat.le_of_eq rfl) (hb hby at_186) ?_
    rintro _ T10 L10 X10 ⟨rfl, Nq, hk⟩
    have N := N.app Nq
    have hk10 := hk
    show Ogo p e below _ (T10.setTop (mkF m 189 #[.val (.int p1), .val (.int p2), .val (.int p3), .val (.int v4), .val (.int p5), .val (.int p6), .val (.int (Int32.ofNat d1)), .val (.int (Int32.ofNat d2)), .val (.int (Int32.ofNat d3)), .val (.int (Int32.ofNat d4)), .val (.double (FP.l2d xv)), .second, .val (.int kk), .val (.ref a), .val (.int (1 : Int32))] [(.int (Int32.ofNat (dn9 0)))]))
    refine own_via (fun tq kq => XS.iload X10.here hx rfl (hb hby at_189) rfl kq) ?_
    show Ogo p e below _ (T10.setTop (mkF m 191 #[.val (.int p1), .val (.int p2), .val (.int p3), .val (.int v4), .val (.int p5), .val (.int p6), .val (.int (Int32.ofNat d1)), .val (.int (Int32.ofNat d2)), .val (.int (Int32.ofNat d3)), .val (.int (Int32.ofNat d4)), .val (.double (FP.l2d xv)), .second, .val (.int kk), .val (.ref a), .val (.int (1 : Int32))] [(.int (Int32.ofNat d4)), (.int (Int32.ofNat (dn9 0)))]))
    refine own_via (fun tq kq => XS.icmpNo X10.here hx rfl (hb hby at_191) rfl (teq ((by rw [hd0]) : (Int32.ofNat (dn9 0)) = (Int32.ofNat d4))).2 kq) ?_
    show Ogo p e below _ (T10.setTop (mkF m 194 #[.val (.int p1), .val (.int p2), .val (.int p3), .val (.int v4), .val (.int p5), .val (.int p6), .val (.int (Int32.ofNat d1)), .val (.int (Int32.ofNat d2)), .val (.int (Int32.ofNat d3)), .val (.int (Int32.ofNat d4)), .val (.double (FP.l2d xv)), .second, .val (.int kk), .val (.ref a), .val (.int (1 : Int32))] []))
    refine own_via (fun tq kq => XS.iconst X10.here hx rfl (hb hby at_194) kq) ?_
    show Ogo p e below _ (T10.setTop (mkF m 195 #[.val (.int p1), .val (.int p2), .val (.int p3), .val (.int v4), .val (.int p5), .val (.int p6), .val (.int (Int32.ofNat d1)), .val (.int (Int32.ofNat d2)), .val (.int (Int32.ofNat d3)), .val (.int (Int32.ofNat d4)), .val (.double (FP.l2d xv)), .second, .val (.int kk), .val (.ref a), .val (.int (1 : Int32))] [(.int (1 : Int32))]))
    refine own_via (fun tq kq => XS.goto X10.here hx rfl (pc0 := 195) (pc' := 199) rfl (hb hby at_195) (by decide) (by decide) kq) ?_
    show Ogo p e below _ (T10.setTop (mkF m 199 #[.val (.int p1), .val (.int p2), .val (.int p3), .val (.int v4), .val (.int p5), .val (.int p6), .val (.int (Int32.ofNat d1)), .val (.int (Int32.ofNat d2)), .val (.int (Int32.ofNat d3)), .val (.int (Int32.ofNat d4)), .val (.double (FP.l2d xv)), .second, .val (.int kk), .val (.ref a), .val (.int (1 : Int32))] [(.int (1 : Int32))]))
    exact own_out X10 hlk (fun h => by rw [hret] at h; cases h) (by decide) (by decide) (by first | exact ⟨rfl, N⟩ | (rw [hk10]; exact ⟨rfl, N⟩)) (fun fs hr => retN X10 hx (t := .boolean) hret (by simp) (hb hby at_199) hr)
  · refine own_via (fun tq kq => XS.icmpNo X2.here hx rfl (hb hby at_44) rfl (flt (hc44 : ¬ (kk < (1 : Int32)))).1 kq) ?_
    show Ogo p e below _ (T2.setTop (mkF m 47 #[.val (.int p1), .val (.int p2), .val (.int p3), .val (.int v4), .val (.int p5), .val (.int p6), .val (.int (Int32.ofNat d1)), .val (.int (Int32.ofNat d2)), .val (.int (Int32.ofNat d3)), .val (.int (Int32.ofNat d4)), .val (.double (FP.l2d xv)), .second, .val (.int kk), .val (.ref a), .unset] []))
    refine own_via (fun tq kq => XS.aload X2.here hx rfl (hb hby at_47) rfl rfl kq) ?_
    show Ogo p e below _ (T2.setTop (mkF m 49 #[.val (.int p1), .val (.int p2), .val (.int p3), .val (.int v4), .val (.int p5), .val (.int p6), .val (.int (Int32.ofNat d1)), .val (.int (Int32.ofNat d2)), .val (.int (Int32.ofNat d3)), .val (.int (Int32.ofNat d4)), .val (.double (FP.l2d xv)), .second, .val (.int kk), .val (.ref a), .unset] [(.ref a)]))
    refine own_via (fun tq kq => XS.iload X2.here hx rfl (hb hby at_49) rfl kq) ?_
    show Ogo p e below _ (T2.setTop (mkF m 51 #[.val (.int p1), .val (.int p2), .val (.int p3), .val (.int v4), .val (.int p5), .val (.int p6), .val (.int (Int32.ofNat d1)), .val (.int (Int32.ofNat d2)), .val (.int (Int32.ofNat d3)), .val (.int (Int32.ofNat d4)), .val (.double (FP.l2d xv)), .second, .val (.int kk), .val (.ref a), .unset] [(.int (Int32.ofNat d1)), (.ref a)]))
    refine own_via (fun tq kq => XS.dload X2.here hx rfl (hb hby at_51) rfl kq) ?_
    show Ogo p e below _ (T2.setTop (mkF m 53 #[.val (.int p1), .val (.int p2), .val (.int p3), .val (.int v4), .val (.int p5), .val (.int p6), .val (.int (Int32.ofNat d1)), .val (.int (Int32.ofNat d2)), .val (.int (Int32.ofNat d3)), .val (.int (Int32.ofNat d4)), .val (.double (FP.l2d xv)), .second, .val (.int kk), .val (.ref a), .unset] [(.double (FP.l2d xv)), (.int (Int32.ofNat d1)), (.ref a)]))
    refine own_via (fun tq kq => XS.iload X2.here hx rfl (hb hby at_53) rfl kq) ?_
    show Ogo p e below _ (T2.setTop (mkF m 55 #[.val (.int p1), .val (.int p2), .val (.int p3), .val (.int v4), .val (.int p5), .val (.int p6), .val (.int (Int32.ofNat d1)), .val (.int (Int32.ofNat d2)), .val (.int (Int32.ofNat d3)), .val (.int (Int32.ofNat d4)), .val (.double (FP.l2d xv)), .second, .val (.int kk), .val (.ref a), .unset] [(.int p5), (.double (FP.l2d xv)), (.int (Int32.ofNat d1)), (.ref a)]))
    refine own_via (fun tq kq => XS.iconst X2.here hx rfl (hb hby at_55) kq) ?_
    show Ogo p e below _ (T2.setTop (mkF m 56 #[.val (.int p1), .val (.int p2), .val (.int p3), .val (.int v4), .val (.int p5), .val (.int p6), .val (.int (Int32.ofNat d1)), .val (.int (Int32.ofNat d2)), .val (.int (Int32.ofNat d3)), .val (.int (Int32.ofNat d4)), .val (.double (FP.l2d xv)), .second, .val (.int kk), .val (.ref a), .unset] [(.int (2 : Int32)), (.int p5), (.double (FP.l2d xv)), (.int (Int32.ofNat d1)), (.ref a)]))
    refine own_via (fun tq kq => XS.ishr X2.here hx rfl (hb hby at_56) rfl kq) ?_
    show Ogo p e below _ (T2.setTop (mkF m 57 #[.val (.int p1), .val (.int p2), .val (.int p3), .val (.int v4), .val (.int p5), .val (.int p6), .val (.int (Int32.ofNat d1)), .val (.int (Int32.ofNat d2)), .val (.int (Int32.ofNat d3)), .val (.int (Int32.ofNat d4)), .val (.double (FP.l2d xv)), .second, .val (.int kk), .val (.ref a), .unset] [(.int (p5 >>> ((2 : Int32) &&& 31))), (.double (FP.l2d xv)), (.int (Int32.ofNat d1)), (.ref a)]))
    refine own_via (fun tq kq => XS.iconst X2.here hx rfl (hb hby at_57) kq) ?_
    show Ogo p e below _ (T2.setTop (mkF m 58 #[.val (.int p1), .val (.int p2), .val (.int p3), .val (.int v4), .val (.int p5), .val (.int p6), .val (.int (Int32.ofNat d1)), .val (.int (Int32.ofNat d2)), .val (.int (Int32.ofNat d3)), .val (.int (Int32.ofNat d4)), .val (.double (FP.l2d xv)), .second, .val (.int kk), .val (.ref a), .unset] [(.int (1 : Int32)), (.int (p5 >>> ((2 : Int32) &&& 31))), (.double (FP.l2d xv)), (.int (Int32.ofNat d1)), (.ref a)]))
    refine own_via (fun tq kq => XS.iand X2.here hx rfl (hb hby at_58) rfl kq) ?_
    show Ogo p e below _ (T2.setTop (mkF m 59 #[.val (.int p1), .val (.int p2), .val (.int p3), .val (.int v4), .val (.int p5), .val (.int p6), .val (.int (Int32.ofNat d1)), .val (.int (Int32.ofNat d2)), .val (.int (Int32.ofNat d3)), .val (.int (Int32.ofNat d4)), .val (.double (FP.l2d xv)), .second, .val (.int kk), .val (.ref a), .unset] [(.int ((p5 >>> ((2 : Int32) &&& 31)) &&& (1 : Int32))), (.double (FP.l2d xv)), (.int (Int32.ofNat d1)), (.ref a)]))
    refine own_callS X2 hx hZ hown (hw _ (List.mem_of_getElem? (i := 49) rfl)) (hw _ (List.mem_of_getElem? (i := 50) rfl)) (hw _ (List.mem_of_getElem? (i := 51) rfl)) (hw _ (List.mem_of_getElem? (i := 52) rfl)) (by decide) (rm_mu hw a sc li dc 0 (fun _ => 0) (fun _ => 0) (fun _ => 0) d1 0 0 xv ((p5 >>> ((2 : Int32) &&& 31)) &&& (1 : Int32)) T2.heap n0 HA HN HI ld1 (by omega) (by omega) hx1 hx2 (by decide) (by decide)) rfl rfl (W := 0) (by decide) (by decide) (by decide) (by decide) (by rw [hml]; rfl) (argsL := [(.ref a), (.int (Int32.ofNat d1)), (.double (FP.l2d xv)), (.int ((p5 >>> ((2 : Int32) &&& 31)) &&& (1 : Int32)))]) (rest := []) (lenOf pd_6 rfl) rfl (Nat.le_of_eq rfl) (hb hby at_59) ?_
    rintro _ T11 L11 X11 ⟨rfl, Nq, Kc, m1, dn1, fl1, w1, HA, HI, hm1, -, -⟩
    have N := N.app Nq
    have E_a := E_a.keep Kc
    have zs := Nat.le_trans zs Kc.1
    show Ogo p e below _ (T11.setTop (mkF m 62 #[.val (.int p1), .val (.int p2), .val (.int p3), .val (.int v4), .val (.int p5), .val (.int p6), .val (.int (Int32.ofNat d1)), .val (.int (Int32.ofNat d2)), .val (.int (Int32.ofNat d3)), .val (.int (Int32.ofNat d4)), .val (.double (FP.l2d xv)), .second, .val (.int kk), .val (.ref a), .unset] []))
    have E_a := HA.1
    have hm1' : m1 ≤ 1 := by omega
    refine own_via (fun tq kq => XS.iload X11.here hx rfl (hb hby at_62) rfl kq) ?_
    show Ogo p e below _ (T11.setTop (mkF m 64 #[.val (.int p1), .val (.int p2), .val (.int p3), .val (.int v4), .val (.int p5), .val (.int p6), .val (.int (Int32.ofNat d1)), .val (.int (Int32.ofNat d2)), .val (.int (Int32.ofNat d3)), .val (.int (Int32.ofNat d4)), .val (.double (FP.l2d xv)), .second, .val (.int kk), .val (.ref a), .unset] [(.int kk)]))
    refine own_via (fun tq kq => XS.iconst X11.here hx rfl (hb hby at_64) kq) ?_
    show Ogo p e below _ (T11.setTop (mkF m 65 #[.val (.int p1), .val (.int p2), .val (.int p3), .val (.int v4), .val (.int p5), .val (.int p6), .val (.int (Int32.ofNat d1)), .val (.int (Int32.ofNat d2)), .val (.int (Int32.ofNat d3)), .val (.int (Int32.ofNat d4)), .val (.double (FP.l2d xv)), .second, .val (.int kk), .val (.ref a), .unset] [(.int (2 : Int32)), (.int kk)]))
    by_cases hc65 : kk < (2 : Int32)
    · refine own_via (fun tq kq => XS.icmpYes X11.here hx rfl (pc0 := 65) (pc' := 83) rfl (hb hby at_65) rfl (tlt (hc65 : kk < (2 : Int32))).1 (by decide) (by decide) kq) ?_
      show Ogo p e below _ (T11.setTop (mkF m 83 #[.val (.int p1), .val (.int p2), .val (.int p3), .val (.int v4), .val (.int p5), .val (.int p6), .val (.int (Int32.ofNat d1)), .val (.int (Int32.ofNat d2)), .val (.int (Int32.ofNat d3)), .val (.int (Int32.ofNat d4)), .val (.double (FP.l2d xv)), .second, .val (.int kk), .val (.ref a), .unset] []))
      refine own_via (fun tq kq => XS.iload X11.here hx rfl (hb hby at_83) rfl kq) ?_
      show Ogo p e below _ (T11.setTop (mkF m 85 #[.val (.int p1), .val (.int p2), .val (.int p3), .val (.int v4), .val (.int p5), .val (.int p6), .val (.int (Int32.ofNat d1)), .val (.int (Int32.ofNat d2)), .val (.int (Int32.ofNat d3)), .val (.int (Int32.ofNat d4)), .val (.double (FP.l2d xv)), .second, .val (.int kk), .val (.ref a), .unset] [(.int kk)]))
      refine own_via (fun tq kq => XS.iconst X11.here hx rfl (hb hby at_85) kq) ?_
      show Ogo p e below _ (T11.setTop (mkF m 86 #[.val (.int p1), .val (.int p2), .val (.int p3), .val (.int v4), .val (.int p5), .val (.int p6), .val (.int (Int32.ofNat d1)), .val (.int (Int32.ofNat d2)), .val (.int (Int32.ofNat d3)), .val (.int (Int32.ofNat d4)), .val (.double (FP.l2d xv)), .second, .val (.int kk), .val (.ref a), .unset] [(.int (3 : Int32)), (.int kk)]))
      refine own_via (fun tq kq => XS.icmpYes X11.here hx rfl (pc0 := 86) (pc' := 104) rfl (hb hby at_86) rfl (tlt (i_lt (by have := i_lt' hc65; omega) : kk < (3 : Int32))).1 (by decide) (by decide) kq) ?_
      show Ogo p e below _ (T11.setTop (mkF m 104 #[.val (.int p1), .val (.int p2), .val (.int p3), .val (.int v4), .val (.int p5), .val (.int p6), .val (.int (Int32.ofNat d1)), .val (.int (Int32.ofNat d2)), .val (.int (Int32.ofNat d3)), .val (.int (Int32.ofNat d4)), .val (.double (FP.l2d xv)), .second, .val (.int kk), .val (.ref a), .unset] []))
      refine own_via (fun tq kq => XS.aload X11.here hx rfl (hb hby at_104) rfl rfl kq) ?_
      show Ogo p e below _ (T11.setTop (mkF m 106 #[.val (.int p1), .val (.int p2), .val (.int p3), .val (.int v4), .val (.int p5), .val (.int p6), .val (.int (Int32.ofNat d1)), .val (.int (Int32.ofNat d2)), .val (.int (Int32.ofNat d3)), .val (.int (Int32.ofNat d4)), .val (.double (FP.l2d xv)), .second, .val (.int kk), .val (.ref a), .unset] [(.ref a)]))
      refine own_callV X11 hx hZ hown (hw _ (List.mem_of_getElem? (i := 18) rfl)) (hw _ (List.mem_of_getElem? (i := 19) rfl)) (hw _ (List.mem_of_getElem? (i := 21) rfl)) (hw _ (List.mem_of_getElem? (i := 20) rfl)) (hw _ (List.mem_of_getElem? (i := 2) rfl)) (hw _ (List.mem_of_getElem? (i := 22) rfl)) (notFace_of_selects (args := #[]) (mvT hZ (hw _ (List.mem_of_getElem? (i := 21) rfl)))) (by decide) (rm_cl hw a sc li dc m1 dn1 fl1 w1 2147483648 T11.heap n0 HA HN HI (by omega) (by decide)) rfl rfl E_a (W := 0) (by decide) (by decide) (by decide) (by decide) (by rw [hml]; rfl) (b := a) (argsL := []) (rest := []) (lenOf pd_2 rfl) rfl (Nat.le_of_eq rfl) (hb hby at_106) ?_
      rintro _ T12 L12 X12 ⟨rfl, Nq, Kc, flz, wz, HA, hfz, hwz⟩
      have N := N.app Nq
      have E_a := E_a.keep Kc
      have zs := Nat.le_trans zs Kc.1
      show Ogo p e below _ (T12.setTop (mkF m 109 #[.val (.int p1), .val (.int p2), .val (.int p3), .val (.int v4), .val (.int p5), .val (.int p6), .val (.int (Int32.ofNat d1)), .val (.int (Int32.ofNat d2)), .val (.int (Int32.ofNat d3)), .val (.int (Int32.ofNat d4)), .val (.double (FP.l2d xv)), .second, .val (.int kk), .val (.ref a), .unset] []))
      obtain ⟨E_a, F_scores_a, F_listed_a, F_documents_a, F_count_a, A_sc, A_li, A_dc⟩ := id HA
      refine own_via (fun tq kq => XS.aload X12.here hx rfl (hb hby at_109) rfl rfl kq) ?_
      show Ogo p e below _ (T12.setTop (mkF m 111 #[.val (.int p1), .val (.int p2), .val (.int p3), .val (.int v4), .val (.int p5), .val (.int p6), .val (.int (Int32.ofNat d1)), .val (.int (Int32.ofNat d2)), .val (.int (Int32.ofNat d3)), .val (.int (Int32.ofNat d4)), .val (.double (FP.l2d xv)), .second, .val (.int kk), .val (.ref a), .unset] [(.ref a)]))
      refine own_callV X12 hx hZ hown (hw _ (List.mem_of_getElem? (i := 25) rfl)) (hw _ (List.mem_of_getElem? (i := 26) rfl)) (hw _ (List.mem_of_getElem? (i := 28) rfl)) (hw _ (List.mem_of_getElem? (i := 27) rfl)) (hw _ (List.mem_of_getElem? (i := 2) rfl)) (hw _ (List.mem_of_getElem? (i := 29) rfl)) (notFace_of_selects (args := #[]) (mvT hZ (hw _ (List.mem_of_getElem? (i := 28) rfl)))) (by decide) (rm_cn hw a 0 T12.heap n0 F_count_a) rfl rfl E_a (W := 0) (by decide) (by decide) (by decide) (by decide) (by rw [hml]; rfl) (b := a) (argsL := []) (rest := []) (lenOf pd_3 rfl) rfl (Nat.le_of_eq rfl) (hb hby at_111) ?_
      rintro _ T13 L13 X13 ⟨rfl, Nq, hk⟩
      have N := N.app Nq
      have hk13 := hk
      show Ogo p e below _ (T13.setTop (mkF m 114 #[.val (.int p1), .val (.int p2), .val (.int p3), .val (.int v4), .val (.int p5), .val (.int p6), .val (.int (Int32.ofNat d1)), .val (.int (Int32.ofNat d2)), .val (.int (Int32.ofNat d3)), .val (.int (Int32.ofNat d4)), .val (.double (FP.l2d xv)), .second, .val (.int kk), .val (.ref a), .unset] [(.int (0 : Int32))]))
      refine own_via (fun tq kq => XS.ifNo X13.here hx rfl (hb hby at_114) rfl ((if0 _ _).trans (teq (rfl : (0 : Int32) = (0 : Int32))).2) kq) ?_
      show Ogo p e below _ (T13.setTop (mkF m 117 #[.val (.int p1), .val (.int p2), .val (.int p3), .val (.int v4), .val (.int p5), .val (.int p6), .val (.int (Int32.ofNat d1)), .val (.int (Int32.ofNat d2)), .val (.int (Int32.ofNat d3)), .val (.int (Int32.ofNat d4)), .val (.double (FP.l2d xv)), .second, .val (.int kk), .val (.ref a), .unset] []))
      refine own_via (fun tq kq => XS.aload X13.here hx rfl (hb hby at_117) rfl rfl kq) ?_
      show Ogo p e below _ (T13.setTop (mkF m 119 #[.val (.int p1), .val (.int p2), .val (.int p3), .val (.int v4), .val (.int p5), .val (.int p6), .val (.int (Int32.ofNat d1)), .val (.int (Int32.ofNat d2)), .val (.int (Int32.ofNat d3)), .val (.int (Int32.ofNat d4)), .val (.double (FP.l2d xv)), .second, .val (.int kk), .val (.ref a), .unset] [(.ref a)]))
      refine own_via (fun tq kq => XS.iload X13.here hx rfl (hb hby at_119) rfl kq) ?_
      show Ogo p e below _ (T13.setTop (mkF m 121 #[.val (.int p1), .val (.int p2), .val (.int p3), .val (.int v4), .val (.int p5), .val (.int p6), .val (.int (Int32.ofNat d1)), .val (.int (Int32.ofNat d2)), .val (.int (Int32.ofNat d3)), .val (.int (Int32.ofNat d4)), .val (.double (FP.l2d xv)), .second, .val (.int kk), .val (.ref a), .unset] [(.int (Int32.ofNat d1)), (.ref a)]))
      refine own_callV X13 hx hZ hown (hw _ (List.mem_of_getElem? (i := 30) rfl)) (hw _ (List.mem_of_getElem? (i := 31) rfl)) (hw _ (List.mem_of_getElem? (i := 33) rfl)) (hw _ (List.mem_of_getElem? (i := 32) rfl)) (hw _ (List.mem_of_getElem? (i := 2) rfl)) (hw _ (List.mem_of_getElem? (i := 34) rfl)) (notFace_of_selects (args := #[]) (mvT hZ (hw _ (List.mem_of_getElem? (i := 33) rfl)))) (by decide) (rm_sc hw a sc wz d1 T12.heap n0 F_scores_a A_sc ld1) rfl hk13 E_a (W := 0) (by decide) (by decide) (by decide) (by decide) (by rw [hml]; rfl) (b := a) (argsL := [(.int (Int32.ofNat d1))]) (rest := []) (lenOf pd_4 rfl) rfl (Nat.le_of_eq rfl) (hb hby at_121) ?_
      rintro _ T14 L14 X14 ⟨rfl, Nq, hk⟩
      have N := N.app Nq
      have hk14 := hk
      show Ogo p e below _ (T14.setTop (mkF m 124 #[.val (.int p1), .val (.int p2), .val (.int p3), .val (.int v4), .val (.int p5), .val (.int p6), .val (.int (Int32.ofNat d1)), .val (.int (Int32.ofNat d2)), .val (.int (Int32.ofNat d3)), .val (.int (Int32.ofNat d4)), .val (.double (FP.l2d xv)), .second, .val (.int kk), .val (.ref a), .unset] [(.double (FP.l2d (wz d1)))]))
      rw [hwz d1 ld1]
      show Ogo p e below _ (T14.setTop (mkF m 124 #[.val (.int p1), .val (.int p2), .val (.int p3), .val (.int v4), .val (.int p5), .val (.int p6), .val (.int (Int32.ofNat d1)), .val (.int (Int32.ofNat d2)), .val (.int (Int32.ofNat d3)), .val (.int (Int32.ofNat d4)), .val (.double (FP.l2d xv)), .second, .val (.int kk), .val (.ref a), .unset] [(.double (FP.l2d 0))]))
      refine own_via (fun tq kq => XS.dconst0 X14.here hx rfl (v := FP.l2d 0) (hb hby at_124) l2d_zero.symm kq) ?_
      show Ogo p e below _ (T14.setTop (mkF m 125 #[.val (.int p1), .val (.int p2), .val (.int p3), .val (.int v4), .val (.int p5), .val (.int p6), .val (.int (Int32.ofNat d1)), .val (.int (Int32.ofNat d2)), .val (.int (Int32.ofNat d3)), .val (.int (Int32.ofNat d4)), .val (.double (FP.l2d xv)), .second, .val (.int kk), .val (.ref a), .unset] [(.double (FP.l2d 0)), (.double (FP.l2d 0))]))
      refine own_via (fun tq kq => XS.dcmpS X14.here hx rfl (hb hby at_125) rfl (v := (0 : Int32)) (dcmpV_self (nn_w rfl) _) kq) ?_
      show Ogo p e below _ (T14.setTop (mkF m 126 #[.val (.int p1), .val (.int p2), .val (.int p3), .val (.int v4), .val (.int p5), .val (.int p6), .val (.int (Int32.ofNat d1)), .val (.int (Int32.ofNat d2)), .val (.int (Int32.ofNat d3)), .val (.int (Int32.ofNat d4)), .val (.double (FP.l2d xv)), .second, .val (.int kk), .val (.ref a), .unset] [(.int (0 : Int32))]))
      refine own_via (fun tq kq => XS.ifNo X14.here hx rfl (hb hby at_126) rfl ((if0 _ _).trans (teq (rfl : (0 : Int32) = (0 : Int32))).2) kq) ?_
      show Ogo p e below _ (T14.setTop (mkF m 129 #[.val (.int p1), .val (.int p2), .val (.int p3), .val (.int v4), .val (.int p5), .val (.int p6), .val (.int (Int32.ofNat d1)), .val (.int (Int32.ofNat d2)), .val (.int (Int32.ofNat d3)), .val (.int (Int32.ofNat d4)), .val (.double (FP.l2d xv)), .second, .val (.int kk), .val (.ref a), .unset] []))
      refine own_via (fun tq kq => XS.aload X14.here hx rfl (hb hby at_129) rfl rfl kq) ?_
      show Ogo p e below _ (T14.setTop (mkF m 131 #[.val (.int p1), .val (.int p2), .val (.int p3), .val (.int v4), .val (.int p5), .val (.int p6), .val (.int (Int32.ofNat d1)), .val (.int (Int32.ofNat d2)), .val (.int (Int32.ofNat d3)), .val (.int (Int32.ofNat d4)), .val (.double (FP.l2d xv)), .second, .val (.int kk), .val (.ref a), .unset] [(.ref a)]))
      refine own_via (fun tq kq => XS.iload X14.here hx rfl (hb hby at_131) rfl kq) ?_
      show Ogo p e below _ (T14.setTop (mkF m 133 #[.val (.int p1), .val (.int p2), .val (.int p3), .val (.int v4), .val (.int p5), .val (.int p6), .val (.int (Int32.ofNat d1)), .val (.int (Int32.ofNat d2)), .val (.int (Int32.ofNat d3)), .val (.int (Int32.ofNat d4)), .val (.double (FP.l2d xv)), .second, .val (.int kk), .val (.ref a), .unset] [(.int (Int32.ofNat d2)), (.ref a)]))
      refine own_callV X14 hx hZ hown (hw _ (List.mem_of_getElem? (i := 30) rfl)) (hw _ (List.mem_of_getElem? (i := 31) rfl)) (hw _ (List.mem_of_getElem? (i := 33) rfl)) (hw _ (List.mem_of_getElem? (i := 32) rfl)) (hw _ (List.mem_of_getElem? (i := 2) rfl)) (hw _ (List.mem_of_getElem? (i := 34) rfl)) (notFace_of_selects (args := #[]) (mvT hZ (hw _ (List.mem_of_getElem? (i := 33) rfl)))) (by decide) (rm_sc hw a sc wz d2 T12.heap n0 F_scores_a A_sc ld2) rfl hk14 E_a (W := 0) (by decide) (by decide) (by decide) (by decide) (by rw [hml]; rfl) (b := a) (argsL := [(.int (Int32.ofNat d2))]) (rest := []) (lenOf pd_4 rfl) rfl (Nat.le_of_eq rfl) (hb hby at_133) ?_
      rintro _ T15 L15 X15 ⟨rfl, Nq, hk⟩
      have N := N.app Nq
      have hk15 := hk
      show Ogo p e below _ (T15.setTop (mkF m 136 #[.val (.int p1), .val (.int p2), .val (.int p3), .val (.int v4), .val (.int p5), .val (.int p6), .val (.int (Int32.ofNat d1)), .val (.int (Int32.ofNat d2)), .val (.int (Int32.ofNat d3)), .val (.int (Int32.ofNat d4)), .val (.double (FP.l2d xv)), .second, .val (.int kk), .val (.ref a), .unset] [(.double (FP.l2d (wz d2)))]))
      rw [hwz d2 ld2]
      show Ogo p e below _ (T15.setTop (mkF m 136 #[.val (.int p1), .val (.int p2), .val (.int p3), .val (.int v4), .val (.int p5), .val (.int p6), .val (.int (Int32.ofNat d1)), .val (.int (Int32.ofNat d2)), .val (.int (Int32.ofNat d3)), .val (.int (Int32.ofNat d4)), .val (.double (FP.l2d xv)), .second, .val (.int kk), .val (.ref a), .unset] [(.double (FP.l2d 0))]))
      refine own_via (fun tq kq => XS.dconst0 X15.here hx rfl (v := FP.l2d 0) (hb hby at_136) l2d_zero.symm kq) ?_
      show Ogo p e below _ (T15.setTop (mkF m 137 #[.val (.int p1), .val (.int p2), .val (.int p3), .val (.int v4), .val (.int p5), .val (.int p6), .val (.int (Int32.ofNat d1)), .val (.int (Int32.ofNat d2)), .val (.int (Int32.ofNat d3)), .val (.int (Int32.ofNat d4)), .val (.double (FP.l2d xv)), .second, .val (.int kk), .val (.ref a), .unset] [(.double (FP.l2d 0)), (.double (FP.l2d 0))]))
      refine own_via (fun tq kq => XS.dcmpS X15.here hx rfl (hb hby at_137) rfl (v := (0 : Int32)) (dcmpV_self (nn_w rfl) _) kq) ?_
      show Ogo p e below _ (T15.setTop (mkF m 138 #[.val (.int p1), .val (.int p2), .val (.int p3), .val (.int v4), .val (.int p5), .val (.int p6), .val (.int (Int32.ofNat d1)), .val (.int (Int32.ofNat d2)), .val (.int (Int32.ofNat d3)), .val (.int (Int32.ofNat d4)), .val (.double (FP.l2d xv)), .second, .val (.int kk), .val (.ref a), .unset] [(.int (0 : Int32))]))
      refine own_via (fun tq kq => XS.ifNo X15.here hx rfl (hb hby at_138) rfl ((if0 _ _).trans (teq (rfl : (0 : Int32) = (0 : Int32))).2) kq) ?_
      show Ogo p e below _ (T15.setTop (mkF m 141 #[.val (.int p1), .val (.int p2), .val (.int p3), .val (.int v4), .val (.int p5), .val (.int p6), .val (.int (Int32.ofNat d1)), .val (.int (Int32.ofNat d2)), .val (.int (Int32.ofNat d3)), .val (.int (Int32.ofNat d4)), .val (.double (FP.l2d xv)), .second, .val (.int kk), .val (.ref a), .unset] []))
      refine own_via (fun tq kq => XS.aload X15.here hx rfl (hb hby at_141) rfl rfl kq) ?_
      show Ogo p e below _ (T15.setTop (mkF m 143 #[.val (.int p1), .val (.int p2), .val (.int p3), .val (.int v4), .val (.int p5), .val (.int p6), .val (.int (Int32.ofNat d1)), .val (.int (Int32.ofNat d2)), .val (.int (Int32.ofNat d3)), .val (.int (Int32.ofNat d4)), .val (.double (FP.l2d xv)), .second, .val (.int kk), .val (.ref a), .unset] [(.ref a)]))
      refine own_via (fun tq kq => XS.iload X15.here hx rfl (hb hby at_143) rfl kq) ?_
      show Ogo p e below _ (T15.setTop (mkF m 145 #[.val (.int p1), .val (.int p2), .val (.int p3), .val (.int v4), .val (.int p5), .val (.int p6), .val (.int (Int32.ofNat d1)), .val (.int (Int32.ofNat d2)), .val (.int (Int32.ofNat d3)), .val (.int (Int32.ofNat d4)), .val (.double (FP.l2d xv)), .second, .val (.int kk), .val (.ref a), .unset] [(.int (Int32.ofNat d3)), (.ref a)]))
      refine own_callV X15 hx hZ hown (hw _ (List.mem_of_getElem? (i := 30) rfl)) (hw _ (List.mem_of_getElem? (i := 31) rfl)) (hw _ (List.mem_of_getElem? (i := 33) rfl)) (hw _ (List.mem_of_getElem? (i := 32) rfl)) (hw _ (List.mem_of_getElem? (i := 2) rfl)) (hw _ (List.mem_of_getElem? (i := 34) rfl)) (notFace_of_selects (args := #[]) (mvT hZ (hw _ (List.mem_of_getElem? (i := 33) rfl)))) (by decide) (rm_sc hw a sc wz d3 T12.heap n0 F_scores_a A_sc ld3) rfl hk15 E_a (W := 0) (by decide) (by decide) (by decide) (by decide) (by rw [hml]; rfl) (b := a) (argsL := [(.int (Int32.ofNat d3))]) (rest := []) (lenOf pd_4 rfl) rfl (Nat.le_of_eq rfl) (hb hby at_145) ?_
      rintro _ T16 L16 X16 ⟨rfl, Nq, hk⟩
      have N := N.app Nq
      have hk16 := hk
      show Ogo p e below _ (T16.setTop (mkF m 148 #[.val (.int p1), .val (.int p2), .val (.int p3), .val (.int v4), .val (.int p5), .val (.int p6), .val (.int (Int32.ofNat d1)), .val (.int (Int32.ofNat d2)), .val (.int (Int32.ofNat d3)), .val (.int (Int32.ofNat d4)), .val (.double (FP.l2d xv)), .second, .val (.int kk), .val (.ref a), .unset] [(.double (FP.l2d (wz d3)))]))
      rw [hwz d3 ld3]
      show Ogo p e below _ (T16.setTop (mkF m 148 #[.val (.int p1), .val (.int p2), .val (.int p3), .val (.int v4), .val (.int p5), .val (.int p6), .val (.int (Int32.ofNat d1)), .val (.int (Int32.ofNat d2)), .val (.int (Int32.ofNat d3)), .val (.int (Int32.ofNat d4)), .val (.double (FP.l2d xv)), .second, .val (.int kk), .val (.ref a), .unset] [(.double (FP.l2d 0))]))
      refine own_via (fun tq kq => XS.dconst0 X16.here hx rfl (v := FP.l2d 0) (hb hby at_148) l2d_zero.symm kq) ?_
      show Ogo p e below _ (T16.setTop (mkF m 149 #[.val (.int p1), .val (.int p2), .val (.int p3), .val (.int v4), .val (.int p5), .val (.int p6), .val (.int (Int32.ofNat d1)), .val (.int (Int32.ofNat d2)), .val (.int (Int32.ofNat d3)), .val (.int (Int32.ofNat d4)), .val (.double (FP.l2d xv)), .second, .val (.int kk), .val (.ref a), .unset] [(.double (FP.l2d 0)), (.double (FP.l2d 0))]))
      refine own_via (fun tq kq => XS.dcmpS X16.here hx rfl (hb hby at_149) rfl (v := (0 : Int32)) (dcmpV_self (nn_w rfl) _) kq) ?_
      show Ogo p e below _ (T16.setTop (mkF m 150 #[.val (.int p1), .val (.int p2), .val (.int p3), .val (.int v4), .val (.int p5), .val (.int p6), .val (.int (Int32.ofNat d1)), .val (.int (Int32.ofNat d2)), .val (.int (Int32.ofNat d3)), .val (.int (Int32.ofNat d4)), .val (.double (FP.l2d xv)), .second, .val (.int kk), .val (.ref a), .unset] [(.int (0 : Int32))]))
      refine own_via (fun tq kq => XS.ifNo X16.here hx rfl (hb hby at_150) rfl ((if0 _ _).trans (teq (rfl : (0 : Int32) = (0 : Int32))).2) kq) ?_
      show Ogo p e below _ (T16.setTop (mkF m 153 #[.val (.int p1), .val (.int p2), .val (.int p3), .val (.int v4), .val (.int p5), .val (.int p6), .val (.int (Int32.ofNat d1)), .val (.int (Int32.ofNat d2)), .val (.int (Int32.ofNat d3)), .val (.int (Int32.ofNat d4)), .val (.double (FP.l2d xv)), .second, .val (.int kk), .val (.ref a), .unset] []))
      refine own_via (fun tq kq => XS.iconst X16.here hx rfl (hb hby at_153) kq) ?_
      show Ogo p e below _ (T16.setTop (mkF m 154 #[.val (.int p1), .val (.int p2), .val (.int p3), .val (.int v4), .val (.int p5), .val (.int p6), .val (.int (Int32.ofNat d1)), .val (.int (Int32.ofNat d2)), .val (.int (Int32.ofNat d3)), .val (.int (Int32.ofNat d4)), .val (.double (FP.l2d xv)), .second, .val (.int kk), .val (.ref a), .unset] [(.int (1 : Int32))]))
      refine own_via (fun tq kq => XS.goto X16.here hx rfl (pc0 := 154) (pc' := 158) rfl (hb hby at_154) (by decide) (by decide) kq) ?_
      show Ogo p e below _ (T16.setTop (mkF m 158 #[.val (.int p1), .val (.int p2), .val (.int p3), .val (.int v4), .val (.int p5), .val (.int p6), .val (.int (Int32.ofNat d1)), .val (.int (Int32.ofNat d2)), .val (.int (Int32.ofNat d3)), .val (.int (Int32.ofNat d4)), .val (.double (FP.l2d xv)), .second, .val (.int kk), .val (.ref a), .unset] [(.int (1 : Int32))]))
      refine own_via (fun tq kq => XS.istore X16.here hx rfl (hb hby at_158) rfl (l' := #[.val (.int p1), .val (.int p2), .val (.int p3), .val (.int v4), .val (.int p5), .val (.int p6), .val (.int (Int32.ofNat d1)), .val (.int (Int32.ofNat d2)), .val (.int (Int32.ofNat d3)), .val (.int (Int32.ofNat d4)), .val (.double (FP.l2d xv)), .second, .val (.int kk), .val (.ref a), .val (.int (1 : Int32))]) rfl kq) ?_
      show Ogo p e below _ (T16.setTop (mkF m 160 #[.val (.int p1), .val (.int p2), .val (.int p3), .val (.int v4), .val (.int p5), .val (.int p6), .val (.int (Int32.ofNat d1)), .val (.int (Int32.ofNat d2)), .val (.int (Int32.ofNat d3)), .val (.int (Int32.ofNat d4)), .val (.double (FP.l2d xv)), .second, .val (.int kk), .val (.ref a), .val (.int (1 : Int32))] []))
      refine own_via (fun tq kq => XS.aload X16.here hx rfl (hb hby at_160) rfl rfl kq) ?_
      show Ogo p e below _ (T16.setTop (mkF m 162 #[.val (.int p1), .val (.int p2), .val (.int p3), .val (.int v4), .val (.int p5), .val (.int p6), .val (.int (Int32.ofNat d1)), .val (.int (Int32.ofNat d2)), .val (.int (Int32.ofNat d3)), .val (.int (Int32.ofNat d4)), .val (.double (FP.l2d xv)), .second, .val (.int kk), .val (.ref a), .val (.int (1 : Int32))] [(.ref a)]))
      refine own_via (fun tq kq => XS.iload X16.here hx rfl (hb hby at_162) rfl kq) ?_
      show Ogo p e below _ (T16.setTop (mkF m 164 #[.val (.int p1), .val (.int p2), .val (.int p3), .val (.int v4), .val (.int p5), .val (.int p6), .val (.int (Int32.ofNat d1)), .val (.int (Int32.ofNat d2)), .val (.int (Int32.ofNat d3)), .val (.int (Int32.ofNat d4)), .val (.double (FP.l2d xv)), .second, .val (.int kk), .val (.ref a), .val (.int (1 : Int32))] [(.int (Int32.ofNat d4)), (.ref a)]))
      refine own_via (fun tq kq => XS.dload X16.here hx rfl (hb hby at_164) rfl kq) ?_
      show Ogo p e below _ (T16.setTop (mkF m 166 #[.val (.int p1), .val (.int p2), .val (.int p3), .val (.int v4), .val (.int p5), .val (.int p6), .val (.int (Int32.ofNat d1)), .val (.int (Int32.ofNat d2)), .val (.int (Int32.ofNat d3)), .val (.int (Int32.ofNat d4)), .val (.double (FP.l2d xv)), .second, .val (.int kk), .val (.ref a), .val (.int (1 : Int32))] [(.double (FP.l2d xv)), (.int (Int32.ofNat d4)), (.ref a)]))
      have HI : AccI 0 0 dn1 flz wz 0 := ⟨fun i hi => absurd hi (Nat.not_lt_zero i), fun j hj => Or.inl (hfz j hj), fun j hj _ => hwz j hj, fun j hj => by rw [hwz j hj]; exact ⟨by decide, by decide⟩⟩
      refine own_callV X16 hx hZ hown (hw _ (List.mem_of_getElem? (i := 35) rfl)) (hw _ (List.mem_of_getElem? (i := 36) rfl)) (hw _ (List.mem_of_getElem? (i := 38) rfl)) (hw _ (List.mem_of_getElem? (i := 37) rfl)) (hw _ (List.mem_of_getElem? (i := 2) rfl)) (hw _ (List.mem_of_getElem? (i := 39) rfl)) (notFace_of_selects (args := #[]) (mvT hZ (hw _ (List.mem_of_getElem? (i := 38) rfl)))) (by decide) (rm_ad hw a sc li dc 0 dn1 flz wz d4 0 0 xv T12.heap n0 HA HN HI ld4 (by decide) (by decide) hx1 hx2 (by decide) (by decide)) rfl hk16 E_a (W := 0) (by decide) (by decide) (by decide) (by decide) (by rw [hml]; rfl) (b := a) (argsL := [(.int (Int32.ofNat d4)), (.double (FP.l2d xv))]) (rest := []) (lenOf pd_1 rfl) rfl (Nat.le_of_eq rfl) (hb hby at_166) ?_
      rintro _ T17 L17 X17 ⟨rfl, Nq, Kc, n9, dn9, fl9, w9, HA, -, -, -, hex⟩
      have N := N.app Nq
      have E_a := E_a.keep Kc
      have zs := Nat.le_trans zs Kc.1
      show Ogo p e below _ (T17.setTop (mkF m 169 #[.val (.int p1), .val (.int p2), .val (.int p3), .val (.int v4), .val (.int p5), .val (.int p6), .val (.int (Int32.ofNat d1)), .val (.int (Int32.ofNat d2)), .val (.int (Int32.ofNat d3)), .val (.int (Int32.ofNat d4)), .val (.double (FP.l2d xv)), .second, .val (.int kk), .val (.ref a), .val (.int (1 : Int32))] []))
      obtain ⟨rfl, hd0⟩ := hex (hfz d4 ld4)
      obtain ⟨E_a, F_scores_a, F_listed_a, F_documents_a, F_count_a, A_sc, A_li, A_dc⟩ := id HA
      refine own_via (fun tq kq => XS.iload X17.here hx rfl (hb hby at_169) rfl kq) ?_
      show Ogo p e below _ (T17.setTop (mkF m 171 #[.val (.int p1), .val (.int p2), .val (.int p3), .val (.int v4), .val (.int p5), .val (.int p6), .val (.int (Int32.ofNat d1)), .val (.int (Int32.ofNat d2)), .val (.int (Int32.ofNat d3)), .val (.int (Int32.ofNat d4)), .val (.double (FP.l2d xv)), .second, .val (.int kk), .val (.ref a), .val (.int (1 : Int32))] [(.int (1 : Int32))]))
      refine own_via (fun tq kq => XS.ifNo X17.here hx rfl (hb hby at_171) rfl ((if0 _ _).trans (feq ((by decide) : ¬ ((1 : Int32) = (0 : Int32)))).1) kq) ?_
      show Ogo p e below _ (T17.setTop (mkF m 174 #[.val (.int p1), .val (.int p2), .val (.int p3), .val (.int v4), .val (.int p5), .val (.int p6), .val (.int (Int32.ofNat d1)), .val (.int (Int32.ofNat d2)), .val (.int (Int32.ofNat d3)), .val (.int (Int32.ofNat d4)), .val (.double (FP.l2d xv)), .second, .val (.int kk), .val (.ref a), .val (.int (1 : Int32))] []))
      refine own_via (fun tq kq => XS.aload X17.here hx rfl (hb hby at_174) rfl rfl kq) ?_
      show Ogo p e below _ (T17.setTop (mkF m 176 #[.val (.int p1), .val (.int p2), .val (.int p3), .val (.int v4), .val (.int p5), .val (.int p6), .val (.int (Int32.ofNat d1)), .val (.int (Int32.ofNat d2)), .val (.int (Int32.ofNat d3)), .val (.int (Int32.ofNat d4)), .val (.double (FP.l2d xv)), .second, .val (.int kk), .val (.ref a), .val (.int (1 : Int32))] [(.ref a)]))
      refine own_callV X17 hx hZ hown (hw _ (List.mem_of_getElem? (i := 25) rfl)) (hw _ (List.mem_of_getElem? (i := 26) rfl)) (hw _ (List.mem_of_getElem? (i := 28) rfl)) (hw _ (List.mem_of_getElem? (i := 27) rfl)) (hw _ (List.mem_of_getElem? (i := 2) rfl)) (hw _ (List.mem_of_getElem? (i := 29) rfl)) (notFace_of_selects (args := #[]) (mvT hZ (hw _ (List.mem_of_getElem? (i := 28) rfl)))) (by decide) (rm_cn hw a 1 T17.heap n0 F_count_a) rfl rfl E_a (W := 0) (by decide) (by decide) (by decide) (by decide) (by rw [hml]; rfl) (b := a) (argsL := []) (rest := []) (lenOf pd_3 rfl) rfl (Nat.le_of_eq rfl) (hb hby at_176) ?_
      rintro _ T18 L18 X18 ⟨rfl, Nq, hk⟩
      have N := N.app Nq
      have hk18 := hk
      show Ogo p e below _ (T18.setTop (mkF m 179 #[.val (.int p1), .val (.int p2), .val (.int p3), .val (.int v4), .val (.int p5), .val (.int p6), .val (.int (Int32.ofNat d1)), .val (.int (Int32.ofNat d2)), .val (.int (Int32.ofNat d3)), .val (.int (Int32.ofNat d4)), .val (.double (FP.l2d xv)), .second, .val (.int kk), .val (.ref a), .val (.int (1 : Int32))] [(.int (1 : Int32))]))
      refine own_via (fun tq kq => XS.iconst X18.here hx rfl (hb hby at_179) kq) ?_
      show Ogo p e below _ (T18.setTop (mkF m 180 #[.val (.int p1), .val (.int p2), .val (.int p3), .val (.int v4), .val (.int p5), .val (.int p6), .val (.int (Int32.ofNat d1)), .val (.int (Int32.ofNat d2)), .val (.int (Int32.ofNat d3)), .val (.int (Int32.ofNat d4)), .val (.double (FP.l2d xv)), .second, .val (.int kk), .val (.ref a), .val (.int (1 : Int32))] [(.int (1 : Int32)), (.int (1 : Int32))]))
      refine own_via (fun tq kq => XS.icmpNo X18.here hx rfl (hb hby at_180) rfl (teq (rfl : (1 : Int32) = (1 : Int32))).2 kq) ?_
      show Ogo p e below _ (T18.setTop (mkF m 183 #[.val (.int p1), .val (.int p2), .val (.int p3), .val (.int v4), .val (.int p5), .val (.int p6), .val (.int (Int32.ofNat d1)), .val (.int (Int32.ofNat d2)), .val (.int (Int32.ofNat d3)), .val (.int (Int32.ofNat d4)), .val (.double (FP.l2d xv)), .second, .val (.int kk), .val (.ref a), .val (.int (1 : Int32))] []))
      refine own_via (fun tq kq => XS.aload X18.here hx rfl (hb hby at_183) rfl rfl kq) ?_
      show Ogo p e below _ (T18.setTop (mkF m 185 #[.val (.int p1), .val (.int p2), .val (.int p3), .val (.int v4), .val (.int p5), .val (.int p6), .val (.int (Int32.ofNat d1)), .val (.int (Int32.ofNat d2)), .val (.int (Int32.ofNat d3)), .val (.int (Int32.ofNat d4)), .val (.double (FP.l2d xv)), .second, .val (.int kk), .val (.ref a), .val (.int (1 : Int32))] [(.ref a)]))
      refine own_via (fun tq kq => XS.iconst X18.here hx rfl (hb hby at_185) kq) ?_
      show Ogo p e below _ (T18.setTop (mkF m 186 #[.val (.int p1), .val (.int p2), .val (.int p3), .val (.int v4), .val (.int p5), .val (.int p6), .val (.int (Int32.ofNat d1)), .val (.int (Int32.ofNat d2)), .val (.int (Int32.ofNat d3)), .val (.int (Int32.ofNat d4)), .val (.double (FP.l2d xv)), .second, .val (.int kk), .val (.ref a), .val (.int (1 : Int32))] [(.int (0 : Int32)), (.ref a)]))
      refine own_callV X18 hx hZ hown (hw _ (List.mem_of_getElem? (i := 44) rfl)) (hw _ (List.mem_of_getElem? (i := 45) rfl)) (hw _ (List.mem_of_getElem? (i := 47) rfl)) (hw _ (List.mem_of_getElem? (i := 46) rfl)) (hw _ (List.mem_of_getElem? (i := 2) rfl)) (hw _ (List.mem_of_getElem? (i := 48) rfl)) (notFace_of_selects (args := #[]) (mvT hZ (hw _ (List.mem_of_getElem? (i := 47) rfl)))) (by decide) (rm_do hw a dc dn9 T17.heap n0 F_documents_a A_dc) rfl hk18 E_a (W := 0) (by decide) (by decide) (by decide) (by decide) (by rw [hml]; rfl) (b := a) (argsL := [(.int (0 : Int32))]) (rest := []) (lenOf pd_5 rfl) rfl (Nat.le_of_eq rfl) (hb hby at_186) ?_
      rintro _ T19 L19 X19 ⟨rfl, Nq, hk⟩
      have N := N.app Nq
      have hk19 := hk
      show Ogo p e below _ (T19.setTop (mkF m 189 #[.val (.int p1), .val (.int p2), .val (.int p3), .val (.int v4), .val (.int p5), .val (.int p6), .val (.int (Int32.ofNat d1)), .val (.int (Int32.ofNat d2)), .val (.int (Int32.ofNat d3)), .val (.int (Int32.ofNat d4)), .val (.double (FP.l2d xv)), .second, .val (.int kk), .val (.ref a), .val (.int (1 : Int32))] [(.int (Int32.ofNat (dn9 0)))]))
      refine own_via (fun tq kq => XS.iload X19.here hx rfl (hb hby at_189) rfl kq) ?_
      show Ogo p e below _ (T19.setTop (mkF m 191 #[.val (.int p1), .val (.int p2), .val (.int p3), .val (.int v4), .val (.int p5), .val (.int p6), .val (.int (Int32.ofNat d1)), .val (.int (Int32.ofNat d2)), .val (.int (Int32.ofNat d3)), .val (.int (Int32.ofNat d4)), .val (.double (FP.l2d xv)), .second, .val (.int kk), .val (.ref a), .val (.int (1 : Int32))] [(.int (Int32.ofNat d4)), (.int (Int32.ofNat (dn9 0)))]))
      refine own_via (fun tq kq => XS.icmpNo X19.here hx rfl (hb hby at_191) rfl (teq ((by rw [hd0]) : (Int32.ofNat (dn9 0)) = (Int32.ofNat d4))).2 kq) ?_
      show Ogo p e below _ (T19.setTop (mkF m 194 #[.val (.int p1), .val (.int p2), .val (.int p3), .val (.int v4), .val (.int p5), .val (.int p6), .val (.int (Int32.ofNat d1)), .val (.int (Int32.ofNat d2)), .val (.int (Int32.ofNat d3)), .val (.int (Int32.ofNat d4)), .val (.double (FP.l2d xv)), .second, .val (.int kk), .val (.ref a), .val (.int (1 : Int32))] []))
      refine own_via (fun tq kq => XS.iconst X19.here hx rfl (hb hby at_194) kq) ?_
      show Ogo p e below _ (T19.setTop (mkF m 195 #[.val (.int p1), .val (.int p2), .val (.int p3), .val (.int v4), .val (.int p5), .val (.int p6), .val (.int (Int32.ofNat d1)), .val (.int (Int32.ofNat d2)), .val (.int (Int32.ofNat d3)), .val (.int (Int32.ofNat d4)), .val (.double (FP.l2d xv)), .second, .val (.int kk), .val (.ref a), .val (.int (1 : Int32))] [(.int (1 : Int32))]))
      refine own_via (fun tq kq => XS.goto X19.here hx rfl (pc0 := 195) (pc' := 199) rfl (hb hby at_195) (by decide) (by decide) kq) ?_
      show Ogo p e below _ (T19.setTop (mkF m 199 #[.val (.int p1), .val (.int p2), .val (.int p3), .val (.int v4), .val (.int p5), .val (.int p6), .val (.int (Int32.ofNat d1)), .val (.int (Int32.ofNat d2)), .val (.int (Int32.ofNat d3)), .val (.int (Int32.ofNat d4)), .val (.double (FP.l2d xv)), .second, .val (.int kk), .val (.ref a), .val (.int (1 : Int32))] [(.int (1 : Int32))]))
      exact own_out X19 hlk (fun h => by rw [hret] at h; cases h) (by decide) (by decide) (by first | exact ⟨rfl, N⟩ | (rw [hk19]; exact ⟨rfl, N⟩)) (fun fs hr => retN X19 hx (t := .boolean) hret (by simp) (hb hby at_199) hr)
    · refine own_via (fun tq kq => XS.icmpNo X11.here hx rfl (hb hby at_65) rfl (flt (hc65 : ¬ (kk < (2 : Int32)))).1 kq) ?_
      show Ogo p e below _ (T11.setTop (mkF m 68 #[.val (.int p1), .val (.int p2), .val (.int p3), .val (.int v4), .val (.int p5), .val (.int p6), .val (.int (Int32.ofNat d1)), .val (.int (Int32.ofNat d2)), .val (.int (Int32.ofNat d3)), .val (.int (Int32.ofNat d4)), .val (.double (FP.l2d xv)), .second, .val (.int kk), .val (.ref a), .unset] []))
      refine own_via (fun tq kq => XS.aload X11.here hx rfl (hb hby at_68) rfl rfl kq) ?_
      show Ogo p e below _ (T11.setTop (mkF m 70 #[.val (.int p1), .val (.int p2), .val (.int p3), .val (.int v4), .val (.int p5), .val (.int p6), .val (.int (Int32.ofNat d1)), .val (.int (Int32.ofNat d2)), .val (.int (Int32.ofNat d3)), .val (.int (Int32.ofNat d4)), .val (.double (FP.l2d xv)), .second, .val (.int kk), .val (.ref a), .unset] [(.ref a)]))
      refine own_via (fun tq kq => XS.iload X11.here hx rfl (hb hby at_70) rfl kq) ?_
      show Ogo p e below _ (T11.setTop (mkF m 72 #[.val (.int p1), .val (.int p2), .val (.int p3), .val (.int v4), .val (.int p5), .val (.int p6), .val (.int (Int32.ofNat d1)), .val (.int (Int32.ofNat d2)), .val (.int (Int32.ofNat d3)), .val (.int (Int32.ofNat d4)), .val (.double (FP.l2d xv)), .second, .val (.int kk), .val (.ref a), .unset] [(.int (Int32.ofNat d2)), (.ref a)]))
      refine own_via (fun tq kq => XS.dload X11.here hx rfl (hb hby at_72) rfl kq) ?_
      show Ogo p e below _ (T11.setTop (mkF m 74 #[.val (.int p1), .val (.int p2), .val (.int p3), .val (.int v4), .val (.int p5), .val (.int p6), .val (.int (Int32.ofNat d1)), .val (.int (Int32.ofNat d2)), .val (.int (Int32.ofNat d3)), .val (.int (Int32.ofNat d4)), .val (.double (FP.l2d xv)), .second, .val (.int kk), .val (.ref a), .unset] [(.double (FP.l2d xv)), (.int (Int32.ofNat d2)), (.ref a)]))
      refine own_via (fun tq kq => XS.iload X11.here hx rfl (hb hby at_74) rfl kq) ?_
      show Ogo p e below _ (T11.setTop (mkF m 76 #[.val (.int p1), .val (.int p2), .val (.int p3), .val (.int v4), .val (.int p5), .val (.int p6), .val (.int (Int32.ofNat d1)), .val (.int (Int32.ofNat d2)), .val (.int (Int32.ofNat d3)), .val (.int (Int32.ofNat d4)), .val (.double (FP.l2d xv)), .second, .val (.int kk), .val (.ref a), .unset] [(.int p5), (.double (FP.l2d xv)), (.int (Int32.ofNat d2)), (.ref a)]))
      refine own_via (fun tq kq => XS.iconst X11.here hx rfl (hb hby at_76) kq) ?_
      show Ogo p e below _ (T11.setTop (mkF m 77 #[.val (.int p1), .val (.int p2), .val (.int p3), .val (.int v4), .val (.int p5), .val (.int p6), .val (.int (Int32.ofNat d1)), .val (.int (Int32.ofNat d2)), .val (.int (Int32.ofNat d3)), .val (.int (Int32.ofNat d4)), .val (.double (FP.l2d xv)), .second, .val (.int kk), .val (.ref a), .unset] [(.int (3 : Int32)), (.int p5), (.double (FP.l2d xv)), (.int (Int32.ofNat d2)), (.ref a)]))
      refine own_via (fun tq kq => XS.ishr X11.here hx rfl (hb hby at_77) rfl kq) ?_
      show Ogo p e below _ (T11.setTop (mkF m 78 #[.val (.int p1), .val (.int p2), .val (.int p3), .val (.int v4), .val (.int p5), .val (.int p6), .val (.int (Int32.ofNat d1)), .val (.int (Int32.ofNat d2)), .val (.int (Int32.ofNat d3)), .val (.int (Int32.ofNat d4)), .val (.double (FP.l2d xv)), .second, .val (.int kk), .val (.ref a), .unset] [(.int (p5 >>> ((3 : Int32) &&& 31))), (.double (FP.l2d xv)), (.int (Int32.ofNat d2)), (.ref a)]))
      refine own_via (fun tq kq => XS.iconst X11.here hx rfl (hb hby at_78) kq) ?_
      show Ogo p e below _ (T11.setTop (mkF m 79 #[.val (.int p1), .val (.int p2), .val (.int p3), .val (.int v4), .val (.int p5), .val (.int p6), .val (.int (Int32.ofNat d1)), .val (.int (Int32.ofNat d2)), .val (.int (Int32.ofNat d3)), .val (.int (Int32.ofNat d4)), .val (.double (FP.l2d xv)), .second, .val (.int kk), .val (.ref a), .unset] [(.int (1 : Int32)), (.int (p5 >>> ((3 : Int32) &&& 31))), (.double (FP.l2d xv)), (.int (Int32.ofNat d2)), (.ref a)]))
      refine own_via (fun tq kq => XS.iand X11.here hx rfl (hb hby at_79) rfl kq) ?_
      show Ogo p e below _ (T11.setTop (mkF m 80 #[.val (.int p1), .val (.int p2), .val (.int p3), .val (.int v4), .val (.int p5), .val (.int p6), .val (.int (Int32.ofNat d1)), .val (.int (Int32.ofNat d2)), .val (.int (Int32.ofNat d3)), .val (.int (Int32.ofNat d4)), .val (.double (FP.l2d xv)), .second, .val (.int kk), .val (.ref a), .unset] [(.int ((p5 >>> ((3 : Int32) &&& 31)) &&& (1 : Int32))), (.double (FP.l2d xv)), (.int (Int32.ofNat d2)), (.ref a)]))
      refine own_callS X11 hx hZ hown (hw _ (List.mem_of_getElem? (i := 49) rfl)) (hw _ (List.mem_of_getElem? (i := 50) rfl)) (hw _ (List.mem_of_getElem? (i := 51) rfl)) (hw _ (List.mem_of_getElem? (i := 52) rfl)) (by decide) (rm_mu hw a sc li dc m1 dn1 fl1 w1 d2 0 2147483648 xv ((p5 >>> ((3 : Int32) &&& 31)) &&& (1 : Int32)) T11.heap n0 HA HN HI ld2 (by omega) (by omega) hx1 hx2 (by decide) (by decide)) rfl rfl (W := 0) (by decide) (by decide) (by decide) (by decide) (by rw [hml]; rfl) (argsL := [(.ref a), (.int (Int32.ofNat d2)), (.double (FP.l2d xv)), (.int ((p5 >>> ((3 : Int32) &&& 31)) &&& (1 : Int32)))]) (rest := []) (lenOf pd_6 rfl) rfl (Nat.le_of_eq rfl) (hb hby at_80) ?_
      rintro _ T20 L20 X20 ⟨rfl, Nq, Kc, m2, dn2, fl2, w2, HA, HI, hm2, -, -⟩
      have N := N.app Nq
      have E_a := E_a.keep Kc
      have zs := Nat.le_trans zs Kc.1
      show Ogo p e below _ (T20.setTop (mkF m 83 #[.val (.int p1), .val (.int p2), .val (.int p3), .val (.int v4), .val (.int p5), .val (.int p6), .val (.int (Int32.ofNat d1)), .val (.int (Int32.ofNat d2)), .val (.int (Int32.ofNat d3)), .val (.int (Int32.ofNat d4)), .val (.double (FP.l2d xv)), .second, .val (.int kk), .val (.ref a), .unset] []))
      have E_a := HA.1
      have hm2' : m2 ≤ 2 := by omega
      refine own_via (fun tq kq => XS.iload X20.here hx rfl (hb hby at_83) rfl kq) ?_
      show Ogo p e below _ (T20.setTop (mkF m 85 #[.val (.int p1), .val (.int p2), .val (.int p3), .val (.int v4), .val (.int p5), .val (.int p6), .val (.int (Int32.ofNat d1)), .val (.int (Int32.ofNat d2)), .val (.int (Int32.ofNat d3)), .val (.int (Int32.ofNat d4)), .val (.double (FP.l2d xv)), .second, .val (.int kk), .val (.ref a), .unset] [(.int kk)]))
      refine own_via (fun tq kq => XS.iconst X20.here hx rfl (hb hby at_85) kq) ?_
      show Ogo p e below _ (T20.setTop (mkF m 86 #[.val (.int p1), .val (.int p2), .val (.int p3), .val (.int v4), .val (.int p5), .val (.int p6), .val (.int (Int32.ofNat d1)), .val (.int (Int32.ofNat d2)), .val (.int (Int32.ofNat d3)), .val (.int (Int32.ofNat d4)), .val (.double (FP.l2d xv)), .second, .val (.int kk), .val (.ref a), .unset] [(.int (3 : Int32)), (.int kk)]))
      by_cases hc86 : kk < (3 : Int32)
      · refine own_via (fun tq kq => XS.icmpYes X20.here hx rfl (pc0 := 86) (pc' := 104) rfl (hb hby at_86) rfl (tlt (hc86 : kk < (3 : Int32))).1 (by decide) (by decide) kq) ?_
        show Ogo p e below _ (T20.setTop (mkF m 104 #[.val (.int p1), .val (.int p2), .val (.int p3), .val (.int v4), .val (.int p5), .val (.int p6), .val (.int (Int32.ofNat d1)), .val (.int (Int32.ofNat d2)), .val (.int (Int32.ofNat d3)), .val (.int (Int32.ofNat d4)), .val (.double (FP.l2d xv)), .second, .val (.int kk), .val (.ref a), .unset] []))
        refine own_via (fun tq kq => XS.aload X20.here hx rfl (hb hby at_104) rfl rfl kq) ?_
        show Ogo p e below _ (T20.setTop (mkF m 106 #[.val (.int p1), .val (.int p2), .val (.int p3), .val (.int v4), .val (.int p5), .val (.int p6), .val (.int (Int32.ofNat d1)), .val (.int (Int32.ofNat d2)), .val (.int (Int32.ofNat d3)), .val (.int (Int32.ofNat d4)), .val (.double (FP.l2d xv)), .second, .val (.int kk), .val (.ref a), .unset] [(.ref a)]))
        refine own_callV X20 hx hZ hown (hw _ (List.mem_of_getElem? (i := 18) rfl)) (hw _ (List.mem_of_getElem? (i := 19) rfl)) (hw _ (List.mem_of_getElem? (i := 21) rfl)) (hw _ (List.mem_of_getElem? (i := 20) rfl)) (hw _ (List.mem_of_getElem? (i := 2) rfl)) (hw _ (List.mem_of_getElem? (i := 22) rfl)) (notFace_of_selects (args := #[]) (mvT hZ (hw _ (List.mem_of_getElem? (i := 21) rfl)))) (by decide) (rm_cl hw a sc li dc m2 dn2 fl2 w2 4294967296 T20.heap n0 HA HN HI (by omega) (by decide)) rfl rfl E_a (W := 0) (by decide) (by decide) (by decide) (by decide) (by rw [hml]; rfl) (b := a) (argsL := []) (rest := []) (lenOf pd_2 rfl) rfl (Nat.le_of_eq rfl) (hb hby at_106) ?_
        rintro _ T21 L21 X21 ⟨rfl, Nq, Kc, flz, wz, HA, hfz, hwz⟩
        have N := N.app Nq
        have E_a := E_a.keep Kc
        have zs := Nat.le_trans zs Kc.1
        show Ogo p e below _ (T21.setTop (mkF m 109 #[.val (.int p1), .val (.int p2), .val (.int p3), .val (.int v4), .val (.int p5), .val (.int p6), .val (.int (Int32.ofNat d1)), .val (.int (Int32.ofNat d2)), .val (.int (Int32.ofNat d3)), .val (.int (Int32.ofNat d4)), .val (.double (FP.l2d xv)), .second, .val (.int kk), .val (.ref a), .unset] []))
        obtain ⟨E_a, F_scores_a, F_listed_a, F_documents_a, F_count_a, A_sc, A_li, A_dc⟩ := id HA
        refine own_via (fun tq kq => XS.aload X21.here hx rfl (hb hby at_109) rfl rfl kq) ?_
        show Ogo p e below _ (T21.setTop (mkF m 111 #[.val (.int p1), .val (.int p2), .val (.int p3), .val (.int v4), .val (.int p5), .val (.int p6), .val (.int (Int32.ofNat d1)), .val (.int (Int32.ofNat d2)), .val (.int (Int32.ofNat d3)), .val (.int (Int32.ofNat d4)), .val (.double (FP.l2d xv)), .second, .val (.int kk), .val (.ref a), .unset] [(.ref a)]))
        refine own_callV X21 hx hZ hown (hw _ (List.mem_of_getElem? (i := 25) rfl)) (hw _ (List.mem_of_getElem? (i := 26) rfl)) (hw _ (List.mem_of_getElem? (i := 28) rfl)) (hw _ (List.mem_of_getElem? (i := 27) rfl)) (hw _ (List.mem_of_getElem? (i := 2) rfl)) (hw _ (List.mem_of_getElem? (i := 29) rfl)) (notFace_of_selects (args := #[]) (mvT hZ (hw _ (List.mem_of_getElem? (i := 28) rfl)))) (by decide) (rm_cn hw a 0 T21.heap n0 F_count_a) rfl rfl E_a (W := 0) (by decide) (by decide) (by decide) (by decide) (by rw [hml]; rfl) (b := a) (argsL := []) (rest := []) (lenOf pd_3 rfl) rfl (Nat.le_of_eq rfl) (hb hby at_111) ?_
        rintro _ T22 L22 X22 ⟨rfl, Nq, hk⟩
        have N := N.app Nq
        have hk22 := hk
        show Ogo p e below _ (T22.setTop (mkF m 114 #[.val (.int p1), .val (.int p2), .val (.int p3), .val (.int v4), .val (.int p5), .val (.int p6), .val (.int (Int32.ofNat d1)), .val (.int (Int32.ofNat d2)), .val (.int (Int32.ofNat d3)), .val (.int (Int32.ofNat d4)), .val (.double (FP.l2d xv)), .second, .val (.int kk), .val (.ref a), .unset] [(.int (0 : Int32))]))
        refine own_via (fun tq kq => XS.ifNo X22.here hx rfl (hb hby at_114) rfl ((if0 _ _).trans (teq (rfl : (0 : Int32) = (0 : Int32))).2) kq) ?_
        show Ogo p e below _ (T22.setTop (mkF m 117 #[.val (.int p1), .val (.int p2), .val (.int p3), .val (.int v4), .val (.int p5), .val (.int p6), .val (.int (Int32.ofNat d1)), .val (.int (Int32.ofNat d2)), .val (.int (Int32.ofNat d3)), .val (.int (Int32.ofNat d4)), .val (.double (FP.l2d xv)), .second, .val (.int kk), .val (.ref a), .unset] []))
        refine own_via (fun tq kq => XS.aload X22.here hx rfl (hb hby at_117) rfl rfl kq) ?_
        show Ogo p e below _ (T22.setTop (mkF m 119 #[.val (.int p1), .val (.int p2), .val (.int p3), .val (.int v4), .val (.int p5), .val (.int p6), .val (.int (Int32.ofNat d1)), .val (.int (Int32.ofNat d2)), .val (.int (Int32.ofNat d3)), .val (.int (Int32.ofNat d4)), .val (.double (FP.l2d xv)), .second, .val (.int kk), .val (.ref a), .unset] [(.ref a)]))
        refine own_via (fun tq kq => XS.iload X22.here hx rfl (hb hby at_119) rfl kq) ?_
        show Ogo p e below _ (T22.setTop (mkF m 121 #[.val (.int p1), .val (.int p2), .val (.int p3), .val (.int v4), .val (.int p5), .val (.int p6), .val (.int (Int32.ofNat d1)), .val (.int (Int32.ofNat d2)), .val (.int (Int32.ofNat d3)), .val (.int (Int32.ofNat d4)), .val (.double (FP.l2d xv)), .second, .val (.int kk), .val (.ref a), .unset] [(.int (Int32.ofNat d1)), (.ref a)]))
        refine own_callV X22 hx hZ hown (hw _ (List.mem_of_getElem? (i := 30) rfl)) (hw _ (List.mem_of_getElem? (i := 31) rfl)) (hw _ (List.mem_of_getElem? (i := 33) rfl)) (hw _ (List.mem_of_getElem? (i := 32) rfl)) (hw _ (List.mem_of_getElem? (i := 2) rfl)) (hw _ (List.mem_of_getElem? (i := 34) rfl)) (notFace_of_selects (args := #[]) (mvT hZ (hw _ (List.mem_of_getElem? (i := 33) rfl)))) (by decide) (rm_sc hw a sc wz d1 T21.heap n0 F_scores_a A_sc ld1) rfl hk22 E_a (W := 0) (by decide) (by decide) (by decide) (by decide) (by rw [hml]; rfl) (b := a) (argsL := [(.int (Int32.ofNat d1))]) (rest := []) (lenOf pd_4 rfl) rfl (Nat.le_of_eq rfl) (hb hby at_121) ?_
        rintro _ T23 L23 X23 ⟨rfl, Nq, hk⟩
        have N := N.app Nq
        have hk23 := hk
        show Ogo p e below _ (T23.setTop (mkF m 124 #[.val (.int p1), .val (.int p2), .val (.int p3), .val (.int v4), .val (.int p5), .val (.int p6), .val (.int (Int32.ofNat d1)), .val (.int (Int32.ofNat d2)), .val (.int (Int32.ofNat d3)), .val (.int (Int32.ofNat d4)), .val (.double (FP.l2d xv)), .second, .val (.int kk), .val (.ref a), .unset] [(.double (FP.l2d (wz d1)))]))
        rw [hwz d1 ld1]
        show Ogo p e below _ (T23.setTop (mkF m 124 #[.val (.int p1), .val (.int p2), .val (.int p3), .val (.int v4), .val (.int p5), .val (.int p6), .val (.int (Int32.ofNat d1)), .val (.int (Int32.ofNat d2)), .val (.int (Int32.ofNat d3)), .val (.int (Int32.ofNat d4)), .val (.double (FP.l2d xv)), .second, .val (.int kk), .val (.ref a), .unset] [(.double (FP.l2d 0))]))
        refine own_via (fun tq kq => XS.dconst0 X23.here hx rfl (v := FP.l2d 0) (hb hby at_124) l2d_zero.symm kq) ?_
        show Ogo p e below _ (T23.setTop (mkF m 125 #[.val (.int p1), .val (.int p2), .val (.int p3), .val (.int v4), .val (.int p5), .val (.int p6), .val (.int (Int32.ofNat d1)), .val (.int (Int32.ofNat d2)), .val (.int (Int32.ofNat d3)), .val (.int (Int32.ofNat d4)), .val (.double (FP.l2d xv)), .second, .val (.int kk), .val (.ref a), .unset] [(.double (FP.l2d 0)), (.double (FP.l2d 0))]))
        refine own_via (fun tq kq => XS.dcmpS X23.here hx rfl (hb hby at_125) rfl (v := (0 : Int32)) (dcmpV_self (nn_w rfl) _) kq) ?_
        show Ogo p e below _ (T23.setTop (mkF m 126 #[.val (.int p1), .val (.int p2), .val (.int p3), .val (.int v4), .val (.int p5), .val (.int p6), .val (.int (Int32.ofNat d1)), .val (.int (Int32.ofNat d2)), .val (.int (Int32.ofNat d3)), .val (.int (Int32.ofNat d4)), .val (.double (FP.l2d xv)), .second, .val (.int kk), .val (.ref a), .unset] [(.int (0 : Int32))]))
        refine own_via (fun tq kq => XS.ifNo X23.here hx rfl (hb hby at_126) rfl ((if0 _ _).trans (teq (rfl : (0 : Int32) = (0 : Int32))).2) kq) ?_
        show Ogo p e below _ (T23.setTop (mkF m 129 #[.val (.int p1), .val (.int p2), .val (.int p3), .val (.int v4), .val (.int p5), .val (.int p6), .val (.int (Int32.ofNat d1)), .val (.int (Int32.ofNat d2)), .val (.int (Int32.ofNat d3)), .val (.int (Int32.ofNat d4)), .val (.double (FP.l2d xv)), .second, .val (.int kk), .val (.ref a), .unset] []))
        refine own_via (fun tq kq => XS.aload X23.here hx rfl (hb hby at_129) rfl rfl kq) ?_
        show Ogo p e below _ (T23.setTop (mkF m 131 #[.val (.int p1), .val (.int p2), .val (.int p3), .val (.int v4), .val (.int p5), .val (.int p6), .val (.int (Int32.ofNat d1)), .val (.int (Int32.ofNat d2)), .val (.int (Int32.ofNat d3)), .val (.int (Int32.ofNat d4)), .val (.double (FP.l2d xv)), .second, .val (.int kk), .val (.ref a), .unset] [(.ref a)]))
        refine own_via (fun tq kq => XS.iload X23.here hx rfl (hb hby at_131) rfl kq) ?_
        show Ogo p e below _ (T23.setTop (mkF m 133 #[.val (.int p1), .val (.int p2), .val (.int p3), .val (.int v4), .val (.int p5), .val (.int p6), .val (.int (Int32.ofNat d1)), .val (.int (Int32.ofNat d2)), .val (.int (Int32.ofNat d3)), .val (.int (Int32.ofNat d4)), .val (.double (FP.l2d xv)), .second, .val (.int kk), .val (.ref a), .unset] [(.int (Int32.ofNat d2)), (.ref a)]))
        refine own_callV X23 hx hZ hown (hw _ (List.mem_of_getElem? (i := 30) rfl)) (hw _ (List.mem_of_getElem? (i := 31) rfl)) (hw _ (List.mem_of_getElem? (i := 33) rfl)) (hw _ (List.mem_of_getElem? (i := 32) rfl)) (hw _ (List.mem_of_getElem? (i := 2) rfl)) (hw _ (List.mem_of_getElem? (i := 34) rfl)) (notFace_of_selects (args := #[]) (mvT hZ (hw _ (List.mem_of_getElem? (i := 33) rfl)))) (by decide) (rm_sc hw a sc wz d2 T21.heap n0 F_scores_a A_sc ld2) rfl hk23 E_a (W := 0) (by decide) (by decide) (by decide) (by decide) (by rw [hml]; rfl) (b := a) (argsL := [(.int (Int32.ofNat d2))]) (rest := []) (lenOf pd_4 rfl) rfl (Nat.le_of_eq rfl) (hb hby at_133) ?_
        rintro _ T24 L24 X24 ⟨rfl, Nq, hk⟩
        have N := N.app Nq
        have hk24 := hk
        show Ogo p e below _ (T24.setTop (mkF m 136 #[.val (.int p1), .val (.int p2), .val (.int p3), .val (.int v4), .val (.int p5), .val (.int p6), .val (.int (Int32.ofNat d1)), .val (.int (Int32.ofNat d2)), .val (.int (Int32.ofNat d3)), .val (.int (Int32.ofNat d4)), .val (.double (FP.l2d xv)), .second, .val (.int kk), .val (.ref a), .unset] [(.double (FP.l2d (wz d2)))]))
        rw [hwz d2 ld2]
        show Ogo p e below _ (T24.setTop (mkF m 136 #[.val (.int p1), .val (.int p2), .val (.int p3), .val (.int v4), .val (.int p5), .val (.int p6), .val (.int (Int32.ofNat d1)), .val (.int (Int32.ofNat d2)), .val (.int (Int32.ofNat d3)), .val (.int (Int32.ofNat d4)), .val (.double (FP.l2d xv)), .second, .val (.int kk), .val (.ref a), .unset] [(.double (FP.l2d 0))]))
        refine own_via (fun tq kq => XS.dconst0 X24.here hx rfl (v := FP.l2d 0) (hb hby at_136) l2d_zero.symm kq) ?_
        show Ogo p e below _ (T24.setTop (mkF m 137 #[.val (.int p1), .val (.int p2), .val (.int p3), .val (.int v4), .val (.int p5), .val (.int p6), .val (.int (Int32.ofNat d1)), .val (.int (Int32.ofNat d2)), .val (.int (Int32.ofNat d3)), .val (.int (Int32.ofNat d4)), .val (.double (FP.l2d xv)), .second, .val (.int kk), .val (.ref a), .unset] [(.double (FP.l2d 0)), (.double (FP.l2d 0))]))
        refine own_via (fun tq kq => XS.dcmpS X24.here hx rfl (hb hby at_137) rfl (v := (0 : Int32)) (dcmpV_self (nn_w rfl) _) kq) ?_
        show Ogo p e below _ (T24.setTop (mkF m 138 #[.val (.int p1), .val (.int p2), .val (.int p3), .val (.int v4), .val (.int p5), .val (.int p6), .val (.int (Int32.ofNat d1)), .val (.int (Int32.ofNat d2)), .val (.int (Int32.ofNat d3)), .val (.int (Int32.ofNat d4)), .val (.double (FP.l2d xv)), .second, .val (.int kk), .val (.ref a), .unset] [(.int (0 : Int32))]))
        refine own_via (fun tq kq => XS.ifNo X24.here hx rfl (hb hby at_138) rfl ((if0 _ _).trans (teq (rfl : (0 : Int32) = (0 : Int32))).2) kq) ?_
        show Ogo p e below _ (T24.setTop (mkF m 141 #[.val (.int p1), .val (.int p2), .val (.int p3), .val (.int v4), .val (.int p5), .val (.int p6), .val (.int (Int32.ofNat d1)), .val (.int (Int32.ofNat d2)), .val (.int (Int32.ofNat d3)), .val (.int (Int32.ofNat d4)), .val (.double (FP.l2d xv)), .second, .val (.int kk), .val (.ref a), .unset] []))
        refine own_via (fun tq kq => XS.aload X24.here hx rfl (hb hby at_141) rfl rfl kq) ?_
        show Ogo p e below _ (T24.setTop (mkF m 143 #[.val (.int p1), .val (.int p2), .val (.int p3), .val (.int v4), .val (.int p5), .val (.int p6), .val (.int (Int32.ofNat d1)), .val (.int (Int32.ofNat d2)), .val (.int (Int32.ofNat d3)), .val (.int (Int32.ofNat d4)), .val (.double (FP.l2d xv)), .second, .val (.int kk), .val (.ref a), .unset] [(.ref a)]))
        refine own_via (fun tq kq => XS.iload X24.here hx rfl (hb hby at_143) rfl kq) ?_
        show Ogo p e below _ (T24.setTop (mkF m 145 #[.val (.int p1), .val (.int p2), .val (.int p3), .val (.int v4), .val (.int p5), .val (.int p6), .val (.int (Int32.ofNat d1)), .val (.int (Int32.ofNat d2)), .val (.int (Int32.ofNat d3)), .val (.int (Int32.ofNat d4)), .val (.double (FP.l2d xv)), .second, .val (.int kk), .val (.ref a), .unset] [(.int (Int32.ofNat d3)), (.ref a)]))
        refine own_callV X24 hx hZ hown (hw _ (List.mem_of_getElem? (i := 30) rfl)) (hw _ (List.mem_of_getElem? (i := 31) rfl)) (hw _ (List.mem_of_getElem? (i := 33) rfl)) (hw _ (List.mem_of_getElem? (i := 32) rfl)) (hw _ (List.mem_of_getElem? (i := 2) rfl)) (hw _ (List.mem_of_getElem? (i := 34) rfl)) (notFace_of_selects (args := #[]) (mvT hZ (hw _ (List.mem_of_getElem? (i := 33) rfl)))) (by decide) (rm_sc hw a sc wz d3 T21.heap n0 F_scores_a A_sc ld3) rfl hk24 E_a (W := 0) (by decide) (by decide) (by decide) (by decide) (by rw [hml]; rfl) (b := a) (argsL := [(.int (Int32.ofNat d3))]) (rest := []) (lenOf pd_4 rfl) rfl (Nat.le_of_eq rfl) (hb hby at_145) ?_
        rintro _ T25 L25 X25 ⟨rfl, Nq, hk⟩
        have N := N.app Nq
        have hk25 := hk
        show Ogo p e below _ (T25.setTop (mkF m 148 #[.val (.int p1), .val (.int p2), .val (.int p3), .val (.int v4), .val (.int p5), .val (.int p6), .val (.int (Int32.ofNat d1)), .val (.int (Int32.ofNat d2)), .val (.int (Int32.ofNat d3)), .val (.int (Int32.ofNat d4)), .val (.double (FP.l2d xv)), .second, .val (.int kk), .val (.ref a), .unset] [(.double (FP.l2d (wz d3)))]))
        rw [hwz d3 ld3]
        show Ogo p e below _ (T25.setTop (mkF m 148 #[.val (.int p1), .val (.int p2), .val (.int p3), .val (.int v4), .val (.int p5), .val (.int p6), .val (.int (Int32.ofNat d1)), .val (.int (Int32.ofNat d2)), .val (.int (Int32.ofNat d3)), .val (.int (Int32.ofNat d4)), .val (.double (FP.l2d xv)), .second, .val (.int kk), .val (.ref a), .unset] [(.double (FP.l2d 0))]))
        refine own_via (fun tq kq => XS.dconst0 X25.here hx rfl (v := FP.l2d 0) (hb hby at_148) l2d_zero.symm kq) ?_
        show Ogo p e below _ (T25.setTop (mkF m 149 #[.val (.int p1), .val (.int p2), .val (.int p3), .val (.int v4), .val (.int p5), .val (.int p6), .val (.int (Int32.ofNat d1)), .val (.int (Int32.ofNat d2)), .val (.int (Int32.ofNat d3)), .val (.int (Int32.ofNat d4)), .val (.double (FP.l2d xv)), .second, .val (.int kk), .val (.ref a), .unset] [(.double (FP.l2d 0)), (.double (FP.l2d 0))]))
        refine own_via (fun tq kq => XS.dcmpS X25.here hx rfl (hb hby at_149) rfl (v := (0 : Int32)) (dcmpV_self (nn_w rfl) _) kq) ?_
        show Ogo p e below _ (T25.setTop (mkF m 150 #[.val (.int p1), .val (.int p2), .val (.int p3), .val (.int v4), .val (.int p5), .val (.int p6), .val (.int (Int32.ofNat d1)), .val (.int (Int32.ofNat d2)), .val (.int (Int32.ofNat d3)), .val (.int (Int32.ofNat d4)), .val (.double (FP.l2d xv)), .second, .val (.int kk), .val (.ref a), .unset] [(.int (0 : Int32))]))
        refine own_via (fun tq kq => XS.ifNo X25.here hx rfl (hb hby at_150) rfl ((if0 _ _).trans (teq (rfl : (0 : Int32) = (0 : Int32))).2) kq) ?_
        show Ogo p e below _ (T25.setTop (mkF m 153 #[.val (.int p1), .val (.int p2), .val (.int p3), .val (.int v4), .val (.int p5), .val (.int p6), .val (.int (Int32.ofNat d1)), .val (.int (Int32.ofNat d2)), .val (.int (Int32.ofNat d3)), .val (.int (Int32.ofNat d4)), .val (.double (FP.l2d xv)), .second, .val (.int kk), .val (.ref a), .unset] []))
        refine own_via (fun tq kq => XS.iconst X25.here hx rfl (hb hby at_153) kq) ?_
        show Ogo p e below _ (T25.setTop (mkF m 154 #[.val (.int p1), .val (.int p2), .val (.int p3), .val (.int v4), .val (.int p5), .val (.int p6), .val (.int (Int32.ofNat d1)), .val (.int (Int32.ofNat d2)), .val (.int (Int32.ofNat d3)), .val (.int (Int32.ofNat d4)), .val (.double (FP.l2d xv)), .second, .val (.int kk), .val (.ref a), .unset] [(.int (1 : Int32))]))
        refine own_via (fun tq kq => XS.goto X25.here hx rfl (pc0 := 154) (pc' := 158) rfl (hb hby at_154) (by decide) (by decide) kq) ?_
        show Ogo p e below _ (T25.setTop (mkF m 158 #[.val (.int p1), .val (.int p2), .val (.int p3), .val (.int v4), .val (.int p5), .val (.int p6), .val (.int (Int32.ofNat d1)), .val (.int (Int32.ofNat d2)), .val (.int (Int32.ofNat d3)), .val (.int (Int32.ofNat d4)), .val (.double (FP.l2d xv)), .second, .val (.int kk), .val (.ref a), .unset] [(.int (1 : Int32))]))
        refine own_via (fun tq kq => XS.istore X25.here hx rfl (hb hby at_158) rfl (l' := #[.val (.int p1), .val (.int p2), .val (.int p3), .val (.int v4), .val (.int p5), .val (.int p6), .val (.int (Int32.ofNat d1)), .val (.int (Int32.ofNat d2)), .val (.int (Int32.ofNat d3)), .val (.int (Int32.ofNat d4)), .val (.double (FP.l2d xv)), .second, .val (.int kk), .val (.ref a), .val (.int (1 : Int32))]) rfl kq) ?_
        show Ogo p e below _ (T25.setTop (mkF m 160 #[.val (.int p1), .val (.int p2), .val (.int p3), .val (.int v4), .val (.int p5), .val (.int p6), .val (.int (Int32.ofNat d1)), .val (.int (Int32.ofNat d2)), .val (.int (Int32.ofNat d3)), .val (.int (Int32.ofNat d4)), .val (.double (FP.l2d xv)), .second, .val (.int kk), .val (.ref a), .val (.int (1 : Int32))] []))
        refine own_via (fun tq kq => XS.aload X25.here hx rfl (hb hby at_160) rfl rfl kq) ?_
        show Ogo p e below _ (T25.setTop (mkF m 162 #[.val (.int p1), .val (.int p2), .val (.int p3), .val (.int v4), .val (.int p5), .val (.int p6), .val (.int (Int32.ofNat d1)), .val (.int (Int32.ofNat d2)), .val (.int (Int32.ofNat d3)), .val (.int (Int32.ofNat d4)), .val (.double (FP.l2d xv)), .second, .val (.int kk), .val (.ref a), .val (.int (1 : Int32))] [(.ref a)]))
        refine own_via (fun tq kq => XS.iload X25.here hx rfl (hb hby at_162) rfl kq) ?_
        show Ogo p e below _ (T25.setTop (mkF m 164 #[.val (.int p1), .val (.int p2), .val (.int p3), .val (.int v4), .val (.int p5), .val (.int p6), .val (.int (Int32.ofNat d1)), .val (.int (Int32.ofNat d2)), .val (.int (Int32.ofNat d3)), .val (.int (Int32.ofNat d4)), .val (.double (FP.l2d xv)), .second, .val (.int kk), .val (.ref a), .val (.int (1 : Int32))] [(.int (Int32.ofNat d4)), (.ref a)]))
        refine own_via (fun tq kq => XS.dload X25.here hx rfl (hb hby at_164) rfl kq) ?_
        show Ogo p e below _ (T25.setTop (mkF m 166 #[.val (.int p1), .val (.int p2), .val (.int p3), .val (.int v4), .val (.int p5), .val (.int p6), .val (.int (Int32.ofNat d1)), .val (.int (Int32.ofNat d2)), .val (.int (Int32.ofNat d3)), .val (.int (Int32.ofNat d4)), .val (.double (FP.l2d xv)), .second, .val (.int kk), .val (.ref a), .val (.int (1 : Int32))] [(.double (FP.l2d xv)), (.int (Int32.ofNat d4)), (.ref a)]))
        have HI : AccI 0 0 dn2 flz wz 0 := ⟨fun i hi => absurd hi (Nat.not_lt_zero i), fun j hj => Or.inl (hfz j hj), fun j hj _ => hwz j hj, fun j hj => by rw [hwz j hj]; exact ⟨by decide, by decide⟩⟩
        refine own_callV X25 hx hZ hown (hw _ (List.mem_of_getElem? (i := 35) rfl)) (hw _ (List.mem_of_getElem? (i := 36) rfl)) (hw _ (List.mem_of_getElem? (i := 38) rfl)) (hw _ (List.mem_of_getElem? (i := 37) rfl)) (hw _ (List.mem_of_getElem? (i := 2) rfl)) (hw _ (List.mem_of_getElem? (i := 39) rfl)) (notFace_of_selects (args := #[]) (mvT hZ (hw _ (List.mem_of_getElem? (i := 38) rfl)))) (by decide) (rm_ad hw a sc li dc 0 dn2 flz wz d4 0 0 xv T21.heap n0 HA HN HI ld4 (by decide) (by decide) hx1 hx2 (by decide) (by decide)) rfl hk25 E_a (W := 0) (by decide) (by decide) (by decide) (by decide) (by rw [hml]; rfl) (b := a) (argsL := [(.int (Int32.ofNat d4)), (.double (FP.l2d xv))]) (rest := []) (lenOf pd_1 rfl) rfl (Nat.le_of_eq rfl) (hb hby at_166) ?_
        rintro _ T26 L26 X26 ⟨rfl, Nq, Kc, n9, dn9, fl9, w9, HA, -, -, -, hex⟩
        have N := N.app Nq
        have E_a := E_a.keep Kc
        have zs := Nat.le_trans zs Kc.1
        show Ogo p e below _ (T26.setTop (mkF m 169 #[.val (.int p1), .val (.int p2), .val (.int p3), .val (.int v4), .val (.int p5), .val (.int p6), .val (.int (Int32.ofNat d1)), .val (.int (Int32.ofNat d2)), .val (.int (Int32.ofNat d3)), .val (.int (Int32.ofNat d4)), .val (.double (FP.l2d xv)), .second, .val (.int kk), .val (.ref a), .val (.int (1 : Int32))] []))
        obtain ⟨rfl, hd0⟩ := hex (hfz d4 ld4)
        obtain ⟨E_a, F_scores_a, F_listed_a, F_documents_a, F_count_a, A_sc, A_li, A_dc⟩ := id HA
        refine own_via (fun tq kq => XS.iload X26.here hx rfl (hb hby at_169) rfl kq) ?_
        show Ogo p e below _ (T26.setTop (mkF m 171 #[.val (.int p1), .val (.int p2), .val (.int p3), .val (.int v4), .val (.int p5), .val (.int p6), .val (.int (Int32.ofNat d1)), .val (.int (Int32.ofNat d2)), .val (.int (Int32.ofNat d3)), .val (.int (Int32.ofNat d4)), .val (.double (FP.l2d xv)), .second, .val (.int kk), .val (.ref a), .val (.int (1 : Int32))] [(.int (1 : Int32))]))
        refine own_via (fun tq kq => XS.ifNo X26.here hx rfl (hb hby at_171) rfl ((if0 _ _).trans (feq ((by decide) : ¬ ((1 : Int32) = (0 : Int32)))).1) kq) ?_
        show Ogo p e below _ (T26.setTop (mkF m 174 #[.val (.int p1), .val (.int p2), .val (.int p3), .val (.int v4), .val (.int p5), .val (.int p6), .val (.int (Int32.ofNat d1)), .val (.int (Int32.ofNat d2)), .val (.int (Int32.ofNat d3)), .val (.int (Int32.ofNat d4)), .val (.double (FP.l2d xv)), .second, .val (.int kk), .val (.ref a), .val (.int (1 : Int32))] []))
        refine own_via (fun tq kq => XS.aload X26.here hx rfl (hb hby at_174) rfl rfl kq) ?_
        show Ogo p e below _ (T26.setTop (mkF m 176 #[.val (.int p1), .val (.int p2), .val (.int p3), .val (.int v4), .val (.int p5), .val (.int p6), .val (.int (Int32.ofNat d1)), .val (.int (Int32.ofNat d2)), .val (.int (Int32.ofNat d3)), .val (.int (Int32.ofNat d4)), .val (.double (FP.l2d xv)), .second, .val (.int kk), .val (.ref a), .val (.int (1 : Int32))] [(.ref a)]))
        refine own_callV X26 hx hZ hown (hw _ (List.mem_of_getElem? (i := 25) rfl)) (hw _ (List.mem_of_getElem? (i := 26) rfl)) (hw _ (List.mem_of_getElem? (i := 28) rfl)) (hw _ (List.mem_of_getElem? (i := 27) rfl)) (hw _ (List.mem_of_getElem? (i := 2) rfl)) (hw _ (List.mem_of_getElem? (i := 29) rfl)) (notFace_of_selects (args := #[]) (mvT hZ (hw _ (List.mem_of_getElem? (i := 28) rfl)))) (by decide) (rm_cn hw a 1 T26.heap n0 F_count_a) rfl rfl E_a (W := 0) (by decide) (by decide) (by decide) (by decide) (by rw [hml]; rfl) (b := a) (argsL := []) (rest := []) (lenOf pd_3 rfl) rfl (Nat.le_of_eq rfl) (hb hby at_176) ?_
        rintro _ T27 L27 X27 ⟨rfl, Nq, hk⟩
        have N := N.app Nq
        have hk27 := hk
        show Ogo p e below _ (T27.setTop (mkF m 179 #[.val (.int p1), .val (.int p2), .val (.int p3), .val (.int v4), .val (.int p5), .val (.int p6), .val (.int (Int32.ofNat d1)), .val (.int (Int32.ofNat d2)), .val (.int (Int32.ofNat d3)), .val (.int (Int32.ofNat d4)), .val (.double (FP.l2d xv)), .second, .val (.int kk), .val (.ref a), .val (.int (1 : Int32))] [(.int (1 : Int32))]))
        refine own_via (fun tq kq => XS.iconst X27.here hx rfl (hb hby at_179) kq) ?_
        show Ogo p e below _ (T27.setTop (mkF m 180 #[.val (.int p1), .val (.int p2), .val (.int p3), .val (.int v4), .val (.int p5), .val (.int p6), .val (.int (Int32.ofNat d1)), .val (.int (Int32.ofNat d2)), .val (.int (Int32.ofNat d3)), .val (.int (Int32.ofNat d4)), .val (.double (FP.l2d xv)), .second, .val (.int kk), .val (.ref a), .val (.int (1 : Int32))] [(.int (1 : Int32)), (.int (1 : Int32))]))
        refine own_via (fun tq kq => XS.icmpNo X27.here hx rfl (hb hby at_180) rfl (teq (rfl : (1 : Int32) = (1 : Int32))).2 kq) ?_
        show Ogo p e below _ (T27.setTop (mkF m 183 #[.val (.int p1), .val (.int p2), .val (.int p3), .val (.int v4), .val (.int p5), .val (.int p6), .val (.int (Int32.ofNat d1)), .val (.int (Int32.ofNat d2)), .val (.int (Int32.ofNat d3)), .val (.int (Int32.ofNat d4)), .val (.double (FP.l2d xv)), .second, .val (.int kk), .val (.ref a), .val (.int (1 : Int32))] []))
        refine own_via (fun tq kq => XS.aload X27.here hx rfl (hb hby at_183) rfl rfl kq) ?_
        show Ogo p e below _ (T27.setTop (mkF m 185 #[.val (.int p1), .val (.int p2), .val (.int p3), .val (.int v4), .val (.int p5), .val (.int p6), .val (.int (Int32.ofNat d1)), .val (.int (Int32.ofNat d2)), .val (.int (Int32.ofNat d3)), .val (.int (Int32.ofNat d4)), .val (.double (FP.l2d xv)), .second, .val (.int kk), .val (.ref a), .val (.int (1 : Int32))] [(.ref a)]))
        refine own_via (fun tq kq => XS.iconst X27.here hx rfl (hb hby at_185) kq) ?_
        show Ogo p e below _ (T27.setTop (mkF m 186 #[.val (.int p1), .val (.int p2), .val (.int p3), .val (.int v4), .val (.int p5), .val (.int p6), .val (.int (Int32.ofNat d1)), .val (.int (Int32.ofNat d2)), .val (.int (Int32.ofNat d3)), .val (.int (Int32.ofNat d4)), .val (.double (FP.l2d xv)), .second, .val (.int kk), .val (.ref a), .val (.int (1 : Int32))] [(.int (0 : Int32)), (.ref a)]))
        refine own_callV X27 hx hZ hown (hw _ (List.mem_of_getElem? (i := 44) rfl)) (hw _ (List.mem_of_getElem? (i := 45) rfl)) (hw _ (List.mem_of_getElem? (i := 47) rfl)) (hw _ (List.mem_of_getElem? (i := 46) rfl)) (hw _ (List.mem_of_getElem? (i := 2) rfl)) (hw _ (List.mem_of_getElem? (i := 48) rfl)) (notFace_of_selects (args := #[]) (mvT hZ (hw _ (List.mem_of_getElem? (i := 47) rfl)))) (by decide) (rm_do hw a dc dn9 T26.heap n0 F_documents_a A_dc) rfl hk27 E_a (W := 0) (by decide) (by decide) (by decide) (by decide) (by rw [hml]; rfl) (b := a) (argsL := [(.int (0 : Int32))]) (rest := []) (lenOf pd_5 rfl) rfl (Nat.le_of_eq rfl) (hb hby at_186) ?_
        rintro _ T28 L28 X28 ⟨rfl, Nq, hk⟩
        have N := N.app Nq
        have hk28 := hk
        show Ogo p e below _ (T28.setTop (mkF m 189 #[.val (.int p1), .val (.int p2), .val (.int p3), .val (.int v4), .val (.int p5), .val (.int p6), .val (.int (Int32.ofNat d1)), .val (.int (Int32.ofNat d2)), .val (.int (Int32.ofNat d3)), .val (.int (Int32.ofNat d4)), .val (.double (FP.l2d xv)), .second, .val (.int kk), .val (.ref a), .val (.int (1 : Int32))] [(.int (Int32.ofNat (dn9 0)))]))
        refine own_via (fun tq kq => XS.iload X28.here hx rfl (hb hby at_189) rfl kq) ?_
        show Ogo p e below _ (T28.setTop (mkF m 191 #[.val (.int p1), .val (.int p2), .val (.int p3), .val (.int v4), .val (.int p5), .val (.int p6), .val (.int (Int32.ofNat d1)), .val (.int (Int32.ofNat d2)), .val (.int (Int32.ofNat d3)), .val (.int (Int32.ofNat d4)), .val (.double (FP.l2d xv)), .second, .val (.int kk), .val (.ref a), .val (.int (1 : Int32))] [(.int (Int32.ofNat d4)), (.int (Int32.ofNat (dn9 0)))]))
        refine own_via (fun tq kq => XS.icmpNo X28.here hx rfl (hb hby at_191) rfl (teq ((by rw [hd0]) : (Int32.ofNat (dn9 0)) = (Int32.ofNat d4))).2 kq) ?_
        show Ogo p e below _ (T28.setTop (mkF m 194 #[.val (.int p1), .val (.int p2), .val (.int p3), .val (.int v4), .val (.int p5), .val (.int p6), .val (.int (Int32.ofNat d1)), .val (.int (Int32.ofNat d2)), .val (.int (Int32.ofNat d3)), .val (.int (Int32.ofNat d4)), .val (.double (FP.l2d xv)), .second, .val (.int kk), .val (.ref a), .val (.int (1 : Int32))] []))
        refine own_via (fun tq kq => XS.iconst X28.here hx rfl (hb hby at_194) kq) ?_
        show Ogo p e below _ (T28.setTop (mkF m 195 #[.val (.int p1), .val (.int p2), .val (.int p3), .val (.int v4), .val (.int p5), .val (.int p6), .val (.int (Int32.ofNat d1)), .val (.int (Int32.ofNat d2)), .val (.int (Int32.ofNat d3)), .val (.int (Int32.ofNat d4)), .val (.double (FP.l2d xv)), .second, .val (.int kk), .val (.ref a), .val (.int (1 : Int32))] [(.int (1 : Int32))]))
        refine own_via (fun tq kq => XS.goto X28.here hx rfl (pc0 := 195) (pc' := 199) rfl (hb hby at_195) (by decide) (by decide) kq) ?_
        show Ogo p e below _ (T28.setTop (mkF m 199 #[.val (.int p1), .val (.int p2), .val (.int p3), .val (.int v4), .val (.int p5), .val (.int p6), .val (.int (Int32.ofNat d1)), .val (.int (Int32.ofNat d2)), .val (.int (Int32.ofNat d3)), .val (.int (Int32.ofNat d4)), .val (.double (FP.l2d xv)), .second, .val (.int kk), .val (.ref a), .val (.int (1 : Int32))] [(.int (1 : Int32))]))
        exact own_out X28 hlk (fun h => by rw [hret] at h; cases h) (by decide) (by decide) (by first | exact ⟨rfl, N⟩ | (rw [hk28]; exact ⟨rfl, N⟩)) (fun fs hr => retN X28 hx (t := .boolean) hret (by simp) (hb hby at_199) hr)
      · refine own_via (fun tq kq => XS.icmpNo X20.here hx rfl (hb hby at_86) rfl (flt (hc86 : ¬ (kk < (3 : Int32)))).1 kq) ?_
        show Ogo p e below _ (T20.setTop (mkF m 89 #[.val (.int p1), .val (.int p2), .val (.int p3), .val (.int v4), .val (.int p5), .val (.int p6), .val (.int (Int32.ofNat d1)), .val (.int (Int32.ofNat d2)), .val (.int (Int32.ofNat d3)), .val (.int (Int32.ofNat d4)), .val (.double (FP.l2d xv)), .second, .val (.int kk), .val (.ref a), .unset] []))
        refine own_via (fun tq kq => XS.aload X20.here hx rfl (hb hby at_89) rfl rfl kq) ?_
        show Ogo p e below _ (T20.setTop (mkF m 91 #[.val (.int p1), .val (.int p2), .val (.int p3), .val (.int v4), .val (.int p5), .val (.int p6), .val (.int (Int32.ofNat d1)), .val (.int (Int32.ofNat d2)), .val (.int (Int32.ofNat d3)), .val (.int (Int32.ofNat d4)), .val (.double (FP.l2d xv)), .second, .val (.int kk), .val (.ref a), .unset] [(.ref a)]))
        refine own_via (fun tq kq => XS.iload X20.here hx rfl (hb hby at_91) rfl kq) ?_
        show Ogo p e below _ (T20.setTop (mkF m 93 #[.val (.int p1), .val (.int p2), .val (.int p3), .val (.int v4), .val (.int p5), .val (.int p6), .val (.int (Int32.ofNat d1)), .val (.int (Int32.ofNat d2)), .val (.int (Int32.ofNat d3)), .val (.int (Int32.ofNat d4)), .val (.double (FP.l2d xv)), .second, .val (.int kk), .val (.ref a), .unset] [(.int (Int32.ofNat d3)), (.ref a)]))
        refine own_via (fun tq kq => XS.dload X20.here hx rfl (hb hby at_93) rfl kq) ?_
        show Ogo p e below _ (T20.setTop (mkF m 95 #[.val (.int p1), .val (.int p2), .val (.int p3), .val (.int v4), .val (.int p5), .val (.int p6), .val (.int (Int32.ofNat d1)), .val (.int (Int32.ofNat d2)), .val (.int (Int32.ofNat d3)), .val (.int (Int32.ofNat d4)), .val (.double (FP.l2d xv)), .second, .val (.int kk), .val (.ref a), .unset] [(.double (FP.l2d xv)), (.int (Int32.ofNat d3)), (.ref a)]))
        refine own_via (fun tq kq => XS.iload X20.here hx rfl (hb hby at_95) rfl kq) ?_
        show Ogo p e below _ (T20.setTop (mkF m 97 #[.val (.int p1), .val (.int p2), .val (.int p3), .val (.int v4), .val (.int p5), .val (.int p6), .val (.int (Int32.ofNat d1)), .val (.int (Int32.ofNat d2)), .val (.int (Int32.ofNat d3)), .val (.int (Int32.ofNat d4)), .val (.double (FP.l2d xv)), .second, .val (.int kk), .val (.ref a), .unset] [(.int p5), (.double (FP.l2d xv)), (.int (Int32.ofNat d3)), (.ref a)]))
        refine own_via (fun tq kq => XS.iconst X20.here hx rfl (hb hby at_97) kq) ?_
        show Ogo p e below _ (T20.setTop (mkF m 98 #[.val (.int p1), .val (.int p2), .val (.int p3), .val (.int v4), .val (.int p5), .val (.int p6), .val (.int (Int32.ofNat d1)), .val (.int (Int32.ofNat d2)), .val (.int (Int32.ofNat d3)), .val (.int (Int32.ofNat d4)), .val (.double (FP.l2d xv)), .second, .val (.int kk), .val (.ref a), .unset] [(.int (4 : Int32)), (.int p5), (.double (FP.l2d xv)), (.int (Int32.ofNat d3)), (.ref a)]))
        refine own_via (fun tq kq => XS.ishr X20.here hx rfl (hb hby at_98) rfl kq) ?_
        show Ogo p e below _ (T20.setTop (mkF m 99 #[.val (.int p1), .val (.int p2), .val (.int p3), .val (.int v4), .val (.int p5), .val (.int p6), .val (.int (Int32.ofNat d1)), .val (.int (Int32.ofNat d2)), .val (.int (Int32.ofNat d3)), .val (.int (Int32.ofNat d4)), .val (.double (FP.l2d xv)), .second, .val (.int kk), .val (.ref a), .unset] [(.int (p5 >>> ((4 : Int32) &&& 31))), (.double (FP.l2d xv)), (.int (Int32.ofNat d3)), (.ref a)]))
        refine own_via (fun tq kq => XS.iconst X20.here hx rfl (hb hby at_99) kq) ?_
        show Ogo p e below _ (T20.setTop (mkF m 100 #[.val (.int p1), .val (.int p2), .val (.int p3), .val (.int v4), .val (.int p5), .val (.int p6), .val (.int (Int32.ofNat d1)), .val (.int (Int32.ofNat d2)), .val (.int (Int32.ofNat d3)), .val (.int (Int32.ofNat d4)), .val (.double (FP.l2d xv)), .second, .val (.int kk), .val (.ref a), .unset] [(.int (1 : Int32)), (.int (p5 >>> ((4 : Int32) &&& 31))), (.double (FP.l2d xv)), (.int (Int32.ofNat d3)), (.ref a)]))
        refine own_via (fun tq kq => XS.iand X20.here hx rfl (hb hby at_100) rfl kq) ?_
        show Ogo p e below _ (T20.setTop (mkF m 101 #[.val (.int p1), .val (.int p2), .val (.int p3), .val (.int v4), .val (.int p5), .val (.int p6), .val (.int (Int32.ofNat d1)), .val (.int (Int32.ofNat d2)), .val (.int (Int32.ofNat d3)), .val (.int (Int32.ofNat d4)), .val (.double (FP.l2d xv)), .second, .val (.int kk), .val (.ref a), .unset] [(.int ((p5 >>> ((4 : Int32) &&& 31)) &&& (1 : Int32))), (.double (FP.l2d xv)), (.int (Int32.ofNat d3)), (.ref a)]))
        refine own_callS X20 hx hZ hown (hw _ (List.mem_of_getElem? (i := 49) rfl)) (hw _ (List.mem_of_getElem? (i := 50) rfl)) (hw _ (List.mem_of_getElem? (i := 51) rfl)) (hw _ (List.mem_of_getElem? (i := 52) rfl)) (by decide) (rm_mu hw a sc li dc m2 dn2 fl2 w2 d3 0 4294967296 xv ((p5 >>> ((4 : Int32) &&& 31)) &&& (1 : Int32)) T20.heap n0 HA HN HI ld3 (by omega) (by omega) hx1 hx2 (by decide) (by decide)) rfl rfl (W := 0) (by decide) (by decide) (by decide) (by decide) (by rw [hml]; rfl) (argsL := [(.ref a), (.int (Int32.ofNat d3)), (.double (FP.l2d xv)), (.int ((p5 >>> ((4 : Int32) &&& 31)) &&& (1 : Int32)))]) (rest := []) (lenOf pd_6 rfl) rfl (Nat.le_of_eq rfl) (hb hby at_101) ?_
        rintro _ T29 L29 X29 ⟨rfl, Nq, Kc, m3, dn3, fl3, w3, HA, HI, hm3, -, -⟩
        have N := N.app Nq
        have E_a := E_a.keep Kc
        have zs := Nat.le_trans zs Kc.1
        show Ogo p e below _ (T29.setTop (mkF m 104 #[.val (.int p1), .val (.int p2), .val (.int p3), .val (.int v4), .val (.int p5), .val (.int p6), .val (.int (Int32.ofNat d1)), .val (.int (Int32.ofNat d2)), .val (.int (Int32.ofNat d3)), .val (.int (Int32.ofNat d4)), .val (.double (FP.l2d xv)), .second, .val (.int kk), .val (.ref a), .unset] []))
        have E_a := HA.1
        have hm3' : m3 ≤ 3 := by omega
        refine own_via (fun tq kq => XS.aload X29.here hx rfl (hb hby at_104) rfl rfl kq) ?_
        show Ogo p e below _ (T29.setTop (mkF m 106 #[.val (.int p1), .val (.int p2), .val (.int p3), .val (.int v4), .val (.int p5), .val (.int p6), .val (.int (Int32.ofNat d1)), .val (.int (Int32.ofNat d2)), .val (.int (Int32.ofNat d3)), .val (.int (Int32.ofNat d4)), .val (.double (FP.l2d xv)), .second, .val (.int kk), .val (.ref a), .unset] [(.ref a)]))
        refine own_callV X29 hx hZ hown (hw _ (List.mem_of_getElem? (i := 18) rfl)) (hw _ (List.mem_of_getElem? (i := 19) rfl)) (hw _ (List.mem_of_getElem? (i := 21) rfl)) (hw _ (List.mem_of_getElem? (i := 20) rfl)) (hw _ (List.mem_of_getElem? (i := 2) rfl)) (hw _ (List.mem_of_getElem? (i := 22) rfl)) (notFace_of_selects (args := #[]) (mvT hZ (hw _ (List.mem_of_getElem? (i := 21) rfl)))) (by decide) (rm_cl hw a sc li dc m3 dn3 fl3 w3 6442450944 T29.heap n0 HA HN HI (by omega) (by decide)) rfl rfl E_a (W := 0) (by decide) (by decide) (by decide) (by decide) (by rw [hml]; rfl) (b := a) (argsL := []) (rest := []) (lenOf pd_2 rfl) rfl (Nat.le_of_eq rfl) (hb hby at_106) ?_
        rintro _ T30 L30 X30 ⟨rfl, Nq, Kc, flz, wz, HA, hfz, hwz⟩
        have N := N.app Nq
        have E_a := E_a.keep Kc
        have zs := Nat.le_trans zs Kc.1
        show Ogo p e below _ (T30.setTop (mkF m 109 #[.val (.int p1), .val (.int p2), .val (.int p3), .val (.int v4), .val (.int p5), .val (.int p6), .val (.int (Int32.ofNat d1)), .val (.int (Int32.ofNat d2)), .val (.int (Int32.ofNat d3)), .val (.int (Int32.ofNat d4)), .val (.double (FP.l2d xv)), .second, .val (.int kk), .val (.ref a), .unset] []))
        obtain ⟨E_a, F_scores_a, F_listed_a, F_documents_a, F_count_a, A_sc, A_li, A_dc⟩ := id HA
        refine own_via (fun tq kq => XS.aload X30.here hx rfl (hb hby at_109) rfl rfl kq) ?_
        show Ogo p e below _ (T30.setTop (mkF m 111 #[.val (.int p1), .val (.int p2), .val (.int p3), .val (.int v4), .val (.int p5), .val (.int p6), .val (.int (Int32.ofNat d1)), .val (.int (Int32.ofNat d2)), .val (.int (Int32.ofNat d3)), .val (.int (Int32.ofNat d4)), .val (.double (FP.l2d xv)), .second, .val (.int kk), .val (.ref a), .unset] [(.ref a)]))
        refine own_callV X30 hx hZ hown (hw _ (List.mem_of_getElem? (i := 25) rfl)) (hw _ (List.mem_of_getElem? (i := 26) rfl)) (hw _ (List.mem_of_getElem? (i := 28) rfl)) (hw _ (List.mem_of_getElem? (i := 27) rfl)) (hw _ (List.mem_of_getElem? (i := 2) rfl)) (hw _ (List.mem_of_getElem? (i := 29) rfl)) (notFace_of_selects (args := #[]) (mvT hZ (hw _ (List.mem_of_getElem? (i := 28) rfl)))) (by decide) (rm_cn hw a 0 T30.heap n0 F_count_a) rfl rfl E_a (W := 0) (by decide) (by decide) (by decide) (by decide) (by rw [hml]; rfl) (b := a) (argsL := []) (rest := []) (lenOf pd_3 rfl) rfl (Nat.le_of_eq rfl) (hb hby at_111) ?_
        rintro _ T31 L31 X31 ⟨rfl, Nq, hk⟩
        have N := N.app Nq
        have hk31 := hk
        show Ogo p e below _ (T31.setTop (mkF m 114 #[.val (.int p1), .val (.int p2), .val (.int p3), .val (.int v4), .val (.int p5), .val (.int p6), .val (.int (Int32.ofNat d1)), .val (.int (Int32.ofNat d2)), .val (.int (Int32.ofNat d3)), .val (.int (Int32.ofNat d4)), .val (.double (FP.l2d xv)), .second, .val (.int kk), .val (.ref a), .unset] [(.int (0 : Int32))]))
        refine own_via (fun tq kq => XS.ifNo X31.here hx rfl (hb hby at_114) rfl ((if0 _ _).trans (teq (rfl : (0 : Int32) = (0 : Int32))).2) kq) ?_
        show Ogo p e below _ (T31.setTop (mkF m 117 #[.val (.int p1), .val (.int p2), .val (.int p3), .val (.int v4), .val (.int p5), .val (.int p6), .val (.int (Int32.ofNat d1)), .val (.int (Int32.ofNat d2)), .val (.int (Int32.ofNat d3)), .val (.int (Int32.ofNat d4)), .val (.double (FP.l2d xv)), .second, .val (.int kk), .val (.ref a), .unset] []))
        refine own_via (fun tq kq => XS.aload X31.here hx rfl (hb hby at_117) rfl rfl kq) ?_
        show Ogo p e below _ (T31.setTop (mkF m 119 #[.val (.int p1), .val (.int p2), .val (.int p3), .val (.int v4), .val (.int p5), .val (.int p6), .val (.int (Int32.ofNat d1)), .val (.int (Int32.ofNat d2)), .val (.int (Int32.ofNat d3)), .val (.int (Int32.ofNat d4)), .val (.double (FP.l2d xv)), .second, .val (.int kk), .val (.ref a), .unset] [(.ref a)]))
        refine own_via (fun tq kq => XS.iload X31.here hx rfl (hb hby at_119) rfl kq) ?_
        show Ogo p e below _ (T31.setTop (mkF m 121 #[.val (.int p1), .val (.int p2), .val (.int p3), .val (.int v4), .val (.int p5), .val (.int p6), .val (.int (Int32.ofNat d1)), .val (.int (Int32.ofNat d2)), .val (.int (Int32.ofNat d3)), .val (.int (Int32.ofNat d4)), .val (.double (FP.l2d xv)), .second, .val (.int kk), .val (.ref a), .unset] [(.int (Int32.ofNat d1)), (.ref a)]))
        refine own_callV X31 hx hZ hown (hw _ (List.mem_of_getElem? (i := 30) rfl)) (hw _ (List.mem_of_getElem? (i := 31) rfl)) (hw _ (List.mem_of_getElem? (i := 33) rfl)) (hw _ (List.mem_of_getElem? (i := 32) rfl)) (hw _ (List.mem_of_getElem? (i := 2) rfl)) (hw _ (List.mem_of_getElem? (i := 34) rfl)) (notFace_of_selects (args := #[]) (mvT hZ (hw _ (List.mem_of_getElem? (i := 33) rfl)))) (by decide) (rm_sc hw a sc wz d1 T30.heap n0 F_scores_a A_sc ld1) rfl hk31 E_a (W := 0) (by decide) (by decide) (by decide) (by decide) (by rw [hml]; rfl) (b := a) (argsL := [(.int (Int32.ofNat d1))]) (rest := []) (lenOf pd_4 rfl) rfl (Nat.le_of_eq rfl) (hb hby at_121) ?_
        rintro _ T32 L32 X32 ⟨rfl, Nq, hk⟩
        have N := N.app Nq
        have hk32 := hk
        show Ogo p e below _ (T32.setTop (mkF m 124 #[.val (.int p1), .val (.int p2), .val (.int p3), .val (.int v4), .val (.int p5), .val (.int p6), .val (.int (Int32.ofNat d1)), .val (.int (Int32.ofNat d2)), .val (.int (Int32.ofNat d3)), .val (.int (Int32.ofNat d4)), .val (.double (FP.l2d xv)), .second, .val (.int kk), .val (.ref a), .unset] [(.double (FP.l2d (wz d1)))]))
        rw [hwz d1 ld1]
        show Ogo p e below _ (T32.setTop (mkF m 124 #[.val (.int p1), .val (.int p2), .val (.int p3), .val (.int v4), .val (.int p5), .val (.int p6), .val (.int (Int32.ofNat d1)), .val (.int (Int32.ofNat d2)), .val (.int (Int32.ofNat d3)), .val (.int (Int32.ofNat d4)), .val (.double (FP.l2d xv)), .second, .val (.int kk), .val (.ref a), .unset] [(.double (FP.l2d 0))]))
        refine own_via (fun tq kq => XS.dconst0 X32.here hx rfl (v := FP.l2d 0) (hb hby at_124) l2d_zero.symm kq) ?_
        show Ogo p e below _ (T32.setTop (mkF m 125 #[.val (.int p1), .val (.int p2), .val (.int p3), .val (.int v4), .val (.int p5), .val (.int p6), .val (.int (Int32.ofNat d1)), .val (.int (Int32.ofNat d2)), .val (.int (Int32.ofNat d3)), .val (.int (Int32.ofNat d4)), .val (.double (FP.l2d xv)), .second, .val (.int kk), .val (.ref a), .unset] [(.double (FP.l2d 0)), (.double (FP.l2d 0))]))
        refine own_via (fun tq kq => XS.dcmpS X32.here hx rfl (hb hby at_125) rfl (v := (0 : Int32)) (dcmpV_self (nn_w rfl) _) kq) ?_
        show Ogo p e below _ (T32.setTop (mkF m 126 #[.val (.int p1), .val (.int p2), .val (.int p3), .val (.int v4), .val (.int p5), .val (.int p6), .val (.int (Int32.ofNat d1)), .val (.int (Int32.ofNat d2)), .val (.int (Int32.ofNat d3)), .val (.int (Int32.ofNat d4)), .val (.double (FP.l2d xv)), .second, .val (.int kk), .val (.ref a), .unset] [(.int (0 : Int32))]))
        refine own_via (fun tq kq => XS.ifNo X32.here hx rfl (hb hby at_126) rfl ((if0 _ _).trans (teq (rfl : (0 : Int32) = (0 : Int32))).2) kq) ?_
        show Ogo p e below _ (T32.setTop (mkF m 129 #[.val (.int p1), .val (.int p2), .val (.int p3), .val (.int v4), .val (.int p5), .val (.int p6), .val (.int (Int32.ofNat d1)), .val (.int (Int32.ofNat d2)), .val (.int (Int32.ofNat d3)), .val (.int (Int32.ofNat d4)), .val (.double (FP.l2d xv)), .second, .val (.int kk), .val (.ref a), .unset] []))
        refine own_via (fun tq kq => XS.aload X32.here hx rfl (hb hby at_129) rfl rfl kq) ?_
        show Ogo p e below _ (T32.setTop (mkF m 131 #[.val (.int p1), .val (.int p2), .val (.int p3), .val (.int v4), .val (.int p5), .val (.int p6), .val (.int (Int32.ofNat d1)), .val (.int (Int32.ofNat d2)), .val (.int (Int32.ofNat d3)), .val (.int (Int32.ofNat d4)), .val (.double (FP.l2d xv)), .second, .val (.int kk), .val (.ref a), .unset] [(.ref a)]))
        refine own_via (fun tq kq => XS.iload X32.here hx rfl (hb hby at_131) rfl kq) ?_
        show Ogo p e below _ (T32.setTop (mkF m 133 #[.val (.int p1), .val (.int p2), .val (.int p3), .val (.int v4), .val (.int p5), .val (.int p6), .val (.int (Int32.ofNat d1)), .val (.int (Int32.ofNat d2)), .val (.int (Int32.ofNat d3)), .val (.int (Int32.ofNat d4)), .val (.double (FP.l2d xv)), .second, .val (.int kk), .val (.ref a), .unset] [(.int (Int32.ofNat d2)), (.ref a)]))
        refine own_callV X32 hx hZ hown (hw _ (List.mem_of_getElem? (i := 30) rfl)) (hw _ (List.mem_of_getElem? (i := 31) rfl)) (hw _ (List.mem_of_getElem? (i := 33) rfl)) (hw _ (List.mem_of_getElem? (i := 32) rfl)) (hw _ (List.mem_of_getElem? (i := 2) rfl)) (hw _ (List.mem_of_getElem? (i := 34) rfl)) (notFace_of_selects (args := #[]) (mvT hZ (hw _ (List.mem_of_getElem? (i := 33) rfl)))) (by decide) (rm_sc hw a sc wz d2 T30.heap n0 F_scores_a A_sc ld2) rfl hk32 E_a (W := 0) (by decide) (by decide) (by decide) (by decide) (by rw [hml]; rfl) (b := a) (argsL := [(.int (Int32.ofNat d2))]) (rest := []) (lenOf pd_4 rfl) rfl (Nat.le_of_eq rfl) (hb hby at_133) ?_
        rintro _ T33 L33 X33 ⟨rfl, Nq, hk⟩
        have N := N.app Nq
        have hk33 := hk
        show Ogo p e below _ (T33.setTop (mkF m 136 #[.val (.int p1), .val (.int p2), .val (.int p3), .val (.int v4), .val (.int p5), .val (.int p6), .val (.int (Int32.ofNat d1)), .val (.int (Int32.ofNat d2)), .val (.int (Int32.ofNat d3)), .val (.int (Int32.ofNat d4)), .val (.double (FP.l2d xv)), .second, .val (.int kk), .val (.ref a), .unset] [(.double (FP.l2d (wz d2)))]))
        rw [hwz d2 ld2]
        show Ogo p e below _ (T33.setTop (mkF m 136 #[.val (.int p1), .val (.int p2), .val (.int p3), .val (.int v4), .val (.int p5), .val (.int p6), .val (.int (Int32.ofNat d1)), .val (.int (Int32.ofNat d2)), .val (.int (Int32.ofNat d3)), .val (.int (Int32.ofNat d4)), .val (.double (FP.l2d xv)), .second, .val (.int kk), .val (.ref a), .unset] [(.double (FP.l2d 0))]))
        refine own_via (fun tq kq => XS.dconst0 X33.here hx rfl (v := FP.l2d 0) (hb hby at_136) l2d_zero.symm kq) ?_
        show Ogo p e below _ (T33.setTop (mkF m 137 #[.val (.int p1), .val (.int p2), .val (.int p3), .val (.int v4), .val (.int p5), .val (.int p6), .val (.int (Int32.ofNat d1)), .val (.int (Int32.ofNat d2)), .val (.int (Int32.ofNat d3)), .val (.int (Int32.ofNat d4)), .val (.double (FP.l2d xv)), .second, .val (.int kk), .val (.ref a), .unset] [(.double (FP.l2d 0)), (.double (FP.l2d 0))]))
        refine own_via (fun tq kq => XS.dcmpS X33.here hx rfl (hb hby at_137) rfl (v := (0 : Int32)) (dcmpV_self (nn_w rfl) _) kq) ?_
        show Ogo p e below _ (T33.setTop (mkF m 138 #[.val (.int p1), .val (.int p2), .val (.int p3), .val (.int v4), .val (.int p5), .val (.int p6), .val (.int (Int32.ofNat d1)), .val (.int (Int32.ofNat d2)), .val (.int (Int32.ofNat d3)), .val (.int (Int32.ofNat d4)), .val (.double (FP.l2d xv)), .second, .val (.int kk), .val (.ref a), .unset] [(.int (0 : Int32))]))
        refine own_via (fun tq kq => XS.ifNo X33.here hx rfl (hb hby at_138) rfl ((if0 _ _).trans (teq (rfl : (0 : Int32) = (0 : Int32))).2) kq) ?_
        show Ogo p e below _ (T33.setTop (mkF m 141 #[.val (.int p1), .val (.int p2), .val (.int p3), .val (.int v4), .val (.int p5), .val (.int p6), .val (.int (Int32.ofNat d1)), .val (.int (Int32.ofNat d2)), .val (.int (Int32.ofNat d3)), .val (.int (Int32.ofNat d4)), .val (.double (FP.l2d xv)), .second, .val (.int kk), .val (.ref a), .unset] []))
        refine own_via (fun tq kq => XS.aload X33.here hx rfl (hb hby at_141) rfl rfl kq) ?_
        show Ogo p e below _ (T33.setTop (mkF m 143 #[.val (.int p1), .val (.int p2), .val (.int p3), .val (.int v4), .val (.int p5), .val (.int p6), .val (.int (Int32.ofNat d1)), .val (.int (Int32.ofNat d2)), .val (.int (Int32.ofNat d3)), .val (.int (Int32.ofNat d4)), .val (.double (FP.l2d xv)), .second, .val (.int kk), .val (.ref a), .unset] [(.ref a)]))
        refine own_via (fun tq kq => XS.iload X33.here hx rfl (hb hby at_143) rfl kq) ?_
        show Ogo p e below _ (T33.setTop (mkF m 145 #[.val (.int p1), .val (.int p2), .val (.int p3), .val (.int v4), .val (.int p5), .val (.int p6), .val (.int (Int32.ofNat d1)), .val (.int (Int32.ofNat d2)), .val (.int (Int32.ofNat d3)), .val (.int (Int32.ofNat d4)), .val (.double (FP.l2d xv)), .second, .val (.int kk), .val (.ref a), .unset] [(.int (Int32.ofNat d3)), (.ref a)]))
        refine own_callV X33 hx hZ hown (hw _ (List.mem_of_getElem? (i := 30) rfl)) (hw _ (List.mem_of_getElem? (i := 31) rfl)) (hw _ (List.mem_of_getElem? (i := 33) rfl)) (hw _ (List.mem_of_getElem? (i := 32) rfl)) (hw _ (List.mem_of_getElem? (i := 2) rfl)) (hw _ (List.mem_of_getElem? (i := 34) rfl)) (notFace_of_selects (args := #[]) (mvT hZ (hw _ (List.mem_of_getElem? (i := 33) rfl)))) (by decide) (rm_sc hw a sc wz d3 T30.heap n0 F_scores_a A_sc ld3) rfl hk33 E_a (W := 0) (by decide) (by decide) (by decide) (by decide) (by rw [hml]; rfl) (b := a) (argsL := [(.int (Int32.ofNat d3))]) (rest := []) (lenOf pd_4 rfl) rfl (Nat.le_of_eq rfl) (hb hby at_145) ?_
        rintro _ T34 L34 X34 ⟨rfl, Nq, hk⟩
        have N := N.app Nq
        have hk34 := hk
        show Ogo p e below _ (T34.setTop (mkF m 148 #[.val (.int p1), .val (.int p2), .val (.int p3), .val (.int v4), .val (.int p5), .val (.int p6), .val (.int (Int32.ofNat d1)), .val (.int (Int32.ofNat d2)), .val (.int (Int32.ofNat d3)), .val (.int (Int32.ofNat d4)), .val (.double (FP.l2d xv)), .second, .val (.int kk), .val (.ref a), .unset] [(.double (FP.l2d (wz d3)))]))
        rw [hwz d3 ld3]
        show Ogo p e below _ (T34.setTop (mkF m 148 #[.val (.int p1), .val (.int p2), .val (.int p3), .val (.int v4), .val (.int p5), .val (.int p6), .val (.int (Int32.ofNat d1)), .val (.int (Int32.ofNat d2)), .val (.int (Int32.ofNat d3)), .val (.int (Int32.ofNat d4)), .val (.double (FP.l2d xv)), .second, .val (.int kk), .val (.ref a), .unset] [(.double (FP.l2d 0))]))
        refine own_via (fun tq kq => XS.dconst0 X34.here hx rfl (v := FP.l2d 0) (hb hby at_148) l2d_zero.symm kq) ?_
        show Ogo p e below _ (T34.setTop (mkF m 149 #[.val (.int p1), .val (.int p2), .val (.int p3), .val (.int v4), .val (.int p5), .val (.int p6), .val (.int (Int32.ofNat d1)), .val (.int (Int32.ofNat d2)), .val (.int (Int32.ofNat d3)), .val (.int (Int32.ofNat d4)), .val (.double (FP.l2d xv)), .second, .val (.int kk), .val (.ref a), .unset] [(.double (FP.l2d 0)), (.double (FP.l2d 0))]))
        refine own_via (fun tq kq => XS.dcmpS X34.here hx rfl (hb hby at_149) rfl (v := (0 : Int32)) (dcmpV_self (nn_w rfl) _) kq) ?_
        show Ogo p e below _ (T34.setTop (mkF m 150 #[.val (.int p1), .val (.int p2), .val (.int p3), .val (.int v4), .val (.int p5), .val (.int p6), .val (.int (Int32.ofNat d1)), .val (.int (Int32.ofNat d2)), .val (.int (Int32.ofNat d3)), .val (.int (Int32.ofNat d4)), .val (.double (FP.l2d xv)), .second, .val (.int kk), .val (.ref a), .unset] [(.int (0 : Int32))]))
        refine own_via (fun tq kq => XS.ifNo X34.here hx rfl (hb hby at_150) rfl ((if0 _ _).trans (teq (rfl : (0 : Int32) = (0 : Int32))).2) kq) ?_
        show Ogo p e below _ (T34.setTop (mkF m 153 #[.val (.int p1), .val (.int p2), .val (.int p3), .val (.int v4), .val (.int p5), .val (.int p6), .val (.int (Int32.ofNat d1)), .val (.int (Int32.ofNat d2)), .val (.int (Int32.ofNat d3)), .val (.int (Int32.ofNat d4)), .val (.double (FP.l2d xv)), .second, .val (.int kk), .val (.ref a), .unset] []))
        refine own_via (fun tq kq => XS.iconst X34.here hx rfl (hb hby at_153) kq) ?_
        show Ogo p e below _ (T34.setTop (mkF m 154 #[.val (.int p1), .val (.int p2), .val (.int p3), .val (.int v4), .val (.int p5), .val (.int p6), .val (.int (Int32.ofNat d1)), .val (.int (Int32.ofNat d2)), .val (.int (Int32.ofNat d3)), .val (.int (Int32.ofNat d4)), .val (.double (FP.l2d xv)), .second, .val (.int kk), .val (.ref a), .unset] [(.int (1 : Int32))]))
        refine own_via (fun tq kq => XS.goto X34.here hx rfl (pc0 := 154) (pc' := 158) rfl (hb hby at_154) (by decide) (by decide) kq) ?_
        show Ogo p e below _ (T34.setTop (mkF m 158 #[.val (.int p1), .val (.int p2), .val (.int p3), .val (.int v4), .val (.int p5), .val (.int p6), .val (.int (Int32.ofNat d1)), .val (.int (Int32.ofNat d2)), .val (.int (Int32.ofNat d3)), .val (.int (Int32.ofNat d4)), .val (.double (FP.l2d xv)), .second, .val (.int kk), .val (.ref a), .unset] [(.int (1 : Int32))]))
        refine own_via (fun tq kq => XS.istore X34.here hx rfl (hb hby at_158) rfl (l' := #[.val (.int p1), .val (.int p2), .val (.int p3), .val (.int v4), .val (.int p5), .val (.int p6), .val (.int (Int32.ofNat d1)), .val (.int (Int32.ofNat d2)), .val (.int (Int32.ofNat d3)), .val (.int (Int32.ofNat d4)), .val (.double (FP.l2d xv)), .second, .val (.int kk), .val (.ref a), .val (.int (1 : Int32))]) rfl kq) ?_
        show Ogo p e below _ (T34.setTop (mkF m 160 #[.val (.int p1), .val (.int p2), .val (.int p3), .val (.int v4), .val (.int p5), .val (.int p6), .val (.int (Int32.ofNat d1)), .val (.int (Int32.ofNat d2)), .val (.int (Int32.ofNat d3)), .val (.int (Int32.ofNat d4)), .val (.double (FP.l2d xv)), .second, .val (.int kk), .val (.ref a), .val (.int (1 : Int32))] []))
        refine own_via (fun tq kq => XS.aload X34.here hx rfl (hb hby at_160) rfl rfl kq) ?_
        show Ogo p e below _ (T34.setTop (mkF m 162 #[.val (.int p1), .val (.int p2), .val (.int p3), .val (.int v4), .val (.int p5), .val (.int p6), .val (.int (Int32.ofNat d1)), .val (.int (Int32.ofNat d2)), .val (.int (Int32.ofNat d3)), .val (.int (Int32.ofNat d4)), .val (.double (FP.l2d xv)), .second, .val (.int kk), .val (.ref a), .val (.int (1 : Int32))] [(.ref a)]))
        refine own_via (fun tq kq => XS.iload X34.here hx rfl (hb hby at_162) rfl kq) ?_
        show Ogo p e below _ (T34.setTop (mkF m 164 #[.val (.int p1), .val (.int p2), .val (.int p3), .val (.int v4), .val (.int p5), .val (.int p6), .val (.int (Int32.ofNat d1)), .val (.int (Int32.ofNat d2)), .val (.int (Int32.ofNat d3)), .val (.int (Int32.ofNat d4)), .val (.double (FP.l2d xv)), .second, .val (.int kk), .val (.ref a), .val (.int (1 : Int32))] [(.int (Int32.ofNat d4)), (.ref a)]))
        refine own_via (fun tq kq => XS.dload X34.here hx rfl (hb hby at_164) rfl kq) ?_
        show Ogo p e below _ (T34.setTop (mkF m 166 #[.val (.int p1), .val (.int p2), .val (.int p3), .val (.int v4), .val (.int p5), .val (.int p6), .val (.int (Int32.ofNat d1)), .val (.int (Int32.ofNat d2)), .val (.int (Int32.ofNat d3)), .val (.int (Int32.ofNat d4)), .val (.double (FP.l2d xv)), .second, .val (.int kk), .val (.ref a), .val (.int (1 : Int32))] [(.double (FP.l2d xv)), (.int (Int32.ofNat d4)), (.ref a)]))
        have HI : AccI 0 0 dn3 flz wz 0 := ⟨fun i hi => absurd hi (Nat.not_lt_zero i), fun j hj => Or.inl (hfz j hj), fun j hj _ => hwz j hj, fun j hj => by rw [hwz j hj]; exact ⟨by decide, by decide⟩⟩
        refine own_callV X34 hx hZ hown (hw _ (List.mem_of_getElem? (i := 35) rfl)) (hw _ (List.mem_of_getElem? (i := 36) rfl)) (hw _ (List.mem_of_getElem? (i := 38) rfl)) (hw _ (List.mem_of_getElem? (i := 37) rfl)) (hw _ (List.mem_of_getElem? (i := 2) rfl)) (hw _ (List.mem_of_getElem? (i := 39) rfl)) (notFace_of_selects (args := #[]) (mvT hZ (hw _ (List.mem_of_getElem? (i := 38) rfl)))) (by decide) (rm_ad hw a sc li dc 0 dn3 flz wz d4 0 0 xv T30.heap n0 HA HN HI ld4 (by decide) (by decide) hx1 hx2 (by decide) (by decide)) rfl hk34 E_a (W := 0) (by decide) (by decide) (by decide) (by decide) (by rw [hml]; rfl) (b := a) (argsL := [(.int (Int32.ofNat d4)), (.double (FP.l2d xv))]) (rest := []) (lenOf pd_1 rfl) rfl (Nat.le_of_eq rfl) (hb hby at_166) ?_
        rintro _ T35 L35 X35 ⟨rfl, Nq, Kc, n9, dn9, fl9, w9, HA, -, -, -, hex⟩
        have N := N.app Nq
        have E_a := E_a.keep Kc
        have zs := Nat.le_trans zs Kc.1
        show Ogo p e below _ (T35.setTop (mkF m 169 #[.val (.int p1), .val (.int p2), .val (.int p3), .val (.int v4), .val (.int p5), .val (.int p6), .val (.int (Int32.ofNat d1)), .val (.int (Int32.ofNat d2)), .val (.int (Int32.ofNat d3)), .val (.int (Int32.ofNat d4)), .val (.double (FP.l2d xv)), .second, .val (.int kk), .val (.ref a), .val (.int (1 : Int32))] []))
        obtain ⟨rfl, hd0⟩ := hex (hfz d4 ld4)
        obtain ⟨E_a, F_scores_a, F_listed_a, F_documents_a, F_count_a, A_sc, A_li, A_dc⟩ := id HA
        refine own_via (fun tq kq => XS.iload X35.here hx rfl (hb hby at_169) rfl kq) ?_
        show Ogo p e below _ (T35.setTop (mkF m 171 #[.val (.int p1), .val (.int p2), .val (.int p3), .val (.int v4), .val (.int p5), .val (.int p6), .val (.int (Int32.ofNat d1)), .val (.int (Int32.ofNat d2)), .val (.int (Int32.ofNat d3)), .val (.int (Int32.ofNat d4)), .val (.double (FP.l2d xv)), .second, .val (.int kk), .val (.ref a), .val (.int (1 : Int32))] [(.int (1 : Int32))]))
        refine own_via (fun tq kq => XS.ifNo X35.here hx rfl (hb hby at_171) rfl ((if0 _ _).trans (feq ((by decide) : ¬ ((1 : Int32) = (0 : Int32)))).1) kq) ?_
        show Ogo p e below _ (T35.setTop (mkF m 174 #[.val (.int p1), .val (.int p2), .val (.int p3), .val (.int v4), .val (.int p5), .val (.int p6), .val (.int (Int32.ofNat d1)), .val (.int (Int32.ofNat d2)), .val (.int (Int32.ofNat d3)), .val (.int (Int32.ofNat d4)), .val (.double (FP.l2d xv)), .second, .val (.int kk), .val (.ref a), .val (.int (1 : Int32))] []))
        refine own_via (fun tq kq => XS.aload X35.here hx rfl (hb hby at_174) rfl rfl kq) ?_
        show Ogo p e below _ (T35.setTop (mkF m 176 #[.val (.int p1), .val (.int p2), .val (.int p3), .val (.int v4), .val (.int p5), .val (.int p6), .val (.int (Int32.ofNat d1)), .val (.int (Int32.ofNat d2)), .val (.int (Int32.ofNat d3)), .val (.int (Int32.ofNat d4)), .val (.double (FP.l2d xv)), .second, .val (.int kk), .val (.ref a), .val (.int (1 : Int32))] [(.ref a)]))
        refine own_callV X35 hx hZ hown (hw _ (List.mem_of_getElem? (i := 25) rfl)) (hw _ (List.mem_of_getElem? (i := 26) rfl)) (hw _ (List.mem_of_getElem? (i := 28) rfl)) (hw _ (List.mem_of_getElem? (i := 27) rfl)) (hw _ (List.mem_of_getElem? (i := 2) rfl)) (hw _ (List.mem_of_getElem? (i := 29) rfl)) (notFace_of_selects (args := #[]) (mvT hZ (hw _ (List.mem_of_getElem? (i := 28) rfl)))) (by decide) (rm_cn hw a 1 T35.heap n0 F_count_a) rfl rfl E_a (W := 0) (by decide) (by decide) (by decide) (by decide) (by rw [hml]; rfl) (b := a) (argsL := []) (rest := []) (lenOf pd_3 rfl) rfl (Nat.le_of_eq rfl) (hb hby at_176) ?_
        rintro _ T36 L36 X36 ⟨rfl, Nq, hk⟩
        have N := N.app Nq
        have hk36 := hk
        show Ogo p e below _ (T36.setTop (mkF m 179 #[.val (.int p1), .val (.int p2), .val (.int p3), .val (.int v4), .val (.int p5), .val (.int p6), .val (.int (Int32.ofNat d1)), .val (.int (Int32.ofNat d2)), .val (.int (Int32.ofNat d3)), .val (.int (Int32.ofNat d4)), .val (.double (FP.l2d xv)), .second, .val (.int kk), .val (.ref a), .val (.int (1 : Int32))] [(.int (1 : Int32))]))
        refine own_via (fun tq kq => XS.iconst X36.here hx rfl (hb hby at_179) kq) ?_
        show Ogo p e below _ (T36.setTop (mkF m 180 #[.val (.int p1), .val (.int p2), .val (.int p3), .val (.int v4), .val (.int p5), .val (.int p6), .val (.int (Int32.ofNat d1)), .val (.int (Int32.ofNat d2)), .val (.int (Int32.ofNat d3)), .val (.int (Int32.ofNat d4)), .val (.double (FP.l2d xv)), .second, .val (.int kk), .val (.ref a), .val (.int (1 : Int32))] [(.int (1 : Int32)), (.int (1 : Int32))]))
        refine own_via (fun tq kq => XS.icmpNo X36.here hx rfl (hb hby at_180) rfl (teq (rfl : (1 : Int32) = (1 : Int32))).2 kq) ?_
        show Ogo p e below _ (T36.setTop (mkF m 183 #[.val (.int p1), .val (.int p2), .val (.int p3), .val (.int v4), .val (.int p5), .val (.int p6), .val (.int (Int32.ofNat d1)), .val (.int (Int32.ofNat d2)), .val (.int (Int32.ofNat d3)), .val (.int (Int32.ofNat d4)), .val (.double (FP.l2d xv)), .second, .val (.int kk), .val (.ref a), .val (.int (1 : Int32))] []))
        refine own_via (fun tq kq => XS.aload X36.here hx rfl (hb hby at_183) rfl rfl kq) ?_
        show Ogo p e below _ (T36.setTop (mkF m 185 #[.val (.int p1), .val (.int p2), .val (.int p3), .val (.int v4), .val (.int p5), .val (.int p6), .val (.int (Int32.ofNat d1)), .val (.int (Int32.ofNat d2)), .val (.int (Int32.ofNat d3)), .val (.int (Int32.ofNat d4)), .val (.double (FP.l2d xv)), .second, .val (.int kk), .val (.ref a), .val (.int (1 : Int32))] [(.ref a)]))
        refine own_via (fun tq kq => XS.iconst X36.here hx rfl (hb hby at_185) kq) ?_
        show Ogo p e below _ (T36.setTop (mkF m 186 #[.val (.int p1), .val (.int p2), .val (.int p3), .val (.int v4), .val (.int p5), .val (.int p6), .val (.int (Int32.ofNat d1)), .val (.int (Int32.ofNat d2)), .val (.int (Int32.ofNat d3)), .val (.int (Int32.ofNat d4)), .val (.double (FP.l2d xv)), .second, .val (.int kk), .val (.ref a), .val (.int (1 : Int32))] [(.int (0 : Int32)), (.ref a)]))
        refine own_callV X36 hx hZ hown (hw _ (List.mem_of_getElem? (i := 44) rfl)) (hw _ (List.mem_of_getElem? (i := 45) rfl)) (hw _ (List.mem_of_getElem? (i := 47) rfl)) (hw _ (List.mem_of_getElem? (i := 46) rfl)) (hw _ (List.mem_of_getElem? (i := 2) rfl)) (hw _ (List.mem_of_getElem? (i := 48) rfl)) (notFace_of_selects (args := #[]) (mvT hZ (hw _ (List.mem_of_getElem? (i := 47) rfl)))) (by decide) (rm_do hw a dc dn9 T35.heap n0 F_documents_a A_dc) rfl hk36 E_a (W := 0) (by decide) (by decide) (by decide) (by decide) (by rw [hml]; rfl) (b := a) (argsL := [(.int (0 : Int32))]) (rest := []) (lenOf pd_5 rfl) rfl (Nat.le_of_eq rfl) (hb hby at_186) ?_
        rintro _ T37 L37 X37 ⟨rfl, Nq, hk⟩
        have N := N.app Nq
        have hk37 := hk
        show Ogo p e below _ (T37.setTop (mkF m 189 #[.val (.int p1), .val (.int p2), .val (.int p3), .val (.int v4), .val (.int p5), .val (.int p6), .val (.int (Int32.ofNat d1)), .val (.int (Int32.ofNat d2)), .val (.int (Int32.ofNat d3)), .val (.int (Int32.ofNat d4)), .val (.double (FP.l2d xv)), .second, .val (.int kk), .val (.ref a), .val (.int (1 : Int32))] [(.int (Int32.ofNat (dn9 0)))]))
        refine own_via (fun tq kq => XS.iload X37.here hx rfl (hb hby at_189) rfl kq) ?_
        show Ogo p e below _ (T37.setTop (mkF m 191 #[.val (.int p1), .val (.int p2), .val (.int p3), .val (.int v4), .val (.int p5), .val (.int p6), .val (.int (Int32.ofNat d1)), .val (.int (Int32.ofNat d2)), .val (.int (Int32.ofNat d3)), .val (.int (Int32.ofNat d4)), .val (.double (FP.l2d xv)), .second, .val (.int kk), .val (.ref a), .val (.int (1 : Int32))] [(.int (Int32.ofNat d4)), (.int (Int32.ofNat (dn9 0)))]))
        refine own_via (fun tq kq => XS.icmpNo X37.here hx rfl (hb hby at_191) rfl (teq ((by rw [hd0]) : (Int32.ofNat (dn9 0)) = (Int32.ofNat d4))).2 kq) ?_
        show Ogo p e below _ (T37.setTop (mkF m 194 #[.val (.int p1), .val (.int p2), .val (.int p3), .val (.int v4), .val (.int p5), .val (.int p6), .val (.int (Int32.ofNat d1)), .val (.int (Int32.ofNat d2)), .val (.int (Int32.ofNat d3)), .val (.int (Int32.ofNat d4)), .val (.double (FP.l2d xv)), .second, .val (.int kk), .val (.ref a), .val (.int (1 : Int32))] []))
        refine own_via (fun tq kq => XS.iconst X37.here hx rfl (hb hby at_194) kq) ?_
        show Ogo p e below _ (T37.setTop (mkF m 195 #[.val (.int p1), .val (.int p2), .val (.int p3), .val (.int v4), .val (.int p5), .val (.int p6), .val (.int (Int32.ofNat d1)), .val (.int (Int32.ofNat d2)), .val (.int (Int32.ofNat d3)), .val (.int (Int32.ofNat d4)), .val (.double (FP.l2d xv)), .second, .val (.int kk), .val (.ref a), .val (.int (1 : Int32))] [(.int (1 : Int32))]))
        refine own_via (fun tq kq => XS.goto X37.here hx rfl (pc0 := 195) (pc' := 199) rfl (hb hby at_195) (by decide) (by decide) kq) ?_
        show Ogo p e below _ (T37.setTop (mkF m 199 #[.val (.int p1), .val (.int p2), .val (.int p3), .val (.int v4), .val (.int p5), .val (.int p6), .val (.int (Int32.ofNat d1)), .val (.int (Int32.ofNat d2)), .val (.int (Int32.ofNat d3)), .val (.int (Int32.ofNat d4)), .val (.double (FP.l2d xv)), .second, .val (.int kk), .val (.ref a), .val (.int (1 : Int32))] [(.int (1 : Int32))]))
        exact own_out X37 hlk (fun h => by rw [hret] at h; cases h) (by decide) (by decide) (by first | exact ⟨rfl, N⟩ | (rw [hk37]; exact ⟨rfl, N⟩)) (fun fs hr => retN X37 hx (t := .boolean) hret (by simp) (hb hby at_199) hr)
set_option maxRecDepth 65536 in
set_option maxHeartbeats 40000000 in
theorem own_comes {Post : Tables → Env → Array Value → State → Outcome → State → Prop} (hpost : ∀ tb e args s v u, (limb_1_1.after args s (.returned v) u = true ∧ limb_1_2.after args s (.returned v) u = true ∧ True) → FrameEnd s (.returned v) u (Jvm.fieldLocs frame_1_writes args s ++ Jvm.arrayLocs frame_1_arrays args s ++ Jvm.staticLocs frame_1_statics s) 16 128 → Post tb e args s (.returned v) u) :
    ArmFor flags0 classFile x code maxLocals ret World_1 tables_1 room_1 Calls_1 rest_1 Pre_1 Post := by
  intro l hfl _ _ p e ha hc hk s m args below hf hA hF happ hP
  obtain ⟨hcalls, hrest, hpre⟩ := hP
  obtain ⟨-, -, -, hnamed, -, -, -, hat⟩ := (Spec.applies_iff hf).mp happ
  obtain ⟨hg, hn⟩ := and_e (Cond.before_iff.mp (show (Jvm.Cond.and given_1 narrow_1).before args s = true from hpre))
  obtain ⟨q0, r0⟩ := and_e hg
  obtain ⟨q1, r1⟩ := and_e r0
  obtain ⟨q2, r2⟩ := and_e r1
  obtain ⟨q3, r3⟩ := and_e r2
  obtain ⟨q4, r4⟩ := and_e r3
  obtain ⟨q5, r5⟩ := and_e r4
  obtain ⟨w0, w1, w2, w3, w4, w5, rfl⟩ : ∃ w0 w1 w2 w3 w4 w5 : Value, args = #[w0, w1, w2, w3, w4, w5] := by
    have hs : args.size = 6 := by simpa [Cond.value, given_1] using q0
    obtain ⟨L⟩ := args
    match L, hs with
    | [w0, w1, w2, w3, w4, w5], _ => exact ⟨w0, w1, w2, w3, w4, w5, rfl⟩
  have hw := fun d (hd : d ∈ tables_1) => atoms_spec (ws := Jvm.Cond.code x code maxLocals ret :: tables_1) hat d (List.mem_cons_of_mem _ hd)
  have hfit : Fit s := fun {y c} hc i hi => by
    obtain ⟨ha, rfl⟩ := Array.getElem?_eq_some_iff.mp hc
    have q := List.all_eq_true.mp ((Array.all_eq_true_iff_forall_mem.mp hF) _ (Array.getElem_mem ha)) i (List.mem_range.mpr hi)
    simpa [Array.getElem?_eq_getElem hi] using q
  obtain ⟨i0, ei0⟩ := is_v q1
  obtain rfl : w0 = (.int i0) := Option.some.inj ei0
  obtain ⟨i1, ei1⟩ := is_v q2
  obtain rfl : w1 = (.int i1) := Option.some.inj ei1
  obtain ⟨i2, ei2⟩ := is_v q3
  obtain rfl : w2 = (.int i2) := Option.some.inj ei2
  obtain ⟨i3, ei3⟩ := is_v q4
  obtain rfl : w3 = (.int i3) := Option.some.inj ei3
  obtain ⟨i4, ei4⟩ := is_v q5
  obtain rfl : w4 = (.int i4) := Option.some.inj ei4
  obtain ⟨i5, ei5⟩ := is_v r5
  obtain rfl : w5 = (.int i5) := Option.some.inj ei5
  obtain ⟨n, o, h1, h2, h3, _, L, rfl, ⟨rfl, N⟩, hq⟩ := rm_law hw i0 i1 i2 i3 i4 i5 s.heap s.heap.size (Nat.le_refl _) p e ha hc hk s m _ below hf ((Spec.applies_iff_loose hf).mp happ).1 ⟨rfl, State.Warmed39.refl s, rfl⟩ trivial
  refine ⟨n, _, h1, h2, h3, hpost _ _ _ _ _ _ ⟨Cond.after_iff.mpr rfl, Cond.after_iff.mpr (eq_i res_at (Term.int_eval (1)) rfl), trivial⟩ ⟨hq.1, hq.2.1, (hq.2.2.sift fun y hy => Or.inr (N y hy)).mono (by decide) (by decide)⟩⟩
theorem main_1_1 : Claimed_1_1 := own_comes fun _ _ _ _ _ _ h hF => ⟨h.1, hF⟩
theorem main_1_2 : Claimed_1_2 := own_comes fun _ _ _ _ _ _ h hF => ⟨h.2.1, hF⟩
end Jvm.Pilot.@@N@@
namespace Jvm.Pilot.@@N@@
open Jvm Jvm.ClassFile Sem Op Lib Jvm.Free Jvm.Stand Jvm.Pilot.@@N@@.Jvm.D
/-! MADE BY PROGRAM (witnessworld.py) out of the Statement's table words and the real class files: 11 classes; the members and pool entries that the words name. The judged class is class 1, her method 1. -/
namespace start1
open Jvm.ClassFile
def u (s : String) : CpInfo := .utf8 (stringToUtf16 s)
/-- a pool by its gaps: so many unusable entries, then the entry; so many at the end -/
def gap : Nat → List CpInfo → List CpInfo
  | 0, r => r
  | n + 1, r => .unusable :: gap n r
def poolList (es : List (Nat × CpInfo)) (last : Nat) : List CpInfo := es.foldr (fun e r => gap e.1 (e.2 :: r)) (gap last [])
def pool (es : List (Nat × CpInfo)) (last : Nat) : Array CpInfo := ⟨poolList es last⟩
def fileOf (pool : Array CpInfo) (this : Nat) (attrs : Array Attribute := #[]) (ms : Array MethodInfo := #[]) (fl : Nat := 33) (sup : Nat := 0) (ifs : Array Nat := #[]) (fds : Array FieldInfo := #[]) : ClassFile where
  minorVersion := 0
  majorVersion := 65
  constantPool := pool
  accessFlags := fl
  thisClass := this
  superClass := sup
  interfaces := ifs
  fields := fds
  methods := ms
  attributes := attrs
def plain (name : String) (sup : Option ClassId) : Class where
  name := name
  kind := .ordinary
  loader := none
  accessFlags := 33
  super := sup
  interfaces := #[]
  cf := none
  fields := #[]
  methods := #[]
  instanceTypes := #[]
  staticTypes := #[]
  resolved := #[]
  callSites := []
  init := .initialized
  statics := none
  mirror := none

def pool0 : Array CpInfo := pool [(5, u "<init>"), (0, u "()V"), (1, .class_ 10), (1, u "java/lang/Object")] 113

def k0c0 : Code := { maxStack := 0, maxLocals := 1, code := object_method_1_code, exceptionTable := #[], attributes := #[] }
def k0m0 : Method := { name := "<init>", desc := "()V", sig := { parameters := [], returnType := none }, accessFlags := 1, code := some k0c0 }
/-- java/lang/Object -/
def k0 : Class := { plain "java/lang/Object" none with
  accessFlags := 33
  interfaces := #[]
  cf := some (fileOf pool0 8 #[] #[{ accessFlags := 1, nameIndex := 5, descriptorIndex := 6, attributes := #[] }] 33 0 #[] #[])
  fields := #[]
  methods := #[k0m0]
  instanceTypes := #[]
  staticTypes := #[]
  resolved := Array.replicate 124 none
  statics := none }

def pool1 : Array CpInfo := pool [(2, .class_ 4), (1, u "java/lang/Object"), (0, u "<init>"), (0, u "()V"), (0, .class_ 8), (0, u "com/example/depister/depister/core/model/Accumulator"), (0, .methodref 7 10), (0, .nameAndType 5 11), (0, u "(I)V"), (0, .methodref 13 14), (0, .class_ 15), (0, .nameAndType 16 17), (0, u "com/example/depister/depister/core/model/AccumulatorClearPinLaw"), (0, u "mutate"), (0, u "(Lcom/example/depister/depister/core/model/Accumulator;IDI)V"), (0, .methodref 7 19), (0, .nameAndType 20 6), (0, u "clear"), (0, .methodref 7 22), (0, .nameAndType 23 24), (0, u "count"), (0, u "()I"), (0, .methodref 7 26), (0, .nameAndType 27 28), (0, u "score"), (0, u "(I)D"), (0, .methodref 7 30), (0, .nameAndType 31 32), (0, u "add"), (0, u "(ID)V"), (0, .methodref 7 34), (0, .nameAndType 35 36), (0, u "document"), (0, u "(I)I"), (0, .methodref 7 38), (0, .nameAndType 39 32), (0, u "set"), (2, u "law"), (0, u "(IIIIII)Z")] 3

def k1m0 : Method := { name := "<init>", desc := "()V", sig := { parameters := [], returnType := none }, accessFlags := 1, code := none }
def k1c1 : Code := { maxStack := 6, maxLocals := 15, code := code, exceptionTable := #[], attributes := #[] }
def k1m1 : Method := { name := "law", desc := "(IIIIII)Z", sig := { parameters := [.int, .int, .int, .int, .int, .int], returnType := some .boolean }, accessFlags := 9, code := some k1c1 }
def k1c2 : Code := { maxStack := 4, maxLocals := 5, code := method_3_code, exceptionTable := #[], attributes := #[] }
def k1m2 : Method := { name := "mutate", desc := "(Lcom/example/depister/depister/core/model/Accumulator;IDI)V", sig := { parameters := [(.object "com/example/depister/depister/core/model/Accumulator"), .int, .double, .int], returnType := none }, accessFlags := 10, code := some k1c2 }
/-- com/example/depister/depister/core/model/AccumulatorClearPinLaw -/
def k1 : Class := { plain "com/example/depister/depister/core/model/AccumulatorClearPinLaw" (some 0) with
  accessFlags := 49
  interfaces := #[]
  cf := some (fileOf pool1 13 #[] #[{ accessFlags := 1, nameIndex := 5, descriptorIndex := 6, attributes := #[] }, { accessFlags := 9, nameIndex := 42, descriptorIndex := 43, attributes := #[] }, { accessFlags := 10, nameIndex := 16, descriptorIndex := 17, attributes := #[] }] 49 2 #[] #[])
  fields := #[]
  methods := #[k1m0, k1m1, k1m2]
  instanceTypes := #[]
  staticTypes := #[]
  resolved := Array.replicate 47 none
  statics := none }

def pool2 : Array CpInfo := pool [(1, .methodref 2 3), (0, .class_ 4), (0, .nameAndType 5 6), (0, u "java/lang/Object"), (0, u "<init>"), (0, u "()V"), (0, .fieldref 8 9), (0, .class_ 10), (0, .nameAndType 11 12), (0, u "com/example/depister/depister/core/model/Accumulator"), (0, u "scores"), (0, u "[D"), (0, .fieldref 8 14), (0, .nameAndType 15 16), (0, u "listed"), (0, u "[Z"), (0, .fieldref 8 18), (0, .nameAndType 19 20), (0, u "documents"), (0, u "[I"), (0, .methodref 8 22), (0, .nameAndType 23 24), (0, u "list"), (0, u "(I)V"), (0, .fieldref 8 26), (0, .nameAndType 27 28), (0, u "count"), (0, u "I"), (2, u "add"), (0, u "(ID)V"), (0, u "set"), (1, u "()I"), (0, u "document"), (0, u "(I)I"), (0, u "score"), (0, u "(I)D"), (0, u "clear")] 2

def k2c0 : Code := { maxStack := 2, maxLocals := 2, code := prog_25_method_1_code, exceptionTable := #[], attributes := #[] }
def k2m0 : Method := { name := "<init>", desc := "(I)V", sig := { parameters := [.int], returnType := none }, accessFlags := 1, code := some k2c0 }
def k2c1 : Code := { maxStack := 6, maxLocals := 4, code := prog_25_method_2_code, exceptionTable := #[], attributes := #[] }
def k2m1 : Method := { name := "add", desc := "(ID)V", sig := { parameters := [.int, .double], returnType := none }, accessFlags := 1, code := some k2c1 }
def k2c2 : Code := { maxStack := 4, maxLocals := 4, code := prog_25_method_3_code, exceptionTable := #[], attributes := #[] }
def k2m2 : Method := { name := "set", desc := "(ID)V", sig := { parameters := [.int, .double], returnType := none }, accessFlags := 1, code := some k2c2 }
def k2c3 : Code := { maxStack := 5, maxLocals := 2, code := prog_25_method_4_code, exceptionTable := #[], attributes := #[] }
def k2m3 : Method := { name := "list", desc := "(I)V", sig := { parameters := [.int], returnType := none }, accessFlags := 2, code := some k2c3 }
def k2c4 : Code := { maxStack := 1, maxLocals := 1, code := prog_25_method_5_code, exceptionTable := #[], attributes := #[] }
def k2m4 : Method := { name := "count", desc := "()I", sig := { parameters := [], returnType := some .int }, accessFlags := 1, code := some k2c4 }
def k2c5 : Code := { maxStack := 2, maxLocals := 2, code := prog_25_method_6_code, exceptionTable := #[], attributes := #[] }
def k2m5 : Method := { name := "document", desc := "(I)I", sig := { parameters := [.int], returnType := some .int }, accessFlags := 1, code := some k2c5 }
def k2c6 : Code := { maxStack := 2, maxLocals := 2, code := prog_25_method_7_code, exceptionTable := #[], attributes := #[] }
def k2m6 : Method := { name := "score", desc := "(I)D", sig := { parameters := [.int], returnType := some .double }, accessFlags := 1, code := some k2c6 }
def k2c7 : Code := { maxStack := 4, maxLocals := 2, code := prog_25_method_8_code, exceptionTable := #[], attributes := #[] }
def k2m7 : Method := { name := "clear", desc := "()V", sig := { parameters := [], returnType := none }, accessFlags := 1, code := some k2c7 }
/-- com/example/depister/depister/core/model/Accumulator -/
def k2 : Class := { plain "com/example/depister/depister/core/model/Accumulator" (some 0) with
  accessFlags := 49
  interfaces := #[]
  cf := some (fileOf pool2 8 #[] #[{ accessFlags := 1, nameIndex := 5, descriptorIndex := 24, attributes := #[] }, { accessFlags := 1, nameIndex := 31, descriptorIndex := 32, attributes := #[] }, { accessFlags := 1, nameIndex := 33, descriptorIndex := 32, attributes := #[] }, { accessFlags := 2, nameIndex := 23, descriptorIndex := 24, attributes := #[] }, { accessFlags := 1, nameIndex := 27, descriptorIndex := 35, attributes := #[] }, { accessFlags := 1, nameIndex := 36, descriptorIndex := 37, attributes := #[] }, { accessFlags := 1, nameIndex := 38, descriptorIndex := 39, attributes := #[] }, { accessFlags := 1, nameIndex := 40, descriptorIndex := 6, attributes := #[] }] 49 2 #[] #[{ accessFlags := 18, nameIndex := 11, descriptorIndex := 12, attributes := #[] }, { accessFlags := 18, nameIndex := 15, descriptorIndex := 16, attributes := #[] }, { accessFlags := 18, nameIndex := 19, descriptorIndex := 20, attributes := #[] }, { accessFlags := 2, nameIndex := 27, descriptorIndex := 28, attributes := #[] }])
  fields := #[{ name := "scores", type := (.array .double), accessFlags := 18, slot := 0, constantValue := 0 }, { name := "listed", type := (.array .boolean), accessFlags := 18, slot := 1, constantValue := 0 }, { name := "documents", type := (.array .int), accessFlags := 18, slot := 2, constantValue := 0 }, { name := "count", type := .int, accessFlags := 2, slot := 3, constantValue := 0 }]
  methods := #[k2m0, k2m1, k2m2, k2m3, k2m4, k2m5, k2m6, k2m7]
  instanceTypes := #[(.array .double), (.array .boolean), (.array .int), .int]
  staticTypes := #[]
  resolved := Array.replicate 43 none
  statics := none }

def pool3 : Array CpInfo := pool [(1, u "java/lang/Cloneable"), (0, .class_ 1), (0, u "java/lang/Object"), (0, .class_ 3)] 3

/-- java/lang/Cloneable -/
def k3 : Class := { plain "java/lang/Cloneable" (some 0) with
  accessFlags := 1537
  interfaces := #[]
  cf := some (fileOf pool3 2 #[] #[] 1537 4 #[] #[])
  fields := #[]
  methods := #[]
  instanceTypes := #[]
  staticTypes := #[]
  resolved := Array.replicate 8 none
  statics := none }

def pool4 : Array CpInfo := pool [(1, u "java/io/Serializable"), (0, .class_ 1), (0, u "java/lang/Object"), (0, .class_ 3)] 3

/-- java/io/Serializable -/
def k4 : Class := { plain "java/io/Serializable" (some 0) with
  accessFlags := 1537
  interfaces := #[]
  cf := some (fileOf pool4 2 #[] #[] 1537 4 #[] #[])
  fields := #[]
  methods := #[]
  instanceTypes := #[]
  staticTypes := #[]
  resolved := Array.replicate 8 none
  statics := none }

/-- the primitive boolean -/
def k5 : Class := { plain "boolean" none with kind := .primitive 'Z', accessFlags := 0x411 }
/-- [Z -/
def k6 : Class := { plain "[Z" (some 0) with kind := .array 5 .boolean, interfaces := #[3, 4], accessFlags := 1041 }

/-- the primitive byte -/
def k7 : Class := { plain "double" none with kind := .primitive 'D', accessFlags := 0x411 }
/-- [B -/
def k8 : Class := { plain "[D" (some 0) with kind := .array 7 .double, interfaces := #[3, 4], accessFlags := 1041 }

/-- the primitive int -/
def k9 : Class := { plain "int" none with kind := .primitive 'I', accessFlags := 0x411 }
/-- [I -/
def k10 : Class := { plain "[I" (some 0) with kind := .array 9 .int, interfaces := #[3, 4], accessFlags := 1041 }

def heap : Heap := #[]
def classes : Array Class := #[k0, k1, k2, k3, k4, k5, k6, k7, k8, k9, k10]
def interned : List (Array UInt16 × Addr) := []
def slotsUsed : Nat := 0
def theMethod : MethodId := ⟨1, 1⟩
def args0 : Array Value := #[.int 1, .int 2, .int 3, .int 4, .int 5, .int 6]
def aboutOver (below : List Frame) : State where
  vm := { classes := classes, interned := interned.toArray }
  heap := heap
  slotsUsed := slotsUsed
  threads := #[{ frames := .invoking theMethod args0 :: below }]
def below0 : List Frame := [.native { method := ⟨0, 0⟩, args := #[] }]
def about1 : State := aboutOver below0
def p0 : Program := .bare "" "" ""
def e0 : Env := launch0.env 0 0 0
theorem w_frames : about1.frames = Frame.invoking theMethod args0 :: below0 := rfl
set_option maxRecDepth 65536 in
theorem w_args : argsFit about1.vm theMethod args0 = true := by decide +kernel
set_option maxRecDepth 65536 in
theorem w_heap : heapFits about1 = true := by decide +kernel
set_option maxRecDepth 65536 in
theorem w_runnable : about1.curStatus? = some .runnable := by decide +kernel
set_option maxRecDepth 65536 in
theorem w_alone : about1.alone = true := by decide +kernel
set_option maxRecDepth 65536 in
theorem w_named : about1.methodNamed? x = some theMethod := by decide +kernel
set_option maxRecDepth 65536 in
theorem w_hears : about1.hears theMethod below0 = true := by decide +kernel
set_option maxRecDepth 65536 in
theorem w_ripe : about1.ripe theMethod args0 below0 = true := by decide +kernel
theorem w_running : about1.status = .running := rfl
set_option maxRecDepth 65536 in
theorem w_room : about1.hasRoom e0.platform room_1 = true :=
  launch0.hasRoom_least _ room_1 (by decide +kernel) (by decide +kernel) (by decide +kernel) (by decide +kernel) (by decide +kernel) (by decide +kernel)
theorem allAtoms_all (ts : List Jvm.Cond) (a : Array Jvm.Value) (st : Jvm.State) : (allAtoms ts).before a st = ts.all (fun c => c.before a st) := by
  induction ts with
  | nil => rfl
  | cons c t ih =>
    show (Jvm.Cond.and c (allAtoms t)).before a st = _
    rw [Jvm.Cond.before_and, ih, List.all_cons]
def words1 : List Jvm.Cond := Jvm.Cond.code x code maxLocals ret :: tables_1
/-- a 'code' word, met by the world's own term for the bytes: nothing is compared byte by byte -/
theorem code_word {y : MethodName} {bytes : ByteArray} {mx : Nat} {rt : Option FieldType} {a : Array Value} {s : State} {m : MethodId} {meth : Method} {c : Code} (h1 : s.methodNamed? y = some m) (h2 : s.vm.method? m = some meth) (h3 : meth.code = some c) (h4 : c.code = bytes)
    (h5 : (c.maxLocals == mx && c.exceptionTable.isEmpty && decide (c.maxStack ≤ mostOperands) && decide (meth.sig.returnType = rt) && !meth.locks && decide (parseMethodDescriptor y.desc = some meth.sig)) = true) : (Jvm.Cond.code y bytes mx rt).before a s = true := by
  simp only [Bool.and_eq_true, beq_iff_eq, Bool.not_eq_true', decide_eq_true_eq] at h5
  obtain ⟨⟨⟨⟨⟨g1, g2⟩, g3⟩, g4⟩, g5⟩, g6⟩ := h5
  simp [Cond.before, Cond.holds, Cond.value, h1, h2, h3, h4, g1, g2, g3, g4, g5, g6]
def isCode : Jvm.Cond → Bool
  | .code _ _ _ _ => true
  | _ => false
theorem all_split {L : List Jvm.Cond} {P : Jvm.Cond → Bool} (h1 : L.all (fun c => isCode c || P c) = true) (h2 : ∀ c ∈ L.filter isCode, P c = true) : L.all P = true := by
  refine List.all_eq_true.mpr fun c hc => ?_
  have h := List.all_eq_true.mp h1 c hc
  rcases Bool.eq_false_or_eq_true (isCode c) with hi | hi
  · exact h2 c (List.mem_filter.mpr ⟨hc, hi⟩)
  · simpa [hi] using h
set_option maxRecDepth 65536 in
theorem w_c0 : (Jvm.Cond.code x code maxLocals ret).before args0 about1 = true := code_word (m := ⟨1, 1⟩) (meth := k1m1) (c := k1c1) (by decide +kernel) rfl rfl rfl (by decide +kernel)
set_option maxRecDepth 65536 in
theorem w_c1 : (Jvm.Cond.code ({ cls := "com/example/depister/depister/core/model/Accumulator", name := "<init>", desc := "(I)V" } : Jvm.MethodName) prog_25_method_1_code (2 : Nat) (Option.none : Option Jvm.ClassFile.FieldType)).before args0 about1 = true := code_word (m := ⟨2, 0⟩) (meth := k2m0) (c := k2c0) (by decide +kernel) rfl rfl rfl (by decide +kernel)
set_option maxRecDepth 65536 in
theorem w_c2 : (Jvm.Cond.code ({ cls := "java/lang/Object", name := "<init>", desc := "()V" } : Jvm.MethodName) object_method_1_code (1 : Nat) (Option.none : Option Jvm.ClassFile.FieldType)).before args0 about1 = true := code_word (m := ⟨0, 0⟩) (meth := k0m0) (c := k0c0) (by decide +kernel) rfl rfl rfl (by decide +kernel)
set_option maxRecDepth 65536 in
theorem w_c3 : (Jvm.Cond.code ({ cls := "com/example/depister/depister/core/model/Accumulator", name := "clear", desc := "()V" } : Jvm.MethodName) prog_25_method_8_code (2 : Nat) (Option.none : Option Jvm.ClassFile.FieldType)).before args0 about1 = true := code_word (m := ⟨2, 7⟩) (meth := k2m7) (c := k2c7) (by decide +kernel) rfl rfl rfl (by decide +kernel)
set_option maxRecDepth 65536 in
theorem w_c4 : (Jvm.Cond.code ({ cls := "com/example/depister/depister/core/model/Accumulator", name := "count", desc := "()I" } : Jvm.MethodName) prog_25_method_5_code (1 : Nat) (Option.some Jvm.ClassFile.FieldType.int)).before args0 about1 = true := code_word (m := ⟨2, 4⟩) (meth := k2m4) (c := k2c4) (by decide +kernel) rfl rfl rfl (by decide +kernel)
set_option maxRecDepth 65536 in
theorem w_c5 : (Jvm.Cond.code ({ cls := "com/example/depister/depister/core/model/Accumulator", name := "score", desc := "(I)D" } : Jvm.MethodName) prog_25_method_7_code (2 : Nat) (Option.some Jvm.ClassFile.FieldType.double)).before args0 about1 = true := code_word (m := ⟨2, 6⟩) (meth := k2m6) (c := k2c6) (by decide +kernel) rfl rfl rfl (by decide +kernel)
set_option maxRecDepth 65536 in
theorem w_c6 : (Jvm.Cond.code ({ cls := "com/example/depister/depister/core/model/Accumulator", name := "add", desc := "(ID)V" } : Jvm.MethodName) prog_25_method_2_code (4 : Nat) (Option.none : Option Jvm.ClassFile.FieldType)).before args0 about1 = true := code_word (m := ⟨2, 1⟩) (meth := k2m1) (c := k2c1) (by decide +kernel) rfl rfl rfl (by decide +kernel)
set_option maxRecDepth 65536 in
theorem w_c7 : (Jvm.Cond.code ({ cls := "com/example/depister/depister/core/model/Accumulator", name := "list", desc := "(I)V" } : Jvm.MethodName) prog_25_method_4_code (2 : Nat) (Option.none : Option Jvm.ClassFile.FieldType)).before args0 about1 = true := code_word (m := ⟨2, 3⟩) (meth := k2m3) (c := k2c3) (by decide +kernel) rfl rfl rfl (by decide +kernel)
set_option maxRecDepth 65536 in
theorem w_c8 : (Jvm.Cond.code ({ cls := "com/example/depister/depister/core/model/Accumulator", name := "document", desc := "(I)I" } : Jvm.MethodName) prog_25_method_6_code (2 : Nat) (Option.some Jvm.ClassFile.FieldType.int)).before args0 about1 = true := code_word (m := ⟨2, 5⟩) (meth := k2m5) (c := k2c5) (by decide +kernel) rfl rfl rfl (by decide +kernel)
set_option maxRecDepth 65536 in
theorem w_c9 : (Jvm.Cond.code ({ cls := "com/example/depister/depister/core/model/AccumulatorClearPinLaw", name := "mutate", desc := "(Lcom/example/depister/depister/core/model/Accumulator;IDI)V" } : Jvm.MethodName) method_3_code (5 : Nat) (Option.none : Option Jvm.ClassFile.FieldType)).before args0 about1 = true := code_word (m := ⟨1, 2⟩) (meth := k1m2) (c := k1c2) (by decide +kernel) rfl rfl rfl (by decide +kernel)
set_option maxRecDepth 65536 in
theorem w_c10 : (Jvm.Cond.code ({ cls := "com/example/depister/depister/core/model/Accumulator", name := "set", desc := "(ID)V" } : Jvm.MethodName) prog_25_method_3_code (4 : Nat) (Option.none : Option Jvm.ClassFile.FieldType)).before args0 about1 = true := code_word (m := ⟨2, 2⟩) (meth := k2m2) (c := k2c2) (by decide +kernel) rfl rfl rfl (by decide +kernel)
def codes1 : List Jvm.Cond := [Jvm.Cond.code x code maxLocals ret, Jvm.Cond.code ({ cls := "com/example/depister/depister/core/model/Accumulator", name := "<init>", desc := "(I)V" } : Jvm.MethodName) prog_25_method_1_code (2 : Nat) (Option.none : Option Jvm.ClassFile.FieldType), Jvm.Cond.code ({ cls := "java/lang/Object", name := "<init>", desc := "()V" } : Jvm.MethodName) object_method_1_code (1 : Nat) (Option.none : Option Jvm.ClassFile.FieldType), Jvm.Cond.code ({ cls := "com/example/depister/depister/core/model/Accumulator", name := "clear", desc := "()V" } : Jvm.MethodName) prog_25_method_8_code (2 : Nat) (Option.none : Option Jvm.ClassFile.FieldType), Jvm.Cond.code ({ cls := "com/example/depister/depister/core/model/Accumulator", name := "count", desc := "()I" } : Jvm.MethodName) prog_25_method_5_code (1 : Nat) (Option.some Jvm.ClassFile.FieldType.int), Jvm.Cond.code ({ cls := "com/example/depister/depister/core/model/Accumulator", name := "score", desc := "(I)D" } : Jvm.MethodName) prog_25_method_7_code (2 : Nat) (Option.some Jvm.ClassFile.FieldType.double), Jvm.Cond.code ({ cls := "com/example/depister/depister/core/model/Accumulator", name := "add", desc := "(ID)V" } : Jvm.MethodName) prog_25_method_2_code (4 : Nat) (Option.none : Option Jvm.ClassFile.FieldType), Jvm.Cond.code ({ cls := "com/example/depister/depister/core/model/Accumulator", name := "list", desc := "(I)V" } : Jvm.MethodName) prog_25_method_4_code (2 : Nat) (Option.none : Option Jvm.ClassFile.FieldType), Jvm.Cond.code ({ cls := "com/example/depister/depister/core/model/Accumulator", name := "document", desc := "(I)I" } : Jvm.MethodName) prog_25_method_6_code (2 : Nat) (Option.some Jvm.ClassFile.FieldType.int), Jvm.Cond.code ({ cls := "com/example/depister/depister/core/model/AccumulatorClearPinLaw", name := "mutate", desc := "(Lcom/example/depister/depister/core/model/Accumulator;IDI)V" } : Jvm.MethodName) method_3_code (5 : Nat) (Option.none : Option Jvm.ClassFile.FieldType), Jvm.Cond.code ({ cls := "com/example/depister/depister/core/model/Accumulator", name := "set", desc := "(ID)V" } : Jvm.MethodName) prog_25_method_3_code (4 : Nat) (Option.none : Option Jvm.ClassFile.FieldType)]
set_option maxRecDepth 65536 in
theorem codes_eq : words1.filter isCode = codes1 := rfl
theorem w_codes : ∀ c ∈ words1.filter isCode, c.before args0 about1 = true := by
  rw [codes_eq]
  intro c hc
  simp only [codes1, List.mem_cons, List.not_mem_nil, or_false] at hc
  rcases hc with rfl | rfl | rfl | rfl | rfl | rfl | rfl | rfl | rfl | rfl | rfl
  · exact w_c0
  · exact w_c1
  · exact w_c2
  · exact w_c3
  · exact w_c4
  · exact w_c5
  · exact w_c6
  · exact w_c7
  · exact w_c8
  · exact w_c9
  · exact w_c10
set_option maxRecDepth 65536 in
theorem w_t1 : (words1.take 24).all (fun c => isCode c || c.before args0 about1) = true := by decide +kernel
set_option maxRecDepth 65536 in
theorem w_t2 : ((words1.drop 24).take 24).all (fun c => isCode c || c.before args0 about1) = true := by decide +kernel
set_option maxRecDepth 65536 in
theorem w_t3 : ((words1.drop 24).drop 24).all (fun c => isCode c || c.before args0 about1) = true := by decide +kernel
theorem w_tables : (allAtoms (Jvm.Cond.code x code maxLocals ret :: tables_1)).before args0 about1 = true := by
  rw [allAtoms_all]
  show words1.all (fun c => c.before args0 about1) = true
  refine all_split ?_ w_codes
  rw [← List.take_append_drop 24 words1, List.all_append, w_t1, ← List.take_append_drop 24 (words1.drop 24), List.all_append, w_t2, w_t3]
  rfl
set_option maxRecDepth 65536 in
theorem w_case : (Jvm.Cond.and given_1 narrow_1).before args0 about1 = true := by decide +kernel
theorem w_applies : (headSpec (Jvm.Cond.code x code maxLocals ret :: tables_1) room_1).applies x e0.platform about1 = true :=
  (Spec.applies_iff w_frames).mpr ⟨w_running, w_runnable, w_alone, w_named, w_hears, w_ripe, w_room, w_tables⟩
theorem atStart : AtStart classFile x code maxLocals ret World_1 tables_1 room_1 Calls_1 rest_1 Pre_1 launch0 p0 e0 about1 theMethod args0 below0 :=
  ⟨lists_1, trivial, launch0.admits_env _ _ _, launch0.least_env, fairChoices_fair.cas, fairChoices_fair.clock, w_frames, w_args, w_heap, w_applies, trivial, trivial, w_case⟩
end start1
theorem witness_1 : WitnessClaimed_1 := ⟨start1.p0, start1.e0, start1.about1, start1.theMethod, start1.args0, start1.below0, start1.atStart⟩
end Jvm.Pilot.@@N@@
