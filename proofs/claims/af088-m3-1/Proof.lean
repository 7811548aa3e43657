import JvmDerived
import JvmDerived.Pilot.@@N@@Statement
import JvmDerived.Pilot.@@N@@Code
set_option linter.unusedVariables false
set_option linter.unusedSimpArgs false
namespace Jvm.RoadKit
open Sem ClassFile Op Lib Jvm.Stand Jvm.Free Jvm.LawKit
section New
variable {p : Program} {l : Launch} {e : Env} {R : Room} {s : State} {m : MethodId} {args : Array Value} {below : List Frame} {meth : Method} {c : Code} {T : State} {locs : List Loc} {cells slots : Nat}
theorem retI (X : Stand p l e R s m args below meth c T locs cells slots) (hx : p.tables.exec = Jvm.exec) {pc : Nat} {Ls : Array Slot} {z : Int32} {rest : List Value} (hret : meth.sig.returnType = some .int) (hd : decode c.code pc = .ok (.ireturn, 1)) {fs : List Frame}
    (hl : ∀ (f : JFrame) (acts : List Action), f.method = m → f.locked = none → f.entered = [] → (doReturn e (T.setTop f) acts (some (.int z))).1 = T.setFrames fs) : Steps p.tables e below (T.setTop (mkF m pc Ls (.int z :: rest))) (T.setFrames fs) := by
  have hm' : T.vm.method? m = some meth := X.method'
  have hn : narrow .int (.int z) = .int z := rfl
  show Steps p.tables e below (T.setTop { method := m, pc := pc, locals := Ls, stack := _ :: rest, locked := none }) _
  jvm_step X.here [X.here.top, hx, hd, hm', hret, hn]
  first | (intro acts; rw [hl _ acts rfl rfl rfl]) | rw [hl _ _ rfl rfl rfl]
  exact Steps.refl _
end New
end Jvm.RoadKit
namespace Jvm.Pilot.@@N@@
open Jvm Jvm.ClassFile Sem Op Lib Jvm.Free Jvm.Stand Jvm.LawKit Jvm.RoadKit Bundle Jvm.Pilot.@@N@@.Jvm.D
/-! ## The walk in continuation-passing form: what is left to run returns, and Q says of what it returns, of the heap and of the places written -/
def Ogo (p : Program) (e : Env) (below : List Frame) (P : Outcome → State → Prop) (A : State) : Prop :=
  ∃ s₂ o, Steps p.tables e below A s₂ ∧ s₂.status = .running ∧ Ended s₂ below o ∧ P o s₂
/-- it returned v, Q says of v, of the heap and of the places written; nothing else was done since s -/
def Onar (s : State) (R : Room) (Q : Option Value → Heap → List Loc → Prop) (o : Outcome) (t : State) : Prop := ∃ v L, o = .returned v ∧ Q v t.heap L ∧ FrameEnd s o t L R.cells R.slots
abbrev Opays (l : Launch) (y : MethodName) (bytes : ByteArray) (maxL : Nat) (rt : Option FieldType) (rm : Room) (ws : List Jvm.Cond) (Z : State) (h0 : Heap) (as : Array Value) (Q : Option Value → Heap → List Loc → Prop) : Prop :=
  MetFree l y (head1 (Jvm.Cond.code y bytes maxL rt :: ws) rm) (fun a U => a = as ∧ Z.Warmed39 U.vm ∧ U.heap = h0) (fun _ _ _ _ _ => True) (fun _ U o U' => ∃ v L, o = .returned v ∧ Q v U'.heap L ∧ FrameEnd U o U' L rm.cells rm.slots)
section Own
variable {p : Program} {l : Launch} {e : Env} {R : Room} {s : State} {m : MethodId} {args : Array Value} {below : List Frame} {meth : Method} {c : Code} {T : State} {locs : List Loc} {cells slots : Nat} {Z : State} {a0 : Array Value} {h : Heap} {Q : Option Value → Heap → List Loc → Prop} {A B : State} {P : Outcome → State → Prop}
theorem own_via (st : ∀ t, Steps p.tables e below B t → Steps p.tables e below A t) (k : Ogo p e below P B) : Ogo p e below P A := by
  obtain ⟨s₂, o, h1, h2⟩ := k
  exact ⟨s₂, o, st _ h1, h2⟩
theorem own_enter {y : MethodName} {bytes : ByteArray} {maxL : Nat} {rt : Option FieldType} {rm : Room} {ws : List Jvm.Cond} {h0 : Heap} {as : Array Value} (hp : plainFor y = true)
    (body : ∀ p e s m below meth c s₁, p.tables.exec = Jvm.exec → c.code = bytes → c.maxLocals = maxL → s.vm.findClass y.cls = some m.cls → meth.name = y.name → meth.sig.returnType = rt → meth.locks = false → Z.Warmed39 s.vm → s₁.heap = h0 →
      Stand p l e rm s m as below meth c s₁ [] 0 0 → Ogo p e below (Onar s rm Q) (s₁.setTop (entryFrame m as maxL))) : Opays l y bytes maxL rt rm ws Z h0 as Q := by
  refine MetFree.of_bodySF hp hisR ?_
  intro p e s m args below meth c s₁ Bd hml0 hP hK
  obtain ⟨rfl, hZ, hh⟩ := hP
  have X0 : Stand p l e rm s m args below meth c s₁ [] 0 0 := Stand.of_body Bd
  have e0 : s₁.heap = h0 := by rw [← hh, Bd.state]; rfl
  exact body p e s m below meth c s₁ Bd.exec Bd.bytes hml0 (findClass_of_methodNamed Bd.named) (name_of_methodNamed Bd.named Bd.method).1 Bd.returns Bd.notSynchronized hZ e0 X0
theorem own_out (X : Stand p l e R s m args below meth c T locs cells slots) (hlk : meth.locks = false) {v : Option Value} (hv : meth.sig.returnType = none → v = none) (hc : cells ≤ R.cells) (hs : slots ≤ R.slots) (hQ : Q v T.heap locs)
    (k : ∀ fs, (∀ (f : JFrame) (acts : List Action), f.method = m → f.locked = none → f.entered = [] → (doReturn e (T.setTop f) acts v).1 = T.setFrames fs) → Steps p.tables e below A (T.setFrames fs)) : Ogo p e below (Onar s R Q) A := by
  obtain ⟨fs, hr, hrun, hended, hW, hsame⟩ := X.leave (v := v) hv hlk
  exact ⟨_, _, k fs hr, hrun, hended, _, _, rfl, hQ, ⟨_, rfl⟩, hW, hsame.mono hc hs⟩
theorem own_retL (X : Stand p l e R s m args below meth c T locs cells slots) (hx : p.tables.exec = Jvm.exec) {pc : Nat} {Ls : Array Slot} {z : Int64} {rest : List Value} (hret : meth.sig.returnType = some .long) (hd : decode c.code pc = .ok (.lreturn, 1)) {fs : List Frame}
    (hl : ∀ (f : JFrame) (acts : List Action), f.method = m → f.locked = none → f.entered = [] → (doReturn e (T.setTop f) acts (some (.long z))).1 = T.setFrames fs) : Steps p.tables e below (T.setTop (mkF m pc Ls (.long z :: rest))) (T.setFrames fs) :=
  retOut X hx hret rfl (Or.inr (Or.inl ⟨rfl, rfl, _, rfl⟩)) hd hl
theorem own_retD (X : Stand p l e R s m args below meth c T locs cells slots) (hx : p.tables.exec = Jvm.exec) {pc : Nat} {Ls : Array Slot} {z : UInt64} {rest : List Value} (hret : meth.sig.returnType = some .double) (hd : decode c.code pc = .ok (.dreturn, 1)) {fs : List Frame}
    (hl : ∀ (f : JFrame) (acts : List Action), f.method = m → f.locked = none → f.entered = [] → (doReturn e (T.setTop f) acts (some (.double z))).1 = T.setFrames fs) : Steps p.tables e below (T.setTop (mkF m pc Ls (.double z :: rest))) (T.setFrames fs) :=
  retOut X hx hret rfl (Or.inr (Or.inr (Or.inl ⟨rfl, rfl, _, rfl⟩))) hd hl
theorem own_retA (X : Stand p l e R s m args below meth c T locs cells slots) (hx : p.tables.exec = Jvm.exec) {pc : Nat} {Ls : Array Slot} {w : Value} {t : FieldType} {rest : List Value} (hret : meth.sig.returnType = some t) (ht : t.isReference = true) (hv : w.isRef = true) (hd : decode c.code pc = .ok (.areturn, 1)) {fs : List Frame}
    (hl : ∀ (f : JFrame) (acts : List Action), f.method = m → f.locked = none → f.entered = [] → (doReturn e (T.setTop f) acts (some w)).1 = T.setFrames fs) : Steps p.tables e below (T.setTop (mkF m pc Ls (w :: rest))) (T.setFrames fs) :=
  retOut X hx hret (by cases t <;> first | rfl | cases ht) (Or.inr (Or.inr (Or.inr (Or.inr ⟨rfl, ht, hv⟩)))) hd hl
theorem own_lrem {g : JFrame} {target : State} (X : Stand p l e R s m args below meth c T locs cells slots) (hx : p.tables.exec = Jvm.exec) (hg : g.method = m) {x y : Int64} {rest : List Value} (hd : decode c.code g.pc = .ok (.lrem, 1)) (hs : g.stack = .long y :: .long x :: rest) (hy : y ≠ 0)
    (hr : Steps p.tables e below (T.setTop { g with pc := g.pc + 1, stack := .long (x % y) :: rest }) target) : Steps p.tables e below (T.setTop g) target :=
  XS.lrem X.here hx hg hd hs hy (by rw [lrem_mod]; exact hr)
/-! calls: the callee's contract pays -/
theorem own_callS (X : Stand p l e R s m args below meth c T locs cells slots) (hx : p.tables.exec = Jvm.exec) (hZ : Z.Warmed39 s.vm) {own : String} {index : Nat} {y : MethodName} {bytes : ByteArray} {maxL : Nat} {rt : Option FieldType}
    (hown : s.vm.findClass own = some m.cls) (wl : (Jvm.Cond.methodLink own index y).before a0 Z = true) (wst : (Jvm.Cond.static y).before a0 Z = true) (wi : (Jvm.Cond.initialized y.cls).before a0 Z = true) (wc : (Jvm.Cond.code y bytes maxL rt).before a0 Z = true)
    (hy : y.cls ≠ "java/lang/invoke/MethodHandle" ∧ y.cls ≠ "java/lang/invoke/VarHandle") {rm : Room} {as : Array Value} {Qc : Option Value → Heap → List Loc → Prop} (hM : Opays l y bytes maxL rt rm [] Z h as Qc) {argsL rest : List Value} (ha : argsL.toArray = as) (eT : T.heap = h) {W : Nat} (hf : rm.frames + 1 ≤ R.frames) (hl : W + (maxL + 11) + rm.locals ≤ R.locals) (hc : cells + rm.cells ≤ R.cells) (hs : slots + rm.slots ≤ R.slots)
    {pc : Nat} {Ls : Array Slot} {st : List Value} (hsize : Ls.size = c.maxLocals) (hlen : ∀ sig, parseMethodDescriptor y.desc = some sig → argsL.length = sig.parameters.length) (hst : st = argsL.reverse ++ rest) (hW : (rest.map fun v => v.category).sum ≤ W) (hd : decode c.code pc = .ok (.invokestatic index, 3))
    (k : ∀ v T' L, Stand p l e R s m args below meth c T' (locs ++ L) (cells + rm.cells) (slots + rm.slots) → Qc v T'.heap L → Ogo p e below P (T'.setTop (mkF m (pc + 3) Ls (v.toList ++ rest)))) : Ogo p e below P (T.setTop (mkF m pc Ls st)) := by
  obtain ⟨v, _, ⟨T', L', k', n'⟩, -, X', ⟨Lc, hQ, l1, y1, z1⟩, step⟩ := Jvm.LawKit.callS X hx (y := y) hown (mvT hZ wl) (mvT hZ wst) (mvT hZ wi) (mvT hZ wc) hy (backOf (W := W) hM hZ wc wi hf hl) (g := mkF m pc Ls st) rfl hsize (argsL := argsL) (rest := rest) hlen hst (by show 2 * 0 + _ ≤ _; omega) hd (fun _ _ => ⟨ha, eT, hc, hs⟩)
  dsimp only [Pt.U, Pt.locs, Pt.cells, Pt.slots] at X' l1 y1 z1 step hQ
  subst l1 y1 z1
  exact own_via step (k v T' Lc X' hQ)
theorem own_callI (X : Stand p l e R s m args below meth c T locs cells slots) (hx : p.tables.exec = Jvm.exec) (hZ : Z.Warmed39 s.vm) {own : String} {index : Nat} {y : MethodName} {bytes : ByteArray} {maxL : Nat} (hy1 : y.name = "<init>")
    (hown : s.vm.findClass own = some m.cls) (wl : (Jvm.Cond.methodLink own index y).before a0 Z = true) (wst : (Jvm.Cond.instanceMethod y).before a0 Z = true) (wi : (Jvm.Cond.initialized y.cls).before a0 Z = true) (wc : (Jvm.Cond.code y bytes maxL none).before a0 Z = true)
    (hy : y.cls ≠ "java/lang/invoke/MethodHandle" ∧ y.cls ≠ "java/lang/invoke/VarHandle") {rm : Room} {as : Array Value} {Qc : Option Value → Heap → List Loc → Prop} (hM : Opays l y bytes maxL none rm [] Z h as Qc) {a : Addr} {argsL rest : List Value} (ha : (.ref a :: argsL).toArray = as) (eT : T.heap = h) {W : Nat} (hf : rm.frames + 1 ≤ R.frames) (hl : W + (maxL + 11) + rm.locals ≤ R.locals) (hc : cells + rm.cells ≤ R.cells) (hs : slots + rm.slots ≤ R.slots)
    {pc : Nat} {Ls : Array Slot} {st : List Value} (hsize : Ls.size = c.maxLocals) (hlen : ∀ sig, parseMethodDescriptor y.desc = some sig → argsL.length = sig.parameters.length) (hst : st = argsL.reverse ++ .ref a :: rest) (hW : (rest.map fun v => v.category).sum ≤ W) (hd : decode c.code pc = .ok (.invokespecial index, 3))
    (k : ∀ v T' L, Stand p l e R s m args below meth c T' (locs ++ L) (cells + rm.cells) (slots + rm.slots) → Qc v T'.heap L → Ogo p e below P (T'.setTop (mkF m (pc + 3) Ls (v.toList ++ rest)))) : Ogo p e below P (T.setTop (mkF m pc Ls st)) := by
  obtain ⟨v, _, ⟨T', L', k', n'⟩, -, X', ⟨Lc, hQ, l1, y1, z1⟩, step⟩ := X.specialBack hx (y := y) hy1 hown (mvT hZ wl) (mvT hZ wst) (mvT hZ wc) hy (backOf (W := W) hM hZ wc wi hf hl) (g := mkF m pc Ls st) rfl hsize (Steps.refl _) (a := a) (argsL := argsL) (rest := rest) hlen hst (by show 2 * 0 + _ ≤ _; omega) hd (fun _ _ => ⟨ha, eT, hc, hs⟩)
  dsimp only [Pt.U, Pt.locs, Pt.cells, Pt.slots] at X' l1 y1 z1 step hQ
  subst l1 y1 z1
  exact own_via (fun _ q => step.trans q) (k v T' Lc X' hQ)
theorem own_callV (X : Stand p l e R s m args below meth c T locs cells slots) (hx : p.tables.exec = Jvm.exec) (hZ : Z.Warmed39 s.vm) {own C : String} {index : Nat} {y z : MethodName} {bytes : ByteArray} {maxL : Nat} {rt : Option FieldType}
    (hown : s.vm.findClass own = some m.cls) (wl : (Jvm.Cond.methodLink own index y).before a0 Z = true) (wd : (Jvm.Cond.declares y).before a0 Z = true) (ws : (Jvm.Cond.selects C y z).before a0 Z = true) (wst : (Jvm.Cond.instanceMethod z).before a0 Z = true) (wi : (Jvm.Cond.initialized z.cls).before a0 Z = true) (wc : (Jvm.Cond.code z bytes maxL rt).before a0 Z = true) (hyz : NotFace s y)
    (hy : y.cls ≠ "java/lang/invoke/MethodHandle" ∧ y.cls ≠ "java/lang/invoke/VarHandle") {rm : Room} {as : Array Value} {Qc : Option Value → Heap → List Loc → Prop} (hM : Opays l z bytes maxL rt rm [] Z h as Qc) {b : Addr} {argsL rest : List Value} (ha : (.ref b :: argsL).toArray = as) (eT : T.heap = h) (F : Exa Z h b C) {W : Nat} (hf : rm.frames + 1 ≤ R.frames) (hl : W + (maxL + 11) + rm.locals ≤ R.locals) (hc : cells + rm.cells ≤ R.cells) (hs : slots + rm.slots ≤ R.slots)
    {pc : Nat} {Ls : Array Slot} {st : List Value} (hsize : Ls.size = c.maxLocals) (hlen : ∀ sig, parseMethodDescriptor y.desc = some sig → argsL.length = sig.parameters.length) (hst : st = argsL.reverse ++ .ref b :: rest) (hW : (rest.map fun v => v.category).sum ≤ W) (hd : decode c.code pc = .ok (.invokevirtual index, 3))
    (k : ∀ v T' L, Stand p l e R s m args below meth c T' (locs ++ L) (cells + rm.cells) (slots + rm.slots) → Qc v T'.heap L → Ogo p e below P (T'.setTop (mkF m (pc + 3) Ls (v.toList ++ rest)))) : Ogo p e below P (T.setTop (mkF m pc Ls st)) := by
  obtain ⟨cq, kq, qa, qb, qc⟩ := isOf hZ eT F
  obtain ⟨v, _, ⟨T', L', k', n'⟩, -, X', ⟨Lc, hQ, l1, y1, z1⟩, step⟩ := X.virtualBack hx (y := y) (z := z) hown (mvT hZ wl) (mvT hZ wd) hyz (mvT hZ ws) (mvT hZ wst) hy (backOf (W := W) hM hZ wc wi hf hl) qa qc (g := mkF m pc Ls st) rfl hsize (Steps.refl _) (argsL := argsL) (rest := rest) hlen hst (by show 2 * 0 + _ ≤ _; omega) hd (fun _ _ => ⟨ha, eT, hc, hs⟩)
  dsimp only [Pt.U, Pt.locs, Pt.cells, Pt.slots] at X' l1 y1 z1 step hQ
  subst l1 y1 z1
  exact own_via (fun _ q => step.trans q) (k v T' Lc X' hQ)
/-- a private method of a class that is no interface -/
theorem own_callP (X : Stand p l e R s m args below meth c T locs cells slots) (hx : p.tables.exec = Jvm.exec) (hZ : Z.Warmed39 s.vm) {own C : String} {index kk : Nat} {y : MethodName} {bytes : ByteArray} {maxL : Nat} {rt : Option FieldType}
    (hown : s.vm.findClass own = some m.cls) (wl : (Jvm.Cond.methodLink own index y).before a0 Z = true) (wst : (Jvm.Cond.instanceMethod y).before a0 Z = true) (wp : (Jvm.Cond.privateMethod y).before a0 Z = true) (wi : (Jvm.Cond.initialized y.cls).before a0 Z = true) (wn : (Jvm.Cond.instantiable y.cls kk).before a0 Z = true) (wc : (Jvm.Cond.code y bytes maxL rt).before a0 Z = true)
    (hy : y.cls ≠ "java/lang/invoke/MethodHandle" ∧ y.cls ≠ "java/lang/invoke/VarHandle") {rm : Room} {as : Array Value} {Qc : Option Value → Heap → List Loc → Prop} (hM : Opays l y bytes maxL rt rm [] Z h as Qc) {b : Addr} {argsL rest : List Value} (ha : (.ref b :: argsL).toArray = as) (eT : T.heap = h) (F : Exa Z h b C) {W : Nat} (hf : rm.frames + 1 ≤ R.frames) (hl : W + (maxL + 11) + rm.locals ≤ R.locals) (hc : cells + rm.cells ≤ R.cells) (hs : slots + rm.slots ≤ R.slots)
    {pc : Nat} {Ls : Array Slot} {st : List Value} (hsize : Ls.size = c.maxLocals) (hlen : ∀ sig, parseMethodDescriptor y.desc = some sig → argsL.length = sig.parameters.length) (hst : st = argsL.reverse ++ .ref b :: rest) (hW : (rest.map fun v => v.category).sum ≤ W) (hd : decode c.code pc = .ok (.invokevirtual index, 3))
    (k : ∀ v T' L, Stand p l e R s m args below meth c T' (locs ++ L) (cells + rm.cells) (slots + rm.slots) → Qc v T'.heap L → Ogo p e below P (T'.setTop (mkF m (pc + 3) Ls (v.toList ++ rest)))) : Ogo p e below P (T.setTop (mkF m pc Ls st)) := by
  obtain ⟨cq, q1, q2⟩ := F.cell
  have hpriv : s.PrivateAt y := Cond.privateMethod_at (mvP hZ wp (args := #[]))
  obtain ⟨c2, k2, i1, i2, i3, i4, -⟩ := Cond.instantiable_spec (mv (s := s) (args := args) hZ wn)
  have hni : k2.isInterface = false := (Bool.or_eq_false_iff.mp i4).1
  obtain ⟨v, _, ⟨T', L', k', n'⟩, -, X', ⟨Lc, hQ, l1, y1, z1⟩, step⟩ := X.privateBack hx (y := y) hown (mvT hZ wl) (mvT hZ wst) (selects_self_of_private i1 i2 hni hpriv (mvT hZ wst) hy) hpriv (mvT hZ wc) hy (backOf (W := W) hM hZ wc wi hf hl) (g := mkF m pc Ls st) rfl hsize (Steps.refl _) (a := b) (by rw [eT]; exact q1) q2 (argsL := argsL) (rest := rest) hlen hst (by show 2 * 0 + _ ≤ _; omega) hd (fun _ _ => ⟨ha, eT, hc, hs⟩)
  dsimp only [Pt.U, Pt.locs, Pt.cells, Pt.slots] at X' l1 y1 z1 step hQ
  subst l1 y1 z1
  exact own_via (fun _ q => step.trans q) (k v T' Lc X' hQ)
/-- a method of an interface -/
theorem own_callF (X : Stand p l e R s m args below meth c T locs cells slots) (hx : p.tables.exec = Jvm.exec) (hZ : Z.Warmed39 s.vm) {own C : String} {index count : Nat} {y z : MethodName} {bytes : ByteArray} {maxL : Nat} {rt : Option FieldType}
    (hown : s.vm.findClass own = some m.cls) (wl : (Jvm.Cond.methodLink own index y).before a0 Z = true) (wd : (Jvm.Cond.declares y).before a0 Z = true) (wf : (Jvm.Cond.interfaceMethod y.cls y.cls y.name y.desc).before args s = true) (ws : (Jvm.Cond.selects C y z).before a0 Z = true) (wst : (Jvm.Cond.instanceMethod z).before a0 Z = true) (wp : (Jvm.Cond.publicMethod z).before a0 Z = true) (wu : (Jvm.Cond.unhidden C y.name y.desc).before a0 Z = true) (wk : (Jvm.Cond.castable C y.cls).before a0 Z = true) (wi : (Jvm.Cond.initialized z.cls).before a0 Z = true) (wc : (Jvm.Cond.code z bytes maxL rt).before a0 Z = true)
    (hy : y.cls ≠ "java/lang/invoke/MethodHandle" ∧ y.cls ≠ "java/lang/invoke/VarHandle") {rm : Room} {as : Array Value} {Qc : Option Value → Heap → List Loc → Prop} (hM : Opays l z bytes maxL rt rm [] Z h as Qc) {b : Addr} {argsL rest : List Value} (ha : (.ref b :: argsL).toArray = as) (eT : T.heap = h) (F : Exa Z h b C) {W : Nat} (hf : rm.frames + 1 ≤ R.frames) (hl : W + (maxL + 11) + rm.locals ≤ R.locals) (hc : cells + rm.cells ≤ R.cells) (hs : slots + rm.slots ≤ R.slots)
    {pc : Nat} {Ls : Array Slot} {st : List Value} (hsize : Ls.size = c.maxLocals) (hlen : ∀ sig, parseMethodDescriptor y.desc = some sig → argsL.length = sig.parameters.length) (hst : st = argsL.reverse ++ .ref b :: rest) (hW : (rest.map fun v => v.category).sum ≤ W) (hd : decode c.code pc = .ok (.invokeinterface index count, 5))
    (k : ∀ v T' L, Stand p l e R s m args below meth c T' (locs ++ L) (cells + rm.cells) (slots + rm.slots) → Qc v T'.heap L → Ogo p e below P (T'.setTop (mkF m (pc + 5) Ls (v.toList ++ rest)))) : Ogo p e below P (T.setTop (mkF m pc Ls st)) := by
  obtain ⟨cq, kq, qa, qb, qc⟩ := isOf hZ eT F
  obtain ⟨v, _, ⟨T', L', k', n'⟩, -, X', ⟨Lc, hQ, l1, y1, z1⟩, step⟩ := X.interfaceBack hx (xi := y) (y := z) hown (mvT hZ wl) (mvT hZ wd) wf (mvT hZ ws) (mvT hZ wst) (mvT hZ wp) (mvT hZ wu) (mvT hZ wk) hy (backOf (W := W) hM hZ wc wi hf hl) qa qb qc (g := mkF m pc Ls st) rfl hsize (Steps.refl _) (argsL := argsL) (rest := rest) hlen hst (by show 2 * 0 + _ ≤ _; omega) hd (fun _ _ => ⟨ha, eT, hc, hs⟩)
  dsimp only [Pt.U, Pt.locs, Pt.cells, Pt.slots] at X' l1 y1 z1 step hQ
  subst l1 y1 z1
  exact own_via (fun _ q => step.trans q) (k v T' Lc X' hQ)
end Own
/-! ## An array by its values: n places, place j holds f j -/
/-- the array at a has n places of kind ty; place j holds f j -/
def Oar (Z : State) (h : Heap) (a : Addr) (ty : FieldType) (n : Nat) (f : Nat → Value) : Prop := n < 2 ^ 31 ∧ ∃ cl : Cell, Arr Z h a cl ty ∧ cl.slots.size = n ∧ ∀ j, j < n → cl.slots[j]? = some (f j)
section Own2
variable {p : Program} {l : Launch} {e : Env} {R : Room} {s : State} {m : MethodId} {args : Array Value} {below : List Frame} {meth : Method} {c : Code} {T : State} {locs : List Loc} {cells slots : Nat} {Z : State} {a0 : Array Value} {h h' : Heap} {P : Outcome → State → Prop} {a b : Addr} {ty : FieldType} {n i sl : Nat} {f : Nat → Value} {v : Value} {ws : List Addr} {j z : Int32}
theorem Oar.lt (A : Oar Z h a ty n f) : a < h.size := by obtain ⟨_, cl, A, _⟩ := A; exact A.lt
theorem Oar.ext (A : Oar Z h a ty n f) (E : Ext h h') : Oar Z h' a ty n f := by obtain ⟨q, cl, A, r⟩ := A; exact ⟨q, cl, A.ext E, r⟩
theorem Oar.other (A : Oar Z h b ty n f) (W : Wr h h' a sl v) (q : b ≠ a) : Oar Z h' b ty n f := by obtain ⟨z, cl, A, r⟩ := A; exact ⟨z, cl, A.other W q, r⟩
theorem Oar.keep (A : Oar Z h a ty n f) (K : Keep h h' ws) (q : a ∉ ws) : Oar Z h' a ty n f := by obtain ⟨z, cl, A, r⟩ := A; exact ⟨z, cl, ⟨K.2.1 a cl A.1 q, A.2⟩, r⟩
theorem Oar.cast {f' : Nat → Value} (A : Oar Z h a ty n f) (q : ∀ j, j < n → f j = f' j) : Oar Z h a ty n f' := by obtain ⟨z, cl, A, S, r⟩ := A; exact ⟨z, cl, A, S, fun j hj => by rw [← q j hj]; exact r j hj⟩
theorem Oar.new {k : ClassId} (A : Arr Z h a (newA k ty z) ty) (hz : ¬ z < 0) (hn : z.toNatClampNeg = n) : Oar Z h a ty n (fun _ => defaultValue ty) := by
  subst hn
  refine ⟨(back32 hz).2, _, A, sz_new _ _ _, fun j hj => ?_⟩
  simp [newA, hj]
theorem Oar.set (A : Oar Z h a ty n f) (W : Wr h h' a i v) : Oar Z h' a ty n (fun j => if j = i then v else f j) := by
  obtain ⟨q, cl, A, S, H⟩ := A
  obtain ⟨cell, e1, -, e3, -⟩ := id W
  cases A.1.symm.trans e1
  refine ⟨q, _, A.same W, by rw [sz_set]; exact S, fun j hj => ?_⟩
  by_cases u : i = j
  · subst u; simp [Cell.setSlot, e3]
  · have u' : ¬ j = i := fun x => u x.symm
    simp only [if_neg u', Cell.setSlot]; rw [Array.getElem?_setIfInBounds_ne u]; exact H j hj
theorem own_cl (hj : j.toInt = (i : Int)) : ¬ j < 0 ∧ j.toNatClampNeg = i := by
  refine ⟨fun q => ?_, ?_⟩
  · rw [Int32.lt_iff_toInt_lt] at q; have : (0 : Int32).toInt = 0 := rfl; omega
  · simp only [Int32.toNatClampNeg, hj]; rfl
theorem Oar.at (A : Oar Z h a ty n f) (hj : j.toInt = (i : Int)) (hi : i < n) : ∃ cl : Cell, Arr Z h a cl ty ∧ ¬ (j < 0 ∨ cl.slots.size ≤ j.toNatClampNeg) ∧ cl.slots[j.toNatClampNeg]? = some (f i) := by
  obtain ⟨q, cl, A, S, H⟩ := A
  obtain ⟨q1, q2⟩ := own_cl hj
  exact ⟨cl, A, fun q => q.elim q1 fun u => by rw [q2, S] at u; omega, by rw [q2]; exact H i hi⟩
/-- arraylength -/
theorem own_alen (X : Stand p l e R s m args below meth c T locs cells slots) (hx : p.tables.exec = Jvm.exec) (hZ : Z.Warmed39 s.vm) (eT : T.heap = h) (A : Oar Z h a ty n f) (hz : z.toInt = (n : Int)) {pc : Nat} {Ls : Array Slot} {rest : List Value} (hd : decode c.code pc = .ok (.arraylength, 1))
    (k : Ogo p e below P (T.setTop (mkF m (pc + 1) Ls (.int z :: rest)))) : Ogo p e below P (T.setTop (mkF m pc Ls (.ref a :: rest))) := by
  obtain ⟨q, cl, A, S, H⟩ := A
  have e1 : cl.slots.size.toInt32 = z := Int32.toInt_inj.mp (by rw [S, len_toInt q, hz])
  refine own_via (fun t k => X.arraylength hx (by rw [eT]; exact A.1) (State.isArrayOf_alike hZ.alike A.2.1) (g := mkF m pc Ls (.ref a :: rest)) rfl rfl hd _ k) ?_
  rw [e1]; exact k
theorem own_iald (X : Stand p l e R s m args below meth c T locs cells slots) (hx : p.tables.exec = Jvm.exec) (hZ : Z.Warmed39 s.vm) (eT : T.heap = h) (A : Oar Z h a .int n f) (hj : j.toInt = (i : Int)) (hi : i < n) (hv : f i = v) {pc : Nat} {Ls : Array Slot} {rest : List Value} (hd : decode c.code pc = .ok (.iaload, 1))
    (k : Ogo p e below P (T.setTop (mkF m (pc + 1) Ls (v :: rest)))) : Ogo p e below P (T.setTop (mkF m pc Ls (.int j :: .ref a :: rest))) := by
  obtain ⟨cl, A, h1, h2⟩ := A.at hj hi
  rw [hv] at h2
  exact own_via (fun t k => X.iaload hx (j := j) (v := v) (by rw [eT]; exact A.1) (State.isArrayOf_alike hZ.alike A.2.1) A.2.2 h1 h2 (g := mkF m pc Ls (.int j :: .ref a :: rest)) rfl rfl hd _ k) k
theorem own_bald (X : Stand p l e R s m args below meth c T locs cells slots) (hx : p.tables.exec = Jvm.exec) (hZ : Z.Warmed39 s.vm) (eT : T.heap = h) (A : Oar Z h a .byte n f) (hj : j.toInt = (i : Int)) (hi : i < n) (hv : f i = v) {pc : Nat} {Ls : Array Slot} {rest : List Value} (hd : decode c.code pc = .ok (.baload, 1))
    (k : Ogo p e below P (T.setTop (mkF m (pc + 1) Ls (v :: rest)))) : Ogo p e below P (T.setTop (mkF m pc Ls (.int j :: .ref a :: rest))) := by
  obtain ⟨cl, A, h1, h2⟩ := A.at hj hi
  rw [hv] at h2
  exact own_via (fun t k => X.baloadBytes hx (j := j) (v := v) (by rw [eT]; exact A.1) (State.isArrayOf_alike hZ.alike A.2.1) A.2.2 h1 h2 (g := mkF m pc Ls (.int j :: .ref a :: rest)) rfl rfl hd _ k) k
theorem own_zald (X : Stand p l e R s m args below meth c T locs cells slots) (hx : p.tables.exec = Jvm.exec) (hZ : Z.Warmed39 s.vm) (eT : T.heap = h) (A : Oar Z h a .boolean n f) (hj : j.toInt = (i : Int)) (hi : i < n) (hv : f i = v) {pc : Nat} {Ls : Array Slot} {rest : List Value} (hd : decode c.code pc = .ok (.baload, 1))
    (k : Ogo p e below P (T.setTop (mkF m (pc + 1) Ls (v :: rest)))) : Ogo p e below P (T.setTop (mkF m pc Ls (.int j :: .ref a :: rest))) := by
  obtain ⟨cl, A, h1, h2⟩ := A.at hj hi
  rw [hv] at h2
  exact own_via (fun t k => X.baloadBooleans hx (j := j) (v := v) (by rw [eT]; exact A.1) (State.isArrayOf_alike hZ.alike A.2.1) A.2.2 h1 h2 (g := mkF m pc Ls (.int j :: .ref a :: rest)) rfl rfl hd _ k) k
theorem own_dald (X : Stand p l e R s m args below meth c T locs cells slots) (hx : p.tables.exec = Jvm.exec) (hZ : Z.Warmed39 s.vm) (eT : T.heap = h) (A : Oar Z h a .double n f) (hj : j.toInt = (i : Int)) (hi : i < n) (hv : f i = v) {pc : Nat} {Ls : Array Slot} {rest : List Value} (hd : decode c.code pc = .ok (.daload, 1))
    (k : Ogo p e below P (T.setTop (mkF m (pc + 1) Ls (v :: rest)))) : Ogo p e below P (T.setTop (mkF m pc Ls (.int j :: .ref a :: rest))) := by
  obtain ⟨cl, A, h1, h2⟩ := A.at hj hi
  rw [hv] at h2
  exact own_via (fun t k => X.daload hx (j := j) (v := v) (by rw [eT]; exact A.1) (State.isArrayOf_alike hZ.alike A.2.1) A.2.2 h1 h2 (g := mkF m pc Ls (.int j :: .ref a :: rest)) rfl rfl hd _ k) k
theorem own_aald (X : Stand p l e R s m args below meth c T locs cells slots) (hx : p.tables.exec = Jvm.exec) (hZ : Z.Warmed39 s.vm) (eT : T.heap = h) (A : Oar Z h a ty n f) (ht : ty.isReference = true) (hj : j.toInt = (i : Int)) (hi : i < n) (hv : f i = v) {pc : Nat} {Ls : Array Slot} {rest : List Value} (hd : decode c.code pc = .ok (.aaload, 1))
    (k : Ogo p e below P (T.setTop (mkF m (pc + 1) Ls (v :: rest)))) : Ogo p e below P (T.setTop (mkF m pc Ls (.int j :: .ref a :: rest))) := by
  obtain ⟨cl, A, h1, h2⟩ := A.at hj hi
  rw [hv] at h2
  exact own_via (fun t k => X.aaload hx (j := j) (v := v) (by rw [eT]; exact A.1) (State.isArrayOf_alike hZ.alike A.2.1) ht A.2.2 h1 h2 (g := mkF m pc Ls (.int j :: .ref a :: rest)) rfl rfl hd _ k) k
theorem own_iast (X : Stand p l e R s m args below meth c T locs cells slots) (hx : p.tables.exec = Jvm.exec) (hZ : Z.Warmed39 s.vm) (eT : T.heap = h) (A : Oar Z h a .int n f) {x : Int32} (hj : j.toInt = (i : Int)) (hi : i < n) {pc : Nat} {Ls : Array Slot} {rest : List Value} (hd : decode c.code pc = .ok (.iastore, 1)) :
    ∃ T' h', Stand p l e R s m args below meth c T' (locs ++ [⟨a, i⟩]) cells slots ∧ T'.heap = h' ∧ Wr h h' a i (.int x) ∧ Oar Z h' a .int n (fun q => if q = i then .int x else f q) ∧ ∀ t, Steps p.tables e below (T'.setTop (mkF m (pc + 1) Ls rest)) t → Steps p.tables e below (T.setTop (mkF m pc Ls (.int x :: .int j :: .ref a :: rest))) t := by
  obtain ⟨cl, A', h1, h2⟩ := A.at hj hi
  obtain ⟨T', h', X', e', W, st⟩ := stI X hx hZ eT A' (j := j) (x := x) h1 (g := mkF m pc Ls (.int x :: .int j :: .ref a :: rest)) rfl rfl hd
  rw [(own_cl hj).2] at X' W
  exact ⟨T', h', X', e', W, A.set W, st⟩
theorem own_bast (X : Stand p l e R s m args below meth c T locs cells slots) (hx : p.tables.exec = Jvm.exec) (hZ : Z.Warmed39 s.vm) (eT : T.heap = h) (A : Oar Z h a .byte n f) {x : Int32} (hj : j.toInt = (i : Int)) (hi : i < n) {pc : Nat} {Ls : Array Slot} {rest : List Value} (hd : decode c.code pc = .ok (.bastore, 1)) :
    ∃ T' h', Stand p l e R s m args below meth c T' (locs ++ [⟨a, i⟩]) cells slots ∧ T'.heap = h' ∧ Wr h h' a i (.int (nar .byte x)) ∧ Oar Z h' a .byte n (fun q => if q = i then .int (nar .byte x) else f q) ∧ ∀ t, Steps p.tables e below (T'.setTop (mkF m (pc + 1) Ls rest)) t → Steps p.tables e below (T.setTop (mkF m pc Ls (.int x :: .int j :: .ref a :: rest))) t := by
  obtain ⟨cl, A', h1, h2⟩ := A.at hj hi
  obtain ⟨T', h', X', e', W, st⟩ := stB X hx hZ eT A' (j := j) (x := x) h1 (g := mkF m pc Ls (.int x :: .int j :: .ref a :: rest)) rfl rfl hd
  rw [(own_cl hj).2] at X' W
  exact ⟨T', h', X', e', W, A.set W, st⟩
theorem own_zast (X : Stand p l e R s m args below meth c T locs cells slots) (hx : p.tables.exec = Jvm.exec) (hZ : Z.Warmed39 s.vm) (eT : T.heap = h) (A : Oar Z h a .boolean n f) {x : Int32} (hj : j.toInt = (i : Int)) (hi : i < n) {pc : Nat} {Ls : Array Slot} {rest : List Value} (hd : decode c.code pc = .ok (.bastore, 1)) :
    ∃ T' h', Stand p l e R s m args below meth c T' (locs ++ [⟨a, i⟩]) cells slots ∧ T'.heap = h' ∧ Wr h h' a i (.int (nar .boolean x)) ∧ Oar Z h' a .boolean n (fun q => if q = i then .int (nar .boolean x) else f q) ∧ ∀ t, Steps p.tables e below (T'.setTop (mkF m (pc + 1) Ls rest)) t → Steps p.tables e below (T.setTop (mkF m pc Ls (.int x :: .int j :: .ref a :: rest))) t := by
  obtain ⟨cl, A', h1, h2⟩ := A.at hj hi
  obtain ⟨T', h', X', e', W, st⟩ := stZ X hx hZ eT A' (j := j) (x := x) h1 (g := mkF m pc Ls (.int x :: .int j :: .ref a :: rest)) rfl rfl hd
  rw [(own_cl hj).2] at X' W
  exact ⟨T', h', X', e', W, A.set W, st⟩
theorem own_dast (X : Stand p l e R s m args below meth c T locs cells slots) (hx : p.tables.exec = Jvm.exec) (hZ : Z.Warmed39 s.vm) (eT : T.heap = h) (A : Oar Z h a .double n f) {x : UInt64} (hj : j.toInt = (i : Int)) (hi : i < n) {pc : Nat} {Ls : Array Slot} {rest : List Value} (hd : decode c.code pc = .ok (.dastore, 1)) :
    ∃ T' h', Stand p l e R s m args below meth c T' (locs ++ [⟨a, i⟩]) cells slots ∧ T'.heap = h' ∧ Wr h h' a i (.double x) ∧ Oar Z h' a .double n (fun q => if q = i then .double x else f q) ∧ ∀ t, Steps p.tables e below (T'.setTop (mkF m (pc + 1) Ls rest)) t → Steps p.tables e below (T.setTop (mkF m pc Ls (.double x :: .int j :: .ref a :: rest))) t := by
  obtain ⟨cl, A', h1, h2⟩ := A.at hj hi
  obtain ⟨T', h', X', e', W, st⟩ := stD X hx hZ eT A' (j := j) (x := x) h1 (g := mkF m pc Ls (.double x :: .int j :: .ref a :: rest)) rfl rfl hd
  rw [(own_cl hj).2] at X' W
  exact ⟨T', h', X', e', W, A.set W, st⟩
theorem own_aast (X : Stand p l e R s m args below meth c T locs cells slots) (hx : p.tables.exec = Jvm.exec) (hZ : Z.Warmed39 s.vm) (eT : T.heap = h) (A : Oar Z h a ty n f) (ht : ty.isReference = true) (F : Sto Z h a v) (hj : j.toInt = (i : Int)) (hi : i < n) {pc : Nat} {Ls : Array Slot} {rest : List Value} (hd : decode c.code pc = .ok (.aastore, 1)) :
    ∃ T' h', Stand p l e R s m args below meth c T' (locs ++ [⟨a, i⟩]) cells slots ∧ T'.heap = h' ∧ Wr h h' a i v ∧ Oar Z h' a ty n (fun q => if q = i then v else f q) ∧ ∀ t, Steps p.tables e below (T'.setTop (mkF m (pc + 1) Ls rest)) t → Steps p.tables e below (T.setTop (mkF m pc Ls (v :: .int j :: .ref a :: rest))) t := by
  obtain ⟨cl, A', h1, h2⟩ := A.at hj hi
  obtain ⟨T', h', X', e', W, st⟩ := stR X hx hZ eT A' (j := j) h1 ht F (g := mkF m pc Ls (v :: .int j :: .ref a :: rest)) rfl rfl hd
  rw [(own_cl hj).2] at X' W
  exact ⟨T', h', X', e', W, A.set W, st⟩
theorem own_pref {F : Nat → Value} {d : Value} {i j : Nat} : (if j = i then F i else if j < i then F j else d) = if j < i + 1 then F j else d := by
  by_cases u : j = i
  · subst u; simp
  · rw [if_neg u]
    by_cases w : j < i
    · rw [if_pos w, if_pos (by omega)]
    · rw [if_neg w, if_neg (by omega)]
/-! numbers: comparisons by their values -/
theorem o_lt {x y : Int64} (q : x.toInt < y.toInt) : lcmpW x y < (0 : Int32) := (lw_lt _ _).mpr (Int64.lt_iff_toInt_lt.mpr q)
theorem o_nlt {x y : Int64} (q : y.toInt ≤ x.toInt) : ¬ (lcmpW x y < (0 : Int32)) := fun u => by have := Int64.lt_iff_toInt_lt.mp ((lw_lt _ _).mp u); omega
theorem o_gt {x y : Int64} (q : y.toInt < x.toInt) : (0 : Int32) < lcmpW x y := (lw_gt _ _).mpr (Int64.lt_iff_toInt_lt.mpr q)
theorem o_ngt {x y : Int64} (q : x.toInt ≤ y.toInt) : ¬ ((0 : Int32) < lcmpW x y) := fun u => by have := Int64.lt_iff_toInt_lt.mp ((lw_gt _ _).mp u); omega
theorem o_eq {x y : Int64} (q : x.toInt = y.toInt) : lcmpW x y = (0 : Int32) := (lw_eq _ _).mpr (Int64.toInt_inj.mp q)
theorem o_ne {x y : Int64} (q : x.toInt ≠ y.toInt) : ¬ (lcmpW x y = (0 : Int32)) := fun u => q (congrArg Int64.toInt ((lw_eq _ _).mp u))
theorem i_lt {x y : Int32} (q : x.toInt < y.toInt) : x < y := Int32.lt_iff_toInt_lt.mpr q
theorem i_nlt {x y : Int32} (q : y.toInt ≤ x.toInt) : ¬ (x < y) := fun u => by have := Int32.lt_iff_toInt_lt.mp u; omega
theorem i_eq {x y : Int32} (q : x.toInt = y.toInt) : x = y := Int32.toInt_inj.mp q
theorem i_ne {x y : Int32} (q : x.toInt ≠ y.toInt) : ¬ (x = y) := fun u => q (congrArg Int32.toInt u)
theorem i_lt' {x y : Int32} (q : x < y) : x.toInt < y.toInt := Int32.lt_iff_toInt_lt.mp q
theorem i_nlt' {x y : Int32} (q : ¬ (x < y)) : y.toInt ≤ x.toInt := by rw [Int32.lt_iff_toInt_lt] at q; omega
end Own2
theorem pd_0 : parseMethodDescriptor "([D)D" = some ⟨[(.array .double)], some .double⟩ := by decide +kernel
theorem pn_0 : plainName "com/example/depister/depister/eval/PairedTests" = true := by first | (simp [plainName, overriddenIn]; done) | decide +kernel
theorem pn_1 : plainName "com/example/depister/depister/eval/PairedTestsMeanPinLaw" = true := by first | (simp [plainName, overriddenIn]; done) | decide +kernel

/-! ## Sums of few ints are exact in doubles -/
def own_sum (w : Nat → Int64) : Nat → Int64
  | 0 => 0
  | k + 1 => own_sum w k + w k
theorem own_sb {w : Nat → Int64} {n : Nat} (hw : ∀ j, j < n → -2147483648 ≤ (w j).toInt ∧ (w j).toInt < 2147483648) (hn : n ≤ 4) : ∀ k, k ≤ n → -((k : Int) * 2147483648) ≤ (own_sum w k).toInt ∧ (own_sum w k).toInt ≤ (k : Int) * 2147483648 := by
  intro k
  induction k with
  | zero => intro _; exact ⟨(by decide : -(((0 : Nat) : Int) * 2147483648) ≤ (0 : Int64).toInt), (by decide : (0 : Int64).toInt ≤ ((0 : Nat) : Int) * 2147483648)⟩
  | succ k ih =>
    intro hk
    have h1 := ih (by omega)
    have h2 := hw k (by omega)
    have h3 := c_ladd (own_sum w k) (w k)
    have h4 := rng64 (own_sum w k + w k)
    show _ ≤ (own_sum w k + w k).toInt ∧ (own_sum w k + w k).toInt ≤ _
    omega
theorem own_b53 {w : Nat → Int64} {n : Nat} (hw : ∀ j, j < n → -2147483648 ≤ (w j).toInt ∧ (w j).toInt < 2147483648) (hn : n ≤ 4) {k : Nat} (hk : k ≤ n) : B53 (own_sum w k) := by
  have h := own_sb hw hn k hk
  exact ⟨by omega, by omega⟩
theorem own_w53 {w : Nat → Int64} {n : Nat} (hw : ∀ j, j < n → -2147483648 ≤ (w j).toInt ∧ (w j).toInt < 2147483648) {k : Nat} (hk : k < n) : B53 (w k) := by
  have h := hw k hk
  exact ⟨by omega, by omega⟩
theorem own_nn {a b : Int64} (hb : b ≠ 0) : Jvm.Free.Fl.NoNaN64 (FP.ddiv (FP.l2d a) (FP.l2d b)) := ((ddiv_mag (Jvm.Free.Fl.l2d_mag a) (l2d_big hb) (by decide) (by decide)).fin (by decide)).noNaN
theorem own_i2l (x : Int32) : -2147483648 ≤ x.toInt64.toInt ∧ x.toInt64.toInt < 2147483648 := by rw [c_i2l]; exact rng32 x
def own_w (x0 x1 x2 x3 : Int32) : Nat → Int64 := fun j => if j = 0 then x0.toInt64 else if j = 1 then x1.toInt64 else if j = 2 then x2.toInt64 else x3.toInt64
theorem own_wb (x0 x1 x2 x3 : Int32) (j : Nat) : -2147483648 ≤ (own_w x0 x1 x2 x3 j).toInt ∧ (own_w x0 x1 x2 x3 j).toInt < 2147483648 := by
  unfold own_w
  split
  · exact own_i2l _
  · split
    · exact own_i2l _
    · split
      · exact own_i2l _
      · exact own_i2l _
theorem own_z (a : Int64) : 0 + a = a := Int64.zero_add a
theorem own_four {x : Int32} : (x &&& 3) + 1 = 1 ∨ (x &&& 3) + 1 = 2 ∨ (x &&& 3) + 1 = 3 ∨ (x &&& 3) + 1 = 4 := by
  have h := c_and x 3 (by decide)
  have e3 : (3 : Int32).toInt = 3 := rfl
  have e : (x &&& 3).toInt = 0 ∨ (x &&& 3).toInt = 1 ∨ (x &&& 3).toInt = 2 ∨ (x &&& 3).toInt = 3 := by omega
  rcases e with e | e | e | e
  · rw [show x &&& 3 = 0 from Int32.toInt_inj.mp e]; exact Or.inl rfl
  · rw [show x &&& 3 = 1 from Int32.toInt_inj.mp e]; exact Or.inr (Or.inl rfl)
  · rw [show x &&& 3 = 2 from Int32.toInt_inj.mp e]; exact Or.inr (Or.inr (Or.inl rfl))
  · rw [show x &&& 3 = 3 from Int32.toInt_inj.mp e]; exact Or.inr (Or.inr (Or.inr rfl))
theorem own_add {p q : Int32} (h1 : -2147483648 ≤ p.toInt + q.toInt) (h2 : p.toInt + q.toInt < 2147483648) : (p + q).toInt = p.toInt + q.toInt := by
  have := c_iadd p q; have := rng32 (p + q); omega
theorem d1_0 : decode prog_141_method_3_code 0 = .ok (.dconst 0, 1) := by decide +kernel
theorem d1_1 : decode prog_141_method_3_code 1 = .ok (.dstore_n 1, 1) := by decide +kernel
theorem d1_2 : decode prog_141_method_3_code 2 = .ok (.aload_n 0, 1) := by decide +kernel
theorem d1_3 : decode prog_141_method_3_code 3 = .ok (.astore_n 3, 1) := by decide +kernel
theorem d1_4 : decode prog_141_method_3_code 4 = .ok (.aload_n 3, 1) := by decide +kernel
theorem d1_5 : decode prog_141_method_3_code 5 = .ok (.arraylength, 1) := by decide +kernel
theorem d1_6 : decode prog_141_method_3_code 6 = .ok (.istore 4, 2) := by decide +kernel
theorem d1_8 : decode prog_141_method_3_code 8 = .ok (.iconst 0, 1) := by decide +kernel
theorem d1_9 : decode prog_141_method_3_code 9 = .ok (.istore 5, 2) := by decide +kernel
theorem d1_11 : decode prog_141_method_3_code 11 = .ok (.iload 5, 2) := by decide +kernel
theorem d1_13 : decode prog_141_method_3_code 13 = .ok (.iload 4, 2) := by decide +kernel
theorem d1_15 : decode prog_141_method_3_code 15 = .ok (.if_icmp .ge 20, 3) := by decide +kernel
theorem d1_18 : decode prog_141_method_3_code 18 = .ok (.aload_n 3, 1) := by decide +kernel
theorem d1_19 : decode prog_141_method_3_code 19 = .ok (.iload 5, 2) := by decide +kernel
theorem d1_21 : decode prog_141_method_3_code 21 = .ok (.daload, 1) := by decide +kernel
theorem d1_22 : decode prog_141_method_3_code 22 = .ok (.dstore 6, 2) := by decide +kernel
theorem d1_24 : decode prog_141_method_3_code 24 = .ok (.dload_n 1, 1) := by decide +kernel
theorem d1_25 : decode prog_141_method_3_code 25 = .ok (.dload 6, 2) := by decide +kernel
theorem d1_27 : decode prog_141_method_3_code 27 = .ok (.dadd, 1) := by decide +kernel
theorem d1_28 : decode prog_141_method_3_code 28 = .ok (.dstore_n 1, 1) := by decide +kernel
theorem d1_29 : decode prog_141_method_3_code 29 = .ok (.iinc 5 1, 3) := by decide +kernel
theorem d1_32 : decode prog_141_method_3_code 32 = .ok (.goto (-21), 3) := by decide +kernel
theorem d1_35 : decode prog_141_method_3_code 35 = .ok (.dload_n 1, 1) := by decide +kernel
theorem d1_36 : decode prog_141_method_3_code 36 = .ok (.aload_n 0, 1) := by decide +kernel
theorem d1_37 : decode prog_141_method_3_code 37 = .ok (.arraylength, 1) := by decide +kernel
theorem d1_38 : decode prog_141_method_3_code 38 = .ok (.i2d, 1) := by decide +kernel
theorem d1_39 : decode prog_141_method_3_code 39 = .ok (.ddiv, 1) := by decide +kernel
theorem d1_40 : decode prog_141_method_3_code 40 = .ok (.dreturn, 1) := by decide +kernel
set_option maxRecDepth 65536 in
set_option maxHeartbeats 40000000 in
theorem rm_me {l : Launch} {Z : State} {a0 : Array Value} (hw : ∀ d ∈ tables_1, d.before a0 Z = true) (ta : Addr) (n : Nat) (zn : Int32) (w : Nat → Int64) (h0 : Heap) (n0 : Nat) (A_ta : Oar Z h0 ta .double n (fun q => .double (FP.l2d (w q)))) (hn : n ≤ 4) (hzn : zn.toInt = (n : Int)) (hn0 : 0 < n) (hwb : ∀ j, j < n → -2147483648 ≤ (w j).toInt ∧ (w j).toInt < 2147483648) :
    Opays l (⟨"com/example/depister/depister/eval/PairedTests", "mean", "([D)D"⟩ : MethodName) prog_141_method_3_code 8 (some .double) ({ frames := 0, cells := 0, slots := 0, locals := 0 } : Room) [] Z h0 #[(.ref ta)] (fun v h L => v = some (.double (FP.ddiv (FP.l2d (own_sum w n)) (FP.l2d (zn.toInt64)))) ∧ Fr n0 L ∧ h = h0) := by
  refine own_enter (plainFor_of_name pn_0) ?_
  intro p e s m below meth c s₁ hx hby hml0 hown hnm hret hlk hZ e0 X0
  have hml : c.maxLocals = 8 := hml0
  replace hown : s.vm.findClass "com/example/depister/depister/eval/PairedTests" = some m.cls := hown
  have N := Fr.nil n0
  have hef : entryFrame m #[(.ref ta)] 8 = mkF m 0 #[.val (.ref ta), .unset, .unset, .unset, .unset, .unset, .unset, .unset] [] := by first | (simp [entryFrame, mkF, argsToLocals, Value.category]; done) | rfl
  rw [hef]
  show Ogo p e below _ (s₁.setTop (mkF m 0 #[.val (.ref ta), .unset, .unset, .unset, .unset, .unset, .unset, .unset] []))
  have l1 : (1 : Int32).toInt = 1 := rfl
  have hne : zn.toInt64 ≠ 0 := fun q => by have := congrArg Int64.toInt q; rw [c_i2l, hzn] at this; have z : (0 : Int64).toInt = 0 := rfl; omega
  have loop : ∀ (d j : Nat) (iv : Int32) (s6 s7 : Slot), j + d = n → iv.toInt = (j : Int) → ((s6 = .unset ∧ s7 = .unset) ∨ ∃ u, s6 = .val (.double u) ∧ s7 = .second) → Ogo p e below (Onar s ({ frames := 0, cells := 0, slots := 0, locals := 0 } : Room) (fun v h L => v = some (.double (FP.ddiv (FP.l2d (own_sum w n)) (FP.l2d (zn.toInt64)))) ∧ Fr n0 L ∧ h = h0)) (s₁.setTop (mkF m 11 #[.val (.ref ta), .val (.double (FP.l2d (own_sum w j))), .second, .val (.ref ta), .val (.int zn), .val (.int iv), s6, s7] [])) := by
    intro d
    induction d with
    | zero =>
      intro j iv s6 s7 hj hiv hs
      show Ogo p e below _ (s₁.setTop (mkF m 11 #[.val (.ref ta), .val (.double (FP.l2d (own_sum w j))), .second, .val (.ref ta), .val (.int zn), .val (.int iv), s6, s7] []))
      refine own_via (fun tq kq => XS.iload X0.here hx rfl (hb hby d1_11) rfl kq) ?_
      show Ogo p e below _ (s₁.setTop (mkF m 13 #[.val (.ref ta), .val (.double (FP.l2d (own_sum w j))), .second, .val (.ref ta), .val (.int zn), .val (.int iv), s6, s7] [(.int iv)]))
      refine own_via (fun tq kq => XS.iload X0.here hx rfl (hb hby d1_13) rfl kq) ?_
      show Ogo p e below _ (s₁.setTop (mkF m 15 #[.val (.ref ta), .val (.double (FP.l2d (own_sum w j))), .second, .val (.ref ta), .val (.int zn), .val (.int iv), s6, s7] [(.int zn), (.int iv)]))
      refine own_via (fun tq kq => XS.icmpYes X0.here hx rfl (pc0 := 15) (pc' := 35) rfl (hb hby d1_15) rfl (flt (i_nlt (by omega) : ¬ (iv < zn))).2.1 (by decide) (by decide) kq) ?_
      show Ogo p e below _ (s₁.setTop (mkF m 35 #[.val (.ref ta), .val (.double (FP.l2d (own_sum w j))), .second, .val (.ref ta), .val (.int zn), .val (.int iv), s6, s7] []))
      rw [show j = n by omega]
      show Ogo p e below _ (s₁.setTop (mkF m 35 #[.val (.ref ta), .val (.double (FP.l2d (own_sum w n))), .second, .val (.ref ta), .val (.int zn), .val (.int iv), s6, s7] []))
      refine own_via (fun tq kq => XS.dloadN X0.here hx rfl (hb hby d1_35) rfl kq) ?_
      show Ogo p e below _ (s₁.setTop (mkF m 36 #[.val (.ref ta), .val (.double (FP.l2d (own_sum w n))), .second, .val (.ref ta), .val (.int zn), .val (.int iv), s6, s7] [(.double (FP.l2d (own_sum w n)))]))
      refine own_via (fun tq kq => XS.aloadN X0.here hx rfl (hb hby d1_36) rfl rfl kq) ?_
      show Ogo p e below _ (s₁.setTop (mkF m 37 #[.val (.ref ta), .val (.double (FP.l2d (own_sum w n))), .second, .val (.ref ta), .val (.int zn), .val (.int iv), s6, s7] [(.ref ta), (.double (FP.l2d (own_sum w n)))]))
      refine own_alen X0 hx hZ e0 A_ta (z := zn) hzn (hb hby d1_37) ?_
      show Ogo p e below _ (s₁.setTop (mkF m 38 #[.val (.ref ta), .val (.double (FP.l2d (own_sum w n))), .second, .val (.ref ta), .val (.int zn), .val (.int iv), s6, s7] [(.int zn), (.double (FP.l2d (own_sum w n)))]))
      refine own_via (fun tq kq => XS.i2dS X0.here hx rfl (v := FP.l2d (zn.toInt64)) (hb hby d1_38) rfl (i2d_w _) kq) ?_
      show Ogo p e below _ (s₁.setTop (mkF m 39 #[.val (.ref ta), .val (.double (FP.l2d (own_sum w n))), .second, .val (.ref ta), .val (.int zn), .val (.int iv), s6, s7] [(.double (FP.l2d (zn.toInt64))), (.double (FP.l2d (own_sum w n)))]))
      refine own_via (fun tq kq => XS.ddivS X0.here hx rfl (hb hby d1_39) rfl (own_nn hne) rfl kq) ?_
      show Ogo p e below _ (s₁.setTop (mkF m 40 #[.val (.ref ta), .val (.double (FP.l2d (own_sum w n))), .second, .val (.ref ta), .val (.int zn), .val (.int iv), s6, s7] [(.double (FP.ddiv (FP.l2d (own_sum w n)) (FP.l2d (zn.toInt64))))]))
      exact own_out X0 hlk (fun h => by rw [hret] at h; cases h) (by decide) (by decide) (by first | exact ⟨rfl, N, rfl⟩ | (rw [e0]; exact ⟨rfl, N, rfl⟩)) (fun fs hr => own_retD X0 hx hret (hb hby d1_40) hr)
    | succ d ih =>
      intro j iv s6 s7 hj hiv hs
      show Ogo p e below _ (s₁.setTop (mkF m 11 #[.val (.ref ta), .val (.double (FP.l2d (own_sum w j))), .second, .val (.ref ta), .val (.int zn), .val (.int iv), s6, s7] []))
      refine own_via (fun tq kq => XS.iload X0.here hx rfl (hb hby d1_11) rfl kq) ?_
      show Ogo p e below _ (s₁.setTop (mkF m 13 #[.val (.ref ta), .val (.double (FP.l2d (own_sum w j))), .second, .val (.ref ta), .val (.int zn), .val (.int iv), s6, s7] [(.int iv)]))
      refine own_via (fun tq kq => XS.iload X0.here hx rfl (hb hby d1_13) rfl kq) ?_
      show Ogo p e below _ (s₁.setTop (mkF m 15 #[.val (.ref ta), .val (.double (FP.l2d (own_sum w j))), .second, .val (.ref ta), .val (.int zn), .val (.int iv), s6, s7] [(.int zn), (.int iv)]))
      refine own_via (fun tq kq => XS.icmpNo X0.here hx rfl (hb hby d1_15) rfl (tlt (i_lt (by omega) : iv < zn)).2.1 kq) ?_
      show Ogo p e below _ (s₁.setTop (mkF m 18 #[.val (.ref ta), .val (.double (FP.l2d (own_sum w j))), .second, .val (.ref ta), .val (.int zn), .val (.int iv), s6, s7] []))
      refine own_via (fun tq kq => XS.aloadN X0.here hx rfl (hb hby d1_18) rfl rfl kq) ?_
      show Ogo p e below _ (s₁.setTop (mkF m 19 #[.val (.ref ta), .val (.double (FP.l2d (own_sum w j))), .second, .val (.ref ta), .val (.int zn), .val (.int iv), s6, s7] [(.ref ta)]))
      refine own_via (fun tq kq => XS.iload X0.here hx rfl (hb hby d1_19) rfl kq) ?_
      show Ogo p e below _ (s₁.setTop (mkF m 21 #[.val (.ref ta), .val (.double (FP.l2d (own_sum w j))), .second, .val (.ref ta), .val (.int zn), .val (.int iv), s6, s7] [(.int iv), (.ref ta)]))
      refine own_dald X0 hx hZ e0 A_ta (j := iv) (i := j) (v := (.double (FP.l2d (w j)))) hiv (by omega) rfl (hb hby d1_21) ?_
      show Ogo p e below _ (s₁.setTop (mkF m 22 #[.val (.ref ta), .val (.double (FP.l2d (own_sum w j))), .second, .val (.ref ta), .val (.int zn), .val (.int iv), s6, s7] [(.double (FP.l2d (w j)))]))
      rcases hs with ⟨rfl, rfl⟩ | ⟨u, rfl, rfl⟩
      · show Ogo p e below _ (s₁.setTop (mkF m 22 #[.val (.ref ta), .val (.double (FP.l2d (own_sum w j))), .second, .val (.ref ta), .val (.int zn), .val (.int iv), .unset, .unset] [(.double (FP.l2d (w j)))]))
        refine own_via (fun tq kq => XS.dstore X0.here hx rfl (hb hby d1_22) rfl (l' := #[.val (.ref ta), .val (.double (FP.l2d (own_sum w j))), .second, .val (.ref ta), .val (.int zn), .val (.int iv), .val (.double (FP.l2d (w j))), .second]) rfl kq) ?_
        show Ogo p e below _ (s₁.setTop (mkF m 24 #[.val (.ref ta), .val (.double (FP.l2d (own_sum w j))), .second, .val (.ref ta), .val (.int zn), .val (.int iv), .val (.double (FP.l2d (w j))), .second] []))
        refine own_via (fun tq kq => XS.dloadN X0.here hx rfl (hb hby d1_24) rfl kq) ?_
        show Ogo p e below _ (s₁.setTop (mkF m 25 #[.val (.ref ta), .val (.double (FP.l2d (own_sum w j))), .second, .val (.ref ta), .val (.int zn), .val (.int iv), .val (.double (FP.l2d (w j))), .second] [(.double (FP.l2d (own_sum w j)))]))
        refine own_via (fun tq kq => XS.dload X0.here hx rfl (hb hby d1_25) rfl kq) ?_
        show Ogo p e below _ (s₁.setTop (mkF m 27 #[.val (.ref ta), .val (.double (FP.l2d (own_sum w j))), .second, .val (.ref ta), .val (.int zn), .val (.int iv), .val (.double (FP.l2d (w j))), .second] [(.double (FP.l2d (w j))), (.double (FP.l2d (own_sum w j)))]))
        refine own_via (fun tq kq => XS.daddS X0.here hx rfl (hb hby d1_27) rfl (nn_w (dadd_w (own_b53 hwb hn (by omega)) (own_w53 hwb (by omega)))) (dadd_w (own_b53 hwb hn (by omega)) (own_w53 hwb (by omega))) kq) ?_
        show Ogo p e below _ (s₁.setTop (mkF m 28 #[.val (.ref ta), .val (.double (FP.l2d (own_sum w j))), .second, .val (.ref ta), .val (.int zn), .val (.int iv), .val (.double (FP.l2d (w j))), .second] [(.double (FP.l2d ((own_sum w j) + (w j))))]))
        refine own_via (fun tq kq => XS.dstoreN X0.here hx rfl (hb hby d1_28) rfl (l' := #[.val (.ref ta), .val (.double (FP.l2d ((own_sum w j) + (w j)))), .second, .val (.ref ta), .val (.int zn), .val (.int iv), .val (.double (FP.l2d (w j))), .second]) rfl kq) ?_
        show Ogo p e below _ (s₁.setTop (mkF m 29 #[.val (.ref ta), .val (.double (FP.l2d ((own_sum w j) + (w j)))), .second, .val (.ref ta), .val (.int zn), .val (.int iv), .val (.double (FP.l2d (w j))), .second] []))
        refine own_via (fun tq kq => XS.iinc X0.here hx rfl (hb hby d1_29) rfl (l' := #[.val (.ref ta), .val (.double (FP.l2d ((own_sum w j) + (w j)))), .second, .val (.ref ta), .val (.int zn), .val (.int (iv + (1 : Int32))), .val (.double (FP.l2d (w j))), .second]) rfl kq) ?_
        show Ogo p e below _ (s₁.setTop (mkF m 32 #[.val (.ref ta), .val (.double (FP.l2d ((own_sum w j) + (w j)))), .second, .val (.ref ta), .val (.int zn), .val (.int (iv + (1 : Int32))), .val (.double (FP.l2d (w j))), .second] []))
        refine own_via (fun tq kq => XS.goto X0.here hx rfl (pc0 := 32) (pc' := 11) rfl (hb hby d1_32) (by decide) (by decide) kq) ?_
        show Ogo p e below _ (s₁.setTop (mkF m 11 #[.val (.ref ta), .val (.double (FP.l2d ((own_sum w j) + (w j)))), .second, .val (.ref ta), .val (.int zn), .val (.int (iv + (1 : Int32))), .val (.double (FP.l2d (w j))), .second] []))
        exact ih (j + 1) (iv + 1) _ _ (by omega) (by rw [own_add (by omega) (by omega)]; omega) (Or.inr ⟨_, rfl, rfl⟩)
      · show Ogo p e below _ (s₁.setTop (mkF m 22 #[.val (.ref ta), .val (.double (FP.l2d (own_sum w j))), .second, .val (.ref ta), .val (.int zn), .val (.int iv), .val (.double u), .second] [(.double (FP.l2d (w j)))]))
        refine own_via (fun tq kq => XS.dstore X0.here hx rfl (hb hby d1_22) rfl (l' := #[.val (.ref ta), .val (.double (FP.l2d (own_sum w j))), .second, .val (.ref ta), .val (.int zn), .val (.int iv), .val (.double (FP.l2d (w j))), .second]) rfl kq) ?_
        show Ogo p e below _ (s₁.setTop (mkF m 24 #[.val (.ref ta), .val (.double (FP.l2d (own_sum w j))), .second, .val (.ref ta), .val (.int zn), .val (.int iv), .val (.double (FP.l2d (w j))), .second] []))
        refine own_via (fun tq kq => XS.dloadN X0.here hx rfl (hb hby d1_24) rfl kq) ?_
        show Ogo p e below _ (s₁.setTop (mkF m 25 #[.val (.ref ta), .val (.double (FP.l2d (own_sum w j))), .second, .val (.ref ta), .val (.int zn), .val (.int iv), .val (.double (FP.l2d (w j))), .second] [(.double (FP.l2d (own_sum w j)))]))
        refine own_via (fun tq kq => XS.dload X0.here hx rfl (hb hby d1_25) rfl kq) ?_
        show Ogo p e below _ (s₁.setTop (mkF m 27 #[.val (.ref ta), .val (.double (FP.l2d (own_sum w j))), .second, .val (.ref ta), .val (.int zn), .val (.int iv), .val (.double (FP.l2d (w j))), .second] [(.double (FP.l2d (w j))), (.double (FP.l2d (own_sum w j)))]))
        refine own_via (fun tq kq => XS.daddS X0.here hx rfl (hb hby d1_27) rfl (nn_w (dadd_w (own_b53 hwb hn (by omega)) (own_w53 hwb (by omega)))) (dadd_w (own_b53 hwb hn (by omega)) (own_w53 hwb (by omega))) kq) ?_
        show Ogo p e below _ (s₁.setTop (mkF m 28 #[.val (.ref ta), .val (.double (FP.l2d (own_sum w j))), .second, .val (.ref ta), .val (.int zn), .val (.int iv), .val (.double (FP.l2d (w j))), .second] [(.double (FP.l2d ((own_sum w j) + (w j))))]))
        refine own_via (fun tq kq => XS.dstoreN X0.here hx rfl (hb hby d1_28) rfl (l' := #[.val (.ref ta), .val (.double (FP.l2d ((own_sum w j) + (w j)))), .second, .val (.ref ta), .val (.int zn), .val (.int iv), .val (.double (FP.l2d (w j))), .second]) rfl kq) ?_
        show Ogo p e below _ (s₁.setTop (mkF m 29 #[.val (.ref ta), .val (.double (FP.l2d ((own_sum w j) + (w j)))), .second, .val (.ref ta), .val (.int zn), .val (.int iv), .val (.double (FP.l2d (w j))), .second] []))
        refine own_via (fun tq kq => XS.iinc X0.here hx rfl (hb hby d1_29) rfl (l' := #[.val (.ref ta), .val (.double (FP.l2d ((own_sum w j) + (w j)))), .second, .val (.ref ta), .val (.int zn), .val (.int (iv + (1 : Int32))), .val (.double (FP.l2d (w j))), .second]) rfl kq) ?_
        show Ogo p e below _ (s₁.setTop (mkF m 32 #[.val (.ref ta), .val (.double (FP.l2d ((own_sum w j) + (w j)))), .second, .val (.ref ta), .val (.int zn), .val (.int (iv + (1 : Int32))), .val (.double (FP.l2d (w j))), .second] []))
        refine own_via (fun tq kq => XS.goto X0.here hx rfl (pc0 := 32) (pc' := 11) rfl (hb hby d1_32) (by decide) (by decide) kq) ?_
        show Ogo p e below _ (s₁.setTop (mkF m 11 #[.val (.ref ta), .val (.double (FP.l2d ((own_sum w j) + (w j)))), .second, .val (.ref ta), .val (.int zn), .val (.int (iv + (1 : Int32))), .val (.double (FP.l2d (w j))), .second] []))
        exact ih (j + 1) (iv + 1) _ _ (by omega) (by rw [own_add (by omega) (by omega)]; omega) (Or.inr ⟨_, rfl, rfl⟩)
  refine own_via (fun tq kq => XS.dconst0 X0.here hx rfl (v := FP.l2d 0) (hb hby d1_0) l2d_zero.symm kq) ?_
  show Ogo p e below _ (s₁.setTop (mkF m 1 #[.val (.ref ta), .unset, .unset, .unset, .unset, .unset, .unset, .unset] [(.double (FP.l2d 0))]))
  refine own_via (fun tq kq => XS.dstoreN X0.here hx rfl (hb hby d1_1) rfl (l' := #[.val (.ref ta), .val (.double (FP.l2d 0)), .second, .unset, .unset, .unset, .unset, .unset]) rfl kq) ?_
  show Ogo p e below _ (s₁.setTop (mkF m 2 #[.val (.ref ta), .val (.double (FP.l2d 0)), .second, .unset, .unset, .unset, .unset, .unset] []))
  refine own_via (fun tq kq => XS.aloadN X0.here hx rfl (hb hby d1_2) rfl rfl kq) ?_
  show Ogo p e below _ (s₁.setTop (mkF m 3 #[.val (.ref ta), .val (.double (FP.l2d 0)), .second, .unset, .unset, .unset, .unset, .unset] [(.ref ta)]))
  refine own_via (fun tq kq => XS.astoreN X0.here hx rfl (hb hby d1_3) rfl rfl (l' := #[.val (.ref ta), .val (.double (FP.l2d 0)), .second, .val (.ref ta), .unset, .unset, .unset, .unset]) rfl kq) ?_
  show Ogo p e below _ (s₁.setTop (mkF m 4 #[.val (.ref ta), .val (.double (FP.l2d 0)), .second, .val (.ref ta), .unset, .unset, .unset, .unset] []))
  refine own_via (fun tq kq => XS.aloadN X0.here hx rfl (hb hby d1_4) rfl rfl kq) ?_
  show Ogo p e below _ (s₁.setTop (mkF m 5 #[.val (.ref ta), .val (.double (FP.l2d 0)), .second, .val (.ref ta), .unset, .unset, .unset, .unset] [(.ref ta)]))
  refine own_alen X0 hx hZ e0 A_ta (z := zn) hzn (hb hby d1_5) ?_
  show Ogo p e below _ (s₁.setTop (mkF m 6 #[.val (.ref ta), .val (.double (FP.l2d 0)), .second, .val (.ref ta), .unset, .unset, .unset, .unset] [(.int zn)]))
  refine own_via (fun tq kq => XS.istore X0.here hx rfl (hb hby d1_6) rfl (l' := #[.val (.ref ta), .val (.double (FP.l2d 0)), .second, .val (.ref ta), .val (.int zn), .unset, .unset, .unset]) rfl kq) ?_
  show Ogo p e below _ (s₁.setTop (mkF m 8 #[.val (.ref ta), .val (.double (FP.l2d 0)), .second, .val (.ref ta), .val (.int zn), .unset, .unset, .unset] []))
  refine own_via (fun tq kq => XS.iconst X0.here hx rfl (hb hby d1_8) kq) ?_
  show Ogo p e below _ (s₁.setTop (mkF m 9 #[.val (.ref ta), .val (.double (FP.l2d 0)), .second, .val (.ref ta), .val (.int zn), .unset, .unset, .unset] [(.int (0 : Int32))]))
  refine own_via (fun tq kq => XS.istore X0.here hx rfl (hb hby d1_9) rfl (l' := #[.val (.ref ta), .val (.double (FP.l2d 0)), .second, .val (.ref ta), .val (.int zn), .val (.int (0 : Int32)), .unset, .unset]) rfl kq) ?_
  show Ogo p e below _ (s₁.setTop (mkF m 11 #[.val (.ref ta), .val (.double (FP.l2d 0)), .second, .val (.ref ta), .val (.int zn), .val (.int (0 : Int32)), .unset, .unset] []))
  exact loop n 0 0 _ _ (by omega) rfl (Or.inl ⟨rfl, rfl⟩)
set_option maxRecDepth 65536 in
set_option maxHeartbeats 40000000 in
theorem rm_law {l : Launch} {Z : State} {a0 : Array Value} (hw : ∀ d ∈ tables_1, d.before a0 Z = true) (p0 x0 x1 x2 x3 : Int32) (h0 : Heap) (n0 : Nat) (zs : n0 ≤ h0.size) :
    Opays l x code maxLocals ret room_1 tables_1 Z h0 #[(.int p0), (.int x0), (.int x1), (.int x2), (.int x3)] (fun v h L => v = some (.int 1) ∧ Fr n0 L) := by
  refine own_enter (plainFor_of_name pn_1) ?_
  intro p e s m below meth c s₁ hx hby hml0 hown hnm hret hlk hZ e0 X0
  have hml : c.maxLocals = 13 := hml0
  replace hown : s.vm.findClass "com/example/depister/depister/eval/PairedTestsMeanPinLaw" = some m.cls := hown
  have N := Fr.nil n0
  have hef : entryFrame m #[(.int p0), (.int x0), (.int x1), (.int x2), (.int x3)] maxLocals = mkF m 0 #[.val (.int p0), .val (.int x0), .val (.int x1), .val (.int x2), .val (.int x3), .unset, .unset, .unset, .unset, .unset, .unset, .unset, .unset] [] := by first | (simp [entryFrame, mkF, argsToLocals, Value.category, maxLocals]; done) | rfl
  rw [hef]
  show Ogo p e below _ (s₁.setTop (mkF m 0 #[.val (.int p0), .val (.int x0), .val (.int x1), .val (.int x2), .val (.int x3), .unset, .unset, .unset, .unset, .unset, .unset, .unset, .unset] []))
  refine own_via (fun tq kq => XS.iloadN X0.here hx rfl (hb hby at_0) rfl kq) ?_
  show Ogo p e below _ (s₁.setTop (mkF m 1 #[.val (.int p0), .val (.int x0), .val (.int x1), .val (.int x2), .val (.int x3), .unset, .unset, .unset, .unset, .unset, .unset, .unset, .unset] [(.int p0)]))
  refine own_via (fun tq kq => XS.iconst X0.here hx rfl (hb hby at_1) kq) ?_
  show Ogo p e below _ (s₁.setTop (mkF m 2 #[.val (.int p0), .val (.int x0), .val (.int x1), .val (.int x2), .val (.int x3), .unset, .unset, .unset, .unset, .unset, .unset, .unset, .unset] [(.int (3 : Int32)), (.int p0)]))
  refine own_via (fun tq kq => XS.iand X0.here hx rfl (hb hby at_2) rfl kq) ?_
  show Ogo p e below _ (s₁.setTop (mkF m 3 #[.val (.int p0), .val (.int x0), .val (.int x1), .val (.int x2), .val (.int x3), .unset, .unset, .unset, .unset, .unset, .unset, .unset, .unset] [(.int (p0 &&& (3 : Int32)))]))
  refine own_via (fun tq kq => XS.iconst X0.here hx rfl (hb hby at_3) kq) ?_
  show Ogo p e below _ (s₁.setTop (mkF m 4 #[.val (.int p0), .val (.int x0), .val (.int x1), .val (.int x2), .val (.int x3), .unset, .unset, .unset, .unset, .unset, .unset, .unset, .unset] [(.int (1 : Int32)), (.int (p0 &&& (3 : Int32)))]))
  refine own_via (fun tq kq => XS.iadd X0.here hx rfl (hb hby at_4) rfl kq) ?_
  show Ogo p e below _ (s₁.setTop (mkF m 5 #[.val (.int p0), .val (.int x0), .val (.int x1), .val (.int x2), .val (.int x3), .unset, .unset, .unset, .unset, .unset, .unset, .unset, .unset] [(.int ((p0 &&& (3 : Int32)) + (1 : Int32)))]))
  refine own_via (fun tq kq => XS.istore X0.here hx rfl (hb hby at_5) rfl (l' := #[.val (.int p0), .val (.int x0), .val (.int x1), .val (.int x2), .val (.int x3), .val (.int ((p0 &&& (3 : Int32)) + (1 : Int32))), .unset, .unset, .unset, .unset, .unset, .unset, .unset]) rfl kq) ?_
  show Ogo p e below _ (s₁.setTop (mkF m 7 #[.val (.int p0), .val (.int x0), .val (.int x1), .val (.int x2), .val (.int x3), .val (.int ((p0 &&& (3 : Int32)) + (1 : Int32))), .unset, .unset, .unset, .unset, .unset, .unset, .unset] []))
  obtain ⟨kk, hkk⟩ : ∃ z, z = ((p0 &&& (3 : Int32)) + (1 : Int32)) := ⟨_, rfl⟩
  rw [← hkk]
  show Ogo p e below _ (s₁.setTop (mkF m 7 #[.val (.int p0), .val (.int x0), .val (.int x1), .val (.int x2), .val (.int x3), .val (.int kk), .unset, .unset, .unset, .unset, .unset, .unset, .unset] []))
  have h4 : kk = 1 ∨ kk = 2 ∨ kk = 3 ∨ kk = 4 := by rw [hkk]; exact own_four
  rcases h4 with rfl | rfl | rfl | rfl
  · show Ogo p e below _ (s₁.setTop (mkF m 7 #[.val (.int p0), .val (.int x0), .val (.int x1), .val (.int x2), .val (.int x3), .val (.int (1 : Int32)), .unset, .unset, .unset, .unset, .unset, .unset, .unset] []))
    refine own_via (fun tq kq => XS.iload X0.here hx rfl (hb hby at_7) rfl kq) ?_
    show Ogo p e below _ (s₁.setTop (mkF m 9 #[.val (.int p0), .val (.int x0), .val (.int x1), .val (.int x2), .val (.int x3), .val (.int (1 : Int32)), .unset, .unset, .unset, .unset, .unset, .unset, .unset] [(.int (1 : Int32))]))
    refine own_via (fun tq kq => XS.iconst X0.here hx rfl (hb hby at_9) kq) ?_
    show Ogo p e below _ (s₁.setTop (mkF m 10 #[.val (.int p0), .val (.int x0), .val (.int x1), .val (.int x2), .val (.int x3), .val (.int (1 : Int32)), .unset, .unset, .unset, .unset, .unset, .unset, .unset] [(.int (1 : Int32)), (.int (1 : Int32))]))
    refine own_via (fun tq kq => XS.icmpNo X0.here hx rfl (hb hby at_10) rfl (teq (rfl : (1 : Int32) = (1 : Int32))).2 kq) ?_
    show Ogo p e below _ (s₁.setTop (mkF m 13 #[.val (.int p0), .val (.int x0), .val (.int x1), .val (.int x2), .val (.int x3), .val (.int (1 : Int32)), .unset, .unset, .unset, .unset, .unset, .unset, .unset] []))
    refine own_via (fun tq kq => XS.iconst X0.here hx rfl (hb hby at_13) kq) ?_
    show Ogo p e below _ (s₁.setTop (mkF m 14 #[.val (.int p0), .val (.int x0), .val (.int x1), .val (.int x2), .val (.int x3), .val (.int (1 : Int32)), .unset, .unset, .unset, .unset, .unset, .unset, .unset] [(.int (1 : Int32))]))
    obtain ⟨T1, h1, k1, X1, e1, E1, A1, st1⟩ := newP X0 hx hZ (hw _ (List.mem_of_getElem? (i := 0) rfl)) e0 (g := (mkF m 14 #[.val (.int p0), .val (.int x0), .val (.int x1), .val (.int x2), .val (.int x3), .val (.int (1 : Int32)), .unset, .unset, .unset, .unset, .unset, .unset, .unset] [(.int (1 : Int32))])) rfl (hb hby at_14) rfl (by decide) (cap := 1) (by decide) (by decide) (by decide) (by decide)
    refine own_via st1 ?_
    obtain ⟨ta, g1⟩ : ∃ z, z = h0.size := ⟨_, rfl⟩
    rw [← g1]
    rw [← g1] at A1
    have g_ta : n0 ≤ ta := by rw [g1]; exact zs
    have zs := Nat.le_trans zs E1.1
    have A_ta : Oar Z h1 ta .double 1 (fun _ => defaultValue .double) := Oar.new A1 (by decide) rfl
    show Ogo p e below _ (T1.setTop (mkF m 16 #[.val (.int p0), .val (.int x0), .val (.int x1), .val (.int x2), .val (.int x3), .val (.int (1 : Int32)), .unset, .unset, .unset, .unset, .unset, .unset, .unset] [(.ref ta)]))
    refine own_via (fun tq kq => XS.dup X1.here hx rfl (hb hby at_16) rfl rfl kq) ?_
    show Ogo p e below _ (T1.setTop (mkF m 17 #[.val (.int p0), .val (.int x0), .val (.int x1), .val (.int x2), .val (.int x3), .val (.int (1 : Int32)), .unset, .unset, .unset, .unset, .unset, .unset, .unset] [(.ref ta), (.ref ta)]))
    refine own_via (fun tq kq => XS.iconst X1.here hx rfl (hb hby at_17) kq) ?_
    show Ogo p e below _ (T1.setTop (mkF m 18 #[.val (.int p0), .val (.int x0), .val (.int x1), .val (.int x2), .val (.int x3), .val (.int (1 : Int32)), .unset, .unset, .unset, .unset, .unset, .unset, .unset] [(.int (0 : Int32)), (.ref ta), (.ref ta)]))
    refine own_via (fun tq kq => XS.iloadN X1.here hx rfl (hb hby at_18) rfl kq) ?_
    show Ogo p e below _ (T1.setTop (mkF m 19 #[.val (.int p0), .val (.int x0), .val (.int x1), .val (.int x2), .val (.int x3), .val (.int (1 : Int32)), .unset, .unset, .unset, .unset, .unset, .unset, .unset] [(.int x0), (.int (0 : Int32)), (.ref ta), (.ref ta)]))
    refine own_via (fun tq kq => XS.i2dS X1.here hx rfl (v := FP.l2d (x0.toInt64)) (hb hby at_19) rfl (i2d_w _) kq) ?_
    show Ogo p e below _ (T1.setTop (mkF m 20 #[.val (.int p0), .val (.int x0), .val (.int x1), .val (.int x2), .val (.int x3), .val (.int (1 : Int32)), .unset, .unset, .unset, .unset, .unset, .unset, .unset] [(.double (FP.l2d (x0.toInt64))), (.int (0 : Int32)), (.ref ta), (.ref ta)]))
    obtain ⟨T2, h2, X2, e2, W2, A_ta', st2⟩ := own_dast X1 hx hZ e1 A_ta (x := (FP.l2d (x0.toInt64))) (j := (0 : Int32)) (i := 0) (by decide) (by decide) (pc := 20) (Ls := #[.val (.int p0), .val (.int x0), .val (.int x1), .val (.int x2), .val (.int x3), .val (.int (1 : Int32)), .unset, .unset, .unset, .unset, .unset, .unset, .unset]) (rest := [(.ref ta)]) (hb hby at_20)
    refine own_via st2 ?_
    have zs := Nat.le_trans zs (Keep.of_wr W2).1
    have N := Fr.snoc X2 N g_ta
    have A_ta := A_ta'
    show Ogo p e below _ (T2.setTop (mkF m 21 #[.val (.int p0), .val (.int x0), .val (.int x1), .val (.int x2), .val (.int x3), .val (.int (1 : Int32)), .unset, .unset, .unset, .unset, .unset, .unset, .unset] [(.ref ta)]))
    have A_ta := A_ta.cast (f' := fun q => .double (FP.l2d (own_w x0 x1 x2 x3 q))) (by intro j hj; rcases j with _ | _ | _ | _ | j <;> first | omega | simp [own_w])
    refine own_via (fun tq kq => XS.astore X2.here hx rfl (hb hby at_21) rfl rfl (l' := #[.val (.int p0), .val (.int x0), .val (.int x1), .val (.int x2), .val (.int x3), .val (.int (1 : Int32)), .val (.ref ta), .unset, .unset, .unset, .unset, .unset, .unset]) rfl kq) ?_
    show Ogo p e below _ (T2.setTop (mkF m 23 #[.val (.int p0), .val (.int x0), .val (.int x1), .val (.int x2), .val (.int x3), .val (.int (1 : Int32)), .val (.ref ta), .unset, .unset, .unset, .unset, .unset, .unset] []))
    refine own_via (fun tq kq => XS.iloadN X2.here hx rfl (hb hby at_23) rfl kq) ?_
    show Ogo p e below _ (T2.setTop (mkF m 24 #[.val (.int p0), .val (.int x0), .val (.int x1), .val (.int x2), .val (.int x3), .val (.int (1 : Int32)), .val (.ref ta), .unset, .unset, .unset, .unset, .unset, .unset] [(.int x0)]))
    refine own_via (fun tq kq => XS.i2l X2.here hx rfl (hb hby at_24) rfl kq) ?_
    show Ogo p e below _ (T2.setTop (mkF m 25 #[.val (.int p0), .val (.int x0), .val (.int x1), .val (.int x2), .val (.int x3), .val (.int (1 : Int32)), .val (.ref ta), .unset, .unset, .unset, .unset, .unset, .unset] [(.long (x0.toInt64))]))
    refine own_via (fun tq kq => XS.lstore X2.here hx rfl (hb hby at_25) rfl (l' := #[.val (.int p0), .val (.int x0), .val (.int x1), .val (.int x2), .val (.int x3), .val (.int (1 : Int32)), .val (.ref ta), .val (.long (x0.toInt64)), .second, .unset, .unset, .unset, .unset]) rfl kq) ?_
    show Ogo p e below _ (T2.setTop (mkF m 27 #[.val (.int p0), .val (.int x0), .val (.int x1), .val (.int x2), .val (.int x3), .val (.int (1 : Int32)), .val (.ref ta), .val (.long (x0.toInt64)), .second, .unset, .unset, .unset, .unset] []))
    refine own_via (fun tq kq => XS.goto X2.here hx rfl (pc0 := 27) (pc' := 140) rfl (hb hby at_27) (by decide) (by decide) kq) ?_
    show Ogo p e below _ (T2.setTop (mkF m 140 #[.val (.int p0), .val (.int x0), .val (.int x1), .val (.int x2), .val (.int x3), .val (.int (1 : Int32)), .val (.ref ta), .val (.long (x0.toInt64)), .second, .unset, .unset, .unset, .unset] []))
    refine own_via (fun tq kq => XS.aload X2.here hx rfl (hb hby at_140) rfl rfl kq) ?_
    show Ogo p e below _ (T2.setTop (mkF m 142 #[.val (.int p0), .val (.int x0), .val (.int x1), .val (.int x2), .val (.int x3), .val (.int (1 : Int32)), .val (.ref ta), .val (.long (x0.toInt64)), .second, .unset, .unset, .unset, .unset] [(.ref ta)]))
    refine own_callS X2 hx hZ hown (hw _ (List.mem_of_getElem? (i := 1) rfl)) (hw _ (List.mem_of_getElem? (i := 2) rfl)) (hw _ (List.mem_of_getElem? (i := 3) rfl)) (hw _ (List.mem_of_getElem? (i := 4) rfl)) (by decide) (rm_me hw ta 1 (1 : Int32) (own_w x0 x1 x2 x3) h2 n0 A_ta (by decide) rfl (by decide) (fun j _ => own_wb x0 x1 x2 x3 j)) rfl e2 (W := 0) (by decide) (by decide) (by decide) (by decide) (by rw [hml]; rfl) (argsL := [(.ref ta)]) (rest := []) (lenOf pd_0 rfl) rfl (Nat.le_of_eq rfl) (hb hby at_142) ?_
    rintro _ T3 L3 X3 ⟨rfl, Nq, hk⟩
    have N := N.app Nq
    have hk3 := hk
    show Ogo p e below _ (T3.setTop (mkF m 145 #[.val (.int p0), .val (.int x0), .val (.int x1), .val (.int x2), .val (.int x3), .val (.int (1 : Int32)), .val (.ref ta), .val (.long (x0.toInt64)), .second, .unset, .unset, .unset, .unset] [(.double (FP.ddiv (FP.l2d (own_sum (own_w x0 x1 x2 x3) 1)) (FP.l2d ((1 : Int32).toInt64))))]))
    have hsum : own_sum (own_w x0 x1 x2 x3) 1 = (x0.toInt64) := by simp [own_sum, own_w]
    rw [hsum]
    show Ogo p e below _ (T3.setTop (mkF m 145 #[.val (.int p0), .val (.int x0), .val (.int x1), .val (.int x2), .val (.int x3), .val (.int (1 : Int32)), .val (.ref ta), .val (.long (x0.toInt64)), .second, .unset, .unset, .unset, .unset] [(.double (FP.ddiv (FP.l2d (x0.toInt64)) (FP.l2d ((1 : Int32).toInt64))))]))
    refine own_via (fun tq kq => XS.dstore X3.here hx rfl (hb hby at_145) rfl (l' := #[.val (.int p0), .val (.int x0), .val (.int x1), .val (.int x2), .val (.int x3), .val (.int (1 : Int32)), .val (.ref ta), .val (.long (x0.toInt64)), .second, .val (.double (FP.ddiv (FP.l2d (x0.toInt64)) (FP.l2d ((1 : Int32).toInt64)))), .second, .unset, .unset]) rfl kq) ?_
    show Ogo p e below _ (T3.setTop (mkF m 147 #[.val (.int p0), .val (.int x0), .val (.int x1), .val (.int x2), .val (.int x3), .val (.int (1 : Int32)), .val (.ref ta), .val (.long (x0.toInt64)), .second, .val (.double (FP.ddiv (FP.l2d (x0.toInt64)) (FP.l2d ((1 : Int32).toInt64)))), .second, .unset, .unset] []))
    refine own_via (fun tq kq => XS.lload X3.here hx rfl (hb hby at_147) rfl kq) ?_
    show Ogo p e below _ (T3.setTop (mkF m 149 #[.val (.int p0), .val (.int x0), .val (.int x1), .val (.int x2), .val (.int x3), .val (.int (1 : Int32)), .val (.ref ta), .val (.long (x0.toInt64)), .second, .val (.double (FP.ddiv (FP.l2d (x0.toInt64)) (FP.l2d ((1 : Int32).toInt64)))), .second, .unset, .unset] [(.long (x0.toInt64))]))
    refine own_via (fun tq kq => XS.l2dS X3.here hx rfl (hb hby at_149) rfl rfl kq) ?_
    show Ogo p e below _ (T3.setTop (mkF m 150 #[.val (.int p0), .val (.int x0), .val (.int x1), .val (.int x2), .val (.int x3), .val (.int (1 : Int32)), .val (.ref ta), .val (.long (x0.toInt64)), .second, .val (.double (FP.ddiv (FP.l2d (x0.toInt64)) (FP.l2d ((1 : Int32).toInt64)))), .second, .unset, .unset] [(.double (FP.l2d (x0.toInt64)))]))
    refine own_via (fun tq kq => XS.iload X3.here hx rfl (hb hby at_150) rfl kq) ?_
    show Ogo p e below _ (T3.setTop (mkF m 152 #[.val (.int p0), .val (.int x0), .val (.int x1), .val (.int x2), .val (.int x3), .val (.int (1 : Int32)), .val (.ref ta), .val (.long (x0.toInt64)), .second, .val (.double (FP.ddiv (FP.l2d (x0.toInt64)) (FP.l2d ((1 : Int32).toInt64)))), .second, .unset, .unset] [(.int (1 : Int32)), (.double (FP.l2d (x0.toInt64)))]))
    refine own_via (fun tq kq => XS.i2dS X3.here hx rfl (v := FP.l2d ((1 : Int32).toInt64)) (hb hby at_152) rfl (i2d_w _) kq) ?_
    show Ogo p e below _ (T3.setTop (mkF m 153 #[.val (.int p0), .val (.int x0), .val (.int x1), .val (.int x2), .val (.int x3), .val (.int (1 : Int32)), .val (.ref ta), .val (.long (x0.toInt64)), .second, .val (.double (FP.ddiv (FP.l2d (x0.toInt64)) (FP.l2d ((1 : Int32).toInt64)))), .second, .unset, .unset] [(.double (FP.l2d ((1 : Int32).toInt64))), (.double (FP.l2d (x0.toInt64)))]))
    refine own_via (fun tq kq => XS.ddivS X3.here hx rfl (hb hby at_153) rfl (own_nn (by decide)) rfl kq) ?_
    show Ogo p e below _ (T3.setTop (mkF m 154 #[.val (.int p0), .val (.int x0), .val (.int x1), .val (.int x2), .val (.int x3), .val (.int (1 : Int32)), .val (.ref ta), .val (.long (x0.toInt64)), .second, .val (.double (FP.ddiv (FP.l2d (x0.toInt64)) (FP.l2d ((1 : Int32).toInt64)))), .second, .unset, .unset] [(.double (FP.ddiv (FP.l2d (x0.toInt64)) (FP.l2d ((1 : Int32).toInt64))))]))
    refine own_via (fun tq kq => XS.dstore X3.here hx rfl (hb hby at_154) rfl (l' := #[.val (.int p0), .val (.int x0), .val (.int x1), .val (.int x2), .val (.int x3), .val (.int (1 : Int32)), .val (.ref ta), .val (.long (x0.toInt64)), .second, .val (.double (FP.ddiv (FP.l2d (x0.toInt64)) (FP.l2d ((1 : Int32).toInt64)))), .second, .val (.double (FP.ddiv (FP.l2d (x0.toInt64)) (FP.l2d ((1 : Int32).toInt64)))), .second]) rfl kq) ?_
    show Ogo p e below _ (T3.setTop (mkF m 156 #[.val (.int p0), .val (.int x0), .val (.int x1), .val (.int x2), .val (.int x3), .val (.int (1 : Int32)), .val (.ref ta), .val (.long (x0.toInt64)), .second, .val (.double (FP.ddiv (FP.l2d (x0.toInt64)) (FP.l2d ((1 : Int32).toInt64)))), .second, .val (.double (FP.ddiv (FP.l2d (x0.toInt64)) (FP.l2d ((1 : Int32).toInt64)))), .second] []))
    refine own_via (fun tq kq => XS.dload X3.here hx rfl (hb hby at_156) rfl kq) ?_
    show Ogo p e below _ (T3.setTop (mkF m 158 #[.val (.int p0), .val (.int x0), .val (.int x1), .val (.int x2), .val (.int x3), .val (.int (1 : Int32)), .val (.ref ta), .val (.long (x0.toInt64)), .second, .val (.double (FP.ddiv (FP.l2d (x0.toInt64)) (FP.l2d ((1 : Int32).toInt64)))), .second, .val (.double (FP.ddiv (FP.l2d (x0.toInt64)) (FP.l2d ((1 : Int32).toInt64)))), .second] [(.double (FP.ddiv (FP.l2d (x0.toInt64)) (FP.l2d ((1 : Int32).toInt64))))]))
    refine own_via (fun tq kq => XS.dload X3.here hx rfl (hb hby at_158) rfl kq) ?_
    show Ogo p e below _ (T3.setTop (mkF m 160 #[.val (.int p0), .val (.int x0), .val (.int x1), .val (.int x2), .val (.int x3), .val (.int (1 : Int32)), .val (.ref ta), .val (.long (x0.toInt64)), .second, .val (.double (FP.ddiv (FP.l2d (x0.toInt64)) (FP.l2d ((1 : Int32).toInt64)))), .second, .val (.double (FP.ddiv (FP.l2d (x0.toInt64)) (FP.l2d ((1 : Int32).toInt64)))), .second] [(.double (FP.ddiv (FP.l2d (x0.toInt64)) (FP.l2d ((1 : Int32).toInt64)))), (.double (FP.ddiv (FP.l2d (x0.toInt64)) (FP.l2d ((1 : Int32).toInt64))))]))
    refine own_via (fun tq kq => XS.dcmpS X3.here hx rfl (hb hby at_160) rfl (v := (0 : Int32)) (dcmpV_self (own_nn (by decide)) _) kq) ?_
    show Ogo p e below _ (T3.setTop (mkF m 161 #[.val (.int p0), .val (.int x0), .val (.int x1), .val (.int x2), .val (.int x3), .val (.int (1 : Int32)), .val (.ref ta), .val (.long (x0.toInt64)), .second, .val (.double (FP.ddiv (FP.l2d (x0.toInt64)) (FP.l2d ((1 : Int32).toInt64)))), .second, .val (.double (FP.ddiv (FP.l2d (x0.toInt64)) (FP.l2d ((1 : Int32).toInt64)))), .second] [(.int (0 : Int32))]))
    refine own_via (fun tq kq => XS.ifNo X3.here hx rfl (hb hby at_161) rfl ((if0 _ _).trans (teq (rfl : (0 : Int32) = (0 : Int32))).2) kq) ?_
    show Ogo p e below _ (T3.setTop (mkF m 164 #[.val (.int p0), .val (.int x0), .val (.int x1), .val (.int x2), .val (.int x3), .val (.int (1 : Int32)), .val (.ref ta), .val (.long (x0.toInt64)), .second, .val (.double (FP.ddiv (FP.l2d (x0.toInt64)) (FP.l2d ((1 : Int32).toInt64)))), .second, .val (.double (FP.ddiv (FP.l2d (x0.toInt64)) (FP.l2d ((1 : Int32).toInt64)))), .second] []))
    refine own_via (fun tq kq => XS.iconst X3.here hx rfl (hb hby at_164) kq) ?_
    show Ogo p e below _ (T3.setTop (mkF m 165 #[.val (.int p0), .val (.int x0), .val (.int x1), .val (.int x2), .val (.int x3), .val (.int (1 : Int32)), .val (.ref ta), .val (.long (x0.toInt64)), .second, .val (.double (FP.ddiv (FP.l2d (x0.toInt64)) (FP.l2d ((1 : Int32).toInt64)))), .second, .val (.double (FP.ddiv (FP.l2d (x0.toInt64)) (FP.l2d ((1 : Int32).toInt64)))), .second] [(.int (1 : Int32))]))
    refine own_via (fun tq kq => XS.goto X3.here hx rfl (pc0 := 165) (pc' := 169) rfl (hb hby at_165) (by decide) (by decide) kq) ?_
    show Ogo p e below _ (T3.setTop (mkF m 169 #[.val (.int p0), .val (.int x0), .val (.int x1), .val (.int x2), .val (.int x3), .val (.int (1 : Int32)), .val (.ref ta), .val (.long (x0.toInt64)), .second, .val (.double (FP.ddiv (FP.l2d (x0.toInt64)) (FP.l2d ((1 : Int32).toInt64)))), .second, .val (.double (FP.ddiv (FP.l2d (x0.toInt64)) (FP.l2d ((1 : Int32).toInt64)))), .second] [(.int (1 : Int32))]))
    exact own_out X3 hlk (fun h => by rw [hret] at h; cases h) (by decide) (by decide) (by first | exact ⟨rfl, N⟩ | (rw [hk3]; exact ⟨rfl, N⟩)) (fun fs hr => retN X3 hx (t := .boolean) hret (by simp) (hb hby at_169) hr)
  · show Ogo p e below _ (s₁.setTop (mkF m 7 #[.val (.int p0), .val (.int x0), .val (.int x1), .val (.int x2), .val (.int x3), .val (.int (2 : Int32)), .unset, .unset, .unset, .unset, .unset, .unset, .unset] []))
    refine own_via (fun tq kq => XS.iload X0.here hx rfl (hb hby at_7) rfl kq) ?_
    show Ogo p e below _ (s₁.setTop (mkF m 9 #[.val (.int p0), .val (.int x0), .val (.int x1), .val (.int x2), .val (.int x3), .val (.int (2 : Int32)), .unset, .unset, .unset, .unset, .unset, .unset, .unset] [(.int (2 : Int32))]))
    refine own_via (fun tq kq => XS.iconst X0.here hx rfl (hb hby at_9) kq) ?_
    show Ogo p e below _ (s₁.setTop (mkF m 10 #[.val (.int p0), .val (.int x0), .val (.int x1), .val (.int x2), .val (.int x3), .val (.int (2 : Int32)), .unset, .unset, .unset, .unset, .unset, .unset, .unset] [(.int (1 : Int32)), (.int (2 : Int32))]))
    refine own_via (fun tq kq => XS.icmpYes X0.here hx rfl (pc0 := 10) (pc' := 30) rfl (hb hby at_10) rfl (feq ((by decide) : ¬ ((2 : Int32) = (1 : Int32)))).2 (by decide) (by decide) kq) ?_
    show Ogo p e below _ (s₁.setTop (mkF m 30 #[.val (.int p0), .val (.int x0), .val (.int x1), .val (.int x2), .val (.int x3), .val (.int (2 : Int32)), .unset, .unset, .unset, .unset, .unset, .unset, .unset] []))
    refine own_via (fun tq kq => XS.iload X0.here hx rfl (hb hby at_30) rfl kq) ?_
    show Ogo p e below _ (s₁.setTop (mkF m 32 #[.val (.int p0), .val (.int x0), .val (.int x1), .val (.int x2), .val (.int x3), .val (.int (2 : Int32)), .unset, .unset, .unset, .unset, .unset, .unset, .unset] [(.int (2 : Int32))]))
    refine own_via (fun tq kq => XS.iconst X0.here hx rfl (hb hby at_32) kq) ?_
    show Ogo p e below _ (s₁.setTop (mkF m 33 #[.val (.int p0), .val (.int x0), .val (.int x1), .val (.int x2), .val (.int x3), .val (.int (2 : Int32)), .unset, .unset, .unset, .unset, .unset, .unset, .unset] [(.int (2 : Int32)), (.int (2 : Int32))]))
    refine own_via (fun tq kq => XS.icmpNo X0.here hx rfl (hb hby at_33) rfl (teq (rfl : (2 : Int32) = (2 : Int32))).2 kq) ?_
    show Ogo p e below _ (s₁.setTop (mkF m 36 #[.val (.int p0), .val (.int x0), .val (.int x1), .val (.int x2), .val (.int x3), .val (.int (2 : Int32)), .unset, .unset, .unset, .unset, .unset, .unset, .unset] []))
    refine own_via (fun tq kq => XS.iconst X0.here hx rfl (hb hby at_36) kq) ?_
    show Ogo p e below _ (s₁.setTop (mkF m 37 #[.val (.int p0), .val (.int x0), .val (.int x1), .val (.int x2), .val (.int x3), .val (.int (2 : Int32)), .unset, .unset, .unset, .unset, .unset, .unset, .unset] [(.int (2 : Int32))]))
    obtain ⟨T4, h4, k4, X4, e4, E4, A4, st4⟩ := newP X0 hx hZ (hw _ (List.mem_of_getElem? (i := 0) rfl)) e0 (g := (mkF m 37 #[.val (.int p0), .val (.int x0), .val (.int x1), .val (.int x2), .val (.int x3), .val (.int (2 : Int32)), .unset, .unset, .unset, .unset, .unset, .unset, .unset] [(.int (2 : Int32))])) rfl (hb hby at_37) rfl (by decide) (cap := 2) (by decide) (by decide) (by decide) (by decide)
    refine own_via st4 ?_
    obtain ⟨ta, g4⟩ : ∃ z, z = h0.size := ⟨_, rfl⟩
    rw [← g4]
    rw [← g4] at A4
    have g_ta : n0 ≤ ta := by rw [g4]; exact zs
    have zs := Nat.le_trans zs E4.1
    have A_ta : Oar Z h4 ta .double 2 (fun _ => defaultValue .double) := Oar.new A4 (by decide) rfl
    show Ogo p e below _ (T4.setTop (mkF m 39 #[.val (.int p0), .val (.int x0), .val (.int x1), .val (.int x2), .val (.int x3), .val (.int (2 : Int32)), .unset, .unset, .unset, .unset, .unset, .unset, .unset] [(.ref ta)]))
    refine own_via (fun tq kq => XS.dup X4.here hx rfl (hb hby at_39) rfl rfl kq) ?_
    show Ogo p e below _ (T4.setTop (mkF m 40 #[.val (.int p0), .val (.int x0), .val (.int x1), .val (.int x2), .val (.int x3), .val (.int (2 : Int32)), .unset, .unset, .unset, .unset, .unset, .unset, .unset] [(.ref ta), (.ref ta)]))
    refine own_via (fun tq kq => XS.iconst X4.here hx rfl (hb hby at_40) kq) ?_
    show Ogo p e below _ (T4.setTop (mkF m 41 #[.val (.int p0), .val (.int x0), .val (.int x1), .val (.int x2), .val (.int x3), .val (.int (2 : Int32)), .unset, .unset, .unset, .unset, .unset, .unset, .unset] [(.int (0 : Int32)), (.ref ta), (.ref ta)]))
    refine own_via (fun tq kq => XS.iloadN X4.here hx rfl (hb hby at_41) rfl kq) ?_
    show Ogo p e below _ (T4.setTop (mkF m 42 #[.val (.int p0), .val (.int x0), .val (.int x1), .val (.int x2), .val (.int x3), .val (.int (2 : Int32)), .unset, .unset, .unset, .unset, .unset, .unset, .unset] [(.int x0), (.int (0 : Int32)), (.ref ta), (.ref ta)]))
    refine own_via (fun tq kq => XS.i2dS X4.here hx rfl (v := FP.l2d (x0.toInt64)) (hb hby at_42) rfl (i2d_w _) kq) ?_
    show Ogo p e below _ (T4.setTop (mkF m 43 #[.val (.int p0), .val (.int x0), .val (.int x1), .val (.int x2), .val (.int x3), .val (.int (2 : Int32)), .unset, .unset, .unset, .unset, .unset, .unset, .unset] [(.double (FP.l2d (x0.toInt64))), (.int (0 : Int32)), (.ref ta), (.ref ta)]))
    obtain ⟨T5, h5, X5, e5, W5, A_ta', st5⟩ := own_dast X4 hx hZ e4 A_ta (x := (FP.l2d (x0.toInt64))) (j := (0 : Int32)) (i := 0) (by decide) (by decide) (pc := 43) (Ls := #[.val (.int p0), .val (.int x0), .val (.int x1), .val (.int x2), .val (.int x3), .val (.int (2 : Int32)), .unset, .unset, .unset, .unset, .unset, .unset, .unset]) (rest := [(.ref ta)]) (hb hby at_43)
    refine own_via st5 ?_
    have zs := Nat.le_trans zs (Keep.of_wr W5).1
    have N := Fr.snoc X5 N g_ta
    have A_ta := A_ta'
    show Ogo p e below _ (T5.setTop (mkF m 44 #[.val (.int p0), .val (.int x0), .val (.int x1), .val (.int x2), .val (.int x3), .val (.int (2 : Int32)), .unset, .unset, .unset, .unset, .unset, .unset, .unset] [(.ref ta)]))
    refine own_via (fun tq kq => XS.dup X5.here hx rfl (hb hby at_44) rfl rfl kq) ?_
    show Ogo p e below _ (T5.setTop (mkF m 45 #[.val (.int p0), .val (.int x0), .val (.int x1), .val (.int x2), .val (.int x3), .val (.int (2 : Int32)), .unset, .unset, .unset, .unset, .unset, .unset, .unset] [(.ref ta), (.ref ta)]))
    refine own_via (fun tq kq => XS.iconst X5.here hx rfl (hb hby at_45) kq) ?_
    show Ogo p e below _ (T5.setTop (mkF m 46 #[.val (.int p0), .val (.int x0), .val (.int x1), .val (.int x2), .val (.int x3), .val (.int (2 : Int32)), .unset, .unset, .unset, .unset, .unset, .unset, .unset] [(.int (1 : Int32)), (.ref ta), (.ref ta)]))
    refine own_via (fun tq kq => XS.iloadN X5.here hx rfl (hb hby at_46) rfl kq) ?_
    show Ogo p e below _ (T5.setTop (mkF m 47 #[.val (.int p0), .val (.int x0), .val (.int x1), .val (.int x2), .val (.int x3), .val (.int (2 : Int32)), .unset, .unset, .unset, .unset, .unset, .unset, .unset] [(.int x1), (.int (1 : Int32)), (.ref ta), (.ref ta)]))
    refine own_via (fun tq kq => XS.i2dS X5.here hx rfl (v := FP.l2d (x1.toInt64)) (hb hby at_47) rfl (i2d_w _) kq) ?_
    show Ogo p e below _ (T5.setTop (mkF m 48 #[.val (.int p0), .val (.int x0), .val (.int x1), .val (.int x2), .val (.int x3), .val (.int (2 : Int32)), .unset, .unset, .unset, .unset, .unset, .unset, .unset] [(.double (FP.l2d (x1.toInt64))), (.int (1 : Int32)), (.ref ta), (.ref ta)]))
    obtain ⟨T6, h6, X6, e6, W6, A_ta', st6⟩ := own_dast X5 hx hZ e5 A_ta (x := (FP.l2d (x1.toInt64))) (j := (1 : Int32)) (i := 1) (by decide) (by decide) (pc := 48) (Ls := #[.val (.int p0), .val (.int x0), .val (.int x1), .val (.int x2), .val (.int x3), .val (.int (2 : Int32)), .unset, .unset, .unset, .unset, .unset, .unset, .unset]) (rest := [(.ref ta)]) (hb hby at_48)
    refine own_via st6 ?_
    have zs := Nat.le_trans zs (Keep.of_wr W6).1
    have N := Fr.snoc X6 N g_ta
    have A_ta := A_ta'
    show Ogo p e below _ (T6.setTop (mkF m 49 #[.val (.int p0), .val (.int x0), .val (.int x1), .val (.int x2), .val (.int x3), .val (.int (2 : Int32)), .unset, .unset, .unset, .unset, .unset, .unset, .unset] [(.ref ta)]))
    have A_ta := A_ta.cast (f' := fun q => .double (FP.l2d (own_w x0 x1 x2 x3 q))) (by intro j hj; rcases j with _ | _ | _ | _ | j <;> first | omega | simp [own_w])
    refine own_via (fun tq kq => XS.astore X6.here hx rfl (hb hby at_49) rfl rfl (l' := #[.val (.int p0), .val (.int x0), .val (.int x1), .val (.int x2), .val (.int x3), .val (.int (2 : Int32)), .val (.ref ta), .unset, .unset, .unset, .unset, .unset, .unset]) rfl kq) ?_
    show Ogo p e below _ (T6.setTop (mkF m 51 #[.val (.int p0), .val (.int x0), .val (.int x1), .val (.int x2), .val (.int x3), .val (.int (2 : Int32)), .val (.ref ta), .unset, .unset, .unset, .unset, .unset, .unset] []))
    refine own_via (fun tq kq => XS.iloadN X6.here hx rfl (hb hby at_51) rfl kq) ?_
    show Ogo p e below _ (T6.setTop (mkF m 52 #[.val (.int p0), .val (.int x0), .val (.int x1), .val (.int x2), .val (.int x3), .val (.int (2 : Int32)), .val (.ref ta), .unset, .unset, .unset, .unset, .unset, .unset] [(.int x0)]))
    refine own_via (fun tq kq => XS.i2l X6.here hx rfl (hb hby at_52) rfl kq) ?_
    show Ogo p e below _ (T6.setTop (mkF m 53 #[.val (.int p0), .val (.int x0), .val (.int x1), .val (.int x2), .val (.int x3), .val (.int (2 : Int32)), .val (.ref ta), .unset, .unset, .unset, .unset, .unset, .unset] [(.long (x0.toInt64))]))
    refine own_via (fun tq kq => XS.iloadN X6.here hx rfl (hb hby at_53) rfl kq) ?_
    show Ogo p e below _ (T6.setTop (mkF m 54 #[.val (.int p0), .val (.int x0), .val (.int x1), .val (.int x2), .val (.int x3), .val (.int (2 : Int32)), .val (.ref ta), .unset, .unset, .unset, .unset, .unset, .unset] [(.int x1), (.long (x0.toInt64))]))
    refine own_via (fun tq kq => XS.i2l X6.here hx rfl (hb hby at_54) rfl kq) ?_
    show Ogo p e below _ (T6.setTop (mkF m 55 #[.val (.int p0), .val (.int x0), .val (.int x1), .val (.int x2), .val (.int x3), .val (.int (2 : Int32)), .val (.ref ta), .unset, .unset, .unset, .unset, .unset, .unset] [(.long (x1.toInt64)), (.long (x0.toInt64))]))
    refine own_via (fun tq kq => XS.ladd X6.here hx rfl (hb hby at_55) rfl kq) ?_
    show Ogo p e below _ (T6.setTop (mkF m 56 #[.val (.int p0), .val (.int x0), .val (.int x1), .val (.int x2), .val (.int x3), .val (.int (2 : Int32)), .val (.ref ta), .unset, .unset, .unset, .unset, .unset, .unset] [(.long ((x0.toInt64) + (x1.toInt64)))]))
    refine own_via (fun tq kq => XS.lstore X6.here hx rfl (hb hby at_56) rfl (l' := #[.val (.int p0), .val (.int x0), .val (.int x1), .val (.int x2), .val (.int x3), .val (.int (2 : Int32)), .val (.ref ta), .val (.long ((x0.toInt64) + (x1.toInt64))), .second, .unset, .unset, .unset, .unset]) rfl kq) ?_
    show Ogo p e below _ (T6.setTop (mkF m 58 #[.val (.int p0), .val (.int x0), .val (.int x1), .val (.int x2), .val (.int x3), .val (.int (2 : Int32)), .val (.ref ta), .val (.long ((x0.toInt64) + (x1.toInt64))), .second, .unset, .unset, .unset, .unset] []))
    refine own_via (fun tq kq => XS.goto X6.here hx rfl (pc0 := 58) (pc' := 140) rfl (hb hby at_58) (by decide) (by decide) kq) ?_
    show Ogo p e below _ (T6.setTop (mkF m 140 #[.val (.int p0), .val (.int x0), .val (.int x1), .val (.int x2), .val (.int x3), .val (.int (2 : Int32)), .val (.ref ta), .val (.long ((x0.toInt64) + (x1.toInt64))), .second, .unset, .unset, .unset, .unset] []))
    refine own_via (fun tq kq => XS.aload X6.here hx rfl (hb hby at_140) rfl rfl kq) ?_
    show Ogo p e below _ (T6.setTop (mkF m 142 #[.val (.int p0), .val (.int x0), .val (.int x1), .val (.int x2), .val (.int x3), .val (.int (2 : Int32)), .val (.ref ta), .val (.long ((x0.toInt64) + (x1.toInt64))), .second, .unset, .unset, .unset, .unset] [(.ref ta)]))
    refine own_callS X6 hx hZ hown (hw _ (List.mem_of_getElem? (i := 1) rfl)) (hw _ (List.mem_of_getElem? (i := 2) rfl)) (hw _ (List.mem_of_getElem? (i := 3) rfl)) (hw _ (List.mem_of_getElem? (i := 4) rfl)) (by decide) (rm_me hw ta 2 (2 : Int32) (own_w x0 x1 x2 x3) h6 n0 A_ta (by decide) rfl (by decide) (fun j _ => own_wb x0 x1 x2 x3 j)) rfl e6 (W := 0) (by decide) (by decide) (by decide) (by decide) (by rw [hml]; rfl) (argsL := [(.ref ta)]) (rest := []) (lenOf pd_0 rfl) rfl (Nat.le_of_eq rfl) (hb hby at_142) ?_
    rintro _ T7 L7 X7 ⟨rfl, Nq, hk⟩
    have N := N.app Nq
    have hk7 := hk
    show Ogo p e below _ (T7.setTop (mkF m 145 #[.val (.int p0), .val (.int x0), .val (.int x1), .val (.int x2), .val (.int x3), .val (.int (2 : Int32)), .val (.ref ta), .val (.long ((x0.toInt64) + (x1.toInt64))), .second, .unset, .unset, .unset, .unset] [(.double (FP.ddiv (FP.l2d (own_sum (own_w x0 x1 x2 x3) 2)) (FP.l2d ((2 : Int32).toInt64))))]))
    have hsum : own_sum (own_w x0 x1 x2 x3) 2 = ((x0.toInt64) + (x1.toInt64)) := by simp [own_sum, own_w]
    rw [hsum]
    show Ogo p e below _ (T7.setTop (mkF m 145 #[.val (.int p0), .val (.int x0), .val (.int x1), .val (.int x2), .val (.int x3), .val (.int (2 : Int32)), .val (.ref ta), .val (.long ((x0.toInt64) + (x1.toInt64))), .second, .unset, .unset, .unset, .unset] [(.double (FP.ddiv (FP.l2d ((x0.toInt64) + (x1.toInt64))) (FP.l2d ((2 : Int32).toInt64))))]))
    refine own_via (fun tq kq => XS.dstore X7.here hx rfl (hb hby at_145) rfl (l' := #[.val (.int p0), .val (.int x0), .val (.int x1), .val (.int x2), .val (.int x3), .val (.int (2 : Int32)), .val (.ref ta), .val (.long ((x0.toInt64) + (x1.toInt64))), .second, .val (.double (FP.ddiv (FP.l2d ((x0.toInt64) + (x1.toInt64))) (FP.l2d ((2 : Int32).toInt64)))), .second, .unset, .unset]) rfl kq) ?_
    show Ogo p e below _ (T7.setTop (mkF m 147 #[.val (.int p0), .val (.int x0), .val (.int x1), .val (.int x2), .val (.int x3), .val (.int (2 : Int32)), .val (.ref ta), .val (.long ((x0.toInt64) + (x1.toInt64))), .second, .val (.double (FP.ddiv (FP.l2d ((x0.toInt64) + (x1.toInt64))) (FP.l2d ((2 : Int32).toInt64)))), .second, .unset, .unset] []))
    refine own_via (fun tq kq => XS.lload X7.here hx rfl (hb hby at_147) rfl kq) ?_
    show Ogo p e below _ (T7.setTop (mkF m 149 #[.val (.int p0), .val (.int x0), .val (.int x1), .val (.int x2), .val (.int x3), .val (.int (2 : Int32)), .val (.ref ta), .val (.long ((x0.toInt64) + (x1.toInt64))), .second, .val (.double (FP.ddiv (FP.l2d ((x0.toInt64) + (x1.toInt64))) (FP.l2d ((2 : Int32).toInt64)))), .second, .unset, .unset] [(.long ((x0.toInt64) + (x1.toInt64)))]))
    refine own_via (fun tq kq => XS.l2dS X7.here hx rfl (hb hby at_149) rfl rfl kq) ?_
    show Ogo p e below _ (T7.setTop (mkF m 150 #[.val (.int p0), .val (.int x0), .val (.int x1), .val (.int x2), .val (.int x3), .val (.int (2 : Int32)), .val (.ref ta), .val (.long ((x0.toInt64) + (x1.toInt64))), .second, .val (.double (FP.ddiv (FP.l2d ((x0.toInt64) + (x1.toInt64))) (FP.l2d ((2 : Int32).toInt64)))), .second, .unset, .unset] [(.double (FP.l2d ((x0.toInt64) + (x1.toInt64))))]))
    refine own_via (fun tq kq => XS.iload X7.here hx rfl (hb hby at_150) rfl kq) ?_
    show Ogo p e below _ (T7.setTop (mkF m 152 #[.val (.int p0), .val (.int x0), .val (.int x1), .val (.int x2), .val (.int x3), .val (.int (2 : Int32)), .val (.ref ta), .val (.long ((x0.toInt64) + (x1.toInt64))), .second, .val (.double (FP.ddiv (FP.l2d ((x0.toInt64) + (x1.toInt64))) (FP.l2d ((2 : Int32).toInt64)))), .second, .unset, .unset] [(.int (2 : Int32)), (.double (FP.l2d ((x0.toInt64) + (x1.toInt64))))]))
    refine own_via (fun tq kq => XS.i2dS X7.here hx rfl (v := FP.l2d ((2 : Int32).toInt64)) (hb hby at_152) rfl (i2d_w _) kq) ?_
    show Ogo p e below _ (T7.setTop (mkF m 153 #[.val (.int p0), .val (.int x0), .val (.int x1), .val (.int x2), .val (.int x3), .val (.int (2 : Int32)), .val (.ref ta), .val (.long ((x0.toInt64) + (x1.toInt64))), .second, .val (.double (FP.ddiv (FP.l2d ((x0.toInt64) + (x1.toInt64))) (FP.l2d ((2 : Int32).toInt64)))), .second, .unset, .unset] [(.double (FP.l2d ((2 : Int32).toInt64))), (.double (FP.l2d ((x0.toInt64) + (x1.toInt64))))]))
    refine own_via (fun tq kq => XS.ddivS X7.here hx rfl (hb hby at_153) rfl (own_nn (by decide)) rfl kq) ?_
    show Ogo p e below _ (T7.setTop (mkF m 154 #[.val (.int p0), .val (.int x0), .val (.int x1), .val (.int x2), .val (.int x3), .val (.int (2 : Int32)), .val (.ref ta), .val (.long ((x0.toInt64) + (x1.toInt64))), .second, .val (.double (FP.ddiv (FP.l2d ((x0.toInt64) + (x1.toInt64))) (FP.l2d ((2 : Int32).toInt64)))), .second, .unset, .unset] [(.double (FP.ddiv (FP.l2d ((x0.toInt64) + (x1.toInt64))) (FP.l2d ((2 : Int32).toInt64))))]))
    refine own_via (fun tq kq => XS.dstore X7.here hx rfl (hb hby at_154) rfl (l' := #[.val (.int p0), .val (.int x0), .val (.int x1), .val (.int x2), .val (.int x3), .val (.int (2 : Int32)), .val (.ref ta), .val (.long ((x0.toInt64) + (x1.toInt64))), .second, .val (.double (FP.ddiv (FP.l2d ((x0.toInt64) + (x1.toInt64))) (FP.l2d ((2 : Int32).toInt64)))), .second, .val (.double (FP.ddiv (FP.l2d ((x0.toInt64) + (x1.toInt64))) (FP.l2d ((2 : Int32).toInt64)))), .second]) rfl kq) ?_
    show Ogo p e below _ (T7.setTop (mkF m 156 #[.val (.int p0), .val (.int x0), .val (.int x1), .val (.int x2), .val (.int x3), .val (.int (2 : Int32)), .val (.ref ta), .val (.long ((x0.toInt64) + (x1.toInt64))), .second, .val (.double (FP.ddiv (FP.l2d ((x0.toInt64) + (x1.toInt64))) (FP.l2d ((2 : Int32).toInt64)))), .second, .val (.double (FP.ddiv (FP.l2d ((x0.toInt64) + (x1.toInt64))) (FP.l2d ((2 : Int32).toInt64)))), .second] []))
    refine own_via (fun tq kq => XS.dload X7.here hx rfl (hb hby at_156) rfl kq) ?_
    show Ogo p e below _ (T7.setTop (mkF m 158 #[.val (.int p0), .val (.int x0), .val (.int x1), .val (.int x2), .val (.int x3), .val (.int (2 : Int32)), .val (.ref ta), .val (.long ((x0.toInt64) + (x1.toInt64))), .second, .val (.double (FP.ddiv (FP.l2d ((x0.toInt64) + (x1.toInt64))) (FP.l2d ((2 : Int32).toInt64)))), .second, .val (.double (FP.ddiv (FP.l2d ((x0.toInt64) + (x1.toInt64))) (FP.l2d ((2 : Int32).toInt64)))), .second] [(.double (FP.ddiv (FP.l2d ((x0.toInt64) + (x1.toInt64))) (FP.l2d ((2 : Int32).toInt64))))]))
    refine own_via (fun tq kq => XS.dload X7.here hx rfl (hb hby at_158) rfl kq) ?_
    show Ogo p e below _ (T7.setTop (mkF m 160 #[.val (.int p0), .val (.int x0), .val (.int x1), .val (.int x2), .val (.int x3), .val (.int (2 : Int32)), .val (.ref ta), .val (.long ((x0.toInt64) + (x1.toInt64))), .second, .val (.double (FP.ddiv (FP.l2d ((x0.toInt64) + (x1.toInt64))) (FP.l2d ((2 : Int32).toInt64)))), .second, .val (.double (FP.ddiv (FP.l2d ((x0.toInt64) + (x1.toInt64))) (FP.l2d ((2 : Int32).toInt64)))), .second] [(.double (FP.ddiv (FP.l2d ((x0.toInt64) + (x1.toInt64))) (FP.l2d ((2 : Int32).toInt64)))), (.double (FP.ddiv (FP.l2d ((x0.toInt64) + (x1.toInt64))) (FP.l2d ((2 : Int32).toInt64))))]))
    refine own_via (fun tq kq => XS.dcmpS X7.here hx rfl (hb hby at_160) rfl (v := (0 : Int32)) (dcmpV_self (own_nn (by decide)) _) kq) ?_
    show Ogo p e below _ (T7.setTop (mkF m 161 #[.val (.int p0), .val (.int x0), .val (.int x1), .val (.int x2), .val (.int x3), .val (.int (2 : Int32)), .val (.ref ta), .val (.long ((x0.toInt64) + (x1.toInt64))), .second, .val (.double (FP.ddiv (FP.l2d ((x0.toInt64) + (x1.toInt64))) (FP.l2d ((2 : Int32).toInt64)))), .second, .val (.double (FP.ddiv (FP.l2d ((x0.toInt64) + (x1.toInt64))) (FP.l2d ((2 : Int32).toInt64)))), .second] [(.int (0 : Int32))]))
    refine own_via (fun tq kq => XS.ifNo X7.here hx rfl (hb hby at_161) rfl ((if0 _ _).trans (teq (rfl : (0 : Int32) = (0 : Int32))).2) kq) ?_
    show Ogo p e below _ (T7.setTop (mkF m 164 #[.val (.int p0), .val (.int x0), .val (.int x1), .val (.int x2), .val (.int x3), .val (.int (2 : Int32)), .val (.ref ta), .val (.long ((x0.toInt64) + (x1.toInt64))), .second, .val (.double (FP.ddiv (FP.l2d ((x0.toInt64) + (x1.toInt64))) (FP.l2d ((2 : Int32).toInt64)))), .second, .val (.double (FP.ddiv (FP.l2d ((x0.toInt64) + (x1.toInt64))) (FP.l2d ((2 : Int32).toInt64)))), .second] []))
    refine own_via (fun tq kq => XS.iconst X7.here hx rfl (hb hby at_164) kq) ?_
    show Ogo p e below _ (T7.setTop (mkF m 165 #[.val (.int p0), .val (.int x0), .val (.int x1), .val (.int x2), .val (.int x3), .val (.int (2 : Int32)), .val (.ref ta), .val (.long ((x0.toInt64) + (x1.toInt64))), .second, .val (.double (FP.ddiv (FP.l2d ((x0.toInt64) + (x1.toInt64))) (FP.l2d ((2 : Int32).toInt64)))), .second, .val (.double (FP.ddiv (FP.l2d ((x0.toInt64) + (x1.toInt64))) (FP.l2d ((2 : Int32).toInt64)))), .second] [(.int (1 : Int32))]))
    refine own_via (fun tq kq => XS.goto X7.here hx rfl (pc0 := 165) (pc' := 169) rfl (hb hby at_165) (by decide) (by decide) kq) ?_
    show Ogo p e below _ (T7.setTop (mkF m 169 #[.val (.int p0), .val (.int x0), .val (.int x1), .val (.int x2), .val (.int x3), .val (.int (2 : Int32)), .val (.ref ta), .val (.long ((x0.toInt64) + (x1.toInt64))), .second, .val (.double (FP.ddiv (FP.l2d ((x0.toInt64) + (x1.toInt64))) (FP.l2d ((2 : Int32).toInt64)))), .second, .val (.double (FP.ddiv (FP.l2d ((x0.toInt64) + (x1.toInt64))) (FP.l2d ((2 : Int32).toInt64)))), .second] [(.int (1 : Int32))]))
    exact own_out X7 hlk (fun h => by rw [hret] at h; cases h) (by decide) (by decide) (by first | exact ⟨rfl, N⟩ | (rw [hk7]; exact ⟨rfl, N⟩)) (fun fs hr => retN X7 hx (t := .boolean) hret (by simp) (hb hby at_169) hr)
  · show Ogo p e below _ (s₁.setTop (mkF m 7 #[.val (.int p0), .val (.int x0), .val (.int x1), .val (.int x2), .val (.int x3), .val (.int (3 : Int32)), .unset, .unset, .unset, .unset, .unset, .unset, .unset] []))
    refine own_via (fun tq kq => XS.iload X0.here hx rfl (hb hby at_7) rfl kq) ?_
    show Ogo p e below _ (s₁.setTop (mkF m 9 #[.val (.int p0), .val (.int x0), .val (.int x1), .val (.int x2), .val (.int x3), .val (.int (3 : Int32)), .unset, .unset, .unset, .unset, .unset, .unset, .unset] [(.int (3 : Int32))]))
    refine own_via (fun tq kq => XS.iconst X0.here hx rfl (hb hby at_9) kq) ?_
    show Ogo p e below _ (s₁.setTop (mkF m 10 #[.val (.int p0), .val (.int x0), .val (.int x1), .val (.int x2), .val (.int x3), .val (.int (3 : Int32)), .unset, .unset, .unset, .unset, .unset, .unset, .unset] [(.int (1 : Int32)), (.int (3 : Int32))]))
    refine own_via (fun tq kq => XS.icmpYes X0.here hx rfl (pc0 := 10) (pc' := 30) rfl (hb hby at_10) rfl (feq ((by decide) : ¬ ((3 : Int32) = (1 : Int32)))).2 (by decide) (by decide) kq) ?_
    show Ogo p e below _ (s₁.setTop (mkF m 30 #[.val (.int p0), .val (.int x0), .val (.int x1), .val (.int x2), .val (.int x3), .val (.int (3 : Int32)), .unset, .unset, .unset, .unset, .unset, .unset, .unset] []))
    refine own_via (fun tq kq => XS.iload X0.here hx rfl (hb hby at_30) rfl kq) ?_
    show Ogo p e below _ (s₁.setTop (mkF m 32 #[.val (.int p0), .val (.int x0), .val (.int x1), .val (.int x2), .val (.int x3), .val (.int (3 : Int32)), .unset, .unset, .unset, .unset, .unset, .unset, .unset] [(.int (3 : Int32))]))
    refine own_via (fun tq kq => XS.iconst X0.here hx rfl (hb hby at_32) kq) ?_
    show Ogo p e below _ (s₁.setTop (mkF m 33 #[.val (.int p0), .val (.int x0), .val (.int x1), .val (.int x2), .val (.int x3), .val (.int (3 : Int32)), .unset, .unset, .unset, .unset, .unset, .unset, .unset] [(.int (2 : Int32)), (.int (3 : Int32))]))
    refine own_via (fun tq kq => XS.icmpYes X0.here hx rfl (pc0 := 33) (pc' := 61) rfl (hb hby at_33) rfl (feq ((by decide) : ¬ ((3 : Int32) = (2 : Int32)))).2 (by decide) (by decide) kq) ?_
    show Ogo p e below _ (s₁.setTop (mkF m 61 #[.val (.int p0), .val (.int x0), .val (.int x1), .val (.int x2), .val (.int x3), .val (.int (3 : Int32)), .unset, .unset, .unset, .unset, .unset, .unset, .unset] []))
    refine own_via (fun tq kq => XS.iload X0.here hx rfl (hb hby at_61) rfl kq) ?_
    show Ogo p e below _ (s₁.setTop (mkF m 63 #[.val (.int p0), .val (.int x0), .val (.int x1), .val (.int x2), .val (.int x3), .val (.int (3 : Int32)), .unset, .unset, .unset, .unset, .unset, .unset, .unset] [(.int (3 : Int32))]))
    refine own_via (fun tq kq => XS.iconst X0.here hx rfl (hb hby at_63) kq) ?_
    show Ogo p e below _ (s₁.setTop (mkF m 64 #[.val (.int p0), .val (.int x0), .val (.int x1), .val (.int x2), .val (.int x3), .val (.int (3 : Int32)), .unset, .unset, .unset, .unset, .unset, .unset, .unset] [(.int (3 : Int32)), (.int (3 : Int32))]))
    refine own_via (fun tq kq => XS.icmpNo X0.here hx rfl (hb hby at_64) rfl (teq (rfl : (3 : Int32) = (3 : Int32))).2 kq) ?_
    show Ogo p e below _ (s₁.setTop (mkF m 67 #[.val (.int p0), .val (.int x0), .val (.int x1), .val (.int x2), .val (.int x3), .val (.int (3 : Int32)), .unset, .unset, .unset, .unset, .unset, .unset, .unset] []))
    refine own_via (fun tq kq => XS.iconst X0.here hx rfl (hb hby at_67) kq) ?_
    show Ogo p e below _ (s₁.setTop (mkF m 68 #[.val (.int p0), .val (.int x0), .val (.int x1), .val (.int x2), .val (.int x3), .val (.int (3 : Int32)), .unset, .unset, .unset, .unset, .unset, .unset, .unset] [(.int (3 : Int32))]))
    obtain ⟨T8, h8, k8, X8, e8, E8, A8, st8⟩ := newP X0 hx hZ (hw _ (List.mem_of_getElem? (i := 0) rfl)) e0 (g := (mkF m 68 #[.val (.int p0), .val (.int x0), .val (.int x1), .val (.int x2), .val (.int x3), .val (.int (3 : Int32)), .unset, .unset, .unset, .unset, .unset, .unset, .unset] [(.int (3 : Int32))])) rfl (hb hby at_68) rfl (by decide) (cap := 3) (by decide) (by decide) (by decide) (by decide)
    refine own_via st8 ?_
    obtain ⟨ta, g8⟩ : ∃ z, z = h0.size := ⟨_, rfl⟩
    rw [← g8]
    rw [← g8] at A8
    have g_ta : n0 ≤ ta := by rw [g8]; exact zs
    have zs := Nat.le_trans zs E8.1
    have A_ta : Oar Z h8 ta .double 3 (fun _ => defaultValue .double) := Oar.new A8 (by decide) rfl
    show Ogo p e below _ (T8.setTop (mkF m 70 #[.val (.int p0), .val (.int x0), .val (.int x1), .val (.int x2), .val (.int x3), .val (.int (3 : Int32)), .unset, .unset, .unset, .unset, .unset, .unset, .unset] [(.ref ta)]))
    refine own_via (fun tq kq => XS.dup X8.here hx rfl (hb hby at_70) rfl rfl kq) ?_
    show Ogo p e below _ (T8.setTop (mkF m 71 #[.val (.int p0), .val (.int x0), .val (.int x1), .val (.int x2), .val (.int x3), .val (.int (3 : Int32)), .unset, .unset, .unset, .unset, .unset, .unset, .unset] [(.ref ta), (.ref ta)]))
    refine own_via (fun tq kq => XS.iconst X8.here hx rfl (hb hby at_71) kq) ?_
    show Ogo p e below _ (T8.setTop (mkF m 72 #[.val (.int p0), .val (.int x0), .val (.int x1), .val (.int x2), .val (.int x3), .val (.int (3 : Int32)), .unset, .unset, .unset, .unset, .unset, .unset, .unset] [(.int (0 : Int32)), (.ref ta), (.ref ta)]))
    refine own_via (fun tq kq => XS.iloadN X8.here hx rfl (hb hby at_72) rfl kq) ?_
    show Ogo p e below _ (T8.setTop (mkF m 73 #[.val (.int p0), .val (.int x0), .val (.int x1), .val (.int x2), .val (.int x3), .val (.int (3 : Int32)), .unset, .unset, .unset, .unset, .unset, .unset, .unset] [(.int x0), (.int (0 : Int32)), (.ref ta), (.ref ta)]))
    refine own_via (fun tq kq => XS.i2dS X8.here hx rfl (v := FP.l2d (x0.toInt64)) (hb hby at_73) rfl (i2d_w _) kq) ?_
    show Ogo p e below _ (T8.setTop (mkF m 74 #[.val (.int p0), .val (.int x0), .val (.int x1), .val (.int x2), .val (.int x3), .val (.int (3 : Int32)), .unset, .unset, .unset, .unset, .unset, .unset, .unset] [(.double (FP.l2d (x0.toInt64))), (.int (0 : Int32)), (.ref ta), (.ref ta)]))
    obtain ⟨T9, h9, X9, e9, W9, A_ta', st9⟩ := own_dast X8 hx hZ e8 A_ta (x := (FP.l2d (x0.toInt64))) (j := (0 : Int32)) (i := 0) (by decide) (by decide) (pc := 74) (Ls := #[.val (.int p0), .val (.int x0), .val (.int x1), .val (.int x2), .val (.int x3), .val (.int (3 : Int32)), .unset, .unset, .unset, .unset, .unset, .unset, .unset]) (rest := [(.ref ta)]) (hb hby at_74)
    refine own_via st9 ?_
    have zs := Nat.le_trans zs (Keep.of_wr W9).1
    have N := Fr.snoc X9 N g_ta
    have A_ta := A_ta'
    show Ogo p e below _ (T9.setTop (mkF m 75 #[.val (.int p0), .val (.int x0), .val (.int x1), .val (.int x2), .val (.int x3), .val (.int (3 : Int32)), .unset, .unset, .unset, .unset, .unset, .unset, .unset] [(.ref ta)]))
    refine own_via (fun tq kq => XS.dup X9.here hx rfl (hb hby at_75) rfl rfl kq) ?_
    show Ogo p e below _ (T9.setTop (mkF m 76 #[.val (.int p0), .val (.int x0), .val (.int x1), .val (.int x2), .val (.int x3), .val (.int (3 : Int32)), .unset, .unset, .unset, .unset, .unset, .unset, .unset] [(.ref ta), (.ref ta)]))
    refine own_via (fun tq kq => XS.iconst X9.here hx rfl (hb hby at_76) kq) ?_
    show Ogo p e below _ (T9.setTop (mkF m 77 #[.val (.int p0), .val (.int x0), .val (.int x1), .val (.int x2), .val (.int x3), .val (.int (3 : Int32)), .unset, .unset, .unset, .unset, .unset, .unset, .unset] [(.int (1 : Int32)), (.ref ta), (.ref ta)]))
    refine own_via (fun tq kq => XS.iloadN X9.here hx rfl (hb hby at_77) rfl kq) ?_
    show Ogo p e below _ (T9.setTop (mkF m 78 #[.val (.int p0), .val (.int x0), .val (.int x1), .val (.int x2), .val (.int x3), .val (.int (3 : Int32)), .unset, .unset, .unset, .unset, .unset, .unset, .unset] [(.int x1), (.int (1 : Int32)), (.ref ta), (.ref ta)]))
    refine own_via (fun tq kq => XS.i2dS X9.here hx rfl (v := FP.l2d (x1.toInt64)) (hb hby at_78) rfl (i2d_w _) kq) ?_
    show Ogo p e below _ (T9.setTop (mkF m 79 #[.val (.int p0), .val (.int x0), .val (.int x1), .val (.int x2), .val (.int x3), .val (.int (3 : Int32)), .unset, .unset, .unset, .unset, .unset, .unset, .unset] [(.double (FP.l2d (x1.toInt64))), (.int (1 : Int32)), (.ref ta), (.ref ta)]))
    obtain ⟨T10, h10, X10, e10, W10, A_ta', st10⟩ := own_dast X9 hx hZ e9 A_ta (x := (FP.l2d (x1.toInt64))) (j := (1 : Int32)) (i := 1) (by decide) (by decide) (pc := 79) (Ls := #[.val (.int p0), .val (.int x0), .val (.int x1), .val (.int x2), .val (.int x3), .val (.int (3 : Int32)), .unset, .unset, .unset, .unset, .unset, .unset, .unset]) (rest := [(.ref ta)]) (hb hby at_79)
    refine own_via st10 ?_
    have zs := Nat.le_trans zs (Keep.of_wr W10).1
    have N := Fr.snoc X10 N g_ta
    have A_ta := A_ta'
    show Ogo p e below _ (T10.setTop (mkF m 80 #[.val (.int p0), .val (.int x0), .val (.int x1), .val (.int x2), .val (.int x3), .val (.int (3 : Int32)), .unset, .unset, .unset, .unset, .unset, .unset, .unset] [(.ref ta)]))
    refine own_via (fun tq kq => XS.dup X10.here hx rfl (hb hby at_80) rfl rfl kq) ?_
    show Ogo p e below _ (T10.setTop (mkF m 81 #[.val (.int p0), .val (.int x0), .val (.int x1), .val (.int x2), .val (.int x3), .val (.int (3 : Int32)), .unset, .unset, .unset, .unset, .unset, .unset, .unset] [(.ref ta), (.ref ta)]))
    refine own_via (fun tq kq => XS.iconst X10.here hx rfl (hb hby at_81) kq) ?_
    show Ogo p e below _ (T10.setTop (mkF m 82 #[.val (.int p0), .val (.int x0), .val (.int x1), .val (.int x2), .val (.int x3), .val (.int (3 : Int32)), .unset, .unset, .unset, .unset, .unset, .unset, .unset] [(.int (2 : Int32)), (.ref ta), (.ref ta)]))
    refine own_via (fun tq kq => XS.iloadN X10.here hx rfl (hb hby at_82) rfl kq) ?_
    show Ogo p e below _ (T10.setTop (mkF m 83 #[.val (.int p0), .val (.int x0), .val (.int x1), .val (.int x2), .val (.int x3), .val (.int (3 : Int32)), .unset, .unset, .unset, .unset, .unset, .unset, .unset] [(.int x2), (.int (2 : Int32)), (.ref ta), (.ref ta)]))
    refine own_via (fun tq kq => XS.i2dS X10.here hx rfl (v := FP.l2d (x2.toInt64)) (hb hby at_83) rfl (i2d_w _) kq) ?_
    show Ogo p e below _ (T10.setTop (mkF m 84 #[.val (.int p0), .val (.int x0), .val (.int x1), .val (.int x2), .val (.int x3), .val (.int (3 : Int32)), .unset, .unset, .unset, .unset, .unset, .unset, .unset] [(.double (FP.l2d (x2.toInt64))), (.int (2 : Int32)), (.ref ta), (.ref ta)]))
    obtain ⟨T11, h11, X11, e11, W11, A_ta', st11⟩ := own_dast X10 hx hZ e10 A_ta (x := (FP.l2d (x2.toInt64))) (j := (2 : Int32)) (i := 2) (by decide) (by decide) (pc := 84) (Ls := #[.val (.int p0), .val (.int x0), .val (.int x1), .val (.int x2), .val (.int x3), .val (.int (3 : Int32)), .unset, .unset, .unset, .unset, .unset, .unset, .unset]) (rest := [(.ref ta)]) (hb hby at_84)
    refine own_via st11 ?_
    have zs := Nat.le_trans zs (Keep.of_wr W11).1
    have N := Fr.snoc X11 N g_ta
    have A_ta := A_ta'
    show Ogo p e below _ (T11.setTop (mkF m 85 #[.val (.int p0), .val (.int x0), .val (.int x1), .val (.int x2), .val (.int x3), .val (.int (3 : Int32)), .unset, .unset, .unset, .unset, .unset, .unset, .unset] [(.ref ta)]))
    have A_ta := A_ta.cast (f' := fun q => .double (FP.l2d (own_w x0 x1 x2 x3 q))) (by intro j hj; rcases j with _ | _ | _ | _ | j <;> first | omega | simp [own_w])
    refine own_via (fun tq kq => XS.astore X11.here hx rfl (hb hby at_85) rfl rfl (l' := #[.val (.int p0), .val (.int x0), .val (.int x1), .val (.int x2), .val (.int x3), .val (.int (3 : Int32)), .val (.ref ta), .unset, .unset, .unset, .unset, .unset, .unset]) rfl kq) ?_
    show Ogo p e below _ (T11.setTop (mkF m 87 #[.val (.int p0), .val (.int x0), .val (.int x1), .val (.int x2), .val (.int x3), .val (.int (3 : Int32)), .val (.ref ta), .unset, .unset, .unset, .unset, .unset, .unset] []))
    refine own_via (fun tq kq => XS.iloadN X11.here hx rfl (hb hby at_87) rfl kq) ?_
    show Ogo p e below _ (T11.setTop (mkF m 88 #[.val (.int p0), .val (.int x0), .val (.int x1), .val (.int x2), .val (.int x3), .val (.int (3 : Int32)), .val (.ref ta), .unset, .unset, .unset, .unset, .unset, .unset] [(.int x0)]))
    refine own_via (fun tq kq => XS.i2l X11.here hx rfl (hb hby at_88) rfl kq) ?_
    show Ogo p e below _ (T11.setTop (mkF m 89 #[.val (.int p0), .val (.int x0), .val (.int x1), .val (.int x2), .val (.int x3), .val (.int (3 : Int32)), .val (.ref ta), .unset, .unset, .unset, .unset, .unset, .unset] [(.long (x0.toInt64))]))
    refine own_via (fun tq kq => XS.iloadN X11.here hx rfl (hb hby at_89) rfl kq) ?_
    show Ogo p e below _ (T11.setTop (mkF m 90 #[.val (.int p0), .val (.int x0), .val (.int x1), .val (.int x2), .val (.int x3), .val (.int (3 : Int32)), .val (.ref ta), .unset, .unset, .unset, .unset, .unset, .unset] [(.int x1), (.long (x0.toInt64))]))
    refine own_via (fun tq kq => XS.i2l X11.here hx rfl (hb hby at_90) rfl kq) ?_
    show Ogo p e below _ (T11.setTop (mkF m 91 #[.val (.int p0), .val (.int x0), .val (.int x1), .val (.int x2), .val (.int x3), .val (.int (3 : Int32)), .val (.ref ta), .unset, .unset, .unset, .unset, .unset, .unset] [(.long (x1.toInt64)), (.long (x0.toInt64))]))
    refine own_via (fun tq kq => XS.ladd X11.here hx rfl (hb hby at_91) rfl kq) ?_
    show Ogo p e below _ (T11.setTop (mkF m 92 #[.val (.int p0), .val (.int x0), .val (.int x1), .val (.int x2), .val (.int x3), .val (.int (3 : Int32)), .val (.ref ta), .unset, .unset, .unset, .unset, .unset, .unset] [(.long ((x0.toInt64) + (x1.toInt64)))]))
    refine own_via (fun tq kq => XS.iloadN X11.here hx rfl (hb hby at_92) rfl kq) ?_
    show Ogo p e below _ (T11.setTop (mkF m 93 #[.val (.int p0), .val (.int x0), .val (.int x1), .val (.int x2), .val (.int x3), .val (.int (3 : Int32)), .val (.ref ta), .unset, .unset, .unset, .unset, .unset, .unset] [(.int x2), (.long ((x0.toInt64) + (x1.toInt64)))]))
    refine own_via (fun tq kq => XS.i2l X11.here hx rfl (hb hby at_93) rfl kq) ?_
    show Ogo p e below _ (T11.setTop (mkF m 94 #[.val (.int p0), .val (.int x0), .val (.int x1), .val (.int x2), .val (.int x3), .val (.int (3 : Int32)), .val (.ref ta), .unset, .unset, .unset, .unset, .unset, .unset] [(.long (x2.toInt64)), (.long ((x0.toInt64) + (x1.toInt64)))]))
    refine own_via (fun tq kq => XS.ladd X11.here hx rfl (hb hby at_94) rfl kq) ?_
    show Ogo p e below _ (T11.setTop (mkF m 95 #[.val (.int p0), .val (.int x0), .val (.int x1), .val (.int x2), .val (.int x3), .val (.int (3 : Int32)), .val (.ref ta), .unset, .unset, .unset, .unset, .unset, .unset] [(.long (((x0.toInt64) + (x1.toInt64)) + (x2.toInt64)))]))
    refine own_via (fun tq kq => XS.lstore X11.here hx rfl (hb hby at_95) rfl (l' := #[.val (.int p0), .val (.int x0), .val (.int x1), .val (.int x2), .val (.int x3), .val (.int (3 : Int32)), .val (.ref ta), .val (.long (((x0.toInt64) + (x1.toInt64)) + (x2.toInt64))), .second, .unset, .unset, .unset, .unset]) rfl kq) ?_
    show Ogo p e below _ (T11.setTop (mkF m 97 #[.val (.int p0), .val (.int x0), .val (.int x1), .val (.int x2), .val (.int x3), .val (.int (3 : Int32)), .val (.ref ta), .val (.long (((x0.toInt64) + (x1.toInt64)) + (x2.toInt64))), .second, .unset, .unset, .unset, .unset] []))
    refine own_via (fun tq kq => XS.goto X11.here hx rfl (pc0 := 97) (pc' := 140) rfl (hb hby at_97) (by decide) (by decide) kq) ?_
    show Ogo p e below _ (T11.setTop (mkF m 140 #[.val (.int p0), .val (.int x0), .val (.int x1), .val (.int x2), .val (.int x3), .val (.int (3 : Int32)), .val (.ref ta), .val (.long (((x0.toInt64) + (x1.toInt64)) + (x2.toInt64))), .second, .unset, .unset, .unset, .unset] []))
    refine own_via (fun tq kq => XS.aload X11.here hx rfl (hb hby at_140) rfl rfl kq) ?_
    show Ogo p e below _ (T11.setTop (mkF m 142 #[.val (.int p0), .val (.int x0), .val (.int x1), .val (.int x2), .val (.int x3), .val (.int (3 : Int32)), .val (.ref ta), .val (.long (((x0.toInt64) + (x1.toInt64)) + (x2.toInt64))), .second, .unset, .unset, .unset, .unset] [(.ref ta)]))
    refine own_callS X11 hx hZ hown (hw _ (List.mem_of_getElem? (i := 1) rfl)) (hw _ (List.mem_of_getElem? (i := 2) rfl)) (hw _ (List.mem_of_getElem? (i := 3) rfl)) (hw _ (List.mem_of_getElem? (i := 4) rfl)) (by decide) (rm_me hw ta 3 (3 : Int32) (own_w x0 x1 x2 x3) h11 n0 A_ta (by decide) rfl (by decide) (fun j _ => own_wb x0 x1 x2 x3 j)) rfl e11 (W := 0) (by decide) (by decide) (by decide) (by decide) (by rw [hml]; rfl) (argsL := [(.ref ta)]) (rest := []) (lenOf pd_0 rfl) rfl (Nat.le_of_eq rfl) (hb hby at_142) ?_
    rintro _ T12 L12 X12 ⟨rfl, Nq, hk⟩
    have N := N.app Nq
    have hk12 := hk
    show Ogo p e below _ (T12.setTop (mkF m 145 #[.val (.int p0), .val (.int x0), .val (.int x1), .val (.int x2), .val (.int x3), .val (.int (3 : Int32)), .val (.ref ta), .val (.long (((x0.toInt64) + (x1.toInt64)) + (x2.toInt64))), .second, .unset, .unset, .unset, .unset] [(.double (FP.ddiv (FP.l2d (own_sum (own_w x0 x1 x2 x3) 3)) (FP.l2d ((3 : Int32).toInt64))))]))
    have hsum : own_sum (own_w x0 x1 x2 x3) 3 = (((x0.toInt64) + (x1.toInt64)) + (x2.toInt64)) := by simp [own_sum, own_w]
    rw [hsum]
    show Ogo p e below _ (T12.setTop (mkF m 145 #[.val (.int p0), .val (.int x0), .val (.int x1), .val (.int x2), .val (.int x3), .val (.int (3 : Int32)), .val (.ref ta), .val (.long (((x0.toInt64) + (x1.toInt64)) + (x2.toInt64))), .second, .unset, .unset, .unset, .unset] [(.double (FP.ddiv (FP.l2d (((x0.toInt64) + (x1.toInt64)) + (x2.toInt64))) (FP.l2d ((3 : Int32).toInt64))))]))
    refine own_via (fun tq kq => XS.dstore X12.here hx rfl (hb hby at_145) rfl (l' := #[.val (.int p0), .val (.int x0), .val (.int x1), .val (.int x2), .val (.int x3), .val (.int (3 : Int32)), .val (.ref ta), .val (.long (((x0.toInt64) + (x1.toInt64)) + (x2.toInt64))), .second, .val (.double (FP.ddiv (FP.l2d (((x0.toInt64) + (x1.toInt64)) + (x2.toInt64))) (FP.l2d ((3 : Int32).toInt64)))), .second, .unset, .unset]) rfl kq) ?_
    show Ogo p e below _ (T12.setTop (mkF m 147 #[.val (.int p0), .val (.int x0), .val (.int x1), .val (.int x2), .val (.int x3), .val (.int (3 : Int32)), .val (.ref ta), .val (.long (((x0.toInt64) + (x1.toInt64)) + (x2.toInt64))), .second, .val (.double (FP.ddiv (FP.l2d (((x0.toInt64) + (x1.toInt64)) + (x2.toInt64))) (FP.l2d ((3 : Int32).toInt64)))), .second, .unset, .unset] []))
    refine own_via (fun tq kq => XS.lload X12.here hx rfl (hb hby at_147) rfl kq) ?_
    show Ogo p e below _ (T12.setTop (mkF m 149 #[.val (.int p0), .val (.int x0), .val (.int x1), .val (.int x2), .val (.int x3), .val (.int (3 : Int32)), .val (.ref ta), .val (.long (((x0.toInt64) + (x1.toInt64)) + (x2.toInt64))), .second, .val (.double (FP.ddiv (FP.l2d (((x0.toInt64) + (x1.toInt64)) + (x2.toInt64))) (FP.l2d ((3 : Int32).toInt64)))), .second, .unset, .unset] [(.long (((x0.toInt64) + (x1.toInt64)) + (x2.toInt64)))]))
    refine own_via (fun tq kq => XS.l2dS X12.here hx rfl (hb hby at_149) rfl rfl kq) ?_
    show Ogo p e below _ (T12.setTop (mkF m 150 #[.val (.int p0), .val (.int x0), .val (.int x1), .val (.int x2), .val (.int x3), .val (.int (3 : Int32)), .val (.ref ta), .val (.long (((x0.toInt64) + (x1.toInt64)) + (x2.toInt64))), .second, .val (.double (FP.ddiv (FP.l2d (((x0.toInt64) + (x1.toInt64)) + (x2.toInt64))) (FP.l2d ((3 : Int32).toInt64)))), .second, .unset, .unset] [(.double (FP.l2d (((x0.toInt64) + (x1.toInt64)) + (x2.toInt64))))]))
    refine own_via (fun tq kq => XS.iload X12.here hx rfl (hb hby at_150) rfl kq) ?_
    show Ogo p e below _ (T12.setTop (mkF m 152 #[.val (.int p0), .val (.int x0), .val (.int x1), .val (.int x2), .val (.int x3), .val (.int (3 : Int32)), .val (.ref ta), .val (.long (((x0.toInt64) + (x1.toInt64)) + (x2.toInt64))), .second, .val (.double (FP.ddiv (FP.l2d (((x0.toInt64) + (x1.toInt64)) + (x2.toInt64))) (FP.l2d ((3 : Int32).toInt64)))), .second, .unset, .unset] [(.int (3 : Int32)), (.double (FP.l2d (((x0.toInt64) + (x1.toInt64)) + (x2.toInt64))))]))
    refine own_via (fun tq kq => XS.i2dS X12.here hx rfl (v := FP.l2d ((3 : Int32).toInt64)) (hb hby at_152) rfl (i2d_w _) kq) ?_
    show Ogo p e below _ (T12.setTop (mkF m 153 #[.val (.int p0), .val (.int x0), .val (.int x1), .val (.int x2), .val (.int x3), .val (.int (3 : Int32)), .val (.ref ta), .val (.long (((x0.toInt64) + (x1.toInt64)) + (x2.toInt64))), .second, .val (.double (FP.ddiv (FP.l2d (((x0.toInt64) + (x1.toInt64)) + (x2.toInt64))) (FP.l2d ((3 : Int32).toInt64)))), .second, .unset, .unset] [(.double (FP.l2d ((3 : Int32).toInt64))), (.double (FP.l2d (((x0.toInt64) + (x1.toInt64)) + (x2.toInt64))))]))
    refine own_via (fun tq kq => XS.ddivS X12.here hx rfl (hb hby at_153) rfl (own_nn (by decide)) rfl kq) ?_
    show Ogo p e below _ (T12.setTop (mkF m 154 #[.val (.int p0), .val (.int x0), .val (.int x1), .val (.int x2), .val (.int x3), .val (.int (3 : Int32)), .val (.ref ta), .val (.long (((x0.toInt64) + (x1.toInt64)) + (x2.toInt64))), .second, .val (.double (FP.ddiv (FP.l2d (((x0.toInt64) + (x1.toInt64)) + (x2.toInt64))) (FP.l2d ((3 : Int32).toInt64)))), .second, .unset, .unset] [(.double (FP.ddiv (FP.l2d (((x0.toInt64) + (x1.toInt64)) + (x2.toInt64))) (FP.l2d ((3 : Int32).toInt64))))]))
    refine own_via (fun tq kq => XS.dstore X12.here hx rfl (hb hby at_154) rfl (l' := #[.val (.int p0), .val (.int x0), .val (.int x1), .val (.int x2), .val (.int x3), .val (.int (3 : Int32)), .val (.ref ta), .val (.long (((x0.toInt64) + (x1.toInt64)) + (x2.toInt64))), .second, .val (.double (FP.ddiv (FP.l2d (((x0.toInt64) + (x1.toInt64)) + (x2.toInt64))) (FP.l2d ((3 : Int32).toInt64)))), .second, .val (.double (FP.ddiv (FP.l2d (((x0.toInt64) + (x1.toInt64)) + (x2.toInt64))) (FP.l2d ((3 : Int32).toInt64)))), .second]) rfl kq) ?_
    show Ogo p e below _ (T12.setTop (mkF m 156 #[.val (.int p0), .val (.int x0), .val (.int x1), .val (.int x2), .val (.int x3), .val (.int (3 : Int32)), .val (.ref ta), .val (.long (((x0.toInt64) + (x1.toInt64)) + (x2.toInt64))), .second, .val (.double (FP.ddiv (FP.l2d (((x0.toInt64) + (x1.toInt64)) + (x2.toInt64))) (FP.l2d ((3 : Int32).toInt64)))), .second, .val (.double (FP.ddiv (FP.l2d (((x0.toInt64) + (x1.toInt64)) + (x2.toInt64))) (FP.l2d ((3 : Int32).toInt64)))), .second] []))
    refine own_via (fun tq kq => XS.dload X12.here hx rfl (hb hby at_156) rfl kq) ?_
    show Ogo p e below _ (T12.setTop (mkF m 158 #[.val (.int p0), .val (.int x0), .val (.int x1), .val (.int x2), .val (.int x3), .val (.int (3 : Int32)), .val (.ref ta), .val (.long (((x0.toInt64) + (x1.toInt64)) + (x2.toInt64))), .second, .val (.double (FP.ddiv (FP.l2d (((x0.toInt64) + (x1.toInt64)) + (x2.toInt64))) (FP.l2d ((3 : Int32).toInt64)))), .second, .val (.double (FP.ddiv (FP.l2d (((x0.toInt64) + (x1.toInt64)) + (x2.toInt64))) (FP.l2d ((3 : Int32).toInt64)))), .second] [(.double (FP.ddiv (FP.l2d (((x0.toInt64) + (x1.toInt64)) + (x2.toInt64))) (FP.l2d ((3 : Int32).toInt64))))]))
    refine own_via (fun tq kq => XS.dload X12.here hx rfl (hb hby at_158) rfl kq) ?_
    show Ogo p e below _ (T12.setTop (mkF m 160 #[.val (.int p0), .val (.int x0), .val (.int x1), .val (.int x2), .val (.int x3), .val (.int (3 : Int32)), .val (.ref ta), .val (.long (((x0.toInt64) + (x1.toInt64)) + (x2.toInt64))), .second, .val (.double (FP.ddiv (FP.l2d (((x0.toInt64) + (x1.toInt64)) + (x2.toInt64))) (FP.l2d ((3 : Int32).toInt64)))), .second, .val (.double (FP.ddiv (FP.l2d (((x0.toInt64) + (x1.toInt64)) + (x2.toInt64))) (FP.l2d ((3 : Int32).toInt64)))), .second] [(.double (FP.ddiv (FP.l2d (((x0.toInt64) + (x1.toInt64)) + (x2.toInt64))) (FP.l2d ((3 : Int32).toInt64)))), (.double (FP.ddiv (FP.l2d (((x0.toInt64) + (x1.toInt64)) + (x2.toInt64))) (FP.l2d ((3 : Int32).toInt64))))]))
    refine own_via (fun tq kq => XS.dcmpS X12.here hx rfl (hb hby at_160) rfl (v := (0 : Int32)) (dcmpV_self (own_nn (by decide)) _) kq) ?_
    show Ogo p e below _ (T12.setTop (mkF m 161 #[.val (.int p0), .val (.int x0), .val (.int x1), .val (.int x2), .val (.int x3), .val (.int (3 : Int32)), .val (.ref ta), .val (.long (((x0.toInt64) + (x1.toInt64)) + (x2.toInt64))), .second, .val (.double (FP.ddiv (FP.l2d (((x0.toInt64) + (x1.toInt64)) + (x2.toInt64))) (FP.l2d ((3 : Int32).toInt64)))), .second, .val (.double (FP.ddiv (FP.l2d (((x0.toInt64) + (x1.toInt64)) + (x2.toInt64))) (FP.l2d ((3 : Int32).toInt64)))), .second] [(.int (0 : Int32))]))
    refine own_via (fun tq kq => XS.ifNo X12.here hx rfl (hb hby at_161) rfl ((if0 _ _).trans (teq (rfl : (0 : Int32) = (0 : Int32))).2) kq) ?_
    show Ogo p e below _ (T12.setTop (mkF m 164 #[.val (.int p0), .val (.int x0), .val (.int x1), .val (.int x2), .val (.int x3), .val (.int (3 : Int32)), .val (.ref ta), .val (.long (((x0.toInt64) + (x1.toInt64)) + (x2.toInt64))), .second, .val (.double (FP.ddiv (FP.l2d (((x0.toInt64) + (x1.toInt64)) + (x2.toInt64))) (FP.l2d ((3 : Int32).toInt64)))), .second, .val (.double (FP.ddiv (FP.l2d (((x0.toInt64) + (x1.toInt64)) + (x2.toInt64))) (FP.l2d ((3 : Int32).toInt64)))), .second] []))
    refine own_via (fun tq kq => XS.iconst X12.here hx rfl (hb hby at_164) kq) ?_
    show Ogo p e below _ (T12.setTop (mkF m 165 #[.val (.int p0), .val (.int x0), .val (.int x1), .val (.int x2), .val (.int x3), .val (.int (3 : Int32)), .val (.ref ta), .val (.long (((x0.toInt64) + (x1.toInt64)) + (x2.toInt64))), .second, .val (.double (FP.ddiv (FP.l2d (((x0.toInt64) + (x1.toInt64)) + (x2.toInt64))) (FP.l2d ((3 : Int32).toInt64)))), .second, .val (.double (FP.ddiv (FP.l2d (((x0.toInt64) + (x1.toInt64)) + (x2.toInt64))) (FP.l2d ((3 : Int32).toInt64)))), .second] [(.int (1 : Int32))]))
    refine own_via (fun tq kq => XS.goto X12.here hx rfl (pc0 := 165) (pc' := 169) rfl (hb hby at_165) (by decide) (by decide) kq) ?_
    show Ogo p e below _ (T12.setTop (mkF m 169 #[.val (.int p0), .val (.int x0), .val (.int x1), .val (.int x2), .val (.int x3), .val (.int (3 : Int32)), .val (.ref ta), .val (.long (((x0.toInt64) + (x1.toInt64)) + (x2.toInt64))), .second, .val (.double (FP.ddiv (FP.l2d (((x0.toInt64) + (x1.toInt64)) + (x2.toInt64))) (FP.l2d ((3 : Int32).toInt64)))), .second, .val (.double (FP.ddiv (FP.l2d (((x0.toInt64) + (x1.toInt64)) + (x2.toInt64))) (FP.l2d ((3 : Int32).toInt64)))), .second] [(.int (1 : Int32))]))
    exact own_out X12 hlk (fun h => by rw [hret] at h; cases h) (by decide) (by decide) (by first | exact ⟨rfl, N⟩ | (rw [hk12]; exact ⟨rfl, N⟩)) (fun fs hr => retN X12 hx (t := .boolean) hret (by simp) (hb hby at_169) hr)
  · show Ogo p e below _ (s₁.setTop (mkF m 7 #[.val (.int p0), .val (.int x0), .val (.int x1), .val (.int x2), .val (.int x3), .val (.int (4 : Int32)), .unset, .unset, .unset, .unset, .unset, .unset, .unset] []))
    refine own_via (fun tq kq => XS.iload X0.here hx rfl (hb hby at_7) rfl kq) ?_
    show Ogo p e below _ (s₁.setTop (mkF m 9 #[.val (.int p0), .val (.int x0), .val (.int x1), .val (.int x2), .val (.int x3), .val (.int (4 : Int32)), .unset, .unset, .unset, .unset, .unset, .unset, .unset] [(.int (4 : Int32))]))
    refine own_via (fun tq kq => XS.iconst X0.here hx rfl (hb hby at_9) kq) ?_
    show Ogo p e below _ (s₁.setTop (mkF m 10 #[.val (.int p0), .val (.int x0), .val (.int x1), .val (.int x2), .val (.int x3), .val (.int (4 : Int32)), .unset, .unset, .unset, .unset, .unset, .unset, .unset] [(.int (1 : Int32)), (.int (4 : Int32))]))
    refine own_via (fun tq kq => XS.icmpYes X0.here hx rfl (pc0 := 10) (pc' := 30) rfl (hb hby at_10) rfl (feq ((by decide) : ¬ ((4 : Int32) = (1 : Int32)))).2 (by decide) (by decide) kq) ?_
    show Ogo p e below _ (s₁.setTop (mkF m 30 #[.val (.int p0), .val (.int x0), .val (.int x1), .val (.int x2), .val (.int x3), .val (.int (4 : Int32)), .unset, .unset, .unset, .unset, .unset, .unset, .unset] []))
    refine own_via (fun tq kq => XS.iload X0.here hx rfl (hb hby at_30) rfl kq) ?_
    show Ogo p e below _ (s₁.setTop (mkF m 32 #[.val (.int p0), .val (.int x0), .val (.int x1), .val (.int x2), .val (.int x3), .val (.int (4 : Int32)), .unset, .unset, .unset, .unset, .unset, .unset, .unset] [(.int (4 : Int32))]))
    refine own_via (fun tq kq => XS.iconst X0.here hx rfl (hb hby at_32) kq) ?_
    show Ogo p e below _ (s₁.setTop (mkF m 33 #[.val (.int p0), .val (.int x0), .val (.int x1), .val (.int x2), .val (.int x3), .val (.int (4 : Int32)), .unset, .unset, .unset, .unset, .unset, .unset, .unset] [(.int (2 : Int32)), (.int (4 : Int32))]))
    refine own_via (fun tq kq => XS.icmpYes X0.here hx rfl (pc0 := 33) (pc' := 61) rfl (hb hby at_33) rfl (feq ((by decide) : ¬ ((4 : Int32) = (2 : Int32)))).2 (by decide) (by decide) kq) ?_
    show Ogo p e below _ (s₁.setTop (mkF m 61 #[.val (.int p0), .val (.int x0), .val (.int x1), .val (.int x2), .val (.int x3), .val (.int (4 : Int32)), .unset, .unset, .unset, .unset, .unset, .unset, .unset] []))
    refine own_via (fun tq kq => XS.iload X0.here hx rfl (hb hby at_61) rfl kq) ?_
    show Ogo p e below _ (s₁.setTop (mkF m 63 #[.val (.int p0), .val (.int x0), .val (.int x1), .val (.int x2), .val (.int x3), .val (.int (4 : Int32)), .unset, .unset, .unset, .unset, .unset, .unset, .unset] [(.int (4 : Int32))]))
    refine own_via (fun tq kq => XS.iconst X0.here hx rfl (hb hby at_63) kq) ?_
    show Ogo p e below _ (s₁.setTop (mkF m 64 #[.val (.int p0), .val (.int x0), .val (.int x1), .val (.int x2), .val (.int x3), .val (.int (4 : Int32)), .unset, .unset, .unset, .unset, .unset, .unset, .unset] [(.int (3 : Int32)), (.int (4 : Int32))]))
    refine own_via (fun tq kq => XS.icmpYes X0.here hx rfl (pc0 := 64) (pc' := 100) rfl (hb hby at_64) rfl (feq ((by decide) : ¬ ((4 : Int32) = (3 : Int32)))).2 (by decide) (by decide) kq) ?_
    show Ogo p e below _ (s₁.setTop (mkF m 100 #[.val (.int p0), .val (.int x0), .val (.int x1), .val (.int x2), .val (.int x3), .val (.int (4 : Int32)), .unset, .unset, .unset, .unset, .unset, .unset, .unset] []))
    refine own_via (fun tq kq => XS.iconst X0.here hx rfl (hb hby at_100) kq) ?_
    show Ogo p e below _ (s₁.setTop (mkF m 101 #[.val (.int p0), .val (.int x0), .val (.int x1), .val (.int x2), .val (.int x3), .val (.int (4 : Int32)), .unset, .unset, .unset, .unset, .unset, .unset, .unset] [(.int (4 : Int32))]))
    obtain ⟨T13, h13, k13, X13, e13, E13, A13, st13⟩ := newP X0 hx hZ (hw _ (List.mem_of_getElem? (i := 0) rfl)) e0 (g := (mkF m 101 #[.val (.int p0), .val (.int x0), .val (.int x1), .val (.int x2), .val (.int x3), .val (.int (4 : Int32)), .unset, .unset, .unset, .unset, .unset, .unset, .unset] [(.int (4 : Int32))])) rfl (hb hby at_101) rfl (by decide) (cap := 4) (by decide) (by decide) (by decide) (by decide)
    refine own_via st13 ?_
    obtain ⟨ta, g13⟩ : ∃ z, z = h0.size := ⟨_, rfl⟩
    rw [← g13]
    rw [← g13] at A13
    have g_ta : n0 ≤ ta := by rw [g13]; exact zs
    have zs := Nat.le_trans zs E13.1
    have A_ta : Oar Z h13 ta .double 4 (fun _ => defaultValue .double) := Oar.new A13 (by decide) rfl
    show Ogo p e below _ (T13.setTop (mkF m 103 #[.val (.int p0), .val (.int x0), .val (.int x1), .val (.int x2), .val (.int x3), .val (.int (4 : Int32)), .unset, .unset, .unset, .unset, .unset, .unset, .unset] [(.ref ta)]))
    refine own_via (fun tq kq => XS.dup X13.here hx rfl (hb hby at_103) rfl rfl kq) ?_
    show Ogo p e below _ (T13.setTop (mkF m 104 #[.val (.int p0), .val (.int x0), .val (.int x1), .val (.int x2), .val (.int x3), .val (.int (4 : Int32)), .unset, .unset, .unset, .unset, .unset, .unset, .unset] [(.ref ta), (.ref ta)]))
    refine own_via (fun tq kq => XS.iconst X13.here hx rfl (hb hby at_104) kq) ?_
    show Ogo p e below _ (T13.setTop (mkF m 105 #[.val (.int p0), .val (.int x0), .val (.int x1), .val (.int x2), .val (.int x3), .val (.int (4 : Int32)), .unset, .unset, .unset, .unset, .unset, .unset, .unset] [(.int (0 : Int32)), (.ref ta), (.ref ta)]))
    refine own_via (fun tq kq => XS.iloadN X13.here hx rfl (hb hby at_105) rfl kq) ?_
    show Ogo p e below _ (T13.setTop (mkF m 106 #[.val (.int p0), .val (.int x0), .val (.int x1), .val (.int x2), .val (.int x3), .val (.int (4 : Int32)), .unset, .unset, .unset, .unset, .unset, .unset, .unset] [(.int x0), (.int (0 : Int32)), (.ref ta), (.ref ta)]))
    refine own_via (fun tq kq => XS.i2dS X13.here hx rfl (v := FP.l2d (x0.toInt64)) (hb hby at_106) rfl (i2d_w _) kq) ?_
    show Ogo p e below _ (T13.setTop (mkF m 107 #[.val (.int p0), .val (.int x0), .val (.int x1), .val (.int x2), .val (.int x3), .val (.int (4 : Int32)), .unset, .unset, .unset, .unset, .unset, .unset, .unset] [(.double (FP.l2d (x0.toInt64))), (.int (0 : Int32)), (.ref ta), (.ref ta)]))
    obtain ⟨T14, h14, X14, e14, W14, A_ta', st14⟩ := own_dast X13 hx hZ e13 A_ta (x := (FP.l2d (x0.toInt64))) (j := (0 : Int32)) (i := 0) (by decide) (by decide) (pc := 107) (Ls := #[.val (.int p0), .val (.int x0), .val (.int x1), .val (.int x2), .val (.int x3), .val (.int (4 : Int32)), .unset, .unset, .unset, .unset, .unset, .unset, .unset]) (rest := [(.ref ta)]) (hb hby at_107)
    refine own_via st14 ?_
    have zs := Nat.le_trans zs (Keep.of_wr W14).1
    have N := Fr.snoc X14 N g_ta
    have A_ta := A_ta'
    show Ogo p e below _ (T14.setTop (mkF m 108 #[.val (.int p0), .val (.int x0), .val (.int x1), .val (.int x2), .val (.int x3), .val (.int (4 : Int32)), .unset, .unset, .unset, .unset, .unset, .unset, .unset] [(.ref ta)]))
    refine own_via (fun tq kq => XS.dup X14.here hx rfl (hb hby at_108) rfl rfl kq) ?_
    show Ogo p e below _ (T14.setTop (mkF m 109 #[.val (.int p0), .val (.int x0), .val (.int x1), .val (.int x2), .val (.int x3), .val (.int (4 : Int32)), .unset, .unset, .unset, .unset, .unset, .unset, .unset] [(.ref ta), (.ref ta)]))
    refine own_via (fun tq kq => XS.iconst X14.here hx rfl (hb hby at_109) kq) ?_
    show Ogo p e below _ (T14.setTop (mkF m 110 #[.val (.int p0), .val (.int x0), .val (.int x1), .val (.int x2), .val (.int x3), .val (.int (4 : Int32)), .unset, .unset, .unset, .unset, .unset, .unset, .unset] [(.int (1 : Int32)), (.ref ta), (.ref ta)]))
    refine own_via (fun tq kq => XS.iloadN X14.here hx rfl (hb hby at_110) rfl kq) ?_
    show Ogo p e below _ (T14.setTop (mkF m 111 #[.val (.int p0), .val (.int x0), .val (.int x1), .val (.int x2), .val (.int x3), .val (.int (4 : Int32)), .unset, .unset, .unset, .unset, .unset, .unset, .unset] [(.int x1), (.int (1 : Int32)), (.ref ta), (.ref ta)]))
    refine own_via (fun tq kq => XS.i2dS X14.here hx rfl (v := FP.l2d (x1.toInt64)) (hb hby at_111) rfl (i2d_w _) kq) ?_
    show Ogo p e below _ (T14.setTop (mkF m 112 #[.val (.int p0), .val (.int x0), .val (.int x1), .val (.int x2), .val (.int x3), .val (.int (4 : Int32)), .unset, .unset, .unset, .unset, .unset, .unset, .unset] [(.double (FP.l2d (x1.toInt64))), (.int (1 : Int32)), (.ref ta), (.ref ta)]))
    obtain ⟨T15, h15, X15, e15, W15, A_ta', st15⟩ := own_dast X14 hx hZ e14 A_ta (x := (FP.l2d (x1.toInt64))) (j := (1 : Int32)) (i := 1) (by decide) (by decide) (pc := 112) (Ls := #[.val (.int p0), .val (.int x0), .val (.int x1), .val (.int x2), .val (.int x3), .val (.int (4 : Int32)), .unset, .unset, .unset, .unset, .unset, .unset, .unset]) (rest := [(.ref ta)]) (hb hby at_112)
    refine own_via st15 ?_
    have zs := Nat.le_trans zs (Keep.of_wr W15).1
    have N := Fr.snoc X15 N g_ta
    have A_ta := A_ta'
    show Ogo p e below _ (T15.setTop (mkF m 113 #[.val (.int p0), .val (.int x0), .val (.int x1), .val (.int x2), .val (.int x3), .val (.int (4 : Int32)), .unset, .unset, .unset, .unset, .unset, .unset, .unset] [(.ref ta)]))
    refine own_via (fun tq kq => XS.dup X15.here hx rfl (hb hby at_113) rfl rfl kq) ?_
    show Ogo p e below _ (T15.setTop (mkF m 114 #[.val (.int p0), .val (.int x0), .val (.int x1), .val (.int x2), .val (.int x3), .val (.int (4 : Int32)), .unset, .unset, .unset, .unset, .unset, .unset, .unset] [(.ref ta), (.ref ta)]))
    refine own_via (fun tq kq => XS.iconst X15.here hx rfl (hb hby at_114) kq) ?_
    show Ogo p e below _ (T15.setTop (mkF m 115 #[.val (.int p0), .val (.int x0), .val (.int x1), .val (.int x2), .val (.int x3), .val (.int (4 : Int32)), .unset, .unset, .unset, .unset, .unset, .unset, .unset] [(.int (2 : Int32)), (.ref ta), (.ref ta)]))
    refine own_via (fun tq kq => XS.iloadN X15.here hx rfl (hb hby at_115) rfl kq) ?_
    show Ogo p e below _ (T15.setTop (mkF m 116 #[.val (.int p0), .val (.int x0), .val (.int x1), .val (.int x2), .val (.int x3), .val (.int (4 : Int32)), .unset, .unset, .unset, .unset, .unset, .unset, .unset] [(.int x2), (.int (2 : Int32)), (.ref ta), (.ref ta)]))
    refine own_via (fun tq kq => XS.i2dS X15.here hx rfl (v := FP.l2d (x2.toInt64)) (hb hby at_116) rfl (i2d_w _) kq) ?_
    show Ogo p e below _ (T15.setTop (mkF m 117 #[.val (.int p0), .val (.int x0), .val (.int x1), .val (.int x2), .val (.int x3), .val (.int (4 : Int32)), .unset, .unset, .unset, .unset, .unset, .unset, .unset] [(.double (FP.l2d (x2.toInt64))), (.int (2 : Int32)), (.ref ta), (.ref ta)]))
    obtain ⟨T16, h16, X16, e16, W16, A_ta', st16⟩ := own_dast X15 hx hZ e15 A_ta (x := (FP.l2d (x2.toInt64))) (j := (2 : Int32)) (i := 2) (by decide) (by decide) (pc := 117) (Ls := #[.val (.int p0), .val (.int x0), .val (.int x1), .val (.int x2), .val (.int x3), .val (.int (4 : Int32)), .unset, .unset, .unset, .unset, .unset, .unset, .unset]) (rest := [(.ref ta)]) (hb hby at_117)
    refine own_via st16 ?_
    have zs := Nat.le_trans zs (Keep.of_wr W16).1
    have N := Fr.snoc X16 N g_ta
    have A_ta := A_ta'
    show Ogo p e below _ (T16.setTop (mkF m 118 #[.val (.int p0), .val (.int x0), .val (.int x1), .val (.int x2), .val (.int x3), .val (.int (4 : Int32)), .unset, .unset, .unset, .unset, .unset, .unset, .unset] [(.ref ta)]))
    refine own_via (fun tq kq => XS.dup X16.here hx rfl (hb hby at_118) rfl rfl kq) ?_
    show Ogo p e below _ (T16.setTop (mkF m 119 #[.val (.int p0), .val (.int x0), .val (.int x1), .val (.int x2), .val (.int x3), .val (.int (4 : Int32)), .unset, .unset, .unset, .unset, .unset, .unset, .unset] [(.ref ta), (.ref ta)]))
    refine own_via (fun tq kq => XS.iconst X16.here hx rfl (hb hby at_119) kq) ?_
    show Ogo p e below _ (T16.setTop (mkF m 120 #[.val (.int p0), .val (.int x0), .val (.int x1), .val (.int x2), .val (.int x3), .val (.int (4 : Int32)), .unset, .unset, .unset, .unset, .unset, .unset, .unset] [(.int (3 : Int32)), (.ref ta), (.ref ta)]))
    refine own_via (fun tq kq => XS.iload X16.here hx rfl (hb hby at_120) rfl kq) ?_
    show Ogo p e below _ (T16.setTop (mkF m 122 #[.val (.int p0), .val (.int x0), .val (.int x1), .val (.int x2), .val (.int x3), .val (.int (4 : Int32)), .unset, .unset, .unset, .unset, .unset, .unset, .unset] [(.int x3), (.int (3 : Int32)), (.ref ta), (.ref ta)]))
    refine own_via (fun tq kq => XS.i2dS X16.here hx rfl (v := FP.l2d (x3.toInt64)) (hb hby at_122) rfl (i2d_w _) kq) ?_
    show Ogo p e below _ (T16.setTop (mkF m 123 #[.val (.int p0), .val (.int x0), .val (.int x1), .val (.int x2), .val (.int x3), .val (.int (4 : Int32)), .unset, .unset, .unset, .unset, .unset, .unset, .unset] [(.double (FP.l2d (x3.toInt64))), (.int (3 : Int32)), (.ref ta), (.ref ta)]))
    obtain ⟨T17, h17, X17, e17, W17, A_ta', st17⟩ := own_dast X16 hx hZ e16 A_ta (x := (FP.l2d (x3.toInt64))) (j := (3 : Int32)) (i := 3) (by decide) (by decide) (pc := 123) (Ls := #[.val (.int p0), .val (.int x0), .val (.int x1), .val (.int x2), .val (.int x3), .val (.int (4 : Int32)), .unset, .unset, .unset, .unset, .unset, .unset, .unset]) (rest := [(.ref ta)]) (hb hby at_123)
    refine own_via st17 ?_
    have zs := Nat.le_trans zs (Keep.of_wr W17).1
    have N := Fr.snoc X17 N g_ta
    have A_ta := A_ta'
    show Ogo p e below _ (T17.setTop (mkF m 124 #[.val (.int p0), .val (.int x0), .val (.int x1), .val (.int x2), .val (.int x3), .val (.int (4 : Int32)), .unset, .unset, .unset, .unset, .unset, .unset, .unset] [(.ref ta)]))
    have A_ta := A_ta.cast (f' := fun q => .double (FP.l2d (own_w x0 x1 x2 x3 q))) (by intro j hj; rcases j with _ | _ | _ | _ | j <;> first | omega | simp [own_w])
    refine own_via (fun tq kq => XS.astore X17.here hx rfl (hb hby at_124) rfl rfl (l' := #[.val (.int p0), .val (.int x0), .val (.int x1), .val (.int x2), .val (.int x3), .val (.int (4 : Int32)), .val (.ref ta), .unset, .unset, .unset, .unset, .unset, .unset]) rfl kq) ?_
    show Ogo p e below _ (T17.setTop (mkF m 126 #[.val (.int p0), .val (.int x0), .val (.int x1), .val (.int x2), .val (.int x3), .val (.int (4 : Int32)), .val (.ref ta), .unset, .unset, .unset, .unset, .unset, .unset] []))
    refine own_via (fun tq kq => XS.iloadN X17.here hx rfl (hb hby at_126) rfl kq) ?_
    show Ogo p e below _ (T17.setTop (mkF m 127 #[.val (.int p0), .val (.int x0), .val (.int x1), .val (.int x2), .val (.int x3), .val (.int (4 : Int32)), .val (.ref ta), .unset, .unset, .unset, .unset, .unset, .unset] [(.int x0)]))
    refine own_via (fun tq kq => XS.i2l X17.here hx rfl (hb hby at_127) rfl kq) ?_
    show Ogo p e below _ (T17.setTop (mkF m 128 #[.val (.int p0), .val (.int x0), .val (.int x1), .val (.int x2), .val (.int x3), .val (.int (4 : Int32)), .val (.ref ta), .unset, .unset, .unset, .unset, .unset, .unset] [(.long (x0.toInt64))]))
    refine own_via (fun tq kq => XS.iloadN X17.here hx rfl (hb hby at_128) rfl kq) ?_
    show Ogo p e below _ (T17.setTop (mkF m 129 #[.val (.int p0), .val (.int x0), .val (.int x1), .val (.int x2), .val (.int x3), .val (.int (4 : Int32)), .val (.ref ta), .unset, .unset, .unset, .unset, .unset, .unset] [(.int x1), (.long (x0.toInt64))]))
    refine own_via (fun tq kq => XS.i2l X17.here hx rfl (hb hby at_129) rfl kq) ?_
    show Ogo p e below _ (T17.setTop (mkF m 130 #[.val (.int p0), .val (.int x0), .val (.int x1), .val (.int x2), .val (.int x3), .val (.int (4 : Int32)), .val (.ref ta), .unset, .unset, .unset, .unset, .unset, .unset] [(.long (x1.toInt64)), (.long (x0.toInt64))]))
    refine own_via (fun tq kq => XS.ladd X17.here hx rfl (hb hby at_130) rfl kq) ?_
    show Ogo p e below _ (T17.setTop (mkF m 131 #[.val (.int p0), .val (.int x0), .val (.int x1), .val (.int x2), .val (.int x3), .val (.int (4 : Int32)), .val (.ref ta), .unset, .unset, .unset, .unset, .unset, .unset] [(.long ((x0.toInt64) + (x1.toInt64)))]))
    refine own_via (fun tq kq => XS.iloadN X17.here hx rfl (hb hby at_131) rfl kq) ?_
    show Ogo p e below _ (T17.setTop (mkF m 132 #[.val (.int p0), .val (.int x0), .val (.int x1), .val (.int x2), .val (.int x3), .val (.int (4 : Int32)), .val (.ref ta), .unset, .unset, .unset, .unset, .unset, .unset] [(.int x2), (.long ((x0.toInt64) + (x1.toInt64)))]))
    refine own_via (fun tq kq => XS.i2l X17.here hx rfl (hb hby at_132) rfl kq) ?_
    show Ogo p e below _ (T17.setTop (mkF m 133 #[.val (.int p0), .val (.int x0), .val (.int x1), .val (.int x2), .val (.int x3), .val (.int (4 : Int32)), .val (.ref ta), .unset, .unset, .unset, .unset, .unset, .unset] [(.long (x2.toInt64)), (.long ((x0.toInt64) + (x1.toInt64)))]))
    refine own_via (fun tq kq => XS.ladd X17.here hx rfl (hb hby at_133) rfl kq) ?_
    show Ogo p e below _ (T17.setTop (mkF m 134 #[.val (.int p0), .val (.int x0), .val (.int x1), .val (.int x2), .val (.int x3), .val (.int (4 : Int32)), .val (.ref ta), .unset, .unset, .unset, .unset, .unset, .unset] [(.long (((x0.toInt64) + (x1.toInt64)) + (x2.toInt64)))]))
    refine own_via (fun tq kq => XS.iload X17.here hx rfl (hb hby at_134) rfl kq) ?_
    show Ogo p e below _ (T17.setTop (mkF m 136 #[.val (.int p0), .val (.int x0), .val (.int x1), .val (.int x2), .val (.int x3), .val (.int (4 : Int32)), .val (.ref ta), .unset, .unset, .unset, .unset, .unset, .unset] [(.int x3), (.long (((x0.toInt64) + (x1.toInt64)) + (x2.toInt64)))]))
    refine own_via (fun tq kq => XS.i2l X17.here hx rfl (hb hby at_136) rfl kq) ?_
    show Ogo p e below _ (T17.setTop (mkF m 137 #[.val (.int p0), .val (.int x0), .val (.int x1), .val (.int x2), .val (.int x3), .val (.int (4 : Int32)), .val (.ref ta), .unset, .unset, .unset, .unset, .unset, .unset] [(.long (x3.toInt64)), (.long (((x0.toInt64) + (x1.toInt64)) + (x2.toInt64)))]))
    refine own_via (fun tq kq => XS.ladd X17.here hx rfl (hb hby at_137) rfl kq) ?_
    show Ogo p e below _ (T17.setTop (mkF m 138 #[.val (.int p0), .val (.int x0), .val (.int x1), .val (.int x2), .val (.int x3), .val (.int (4 : Int32)), .val (.ref ta), .unset, .unset, .unset, .unset, .unset, .unset] [(.long ((((x0.toInt64) + (x1.toInt64)) + (x2.toInt64)) + (x3.toInt64)))]))
    refine own_via (fun tq kq => XS.lstore X17.here hx rfl (hb hby at_138) rfl (l' := #[.val (.int p0), .val (.int x0), .val (.int x1), .val (.int x2), .val (.int x3), .val (.int (4 : Int32)), .val (.ref ta), .val (.long ((((x0.toInt64) + (x1.toInt64)) + (x2.toInt64)) + (x3.toInt64))), .second, .unset, .unset, .unset, .unset]) rfl kq) ?_
    show Ogo p e below _ (T17.setTop (mkF m 140 #[.val (.int p0), .val (.int x0), .val (.int x1), .val (.int x2), .val (.int x3), .val (.int (4 : Int32)), .val (.ref ta), .val (.long ((((x0.toInt64) + (x1.toInt64)) + (x2.toInt64)) + (x3.toInt64))), .second, .unset, .unset, .unset, .unset] []))
    refine own_via (fun tq kq => XS.aload X17.here hx rfl (hb hby at_140) rfl rfl kq) ?_
    show Ogo p e below _ (T17.setTop (mkF m 142 #[.val (.int p0), .val (.int x0), .val (.int x1), .val (.int x2), .val (.int x3), .val (.int (4 : Int32)), .val (.ref ta), .val (.long ((((x0.toInt64) + (x1.toInt64)) + (x2.toInt64)) + (x3.toInt64))), .second, .unset, .unset, .unset, .unset] [(.ref ta)]))
    refine own_callS X17 hx hZ hown (hw _ (List.mem_of_getElem? (i := 1) rfl)) (hw _ (List.mem_of_getElem? (i := 2) rfl)) (hw _ (List.mem_of_getElem? (i := 3) rfl)) (hw _ (List.mem_of_getElem? (i := 4) rfl)) (by decide) (rm_me hw ta 4 (4 : Int32) (own_w x0 x1 x2 x3) h17 n0 A_ta (by decide) rfl (by decide) (fun j _ => own_wb x0 x1 x2 x3 j)) rfl e17 (W := 0) (by decide) (by decide) (by decide) (by decide) (by rw [hml]; rfl) (argsL := [(.ref ta)]) (rest := []) (lenOf pd_0 rfl) rfl (Nat.le_of_eq rfl) (hb hby at_142) ?_
    rintro _ T18 L18 X18 ⟨rfl, Nq, hk⟩
    have N := N.app Nq
    have hk18 := hk
    show Ogo p e below _ (T18.setTop (mkF m 145 #[.val (.int p0), .val (.int x0), .val (.int x1), .val (.int x2), .val (.int x3), .val (.int (4 : Int32)), .val (.ref ta), .val (.long ((((x0.toInt64) + (x1.toInt64)) + (x2.toInt64)) + (x3.toInt64))), .second, .unset, .unset, .unset, .unset] [(.double (FP.ddiv (FP.l2d (own_sum (own_w x0 x1 x2 x3) 4)) (FP.l2d ((4 : Int32).toInt64))))]))
    have hsum : own_sum (own_w x0 x1 x2 x3) 4 = ((((x0.toInt64) + (x1.toInt64)) + (x2.toInt64)) + (x3.toInt64)) := by simp [own_sum, own_w]
    rw [hsum]
    show Ogo p e below _ (T18.setTop (mkF m 145 #[.val (.int p0), .val (.int x0), .val (.int x1), .val (.int x2), .val (.int x3), .val (.int (4 : Int32)), .val (.ref ta), .val (.long ((((x0.toInt64) + (x1.toInt64)) + (x2.toInt64)) + (x3.toInt64))), .second, .unset, .unset, .unset, .unset] [(.double (FP.ddiv (FP.l2d ((((x0.toInt64) + (x1.toInt64)) + (x2.toInt64)) + (x3.toInt64))) (FP.l2d ((4 : Int32).toInt64))))]))
    refine own_via (fun tq kq => XS.dstore X18.here hx rfl (hb hby at_145) rfl (l' := #[.val (.int p0), .val (.int x0), .val (.int x1), .val (.int x2), .val (.int x3), .val (.int (4 : Int32)), .val (.ref ta), .val (.long ((((x0.toInt64) + (x1.toInt64)) + (x2.toInt64)) + (x3.toInt64))), .second, .val (.double (FP.ddiv (FP.l2d ((((x0.toInt64) + (x1.toInt64)) + (x2.toInt64)) + (x3.toInt64))) (FP.l2d ((4 : Int32).toInt64)))), .second, .unset, .unset]) rfl kq) ?_
    show Ogo p e below _ (T18.setTop (mkF m 147 #[.val (.int p0), .val (.int x0), .val (.int x1), .val (.int x2), .val (.int x3), .val (.int (4 : Int32)), .val (.ref ta), .val (.long ((((x0.toInt64) + (x1.toInt64)) + (x2.toInt64)) + (x3.toInt64))), .second, .val (.double (FP.ddiv (FP.l2d ((((x0.toInt64) + (x1.toInt64)) + (x2.toInt64)) + (x3.toInt64))) (FP.l2d ((4 : Int32).toInt64)))), .second, .unset, .unset] []))
    refine own_via (fun tq kq => XS.lload X18.here hx rfl (hb hby at_147) rfl kq) ?_
    show Ogo p e below _ (T18.setTop (mkF m 149 #[.val (.int p0), .val (.int x0), .val (.int x1), .val (.int x2), .val (.int x3), .val (.int (4 : Int32)), .val (.ref ta), .val (.long ((((x0.toInt64) + (x1.toInt64)) + (x2.toInt64)) + (x3.toInt64))), .second, .val (.double (FP.ddiv (FP.l2d ((((x0.toInt64) + (x1.toInt64)) + (x2.toInt64)) + (x3.toInt64))) (FP.l2d ((4 : Int32).toInt64)))), .second, .unset, .unset] [(.long ((((x0.toInt64) + (x1.toInt64)) + (x2.toInt64)) + (x3.toInt64)))]))
    refine own_via (fun tq kq => XS.l2dS X18.here hx rfl (hb hby at_149) rfl rfl kq) ?_
    show Ogo p e below _ (T18.setTop (mkF m 150 #[.val (.int p0), .val (.int x0), .val (.int x1), .val (.int x2), .val (.int x3), .val (.int (4 : Int32)), .val (.ref ta), .val (.long ((((x0.toInt64) + (x1.toInt64)) + (x2.toInt64)) + (x3.toInt64))), .second, .val (.double (FP.ddiv (FP.l2d ((((x0.toInt64) + (x1.toInt64)) + (x2.toInt64)) + (x3.toInt64))) (FP.l2d ((4 : Int32).toInt64)))), .second, .unset, .unset] [(.double (FP.l2d ((((x0.toInt64) + (x1.toInt64)) + (x2.toInt64)) + (x3.toInt64))))]))
    refine own_via (fun tq kq => XS.iload X18.here hx rfl (hb hby at_150) rfl kq) ?_
    show Ogo p e below _ (T18.setTop (mkF m 152 #[.val (.int p0), .val (.int x0), .val (.int x1), .val (.int x2), .val (.int x3), .val (.int (4 : Int32)), .val (.ref ta), .val (.long ((((x0.toInt64) + (x1.toInt64)) + (x2.toInt64)) + (x3.toInt64))), .second, .val (.double (FP.ddiv (FP.l2d ((((x0.toInt64) + (x1.toInt64)) + (x2.toInt64)) + (x3.toInt64))) (FP.l2d ((4 : Int32).toInt64)))), .second, .unset, .unset] [(.int (4 : Int32)), (.double (FP.l2d ((((x0.toInt64) + (x1.toInt64)) + (x2.toInt64)) + (x3.toInt64))))]))
    refine own_via (fun tq kq => XS.i2dS X18.here hx rfl (v := FP.l2d ((4 : Int32).toInt64)) (hb hby at_152) rfl (i2d_w _) kq) ?_
    show Ogo p e below _ (T18.setTop (mkF m 153 #[.val (.int p0), .val (.int x0), .val (.int x1), .val (.int x2), .val (.int x3), .val (.int (4 : Int32)), .val (.ref ta), .val (.long ((((x0.toInt64) + (x1.toInt64)) + (x2.toInt64)) + (x3.toInt64))), .second, .val (.double (FP.ddiv (FP.l2d ((((x0.toInt64) + (x1.toInt64)) + (x2.toInt64)) + (x3.toInt64))) (FP.l2d ((4 : Int32).toInt64)))), .second, .unset, .unset] [(.double (FP.l2d ((4 : Int32).toInt64))), (.double (FP.l2d ((((x0.toInt64) + (x1.toInt64)) + (x2.toInt64)) + (x3.toInt64))))]))
    refine own_via (fun tq kq => XS.ddivS X18.here hx rfl (hb hby at_153) rfl (own_nn (by decide)) rfl kq) ?_
    show Ogo p e below _ (T18.setTop (mkF m 154 #[.val (.int p0), .val (.int x0), .val (.int x1), .val (.int x2), .val (.int x3), .val (.int (4 : Int32)), .val (.ref ta), .val (.long ((((x0.toInt64) + (x1.toInt64)) + (x2.toInt64)) + (x3.toInt64))), .second, .val (.double (FP.ddiv (FP.l2d ((((x0.toInt64) + (x1.toInt64)) + (x2.toInt64)) + (x3.toInt64))) (FP.l2d ((4 : Int32).toInt64)))), .second, .unset, .unset] [(.double (FP.ddiv (FP.l2d ((((x0.toInt64) + (x1.toInt64)) + (x2.toInt64)) + (x3.toInt64))) (FP.l2d ((4 : Int32).toInt64))))]))
    refine own_via (fun tq kq => XS.dstore X18.here hx rfl (hb hby at_154) rfl (l' := #[.val (.int p0), .val (.int x0), .val (.int x1), .val (.int x2), .val (.int x3), .val (.int (4 : Int32)), .val (.ref ta), .val (.long ((((x0.toInt64) + (x1.toInt64)) + (x2.toInt64)) + (x3.toInt64))), .second, .val (.double (FP.ddiv (FP.l2d ((((x0.toInt64) + (x1.toInt64)) + (x2.toInt64)) + (x3.toInt64))) (FP.l2d ((4 : Int32).toInt64)))), .second, .val (.double (FP.ddiv (FP.l2d ((((x0.toInt64) + (x1.toInt64)) + (x2.toInt64)) + (x3.toInt64))) (FP.l2d ((4 : Int32).toInt64)))), .second]) rfl kq) ?_
    show Ogo p e below _ (T18.setTop (mkF m 156 #[.val (.int p0), .val (.int x0), .val (.int x1), .val (.int x2), .val (.int x3), .val (.int (4 : Int32)), .val (.ref ta), .val (.long ((((x0.toInt64) + (x1.toInt64)) + (x2.toInt64)) + (x3.toInt64))), .second, .val (.double (FP.ddiv (FP.l2d ((((x0.toInt64) + (x1.toInt64)) + (x2.toInt64)) + (x3.toInt64))) (FP.l2d ((4 : Int32).toInt64)))), .second, .val (.double (FP.ddiv (FP.l2d ((((x0.toInt64) + (x1.toInt64)) + (x2.toInt64)) + (x3.toInt64))) (FP.l2d ((4 : Int32).toInt64)))), .second] []))
    refine own_via (fun tq kq => XS.dload X18.here hx rfl (hb hby at_156) rfl kq) ?_
    show Ogo p e below _ (T18.setTop (mkF m 158 #[.val (.int p0), .val (.int x0), .val (.int x1), .val (.int x2), .val (.int x3), .val (.int (4 : Int32)), .val (.ref ta), .val (.long ((((x0.toInt64) + (x1.toInt64)) + (x2.toInt64)) + (x3.toInt64))), .second, .val (.double (FP.ddiv (FP.l2d ((((x0.toInt64) + (x1.toInt64)) + (x2.toInt64)) + (x3.toInt64))) (FP.l2d ((4 : Int32).toInt64)))), .second, .val (.double (FP.ddiv (FP.l2d ((((x0.toInt64) + (x1.toInt64)) + (x2.toInt64)) + (x3.toInt64))) (FP.l2d ((4 : Int32).toInt64)))), .second] [(.double (FP.ddiv (FP.l2d ((((x0.toInt64) + (x1.toInt64)) + (x2.toInt64)) + (x3.toInt64))) (FP.l2d ((4 : Int32).toInt64))))]))
    refine own_via (fun tq kq => XS.dload X18.here hx rfl (hb hby at_158) rfl kq) ?_
    show Ogo p e below _ (T18.setTop (mkF m 160 #[.val (.int p0), .val (.int x0), .val (.int x1), .val (.int x2), .val (.int x3), .val (.int (4 : Int32)), .val (.ref ta), .val (.long ((((x0.toInt64) + (x1.toInt64)) + (x2.toInt64)) + (x3.toInt64))), .second, .val (.double (FP.ddiv (FP.l2d ((((x0.toInt64) + (x1.toInt64)) + (x2.toInt64)) + (x3.toInt64))) (FP.l2d ((4 : Int32).toInt64)))), .second, .val (.double (FP.ddiv (FP.l2d ((((x0.toInt64) + (x1.toInt64)) + (x2.toInt64)) + (x3.toInt64))) (FP.l2d ((4 : Int32).toInt64)))), .second] [(.double (FP.ddiv (FP.l2d ((((x0.toInt64) + (x1.toInt64)) + (x2.toInt64)) + (x3.toInt64))) (FP.l2d ((4 : Int32).toInt64)))), (.double (FP.ddiv (FP.l2d ((((x0.toInt64) + (x1.toInt64)) + (x2.toInt64)) + (x3.toInt64))) (FP.l2d ((4 : Int32).toInt64))))]))
    refine own_via (fun tq kq => XS.dcmpS X18.here hx rfl (hb hby at_160) rfl (v := (0 : Int32)) (dcmpV_self (own_nn (by decide)) _) kq) ?_
    show Ogo p e below _ (T18.setTop (mkF m 161 #[.val (.int p0), .val (.int x0), .val (.int x1), .val (.int x2), .val (.int x3), .val (.int (4 : Int32)), .val (.ref ta), .val (.long ((((x0.toInt64) + (x1.toInt64)) + (x2.toInt64)) + (x3.toInt64))), .second, .val (.double (FP.ddiv (FP.l2d ((((x0.toInt64) + (x1.toInt64)) + (x2.toInt64)) + (x3.toInt64))) (FP.l2d ((4 : Int32).toInt64)))), .second, .val (.double (FP.ddiv (FP.l2d ((((x0.toInt64) + (x1.toInt64)) + (x2.toInt64)) + (x3.toInt64))) (FP.l2d ((4 : Int32).toInt64)))), .second] [(.int (0 : Int32))]))
    refine own_via (fun tq kq => XS.ifNo X18.here hx rfl (hb hby at_161) rfl ((if0 _ _).trans (teq (rfl : (0 : Int32) = (0 : Int32))).2) kq) ?_
    show Ogo p e below _ (T18.setTop (mkF m 164 #[.val (.int p0), .val (.int x0), .val (.int x1), .val (.int x2), .val (.int x3), .val (.int (4 : Int32)), .val (.ref ta), .val (.long ((((x0.toInt64) + (x1.toInt64)) + (x2.toInt64)) + (x3.toInt64))), .second, .val (.double (FP.ddiv (FP.l2d ((((x0.toInt64) + (x1.toInt64)) + (x2.toInt64)) + (x3.toInt64))) (FP.l2d ((4 : Int32).toInt64)))), .second, .val (.double (FP.ddiv (FP.l2d ((((x0.toInt64) + (x1.toInt64)) + (x2.toInt64)) + (x3.toInt64))) (FP.l2d ((4 : Int32).toInt64)))), .second] []))
    refine own_via (fun tq kq => XS.iconst X18.here hx rfl (hb hby at_164) kq) ?_
    show Ogo p e below _ (T18.setTop (mkF m 165 #[.val (.int p0), .val (.int x0), .val (.int x1), .val (.int x2), .val (.int x3), .val (.int (4 : Int32)), .val (.ref ta), .val (.long ((((x0.toInt64) + (x1.toInt64)) + (x2.toInt64)) + (x3.toInt64))), .second, .val (.double (FP.ddiv (FP.l2d ((((x0.toInt64) + (x1.toInt64)) + (x2.toInt64)) + (x3.toInt64))) (FP.l2d ((4 : Int32).toInt64)))), .second, .val (.double (FP.ddiv (FP.l2d ((((x0.toInt64) + (x1.toInt64)) + (x2.toInt64)) + (x3.toInt64))) (FP.l2d ((4 : Int32).toInt64)))), .second] [(.int (1 : Int32))]))
    refine own_via (fun tq kq => XS.goto X18.here hx rfl (pc0 := 165) (pc' := 169) rfl (hb hby at_165) (by decide) (by decide) kq) ?_
    show Ogo p e below _ (T18.setTop (mkF m 169 #[.val (.int p0), .val (.int x0), .val (.int x1), .val (.int x2), .val (.int x3), .val (.int (4 : Int32)), .val (.ref ta), .val (.long ((((x0.toInt64) + (x1.toInt64)) + (x2.toInt64)) + (x3.toInt64))), .second, .val (.double (FP.ddiv (FP.l2d ((((x0.toInt64) + (x1.toInt64)) + (x2.toInt64)) + (x3.toInt64))) (FP.l2d ((4 : Int32).toInt64)))), .second, .val (.double (FP.ddiv (FP.l2d ((((x0.toInt64) + (x1.toInt64)) + (x2.toInt64)) + (x3.toInt64))) (FP.l2d ((4 : Int32).toInt64)))), .second] [(.int (1 : Int32))]))
    exact own_out X18 hlk (fun h => by rw [hret] at h; cases h) (by decide) (by decide) (by first | exact ⟨rfl, N⟩ | (rw [hk18]; exact ⟨rfl, N⟩)) (fun fs hr => retN X18 hx (t := .boolean) hret (by simp) (hb hby at_169) hr)
set_option maxRecDepth 65536 in
set_option maxHeartbeats 40000000 in
theorem own_comes {Post : Tables → Env → Array Value → State → Outcome → State → Prop} (hpost : ∀ tb e args s v u, (limb_1_1.after args s (.returned v) u = true ∧ limb_1_2.after args s (.returned v) u = true ∧ True) → FrameEnd s (.returned v) u (Jvm.fieldLocs frame_1_writes args s ++ Jvm.arrayLocs frame_1_arrays args s ++ Jvm.staticLocs frame_1_statics s) 16 128 → Post tb e args s (.returned v) u) :
    ArmFor flags0 classFile x code maxLocals ret World_1 tables_1 room_1 Calls_1 rest_1 Pre_1 Post := by
  intro l hfl _ _ p e ha hc hk s m args below hf hA hF happ hP
  obtain ⟨hcalls, hrest, hpre⟩ := hP
  obtain ⟨-, -, -, hnamed, -, -, -, hat⟩ := (Spec.applies_iff hf).mp happ
  obtain ⟨hg, hn⟩ := and_e (Cond.before_iff.mp (show (Jvm.Cond.and given_1 narrow_1).before args s = true from hpre))
  obtain ⟨q0, r0⟩ := and_e hg
  obtain ⟨q1, r1⟩ := and_e r0
  obtain ⟨q2, r2⟩ := and_e r1
  obtain ⟨q3, r3⟩ := and_e r2
  obtain ⟨q4, r4⟩ := and_e r3
  obtain ⟨w0, w1, w2, w3, w4, rfl⟩ : ∃ w0 w1 w2 w3 w4 : Value, args = #[w0, w1, w2, w3, w4] := by
    have hs : args.size = 5 := by simpa [Cond.value, given_1] using q0
    obtain ⟨L⟩ := args
    match L, hs with
    | [w0, w1, w2, w3, w4], _ => exact ⟨w0, w1, w2, w3, w4, rfl⟩
  have hw := fun d (hd : d ∈ tables_1) => atoms_spec (ws := Jvm.Cond.code x code maxLocals ret :: tables_1) hat d (List.mem_cons_of_mem _ hd)
  have hfit : Fit s := fun {y c} hc i hi => by
    obtain ⟨ha, rfl⟩ := Array.getElem?_eq_some_iff.mp hc
    have q := List.all_eq_true.mp ((Array.all_eq_true_iff_forall_mem.mp hF) _ (Array.getElem_mem ha)) i (List.mem_range.mpr hi)
    simpa [Array.getElem?_eq_getElem hi] using q
  obtain ⟨i0, ei0⟩ := is_v q1
  obtain rfl : w0 = (.int i0) := Option.some.inj ei0
  obtain ⟨i1, ei1⟩ := is_v q2
  obtain rfl : w1 = (.int i1) := Option.some.inj ei1
  obtain ⟨i2, ei2⟩ := is_v q3
  obtain rfl : w2 = (.int i2) := Option.some.inj ei2
  obtain ⟨i3, ei3⟩ := is_v q4
  obtain rfl : w3 = (.int i3) := Option.some.inj ei3
  obtain ⟨i4, ei4⟩ := is_v r4
  obtain rfl : w4 = (.int i4) := Option.some.inj ei4
  obtain ⟨n, o, h1, h2, h3, _, L, rfl, ⟨rfl, N⟩, hq⟩ := rm_law hw i0 i1 i2 i3 i4 s.heap s.heap.size (Nat.le_refl _) p e ha hc hk s m _ below hf ((Spec.applies_iff_loose hf).mp happ).1 ⟨rfl, State.Warmed39.refl s, rfl⟩ trivial
  refine ⟨n, _, h1, h2, h3, hpost _ _ _ _ _ _ ⟨Cond.after_iff.mpr rfl, Cond.after_iff.mpr (eq_i res_at (Term.int_eval (1)) rfl), trivial⟩ ⟨hq.1, hq.2.1, (hq.2.2.sift fun y hy => Or.inr (N y hy)).mono (by decide) (by decide)⟩⟩
theorem main_1_1 : Claimed_1_1 := own_comes fun _ _ _ _ _ _ h hF => ⟨h.1, hF⟩
theorem main_1_2 : Claimed_1_2 := own_comes fun _ _ _ _ _ _ h hF => ⟨h.2.1, hF⟩
end Jvm.Pilot.@@N@@
namespace Jvm.Pilot.@@N@@
open Jvm Jvm.ClassFile Sem Op Lib Jvm.Free Jvm.Stand Jvm.Pilot.@@N@@.Jvm.D
/-! MADE BY PROGRAM (witnessworld.py) out of the Statement's table words and the real class files: 9 classes; the members and pool entries that the words name. The judged class is class 1, her method 1. -/
namespace start1
open Jvm.ClassFile
def u (s : String) : CpInfo := .utf8 (stringToUtf16 s)
/-- a pool by its gaps: so many unusable entries, then the entry; so many at the end -/
def gap : Nat → List CpInfo → List CpInfo
  | 0, r => r
  | n + 1, r => .unusable :: gap n r
def poolList (es : List (Nat × CpInfo)) (last : Nat) : List CpInfo := es.foldr (fun e r => gap e.1 (e.2 :: r)) (gap last [])
def pool (es : List (Nat × CpInfo)) (last : Nat) : Array CpInfo := ⟨poolList es last⟩
def fileOf (pool : Array CpInfo) (this : Nat) (attrs : Array Attribute := #[]) (ms : Array MethodInfo := #[]) (fl : Nat := 33) (sup : Nat := 0) (ifs : Array Nat := #[]) (fds : Array FieldInfo := #[]) : ClassFile where
  minorVersion := 0
  majorVersion := 65
  constantPool := pool
  accessFlags := fl
  thisClass := this
  superClass := sup
  interfaces := ifs
  fields := fds
  methods := ms
  attributes := attrs
def plain (name : String) (sup : Option ClassId) : Class where
  name := name
  kind := .ordinary
  loader := none
  accessFlags := 33
  super := sup
  interfaces := #[]
  cf := none
  fields := #[]
  methods := #[]
  instanceTypes := #[]
  staticTypes := #[]
  resolved := #[]
  callSites := []
  init := .initialized
  statics := none
  mirror := none

def pool0 : Array CpInfo := pool [(5, u "<init>"), (0, u "()V"), (1, .class_ 10), (1, u "java/lang/Object")] 113

def k0m0 : Method := { name := "<init>", desc := "()V", sig := { parameters := [], returnType := none }, accessFlags := 1, code := none }
/-- java/lang/Object -/
def k0 : Class := { plain "java/lang/Object" none with
  accessFlags := 33
  interfaces := #[]
  cf := some (fileOf pool0 8 #[] #[{ accessFlags := 1, nameIndex := 5, descriptorIndex := 6, attributes := #[] }] 33 0 #[] #[])
  fields := #[]
  methods := #[k0m0]
  instanceTypes := #[]
  staticTypes := #[]
  resolved := Array.replicate 124 none
  statics := none }

def pool1 : Array CpInfo := pool [(2, .class_ 4), (1, u "java/lang/Object"), (0, u "<init>"), (0, u "()V"), (0, .methodref 8 9), (0, .class_ 10), (0, .nameAndType 11 12), (0, u "com/example/depister/depister/eval/PairedTests"), (0, u "mean"), (0, u "([D)D"), (0, .class_ 14), (0, u "com/example/depister/depister/eval/PairedTestsMeanPinLaw"), (2, u "law"), (0, u "(IIIII)Z")] 5

def k1m0 : Method := { name := "<init>", desc := "()V", sig := { parameters := [], returnType := none }, accessFlags := 2, code := none }
def k1c1 : Code := { maxStack := 5, maxLocals := 13, code := code, exceptionTable := #[], attributes := #[] }
def k1m1 : Method := { name := "law", desc := "(IIIII)Z", sig := { parameters := [.int, .int, .int, .int, .int], returnType := some .boolean }, accessFlags := 9, code := some k1c1 }
/-- com/example/depister/depister/eval/PairedTestsMeanPinLaw -/
def k1 : Class := { plain "com/example/depister/depister/eval/PairedTestsMeanPinLaw" (some 0) with
  accessFlags := 49
  interfaces := #[]
  cf := some (fileOf pool1 13 #[] #[{ accessFlags := 2, nameIndex := 5, descriptorIndex := 6, attributes := #[] }, { accessFlags := 9, nameIndex := 17, descriptorIndex := 18, attributes := #[] }] 49 2 #[] #[])
  fields := #[]
  methods := #[k1m0, k1m1]
  instanceTypes := #[]
  staticTypes := #[]
  resolved := Array.replicate 24 none
  statics := none }

def pool2 : Array CpInfo := pool [(2, .class_ 4), (1, u "java/lang/Object"), (0, u "<init>"), (0, u "()V"), (0, .class_ 8), (0, u "com/example/depister/depister/eval/PairedTests"), (6, u "mean"), (0, u "([D)D"), (101, u "TIE"), (0, u "D")] 51

def k2m0 : Method := { name := "<init>", desc := "()V", sig := { parameters := [], returnType := none }, accessFlags := 2, code := none }
def k2c1 : Code := { maxStack := 4, maxLocals := 8, code := prog_141_method_3_code, exceptionTable := #[], attributes := #[] }
def k2m1 : Method := { name := "mean", desc := "([D)D", sig := { parameters := [(.array .double)], returnType := some .double }, accessFlags := 8, code := some k2c1 }
/-- com/example/depister/depister/eval/PairedTests -/
def k2 : Class := { plain "com/example/depister/depister/eval/PairedTests" (some 0) with
  accessFlags := 48
  interfaces := #[]
  cf := some (fileOf pool2 7 #[] #[{ accessFlags := 2, nameIndex := 5, descriptorIndex := 6, attributes := #[] }, { accessFlags := 8, nameIndex := 15, descriptorIndex := 16, attributes := #[] }] 48 2 #[] #[{ accessFlags := 24, nameIndex := 118, descriptorIndex := 119, attributes := #[] }])
  fields := #[{ name := "TIE", type := .double, accessFlags := 24, slot := 0, constantValue := 0 }]
  methods := #[k2m0, k2m1]
  instanceTypes := #[]
  staticTypes := #[.double]
  resolved := Array.replicate 171 none
  statics := none }

def pool3 : Array CpInfo := pool [(1, u "java/lang/Cloneable"), (0, .class_ 1), (0, u "java/lang/Object"), (0, .class_ 3)] 3

/-- java/lang/Cloneable -/
def k3 : Class := { plain "java/lang/Cloneable" (some 0) with
  accessFlags := 1537
  interfaces := #[]
  cf := some (fileOf pool3 2 #[] #[] 1537 4 #[] #[])
  fields := #[]
  methods := #[]
  instanceTypes := #[]
  staticTypes := #[]
  resolved := Array.replicate 8 none
  statics := none }

def pool4 : Array CpInfo := pool [(1, u "java/io/Serializable"), (0, .class_ 1), (0, u "java/lang/Object"), (0, .class_ 3)] 3

/-- java/io/Serializable -/
def k4 : Class := { plain "java/io/Serializable" (some 0) with
  accessFlags := 1537
  interfaces := #[]
  cf := some (fileOf pool4 2 #[] #[] 1537 4 #[] #[])
  fields := #[]
  methods := #[]
  instanceTypes := #[]
  staticTypes := #[]
  resolved := Array.replicate 8 none
  statics := none }

/-- the primitive byte -/
def k5 : Class := { plain "double" none with kind := .primitive 'D', accessFlags := 0x411 }
/-- [B -/
def k6 : Class := { plain "[D" (some 0) with kind := .array 5 .double, interfaces := #[3, 4], accessFlags := 1041 }

/-- the primitive int -/
def k7 : Class := { plain "int" none with kind := .primitive 'I', accessFlags := 0x411 }
/-- [I -/
def k8 : Class := { plain "[I" (some 0) with kind := .array 7 .int, interfaces := #[3, 4], accessFlags := 1041 }

def heap : Heap := #[]
def classes : Array Class := #[k0, k1, k2, k3, k4, k5, k6, k7, k8]
def interned : List (Array UInt16 × Addr) := []
def slotsUsed : Nat := 0
def theMethod : MethodId := ⟨1, 1⟩
def args0 : Array Value := #[.int 2, .int 1, .int 2, .int 3, .int 4]
def aboutOver (below : List Frame) : State where
  vm := { classes := classes, interned := interned.toArray }
  heap := heap
  slotsUsed := slotsUsed
  threads := #[{ frames := .invoking theMethod args0 :: below }]
def below0 : List Frame := [.native { method := ⟨0, 0⟩, args := #[] }]
def about1 : State := aboutOver below0
def p0 : Program := .bare "" "" ""
def e0 : Env := launch0.env 0 0 0
theorem w_frames : about1.frames = Frame.invoking theMethod args0 :: below0 := rfl
set_option maxRecDepth 65536 in
theorem w_args : argsFit about1.vm theMethod args0 = true := by decide +kernel
set_option maxRecDepth 65536 in
theorem w_heap : heapFits about1 = true := by decide +kernel
set_option maxRecDepth 65536 in
theorem w_runnable : about1.curStatus? = some .runnable := by decide +kernel
set_option maxRecDepth 65536 in
theorem w_alone : about1.alone = true := by decide +kernel
set_option maxRecDepth 65536 in
theorem w_named : about1.methodNamed? x = some theMethod := by decide +kernel
set_option maxRecDepth 65536 in
theorem w_hears : about1.hears theMethod below0 = true := by decide +kernel
set_option maxRecDepth 65536 in
theorem w_ripe : about1.ripe theMethod args0 below0 = true := by decide +kernel
theorem w_running : about1.status = .running := rfl
set_option maxRecDepth 65536 in
theorem w_room : about1.hasRoom e0.platform room_1 = true :=
  launch0.hasRoom_least _ room_1 (by decide +kernel) (by decide +kernel) (by decide +kernel) (by decide +kernel) (by decide +kernel) (by decide +kernel)
theorem allAtoms_all (ts : List Jvm.Cond) (a : Array Jvm.Value) (st : Jvm.State) : (allAtoms ts).before a st = ts.all (fun c => c.before a st) := by
  induction ts with
  | nil => rfl
  | cons c t ih =>
    show (Jvm.Cond.and c (allAtoms t)).before a st = _
    rw [Jvm.Cond.before_and, ih, List.all_cons]
def words1 : List Jvm.Cond := Jvm.Cond.code x code maxLocals ret :: tables_1
/-- a 'code' word, met by the world's own term for the bytes: nothing is compared byte by byte -/
theorem code_word {y : MethodName} {bytes : ByteArray} {mx : Nat} {rt : Option FieldType} {a : Array Value} {s : State} {m : MethodId} {meth : Method} {c : Code} (h1 : s.methodNamed? y = some m) (h2 : s.vm.method? m = some meth) (h3 : meth.code = some c) (h4 : c.code = bytes)
    (h5 : (c.maxLocals == mx && c.exceptionTable.isEmpty && decide (c.maxStack ≤ mostOperands) && decide (meth.sig.returnType = rt) && !meth.locks && decide (parseMethodDescriptor y.desc = some meth.sig)) = true) : (Jvm.Cond.code y bytes mx rt).before a s = true := by
  simp only [Bool.and_eq_true, beq_iff_eq, Bool.not_eq_true', decide_eq_true_eq] at h5
  obtain ⟨⟨⟨⟨⟨g1, g2⟩, g3⟩, g4⟩, g5⟩, g6⟩ := h5
  simp [Cond.before, Cond.holds, Cond.value, h1, h2, h3, h4, g1, g2, g3, g4, g5, g6]
def isCode : Jvm.Cond → Bool
  | .code _ _ _ _ => true
  | _ => false
theorem all_split {L : List Jvm.Cond} {P : Jvm.Cond → Bool} (h1 : L.all (fun c => isCode c || P c) = true) (h2 : ∀ c ∈ L.filter isCode, P c = true) : L.all P = true := by
  refine List.all_eq_true.mpr fun c hc => ?_
  have h := List.all_eq_true.mp h1 c hc
  rcases Bool.eq_false_or_eq_true (isCode c) with hi | hi
  · exact h2 c (List.mem_filter.mpr ⟨hc, hi⟩)
  · simpa [hi] using h
set_option maxRecDepth 65536 in
theorem w_c0 : (Jvm.Cond.code x code maxLocals ret).before args0 about1 = true := code_word (m := ⟨1, 1⟩) (meth := k1m1) (c := k1c1) (by decide +kernel) rfl rfl rfl (by decide +kernel)
set_option maxRecDepth 65536 in
theorem w_c1 : (Jvm.Cond.code ({ cls := "com/example/depister/depister/eval/PairedTests", name := "mean", desc := "([D)D" } : Jvm.MethodName) prog_141_method_3_code (8 : Nat) (Option.some Jvm.ClassFile.FieldType.double)).before args0 about1 = true := code_word (m := ⟨2, 1⟩) (meth := k2m1) (c := k2c1) (by decide +kernel) rfl rfl rfl (by decide +kernel)
def codes1 : List Jvm.Cond := [Jvm.Cond.code x code maxLocals ret, Jvm.Cond.code ({ cls := "com/example/depister/depister/eval/PairedTests", name := "mean", desc := "([D)D" } : Jvm.MethodName) prog_141_method_3_code (8 : Nat) (Option.some Jvm.ClassFile.FieldType.double)]
set_option maxRecDepth 65536 in
theorem codes_eq : words1.filter isCode = codes1 := rfl
theorem w_codes : ∀ c ∈ words1.filter isCode, c.before args0 about1 = true := by
  rw [codes_eq]
  intro c hc
  simp only [codes1, List.mem_cons, List.not_mem_nil, or_false] at hc
  rcases hc with rfl | rfl
  · exact w_c0
  · exact w_c1
set_option maxRecDepth 65536 in
theorem w_t1 : words1.all (fun c => isCode c || c.before args0 about1) = true := by decide +kernel
theorem w_tables : (allAtoms (Jvm.Cond.code x code maxLocals ret :: tables_1)).before args0 about1 = true := by
  rw [allAtoms_all]
  show words1.all (fun c => c.before args0 about1) = true
  refine all_split ?_ w_codes
  rw [w_t1]
set_option maxRecDepth 65536 in
theorem w_case : (Jvm.Cond.and given_1 narrow_1).before args0 about1 = true := by decide +kernel
theorem w_applies : (headSpec (Jvm.Cond.code x code maxLocals ret :: tables_1) room_1).applies x e0.platform about1 = true :=
  (Spec.applies_iff w_frames).mpr ⟨w_running, w_runnable, w_alone, w_named, w_hears, w_ripe, w_room, w_tables⟩
theorem atStart : AtStart classFile x code maxLocals ret World_1 tables_1 room_1 Calls_1 rest_1 Pre_1 launch0 p0 e0 about1 theMethod args0 below0 :=
  ⟨lists_1, trivial, launch0.admits_env _ _ _, launch0.least_env, fairChoices_fair.cas, fairChoices_fair.clock, w_frames, w_args, w_heap, w_applies, trivial, trivial, w_case⟩
end start1
theorem witness_1 : WitnessClaimed_1 := ⟨start1.p0, start1.e0, start1.about1, start1.theMethod, start1.args0, start1.below0, start1.atStart⟩
end Jvm.Pilot.@@N@@
