import JvmDerived
import JvmDerived.Pilot.@@N@@Statement
import JvmDerived.Pilot.@@N@@Code
set_option linter.unusedVariables false
set_option linter.unusedSimpArgs false
@@BLOCK:NumsL.lean.txt@@
namespace Jvm.Pilot.@@N@@
open Jvm Jvm.ClassFile Sem Op Lib Jvm.Free Jvm.Stand Jvm.LawKit Jvm.RoadKit Bundle Jvm.Pilot.@@N@@.Jvm.D
section Own
variable {p : Program} {l : Launch} {e : Env} {R : Room} {s : State} {m : MethodId} {args : Array Value} {below : List Frame} {meth : Method} {c : Code} {T T' : State} {locs : List Loc} {cells slots : Nat} {g g' : JFrame} {Q : Option Value → Heap → List Loc → Nat → Nat → Prop} {Z : State} {a0 : Array Value} {h : Heap}
/-- from this frame, in this state, the run comes to a return, and what it leaves meets Q -/
def Goal (p : Program) (l : Launch) (e : Env) (R : Room) (s : State) (m : MethodId) (args : Array Value) (below : List Frame) (meth : Method) (c : Code) (Q : Option Value → Heap → List Loc → Nat → Nat → Prop) (T : State) (g : JFrame) : Prop :=
  ∃ v U L k n, Stand p l e R s m args below meth c U L k n ∧ (meth.sig.returnType = none → v = none) ∧ Q v U.heap L k n ∧
    ∀ fs, (∀ (f : JFrame) (acts : List Action), f.method = m → f.locked = none → f.entered = [] → (doReturn e (U.setTop f) acts v).1 = U.setFrames fs) → Steps p.tables e below (T.setTop g) (U.setFrames fs)
theorem Goal.step (h : Goal p l e R s m args below meth c Q T' g') (st : ∀ t, Steps p.tables e below (T'.setTop g') t → Steps p.tables e below (T.setTop g) t) : Goal p l e R s m args below meth c Q T g := by
  obtain ⟨v, U, L, k, n, X, hv, hq, hs⟩ := h
  exact ⟨v, U, L, k, n, X, hv, hq, fun fs hl => st _ (hs fs hl)⟩
theorem Goal.imp {Q' : Option Value → Heap → List Loc → Nat → Nat → Prop} (h : Goal p l e R s m args below meth c Q T g) (q : ∀ v h L k n, Q v h L k n → Q' v h L k n) : Goal p l e R s m args below meth c Q' T g := by
  obtain ⟨v, U, L, k, n, X, hv, hq, hs⟩ := h
  exact ⟨v, U, L, k, n, X, hv, q _ _ _ _ _ hq, hs⟩
theorem Goal.retN (X : Stand p l e R s m args below meth c T locs cells slots) (hx : p.tables.exec = Jvm.exec) {pc : Nat} {Ls : Array Slot} {z : Int32} {t : FieldType} {rest : List Value} (hret : meth.sig.returnType = some t) (ht : t = .boolean ∨ t = .byte ∨ t = .char ∨ t = .short)
    (hd : decode c.code pc = .ok (.ireturn, 1)) (hq : Q (some (.int (nar t z))) T.heap locs cells slots) : Goal p l e R s m args below meth c Q T (mkF m pc Ls (.int z :: rest)) :=
  ⟨_, T, _, _, _, X, fun q => (by rw [hret] at q; cases q), hq, fun fs hl => Jvm.RoadKit.retN X hx hret ht hd hl⟩
theorem Goal.retI (X : Stand p l e R s m args below meth c T locs cells slots) (hx : p.tables.exec = Jvm.exec) {pc : Nat} {Ls : Array Slot} {z : Int32} {rest : List Value} (hret : meth.sig.returnType = some .int)
    (hd : decode c.code pc = .ok (.ireturn, 1)) (hq : Q (some (.int z)) T.heap locs cells slots) : Goal p l e R s m args below meth c Q T (mkF m pc Ls (.int z :: rest)) :=
  ⟨_, T, _, _, _, X, fun q => (by rw [hret] at q; cases q), hq, fun fs hl => retOut X hx hret rfl (Or.inl ⟨rfl, Or.inl rfl, _, rfl⟩) hd hl⟩
theorem Goal.retJ (X : Stand p l e R s m args below meth c T locs cells slots) (hx : p.tables.exec = Jvm.exec) {pc : Nat} {Ls : Array Slot} {z : Int64} {rest : List Value} (hret : meth.sig.returnType = some .long)
    (hd : decode c.code pc = .ok (.lreturn, 1)) (hq : Q (some (.long z)) T.heap locs cells slots) : Goal p l e R s m args below meth c Q T (mkF m pc Ls (.long z :: rest)) :=
  ⟨_, T, _, _, _, X, fun q => (by rw [hret] at q; cases q), hq, fun fs hl => retOut X hx hret rfl (Or.inr (Or.inl ⟨rfl, rfl, _, rfl⟩)) hd hl⟩
theorem Goal.retD (X : Stand p l e R s m args below meth c T locs cells slots) (hx : p.tables.exec = Jvm.exec) {pc : Nat} {Ls : Array Slot} {z : UInt64} {rest : List Value} (hret : meth.sig.returnType = some .double)
    (hd : decode c.code pc = .ok (.dreturn, 1)) (hq : Q (some (.double z)) T.heap locs cells slots) : Goal p l e R s m args below meth c Q T (mkF m pc Ls (.double z :: rest)) :=
  ⟨_, T, _, _, _, X, fun q => (by rw [hret] at q; cases q), hq, fun fs hl => retOut X hx hret rfl (Or.inr (Or.inr (Or.inl ⟨rfl, rfl, _, rfl⟩))) hd hl⟩
theorem Goal.retA (X : Stand p l e R s m args below meth c T locs cells slots) (hx : p.tables.exec = Jvm.exec) {pc : Nat} {Ls : Array Slot} {w : Value} {t : FieldType} {rest : List Value} (hret : meth.sig.returnType = some t) (ht : t.isReference = true) (hn : narrow t w = w) (hw : w.isRef = true)
    (hd : decode c.code pc = .ok (.areturn, 1)) (hq : Q (some w) T.heap locs cells slots) : Goal p l e R s m args below meth c Q T (mkF m pc Ls (w :: rest)) :=
  ⟨_, T, _, _, _, X, fun q => (by rw [hret] at q; cases q), hq, fun fs hl => retOut X hx hret hn (Or.inr (Or.inr (Or.inr (Or.inr ⟨rfl, ht, hw⟩)))) hd hl⟩
theorem Goal.retV (X : Stand p l e R s m args below meth c T locs cells slots) (hx : p.tables.exec = Jvm.exec) {pc : Nat} {Ls : Array Slot} (hret : meth.sig.returnType = none)
    (hd : decode c.code pc = .ok (.return_, 1)) (hq : Q none T.heap locs cells slots) : Goal p l e R s m args below meth c Q T (mkF m pc Ls []) :=
  ⟨_, T, _, _, _, X, fun _ => rfl, hq, fun fs hl => X.returnOut hx hret hd hl⟩
/-- what a walk knows of where it runs -/
def Ctx (p : Program) (s : State) (m : MethodId) (meth : Method) (c : Code) (Z : State) (bytes : ByteArray) (maxL : Nat) (ret : Option FieldType) (own nm : String) : Prop :=
  p.tables.exec = Jvm.exec ∧ Z.Warmed39 s.vm ∧ c.code = bytes ∧ c.maxLocals = maxL ∧ meth.sig.returnType = ret ∧ s.vm.findClass own = some m.cls ∧ meth.name = nm
/-- a body's contract: called with as' at the heap h0, it returns, and what it leaves meets Q -/
def Met (l : Launch) (y : MethodName) (bytes : ByteArray) (maxL : Nat) (ret : Option FieldType) (ws : List Jvm.Cond) (rm : Room) (Z : State) (as' : Array Value) (h0 : Heap) (Q : Option Value → Heap → List Loc → Prop) : Prop :=
  MetFree l y (head1 (Jvm.Cond.code y bytes maxL ret :: ws) rm) (fun a U => a = as' ∧ Z.Warmed39 U.vm ∧ U.heap = h0) (fun _ _ _ _ _ => True) (fun _ U o U' => ∃ v L, o = .returned v ∧ Q v U'.heap L ∧ FrameEnd U o U' L rm.cells rm.slots)
/-- Q within the room -/
def In (rm : Room) (Q : Option Value → Heap → List Loc → Prop) (v : Option Value) (h : Heap) (L : List Loc) (k n : Nat) : Prop := Q v h L ∧ k ≤ rm.cells ∧ n ≤ rm.slots
theorem of_goal {y : MethodName} {bytes : ByteArray} {maxL : Nat} {ret : Option FieldType} {ws : List Jvm.Cond} {rm : Room} {as' : Array Value} {h0 : Heap} {Q : Option Value → Heap → List Loc → Prop} (hpl : plainFor y = true)
    (body : ∀ (p : Program) (e : Env) (s : State) (m : MethodId) (below : List Frame) (meth : Method) (c : Code) (s₁ : State), Ctx p s m meth c Z bytes maxL ret y.cls y.name → Stand p l e rm s m as' below meth c s₁ [] 0 0 → s₁.heap = h0 →
      Goal p l e rm s m as' below meth c (In rm Q) s₁ (entryFrame m as' maxL)) : Met l y bytes maxL ret ws rm Z as' h0 Q := by
  refine MetFree.of_bodySF hpl hisR ?_
  intro p e s m args below meth c s₁ Bd hml0 hP hK
  obtain ⟨rfl, hZ, hh⟩ := hP
  have X0 : Stand p l e rm s m _ below meth c s₁ [] 0 0 := Stand.of_body Bd
  have e0 : s₁.heap = h0 := by rw [← hh, Bd.state]; rfl
  obtain ⟨v, U, L, k, n, X, hv, ⟨hq, hk, hn⟩, hs⟩ := body p e s m below meth c s₁ ⟨Bd.exec, hZ, Bd.bytes, hml0, Bd.returns, findClass_of_methodNamed Bd.named, (name_of_methodNamed Bd.named Bd.method).1⟩ X0 e0
  obtain ⟨fs, hr, hrun, hended, hW, hsame⟩ := X.leave (v := v) hv
  exact ⟨_, _, hs fs hr, hrun, hended, _, _, rfl, hq, ⟨_, rfl⟩, hW, hsame.mono hk hn⟩
variable {own : String} {index maxL : Nat} {y z : MethodName} {bytes : ByteArray} {ret : Option FieldType} {rm : Room} {as' : Array Value} {Qc : Option Value → Heap → List Loc → Prop}
theorem callStatic (X : Stand p l e R s m args below meth c T locs cells slots) (hx : p.tables.exec = Jvm.exec) (hZ : Z.Warmed39 s.vm) (hown : s.vm.findClass own = some m.cls)
    (w1 : (Cond.methodLink own index y).before a0 Z = true) (w2 : (Cond.static y).before a0 Z = true) (w3 : (Cond.initialized y.cls).before a0 Z = true) (w4 : (Cond.code y bytes maxL ret).before a0 Z = true)
    (hy : y.cls ≠ "java/lang/invoke/MethodHandle" ∧ y.cls ≠ "java/lang/invoke/VarHandle") (hM : Met l y bytes maxL ret [] rm Z as' h Qc) (eT : T.heap = h) {W : Nat} (hf : rm.frames + 1 ≤ R.frames) (hl : W + (maxL + 11) + rm.locals ≤ R.locals)
    (hc : cells + rm.cells ≤ R.cells) (hs : slots + rm.slots ≤ R.slots)
    {g : JFrame} (hg : g.method = m) (hsize : g.locals.size = c.maxLocals) {argsL rest : List Value} (hlen : ∀ sig, parseMethodDescriptor y.desc = some sig → argsL.length = sig.parameters.length)
    (hstack : g.stack = argsL.reverse ++ rest) (hW : 2 * g.monitorRoom + (rest.map fun v => v.category).sum ≤ W) (hdg : decode c.code g.pc = .ok (.invokestatic index, 3)) (has : argsL.toArray = as') :
    ∃ v T' h' L, Stand p l e R s m args below meth c T' (locs ++ L) (cells + rm.cells) (slots + rm.slots) ∧ T'.heap = h' ∧ Qc v h' L ∧ ∀ target, Steps p.tables e below (T'.setTop { g with pc := g.pc + 3, stack := v.toList ++ rest }) target → Steps p.tables e below (T.setTop g) target := by
  subst has
  obtain ⟨v, _, ⟨T', L', k', n'⟩, -, X', ⟨Lc, hQ, l1, y1, z1⟩, st⟩ := Jvm.LawKit.callS X hx (y := y) hown (mvT hZ w1) (mvT hZ w2) (mvT hZ w3) (mvT hZ w4) hy (backOf (W := W) hM hZ w4 w3 hf hl) (g := g) hg hsize (argsL := argsL) (rest := rest) hlen hstack hW hdg (fun _ _ => ⟨rfl, eT, hc, hs⟩)
  dsimp only [Pt.U, Pt.locs, Pt.cells, Pt.slots] at X' l1 y1 z1 st hQ
  subst l1 y1 z1
  exact ⟨v, T', _, Lc, X', rfl, hQ, st⟩
theorem callInit (X : Stand p l e R s m args below meth c T locs cells slots) (hx : p.tables.exec = Jvm.exec) (hZ : Z.Warmed39 s.vm) (hown : s.vm.findClass own = some m.cls) (hy1 : y.name = "<init>")
    (w1 : (Cond.methodLink own index y).before a0 Z = true) (w2 : (Cond.instanceMethod y).before a0 Z = true) (w3 : (Cond.initialized y.cls).before a0 Z = true) (w4 : (Cond.code y bytes maxL none).before a0 Z = true)
    (hy : y.cls ≠ "java/lang/invoke/MethodHandle" ∧ y.cls ≠ "java/lang/invoke/VarHandle") (hM : Met l y bytes maxL none [] rm Z as' h Qc) (eT : T.heap = h) {W : Nat} (hf : rm.frames + 1 ≤ R.frames) (hl : W + (maxL + 11) + rm.locals ≤ R.locals)
    (hc : cells + rm.cells ≤ R.cells) (hs : slots + rm.slots ≤ R.slots)
    {g : JFrame} (hg : g.method = m) (hsize : g.locals.size = c.maxLocals) {a : Addr} {argsL rest : List Value} (hlen : ∀ sig, parseMethodDescriptor y.desc = some sig → argsL.length = sig.parameters.length)
    (hstack : g.stack = argsL.reverse ++ .ref a :: rest) (hW : 2 * g.monitorRoom + (rest.map fun v => v.category).sum ≤ W) (hdg : decode c.code g.pc = .ok (.invokespecial index, 3)) (has : (Value.ref a :: argsL).toArray = as') :
    ∃ v T' h' L, Stand p l e R s m args below meth c T' (locs ++ L) (cells + rm.cells) (slots + rm.slots) ∧ T'.heap = h' ∧ Qc v h' L ∧ ∀ target, Steps p.tables e below (T'.setTop { g with pc := g.pc + 3, stack := v.toList ++ rest }) target → Steps p.tables e below (T.setTop g) target := by
  subst has
  obtain ⟨v, _, ⟨T', L', k', n'⟩, -, X', ⟨Lc, hQ, l1, y1, z1⟩, st⟩ := X.specialBack hx (y := y) hy1 hown (mvT hZ w1) (mvT hZ w2) (mvT hZ w4) hy (backOf (W := W) hM hZ w4 w3 hf hl) (g := g) hg hsize (Steps.refl _) (a := a) (argsL := argsL) (rest := rest) hlen hstack hW hdg (fun _ _ => ⟨rfl, eT, hc, hs⟩)
  dsimp only [Pt.U, Pt.locs, Pt.cells, Pt.slots] at X' l1 y1 z1 st hQ
  subst l1 y1 z1
  exact ⟨v, T', _, Lc, X', rfl, hQ, fun t k => st.trans k⟩
theorem callVirt (X : Stand p l e R s m args below meth c T locs cells slots) (hx : p.tables.exec = Jvm.exec) (hZ : Z.Warmed39 s.vm) (hown : s.vm.findClass own = some m.cls) {C : String}
    (w1 : (Cond.methodLink own index y).before a0 Z = true) (w2 : (Cond.declares y).before a0 Z = true) (hnf : NotFace s y) (w5 : (Cond.selects C y z).before a0 Z = true) (w6 : (Cond.instanceMethod z).before a0 Z = true) (w3 : (Cond.initialized z.cls).before a0 Z = true) (w4 : (Cond.code z bytes maxL ret).before a0 Z = true)
    (hy : y.cls ≠ "java/lang/invoke/MethodHandle" ∧ y.cls ≠ "java/lang/invoke/VarHandle") (hM : Met l z bytes maxL ret [] rm Z as' h Qc) (eT : T.heap = h) {a : Addr} (E : Exa Z h a C) {W : Nat} (hf : rm.frames + 1 ≤ R.frames) (hl : W + (maxL + 11) + rm.locals ≤ R.locals)
    (hc : cells + rm.cells ≤ R.cells) (hs : slots + rm.slots ≤ R.slots)
    {g : JFrame} (hg : g.method = m) (hsize : g.locals.size = c.maxLocals) {argsL rest : List Value} (hlen : ∀ sig, parseMethodDescriptor y.desc = some sig → argsL.length = sig.parameters.length)
    (hstack : g.stack = argsL.reverse ++ .ref a :: rest) (hW : 2 * g.monitorRoom + (rest.map fun v => v.category).sum ≤ W) (hdg : decode c.code g.pc = .ok (.invokevirtual index, 3)) (has : (Value.ref a :: argsL).toArray = as') :
    ∃ v T' h' L, Stand p l e R s m args below meth c T' (locs ++ L) (cells + rm.cells) (slots + rm.slots) ∧ T'.heap = h' ∧ Qc v h' L ∧ ∀ target, Steps p.tables e below (T'.setTop { g with pc := g.pc + 3, stack := v.toList ++ rest }) target → Steps p.tables e below (T.setTop g) target := by
  subst has
  obtain ⟨cq, kq, qa, qb, qc⟩ := isOf hZ eT E
  obtain ⟨v, _, ⟨T', L', k', n'⟩, -, X', ⟨Lc, hQ, l1, y1, z1⟩, st⟩ := X.virtualBack hx (y := y) (z := z) hown (mvT hZ w1) (mvT hZ w2) hnf (mvT hZ w5) (mvT hZ w6) hy (backOf (W := W) hM hZ w4 w3 hf hl) qa qc (g := g) hg hsize (Steps.refl _) (argsL := argsL) (rest := rest) hlen hstack hW hdg (fun _ _ => ⟨rfl, eT, hc, hs⟩)
  dsimp only [Pt.U, Pt.locs, Pt.cells, Pt.slots] at X' l1 y1 z1 st hQ
  subst l1 y1 z1
  exact ⟨v, T', _, Lc, X', rfl, hQ, fun t k => st.trans k⟩
theorem nne {x y : Nat} (q : ¬ x = y) : @Ne Addr x y := q
end Own
section OwnW
variable {p : Program} {l : Launch} {e : Env} {R : Room} {s : State} {m : MethodId} {args : Array Value} {below : List Frame} {meth : Method} {c : Code} {T T' : State} {locs : List Loc} {cells slots : Nat} {g g' : JFrame} {Q : Option Value → Heap → List Loc → Nat → Nat → Prop} {Z : State} {a0 : Array Value} {h : Heap} {vm0 : Vm} {k0 : Nat}
/-- as Goal, for a walk that may load String constants: the tables at the end are those at hand there -/
def GoalW (p : Program) (l : Launch) (e : Env) (R : Room) (s : State) (m : MethodId) (args : Array Value) (below : List Frame) (meth : Method) (c : Code) (Q : Option Value → Heap → List Loc → Nat → Nat → Prop) (T : State) (g : JFrame) : Prop :=
  ∃ v U vm k0 L k n, Stand p l e R (s.setVm vm) m args below meth c U L k n ∧ s.Since vm k0 ∧ k0 ≤ U.heap.size ∧ (meth.sig.returnType = none → v = none) ∧ Q v U.heap L k n ∧
    ∀ fs, (∀ (f : JFrame) (acts : List Action), f.method = m → f.locked = none → f.entered = [] → (doReturn e (U.setTop f) acts v).1 = U.setFrames fs) → Steps p.tables e below (T.setTop g) (U.setFrames fs)
theorem GoalW.step (h : GoalW p l e R s m args below meth c Q T' g') (st : ∀ t, Steps p.tables e below (T'.setTop g') t → Steps p.tables e below (T.setTop g) t) : GoalW p l e R s m args below meth c Q T g := by
  obtain ⟨v, U, vm, k0, L, k, n, X, hS, hk, hv, hq, hs⟩ := h
  exact ⟨v, U, vm, k0, L, k, n, X, hS, hk, hv, hq, fun fs hl => st _ (hs fs hl)⟩
theorem GoalW.of {Q : Option Value → Heap → List Loc → Nat → Nat → Prop} (hS : s.Since vm0 k0) (hk : k0 ≤ h.size) (G : Goal p l e R (s.setVm vm0) m args below meth c (fun v h' L k n => h.size ≤ h'.size ∧ Q v h' L k n) T g) : GoalW p l e R s m args below meth c Q T g := by
  obtain ⟨v, U, L, k, n, X, hv, hq, hs⟩ := G
  exact ⟨v, U, vm0, k0, L, k, n, X, hS, Nat.le_trans hk hq.1, hv, hq.2, hs⟩
theorem GoalW.retN (X : Stand p l e R (s.setVm vm0) m args below meth c T locs cells slots) (hS : s.Since vm0 k0) (hk : k0 ≤ T.heap.size) (hx : p.tables.exec = Jvm.exec) {pc : Nat} {Ls : Array Slot} {z : Int32} {t : FieldType} {rest : List Value} (hret : meth.sig.returnType = some t) (ht : t = .boolean ∨ t = .byte ∨ t = .char ∨ t = .short)
    (hd : decode c.code pc = .ok (.ireturn, 1)) (hq : Q (some (.int (nar t z))) T.heap locs cells slots) : GoalW p l e R s m args below meth c Q T (mkF m pc Ls (.int z :: rest)) :=
  ⟨_, T, vm0, k0, _, _, _, X, hS, hk, fun q => (by rw [hret] at q; cases q), hq, fun fs hl => Jvm.RoadKit.retN X hx hret ht hd hl⟩
theorem GoalW.retI (X : Stand p l e R (s.setVm vm0) m args below meth c T locs cells slots) (hS : s.Since vm0 k0) (hk : k0 ≤ T.heap.size) (hx : p.tables.exec = Jvm.exec) {pc : Nat} {Ls : Array Slot} {z : Int32} {rest : List Value} (hret : meth.sig.returnType = some .int)
    (hd : decode c.code pc = .ok (.ireturn, 1)) (hq : Q (some (.int z)) T.heap locs cells slots) : GoalW p l e R s m args below meth c Q T (mkF m pc Ls (.int z :: rest)) :=
  ⟨_, T, vm0, k0, _, _, _, X, hS, hk, fun q => (by rw [hret] at q; cases q), hq, fun fs hl => retOut X hx hret rfl (Or.inl ⟨rfl, Or.inl rfl, _, rfl⟩) hd hl⟩
theorem GoalW.retA (X : Stand p l e R (s.setVm vm0) m args below meth c T locs cells slots) (hS : s.Since vm0 k0) (hk : k0 ≤ T.heap.size) (hx : p.tables.exec = Jvm.exec) {pc : Nat} {Ls : Array Slot} {w : Value} {t : FieldType} {rest : List Value} (hret : meth.sig.returnType = some t) (ht : t.isReference = true) (hn : narrow t w = w) (hw : w.isRef = true)
    (hd : decode c.code pc = .ok (.areturn, 1)) (hq : Q (some w) T.heap locs cells slots) : GoalW p l e R s m args below meth c Q T (mkF m pc Ls (w :: rest)) :=
  ⟨_, T, vm0, k0, _, _, _, X, hS, hk, fun q => (by rw [hret] at q; cases q), hq, fun fs hl => retOut X hx hret hn (Or.inr (Or.inr (Or.inr (Or.inr ⟨rfl, ht, hw⟩)))) hd hl⟩
theorem GoalW.retV (X : Stand p l e R (s.setVm vm0) m args below meth c T locs cells slots) (hS : s.Since vm0 k0) (hk : k0 ≤ T.heap.size) (hx : p.tables.exec = Jvm.exec) {pc : Nat} {Ls : Array Slot} (hret : meth.sig.returnType = none)
    (hd : decode c.code pc = .ok (.return_, 1)) (hq : Q none T.heap locs cells slots) : GoalW p l e R s m args below meth c Q T (mkF m pc Ls []) :=
  ⟨_, T, vm0, k0, _, _, _, X, hS, hk, fun _ => rfl, hq, fun fs hl => X.returnOut hx hret hd hl⟩
def MetW (l : Launch) (y : MethodName) (bytes : ByteArray) (maxL : Nat) (ret : Option FieldType) (ws : List Jvm.Cond) (rm : Room) (Z : State) (as' : Array Value) (h0 : Heap) (Q : Option Value → Heap → List Loc → Prop) : Prop :=
  MetFree l y (head1 (Jvm.Cond.code y bytes maxL ret :: ws) rm) (fun a U => a = as' ∧ Z.Warmed39 U.vm ∧ U.heap = h0) (fun _ _ _ _ _ => True) (fun _ U o U' => ∃ v L, o = .returned v ∧ Q v U'.heap L ∧ ReturnedEndW U o U' L rm.cells rm.slots)
theorem of_goalW {y : MethodName} {bytes : ByteArray} {maxL : Nat} {ret : Option FieldType} {ws : List Jvm.Cond} {rm : Room} {as' : Array Value} {h0 : Heap} {Q : Option Value → Heap → List Loc → Prop} (hpl : plainFor y = true)
    (body : ∀ (p : Program) (e : Env) (s : State) (m : MethodId) (below : List Frame) (meth : Method) (c : Code) (s₁ : State), Ctx p s m meth c Z bytes maxL ret y.cls y.name → Stand p l e rm (s.setVm s.vm) m as' below meth c s₁ [] 0 0 → s.Since s.vm 0 → s₁.heap = h0 →
      GoalW p l e rm s m as' below meth c (In rm Q) s₁ (entryFrame m as' maxL)) : MetW l y bytes maxL ret ws rm Z as' h0 Q := by
  refine MetFree.of_bodySF hpl hisR ?_
  intro p e s m args below meth c s₁ Bd hml0 hP hK
  obtain ⟨rfl, hZ, hh⟩ := hP
  have X0 : Stand p l e rm s m _ below meth c s₁ [] 0 0 := Stand.of_body Bd
  have e0 : s₁.heap = h0 := by rw [← hh, Bd.state]; rfl
  obtain ⟨v, U, vm, k0, L, k, n, X, hS, hk0, hv, ⟨hq, hk, hn⟩, hs⟩ := body p e s m below meth c s₁ ⟨Bd.exec, hZ, Bd.bytes, hml0, Bd.returns, findClass_of_methodNamed Bd.named, (name_of_methodNamed Bd.named Bd.method).1⟩ X0 ((State.WarmedH.refl s).since 0) e0
  obtain ⟨fs, hr, hrun, hended, hE⟩ := X.leaveW hS hk0 (v := v) hv
  exact ⟨_, _, hs fs hr, hrun, hended, _, _, rfl, hq, hE.1, hE.2.1, hE.2.2.1, hE.2.2.2.mono hk hn⟩
variable {own : String} {index maxL : Nat} {y z : MethodName} {bytes : ByteArray} {ret : Option FieldType} {rm : Room} {as' : Array Value} {Qc : Option Value → Heap → List Loc → Prop}
theorem callStaticW (X : Stand p l e R (s.setVm vm0) m args below meth c T locs cells slots) (hx : p.tables.exec = Jvm.exec) (hZ : Z.Warmed39 (s.setVm vm0).vm) (hown : (s.setVm vm0).vm.findClass own = some m.cls) (hS : s.Since vm0 k0) (hk : k0 ≤ h.size)
    (w1 : (Cond.methodLink own index y).before a0 Z = true) (w2 : (Cond.static y).before a0 Z = true) (w3 : (Cond.initialized y.cls).before a0 Z = true) (w4 : (Cond.code y bytes maxL ret).before a0 Z = true)
    (hy : y.cls ≠ "java/lang/invoke/MethodHandle" ∧ y.cls ≠ "java/lang/invoke/VarHandle") (hM : MetW l y bytes maxL ret [] rm Z as' h Qc) (eT : T.heap = h) {W : Nat} (hf : rm.frames + 1 ≤ R.frames) (hl : W + (maxL + 11) + rm.locals ≤ R.locals)
    (hc : cells + rm.cells ≤ R.cells) (hs : slots + rm.slots ≤ R.slots)
    {g : JFrame} (hg : g.method = m) (hsize : g.locals.size = c.maxLocals) {argsL rest : List Value} (hlen : ∀ sig, parseMethodDescriptor y.desc = some sig → argsL.length = sig.parameters.length)
    (hstack : g.stack = argsL.reverse ++ rest) (hW : 2 * g.monitorRoom + (rest.map fun v => v.category).sum ≤ W) (hdg : decode c.code g.pc = .ok (.invokestatic index, 3)) (has : argsL.toArray = as') :
    ∃ v T' h' L k1, Stand p l e R (s.setVm T'.vm) m args below meth c T' (locs ++ L) (cells + rm.cells) (slots + rm.slots) ∧ T'.heap = h' ∧ Qc v h' L ∧ s.Since T'.vm k1 ∧ k1 ≤ h'.size ∧ h.size ≤ h'.size ∧ Z.Warmed39 (s.setVm T'.vm).vm ∧ (s.setVm T'.vm).vm.findClass own = some m.cls ∧ ∀ target, Steps p.tables e below (T'.setTop { g with pc := g.pc + 3, stack := v.toList ++ rest }) target → Steps p.tables e below (T.setTop g) target := by
  subst has
  subst eT
  obtain ⟨v, _, ⟨T', L', k', n'⟩, -, X', hS', hg', ⟨Lc, hQ, l1, y1, z1⟩, st⟩ := callSS X hx (y := y) hown (mvT hZ w1) (mvT hZ w2) (mvT hZ w3) (mvT hZ w4) hy (backOfS (W := W) hM hZ w4 w3 hf hl) (g := g) hg hsize (argsL := argsL) (rest := rest) hlen hstack hW hdg (fun _ _ => ⟨rfl, rfl, hc, hs⟩)
  dsimp only [Pt.U, Pt.locs, Pt.cells, Pt.slots] at X' l1 y1 z1 st hQ hS' hg'
  subst l1 y1 z1
  exact ⟨v, T', _, Lc, _, X', rfl, hQ, hS.trans hS' (Nat.le_trans hk hg'), Nat.le_refl _, hg', State.Warmed39.trans (t := s.setVm vm0) hZ hS'.1, by rw [show (s.setVm T'.vm).vm = T'.vm from rfl, hS'.1.alike.findClass]; exact hown, fun t k => st.trans k⟩
theorem callInitW (X : Stand p l e R (s.setVm vm0) m args below meth c T locs cells slots) (hx : p.tables.exec = Jvm.exec) (hZ : Z.Warmed39 (s.setVm vm0).vm) (hown : (s.setVm vm0).vm.findClass own = some m.cls) (hS : s.Since vm0 k0) (hk : k0 ≤ h.size) (hy1 : y.name = "<init>")
    (w1 : (Cond.methodLink own index y).before a0 Z = true) (w2 : (Cond.instanceMethod y).before a0 Z = true) (w3 : (Cond.initialized y.cls).before a0 Z = true) (w4 : (Cond.code y bytes maxL none).before a0 Z = true)
    (hy : y.cls ≠ "java/lang/invoke/MethodHandle" ∧ y.cls ≠ "java/lang/invoke/VarHandle") (hM : MetW l y bytes maxL none [] rm Z as' h Qc) (eT : T.heap = h) {W : Nat} (hf : rm.frames + 1 ≤ R.frames) (hl : W + (maxL + 11) + rm.locals ≤ R.locals)
    (hc : cells + rm.cells ≤ R.cells) (hs : slots + rm.slots ≤ R.slots)
    {g : JFrame} (hg : g.method = m) (hsize : g.locals.size = c.maxLocals) {a : Addr} {argsL rest : List Value} (hlen : ∀ sig, parseMethodDescriptor y.desc = some sig → argsL.length = sig.parameters.length)
    (hstack : g.stack = argsL.reverse ++ .ref a :: rest) (hW : 2 * g.monitorRoom + (rest.map fun v => v.category).sum ≤ W) (hdg : decode c.code g.pc = .ok (.invokespecial index, 3)) (has : (Value.ref a :: argsL).toArray = as') :
    ∃ v T' h' L k1, Stand p l e R (s.setVm T'.vm) m args below meth c T' (locs ++ L) (cells + rm.cells) (slots + rm.slots) ∧ T'.heap = h' ∧ Qc v h' L ∧ s.Since T'.vm k1 ∧ k1 ≤ h'.size ∧ h.size ≤ h'.size ∧ Z.Warmed39 (s.setVm T'.vm).vm ∧ (s.setVm T'.vm).vm.findClass own = some m.cls ∧ ∀ target, Steps p.tables e below (T'.setTop { g with pc := g.pc + 3, stack := v.toList ++ rest }) target → Steps p.tables e below (T.setTop g) target := by
  subst has
  subst eT
  obtain ⟨v, _, ⟨T', L', k', n'⟩, -, X', hS', hg', ⟨Lc, hQ, l1, y1, z1⟩, st⟩ := X.specialBackS hx (y := y) hy1 hown (mvT hZ w1) (mvT hZ w2) (mvT hZ w4) hy (backOfS (W := W) hM hZ w4 w3 hf hl) (g := g) hg hsize (Steps.refl _) (a := a) (argsL := argsL) (rest := rest) hlen hstack hW hdg (fun _ _ => ⟨rfl, rfl, hc, hs⟩)
  dsimp only [Pt.U, Pt.locs, Pt.cells, Pt.slots] at X' l1 y1 z1 st hQ hS' hg'
  subst l1 y1 z1
  exact ⟨v, T', _, Lc, _, X', rfl, hQ, hS.trans hS' (Nat.le_trans hk hg'), Nat.le_refl _, hg', State.Warmed39.trans (t := s.setVm vm0) hZ hS'.1, by rw [show (s.setVm T'.vm).vm = T'.vm from rfl, hS'.1.alike.findClass]; exact hown, fun t k => st.trans k⟩
theorem callVirtW (X : Stand p l e R (s.setVm vm0) m args below meth c T locs cells slots) (hx : p.tables.exec = Jvm.exec) (hZ : Z.Warmed39 (s.setVm vm0).vm) (hown : (s.setVm vm0).vm.findClass own = some m.cls) (hS : s.Since vm0 k0) (hk : k0 ≤ h.size) {C : String}
    (w1 : (Cond.methodLink own index y).before a0 Z = true) (w2 : (Cond.declares y).before a0 Z = true) (hnf : NotFace (s.setVm vm0) y) (w5 : (Cond.selects C y z).before a0 Z = true) (w6 : (Cond.instanceMethod z).before a0 Z = true) (w3 : (Cond.initialized z.cls).before a0 Z = true) (w4 : (Cond.code z bytes maxL ret).before a0 Z = true)
    (hy : y.cls ≠ "java/lang/invoke/MethodHandle" ∧ y.cls ≠ "java/lang/invoke/VarHandle") (hM : MetW l z bytes maxL ret [] rm Z as' h Qc) (eT : T.heap = h) {a : Addr} (E : Exa Z h a C) {W : Nat} (hf : rm.frames + 1 ≤ R.frames) (hl : W + (maxL + 11) + rm.locals ≤ R.locals)
    (hc : cells + rm.cells ≤ R.cells) (hs : slots + rm.slots ≤ R.slots)
    {g : JFrame} (hg : g.method = m) (hsize : g.locals.size = c.maxLocals) {argsL rest : List Value} (hlen : ∀ sig, parseMethodDescriptor y.desc = some sig → argsL.length = sig.parameters.length)
    (hstack : g.stack = argsL.reverse ++ .ref a :: rest) (hW : 2 * g.monitorRoom + (rest.map fun v => v.category).sum ≤ W) (hdg : decode c.code g.pc = .ok (.invokevirtual index, 3)) (has : (Value.ref a :: argsL).toArray = as') :
    ∃ v T' h' L k1, Stand p l e R (s.setVm T'.vm) m args below meth c T' (locs ++ L) (cells + rm.cells) (slots + rm.slots) ∧ T'.heap = h' ∧ Qc v h' L ∧ s.Since T'.vm k1 ∧ k1 ≤ h'.size ∧ h.size ≤ h'.size ∧ Z.Warmed39 (s.setVm T'.vm).vm ∧ (s.setVm T'.vm).vm.findClass own = some m.cls ∧ ∀ target, Steps p.tables e below (T'.setTop { g with pc := g.pc + 3, stack := v.toList ++ rest }) target → Steps p.tables e below (T.setTop g) target := by
  subst has
  subst eT
  obtain ⟨cq, kq, qa, qb, qc⟩ := isOf hZ rfl E
  obtain ⟨v, _, ⟨T', L', k', n'⟩, -, X', hS', hg', ⟨Lc, hQ, l1, y1, z1⟩, st⟩ := X.virtualBackS hx (y := y) (z := z) hown (mvT hZ w1) (mvT hZ w2) hnf (mvT hZ w5) (mvT hZ w6) hy (backOfS (W := W) hM hZ w4 w3 hf hl) qa qc (g := g) hg hsize (Steps.refl _) (argsL := argsL) (rest := rest) hlen hstack hW hdg (fun _ _ => ⟨rfl, rfl, hc, hs⟩)
  dsimp only [Pt.U, Pt.locs, Pt.cells, Pt.slots] at X' l1 y1 z1 st hQ hS' hg'
  subst l1 y1 z1
  exact ⟨v, T', _, Lc, _, X', rfl, hQ, hS.trans hS' (Nat.le_trans hk hg'), Nat.le_refl _, hg', State.Warmed39.trans (t := s.setVm vm0) hZ hS'.1, by rw [show (s.setVm T'.vm).vm = T'.vm from rfl, hS'.1.alike.findClass]; exact hown, fun t k => st.trans k⟩
end OwnW

theorem own_atoms {Z : State} {a0 : Array Value} (hw : ∀ d ∈ tables_1, d.before a0 Z = true) : ∀ a ∈ Bundle.stringAtoms, a.before a0 Z = true := by
  intro a ha
  simp only [Bundle.stringAtoms, List.mem_cons, List.not_mem_nil, or_false] at ha
  rcases ha with rfl | rfl | rfl | rfl | rfl | rfl | rfl
  · exact (hw _ (List.mem_of_getElem? (i := 14) rfl))
  · exact (hw _ (List.mem_of_getElem? (i := 15) rfl))
  · exact (hw _ (List.mem_of_getElem? (i := 16) rfl))
  · exact (hw _ (List.mem_of_getElem? (i := 17) rfl))
  · exact (hw _ (List.mem_of_getElem? (i := 18) rfl))
  · exact (hw _ (List.mem_of_getElem? (i := 19) rfl))
  · exact (hw _ (List.mem_of_getElem? (i := 20) rfl))

def pk (p : Int32) (q : Int64) : Int64 := if p &&& 3 = 0 then (-1 : Int64) else if p &&& 3 = 1 then (-2 : Int64) else if p &&& 3 = 2 then (0 : Int64) else q
theorem d4_0 : decode jdk_30_method_1_code 0 = .ok (.aload_n 0, 1) := by decide +kernel
theorem d4_1 : decode jdk_30_method_1_code 1 = .ok (.invokespecial 1, 3) := by decide +kernel
theorem d4_4 : decode jdk_30_method_1_code 4 = .ok (.return_, 1) := by decide +kernel
theorem ef_4 (m : MethodId) (x0 : Nat) : entryFrame m #[(.ref x0)] 1 = mkF m 0 #[.val (.ref x0)] [] := by first | (simp [entryFrame, mkF, argsToLocals, Value.category]; done) | rfl
set_option maxRecDepth 65536 in
set_option maxHeartbeats 40000000 in
theorem rmRec (l : Launch) (Z : State) (a0 : Array Value) (hw : ∀ d ∈ tables_1, d.before a0 Z = true) (a1 : Nat) (h0 : Heap) (n0 : Nat) (Z0 : n0 ≤ h0.size) :
    Met l (⟨"java/lang/Record", "<init>", "()V"⟩ : MethodName) jdk_30_method_1_code 1 none [] ({ frames := 1, cells := 0, slots := 0, locals := 12 } : Room) Z #[(.ref a1)] h0 (fun v h L => v = none ∧ Fr n0 L ∧ h = h0) := by
  refine of_goal (plainFor_of_name (by first | (simp [plainName, overriddenIn]; done) | decide +kernel)) ?_
  intro p e s m below meth c s₁ C X0 e0
  have C0 := C
  obtain ⟨hx, hZ, hby, hml, hret, hown, hnm⟩ := C
  have hown : s.vm.findClass "java/lang/Record" = some m.cls := hown
  have hret : meth.sig.returnType = none := hret
  have N0 := Fr.nil n0
  rw [ef_4]
  refine Goal.step (T' := s₁) (g' := (mkF m 1 #[.val (.ref a1)] [(.ref a1)])) ?_ (fun t k => XS.aloadN X0.here hx rfl (hb hby d4_0) rfl rfl k)
  obtain ⟨T1001, X1001, e1001, st1001⟩ := initO X0 hx hZ hown (hw _ (List.mem_of_getElem? (i := 32) rfl)) (hw _ (List.mem_of_getElem? (i := 33) rfl)) (hw _ (List.mem_of_getElem? (i := 34) rfl)) e0 (g := (mkF m 1 #[.val (.ref a1)] [(.ref a1)])) rfl (by rw [hml]; rfl) rfl (hb hby d4_1) (by decide) (W := 0) (by show 2 * 0 + _ ≤ _; exact Nat.le_of_eq rfl) (by decide)
  refine Goal.step (T' := T1001) (g' := (mkF m 4 #[.val (.ref a1)] [])) ?_ st1001
  refine Goal.retV X1001 hx hret (hb hby d4_4) ?_
  refine ⟨?_, by decide, by decide⟩
  rw [e1001]
  exact ⟨rfl, N0, rfl⟩
theorem d2_0 : decode jdk_32_method_1_code 0 = .ok (.getstatic 1, 3) := by decide +kernel
theorem d2_3 : decode jdk_32_method_1_code 3 = .ok (.astore_n 0, 1) := by decide +kernel
theorem d2_4 : decode jdk_32_method_1_code 4 = .ok (.aload_n 0, 1) := by decide +kernel
theorem d2_5 : decode jdk_32_method_1_code 5 = .ok (.areturn, 1) := by decide +kernel
theorem ef_2 (m : MethodId)  : entryFrame m #[] 1 = mkF m 0 #[.unset] [] := by first | (simp [entryFrame, mkF, argsToLocals, Value.category]; done) | rfl
set_option maxRecDepth 65536 in
set_option maxHeartbeats 40000000 in
theorem rmOE (l : Launch) (Z : State) (a0 : Array Value) (hw : ∀ d ∈ tables_1, d.before a0 Z = true) (o1 : Nat) (h0 : Heap) (n0 : Nat) (Z0 : n0 ≤ h0.size) (S1 : Sta Z h0 "java/util/Optional" "EMPTY" "Ljava/util/Optional;" (.ref o1)) :
    Met l (⟨"java/util/Optional", "empty", "()Ljava/util/Optional;"⟩ : MethodName) jdk_32_method_1_code 1 (some (.object "java/util/Optional")) [] ({ frames := 0, cells := 0, slots := 0, locals := 0 } : Room) Z #[] h0 (fun v h L => v = some (.ref o1) ∧ Fr n0 L ∧ h = h0) := by
  refine of_goal (plainFor_of_name (by first | (simp [plainName, overriddenIn]; done) | decide +kernel)) ?_
  intro p e s m below meth c s₁ C X0 e0
  have C0 := C
  obtain ⟨hx, hZ, hby, hml, hret, hown, hnm⟩ := C
  have hown : s.vm.findClass "java/util/Optional" = some m.cls := hown
  have hret : meth.sig.returnType = (some (.object "java/util/Optional")) := hret
  have N0 := Fr.nil n0
  rw [ef_2]
  obtain ⟨T1001, X1001, e1001, st1001⟩ := getS2 X0 hx hZ hown (host := "") (Or.inl (hw _ (List.mem_of_getElem? (i := 9) rfl))) Via.refl e0 S1 (g := (mkF m 0 #[.unset] [])) rfl (hb hby d2_0)
  refine Goal.step (T' := T1001) (g' := (mkF m 3 #[.unset] [(.ref o1)])) ?_ st1001
  refine Goal.step (T' := T1001) (g' := (mkF m 4 #[.val (.ref o1)] [])) ?_ (fun t k => XS.astoreN X1001.here hx rfl (hb hby d2_3) rfl rfl (l' := #[.val (.ref o1)]) rfl k)
  refine Goal.step (T' := T1001) (g' := (mkF m 5 #[.val (.ref o1)] [(.ref o1)])) ?_ (fun t k => XS.aloadN X1001.here hx rfl (hb hby d2_4) rfl rfl k)
  refine Goal.retA X1001 hx hret rfl rfl rfl (hb hby d2_5) ?_
  refine ⟨?_, by decide, by decide⟩
  rw [e1001]
  exact ⟨rfl, N0, rfl⟩
theorem d6_0 : decode jdk_31_method_11_code 0 = .ok (.aload_n 0, 1) := by decide +kernel
theorem d6_1 : decode jdk_31_method_11_code 1 = .ok (.ifnonnull 12, 3) := by decide +kernel
theorem d6_13 : decode jdk_31_method_11_code 13 = .ok (.aload_n 0, 1) := by decide +kernel
theorem d6_14 : decode jdk_31_method_11_code 14 = .ok (.areturn, 1) := by decide +kernel
theorem ef_6 (m : MethodId) (x0 : Nat) (x1 : Nat) : entryFrame m #[(.ref x0), (.ref x1)] 2 = mkF m 0 #[.val (.ref x0), .val (.ref x1)] [] := by first | (simp [entryFrame, mkF, argsToLocals, Value.category]; done) | rfl
set_option maxRecDepth 65536 in
set_option maxHeartbeats 40000000 in
theorem rmRNN (l : Launch) (Z : State) (a0 : Array Value) (hw : ∀ d ∈ tables_1, d.before a0 Z = true) (a1 a2 : Nat) (h0 : Heap) (n0 : Nat) (Z0 : n0 ≤ h0.size) :
    Met l (⟨"java/util/Objects", "requireNonNull", "(Ljava/lang/Object;Ljava/lang/String;)Ljava/lang/Object;"⟩ : MethodName) jdk_31_method_11_code 2 (some (.object "java/lang/Object")) [] ({ frames := 0, cells := 0, slots := 0, locals := 0 } : Room) Z #[(.ref a1), (.ref a2)] h0 (fun v h L => v = some (.ref a1) ∧ Fr n0 L ∧ h = h0) := by
  refine of_goal (plainFor_of_name (by first | (simp [plainName, overriddenIn]; done) | decide +kernel)) ?_
  intro p e s m below meth c s₁ C X0 e0
  have C0 := C
  obtain ⟨hx, hZ, hby, hml, hret, hown, hnm⟩ := C
  have hown : s.vm.findClass "java/util/Objects" = some m.cls := hown
  have hret : meth.sig.returnType = (some (.object "java/lang/Object")) := hret
  have N0 := Fr.nil n0
  rw [ef_6]
  refine Goal.step (T' := s₁) (g' := (mkF m 1 #[.val (.ref a1), .val (.ref a2)] [(.ref a1)])) ?_ (fun t k => XS.aloadN X0.here hx rfl (hb hby d6_0) rfl rfl k)
  refine Goal.step (T' := s₁) (g' := (mkF m 13 #[.val (.ref a1), .val (.ref a2)] [])) ?_ (fun t k => XS.ifnonnullYes X0.here hx rfl (pc0 := 1) (pc' := 13) rfl (hb hby d6_1) rfl (by decide) (by decide) k)
  refine Goal.step (T' := s₁) (g' := (mkF m 14 #[.val (.ref a1), .val (.ref a2)] [(.ref a1)])) ?_ (fun t k => XS.aloadN X0.here hx rfl (hb hby d6_13) rfl rfl k)
  refine Goal.retA X0 hx hret rfl rfl rfl (hb hby d6_14) ?_
  refine ⟨?_, by decide, by decide⟩
  rw [e0]
  exact ⟨rfl, N0, rfl⟩
theorem d3_0 : decode prog_14_method_1_code 0 = .ok (.aload_n 0, 1) := by decide +kernel
theorem d3_1 : decode prog_14_method_1_code 1 = .ok (.invokespecial 1, 3) := by decide +kernel
theorem pd_0 : parseMethodDescriptor "()V" = some ⟨[], none⟩ := by decide +kernel
theorem d3_4 : decode prog_14_method_1_code 4 = .ok (.aload_n 1, 1) := by decide +kernel
theorem d3_5 : decode prog_14_method_1_code 5 = .ok (.ldc 7, 2) := by decide +kernel
theorem d3_7 : decode prog_14_method_1_code 7 = .ok (.invokestatic 9, 3) := by decide +kernel
theorem pd_1 : parseMethodDescriptor "(Ljava/lang/Object;Ljava/lang/String;)Ljava/lang/Object;" = some ⟨[(.object "java/lang/Object"), (.object "java/lang/String")], some (.object "java/lang/Object")⟩ := by decide +kernel
theorem d3_10 : decode prog_14_method_1_code 10 = .ok (.pop, 1) := by decide +kernel
theorem d3_11 : decode prog_14_method_1_code 11 = .ok (.aload_n 2, 1) := by decide +kernel
theorem d3_12 : decode prog_14_method_1_code 12 = .ok (.ldc 15, 2) := by decide +kernel
theorem d3_14 : decode prog_14_method_1_code 14 = .ok (.invokestatic 9, 3) := by decide +kernel
theorem d3_17 : decode prog_14_method_1_code 17 = .ok (.pop, 1) := by decide +kernel
theorem d3_18 : decode prog_14_method_1_code 18 = .ok (.aload_n 3, 1) := by decide +kernel
theorem d3_19 : decode prog_14_method_1_code 19 = .ok (.ldc 17, 2) := by decide +kernel
theorem d3_21 : decode prog_14_method_1_code 21 = .ok (.invokestatic 9, 3) := by decide +kernel
theorem d3_24 : decode prog_14_method_1_code 24 = .ok (.pop, 1) := by decide +kernel
theorem d3_25 : decode prog_14_method_1_code 25 = .ok (.aload 4, 2) := by decide +kernel
theorem d3_27 : decode prog_14_method_1_code 27 = .ok (.ldc 19, 2) := by decide +kernel
theorem d3_29 : decode prog_14_method_1_code 29 = .ok (.invokestatic 9, 3) := by decide +kernel
theorem d3_32 : decode prog_14_method_1_code 32 = .ok (.pop, 1) := by decide +kernel
theorem d3_33 : decode prog_14_method_1_code 33 = .ok (.aload 5, 2) := by decide +kernel
theorem d3_35 : decode prog_14_method_1_code 35 = .ok (.ldc 21, 2) := by decide +kernel
theorem d3_37 : decode prog_14_method_1_code 37 = .ok (.invokestatic 9, 3) := by decide +kernel
theorem d3_40 : decode prog_14_method_1_code 40 = .ok (.pop, 1) := by decide +kernel
theorem d3_41 : decode prog_14_method_1_code 41 = .ok (.aload_n 0, 1) := by decide +kernel
theorem d3_42 : decode prog_14_method_1_code 42 = .ok (.aload_n 1, 1) := by decide +kernel
theorem d3_43 : decode prog_14_method_1_code 43 = .ok (.putfield 23, 3) := by decide +kernel
theorem d3_46 : decode prog_14_method_1_code 46 = .ok (.aload_n 0, 1) := by decide +kernel
theorem d3_47 : decode prog_14_method_1_code 47 = .ok (.aload_n 2, 1) := by decide +kernel
theorem d3_48 : decode prog_14_method_1_code 48 = .ok (.putfield 28, 3) := by decide +kernel
theorem d3_51 : decode prog_14_method_1_code 51 = .ok (.aload_n 0, 1) := by decide +kernel
theorem d3_52 : decode prog_14_method_1_code 52 = .ok (.aload_n 3, 1) := by decide +kernel
theorem d3_53 : decode prog_14_method_1_code 53 = .ok (.putfield 31, 3) := by decide +kernel
theorem d3_56 : decode prog_14_method_1_code 56 = .ok (.aload_n 0, 1) := by decide +kernel
theorem d3_57 : decode prog_14_method_1_code 57 = .ok (.aload 4, 2) := by decide +kernel
theorem d3_59 : decode prog_14_method_1_code 59 = .ok (.putfield 33, 3) := by decide +kernel
theorem d3_62 : decode prog_14_method_1_code 62 = .ok (.aload_n 0, 1) := by decide +kernel
theorem d3_63 : decode prog_14_method_1_code 63 = .ok (.aload 5, 2) := by decide +kernel
theorem d3_65 : decode prog_14_method_1_code 65 = .ok (.putfield 35, 3) := by decide +kernel
theorem d3_68 : decode prog_14_method_1_code 68 = .ok (.aload_n 0, 1) := by decide +kernel
theorem d3_69 : decode prog_14_method_1_code 69 = .ok (.lload 6, 2) := by decide +kernel
theorem d3_71 : decode prog_14_method_1_code 71 = .ok (.putfield 37, 3) := by decide +kernel
theorem d3_74 : decode prog_14_method_1_code 74 = .ok (.aload_n 0, 1) := by decide +kernel
theorem d3_75 : decode prog_14_method_1_code 75 = .ok (.lload 8, 2) := by decide +kernel
theorem d3_77 : decode prog_14_method_1_code 77 = .ok (.putfield 41, 3) := by decide +kernel
theorem d3_80 : decode prog_14_method_1_code 80 = .ok (.return_, 1) := by decide +kernel
theorem ef_3 (m : MethodId) (x0 : Nat) (x1 : Nat) (x2 : Nat) (x3 : Nat) (x4 : Nat) (x5 : Nat) (x6 : Int64) (x7 : Int64) : entryFrame m #[(.ref x0), (.ref x1), (.ref x2), (.ref x3), (.ref x4), (.ref x5), (.long x6), (.long x7)] 10 = mkF m 0 #[.val (.ref x0), .val (.ref x1), .val (.ref x2), .val (.ref x3), .val (.ref x4), .val (.ref x5), .val (.long x6), .second, .val (.long x7), .second] [] := by first | (simp [entryFrame, mkF, argsToLocals, Value.category]; done) | rfl
set_option maxRecDepth 65536 in
set_option maxHeartbeats 40000000 in
theorem rmCI (l : Launch) (Z : State) (a0 : Array Value) (hw : ∀ d ∈ tables_1, d.before a0 Z = true) (a1 r2 r3 r4 r5 r6 : Nat) (q7 q8 : Int64) (u0 u1 u2 u3 u4 u5 u6 : Value) (h0 : Heap) (n0 : Nat) (Z0 : n0 ≤ h0.size) (E1 : Exa Z h0 a1 "com/example/prove_permissions/provepermissions/model/Certificate") (F0 : Fld Z h0 a1 "com/example/prove_permissions/provepermissions/model/Certificate" "emittent" "Ljava/lang/String;" u0) (F1 : Fld Z h0 a1 "com/example/prove_permissions/provepermissions/model/Certificate" "delegate" "Ljava/util/Optional;" u1) (F2 : Fld Z h0 a1 "com/example/prove_permissions/provepermissions/model/Certificate" "className" "Ljava/lang/String;" u2) (F3 : Fld Z h0 a1 "com/example/prove_permissions/provepermissions/model/Certificate" "object" "Ljava/lang/String;" u3) (F4 : Fld Z h0 a1 "com/example/prove_permissions/provepermissions/model/Certificate" "permission" "Ljava/lang/String;" u4) (F5 : Fld Z h0 a1 "com/example/prove_permissions/provepermissions/model/Certificate" "expiry" "J" u5) (F6 : Fld Z h0 a1 "com/example/prove_permissions/provepermissions/model/Certificate" "sequence" "J" u6) (g1 : n0 ≤ a1) (lt1 : a1 < h0.size) :
    MetW l (⟨"com/example/prove_permissions/provepermissions/model/Certificate", "<init>", "(Ljava/lang/String;Ljava/util/Optional;Ljava/lang/String;Ljava/lang/String;Ljava/lang/String;JJ)V"⟩ : MethodName) prog_14_method_1_code 10 none [] ({ frames := 2, cells := 10, slots := 184, locals := 24 } : Room) Z #[(.ref a1), (.ref r2), (.ref r3), (.ref r4), (.ref r5), (.ref r6), (.long q7), (.long q8)] h0 (fun v h L => v = none ∧ Fr n0 L ∧ Keep h0 h [a1] ∧ Fld Z h a1 "com/example/prove_permissions/provepermissions/model/Certificate" "expiry" "J" (.long q7) ∧ Fld Z h a1 "com/example/prove_permissions/provepermissions/model/Certificate" "sequence" "J" (.long q8)) := by
  refine of_goalW (plainFor_of_name (by first | (simp [plainName, overriddenIn]; done) | decide +kernel)) ?_
  intro p e s m below meth c s₁ C X0 hS e0
  have C0 := C
  obtain ⟨hx, hZ, hby, hml, hret, hown, hnm⟩ := C
  have hown : s.vm.findClass "com/example/prove_permissions/provepermissions/model/Certificate" = some m.cls := hown
  have hret : meth.sig.returnType = none := hret
  have N0 := Fr.nil n0
  rw [ef_3]
  refine GoalW.step (T' := s₁) (g' := (mkF m 1 #[.val (.ref a1), .val (.ref r2), .val (.ref r3), .val (.ref r4), .val (.ref r5), .val (.ref r6), .val (.long q7), .second, .val (.long q8), .second] [(.ref a1)])) ?_ (fun t k => XS.aloadN X0.here hx rfl (hb hby d3_0) rfl rfl k)
  obtain ⟨v1001, T1001, h1001, L1001, X1001, e1001, hQ1001, st1001⟩ := callInit X0 hx hZ hown rfl (hw _ (List.mem_of_getElem? (i := 27) rfl)) (hw _ (List.mem_of_getElem? (i := 28) rfl)) (hw _ (List.mem_of_getElem? (i := 30) rfl)) (hw _ (List.mem_of_getElem? (i := 31) rfl)) (by decide) (rmRec l Z a0 hw a1 h0 n0 (by omega) ) e0 (W := 0) (by decide) (by decide) (by decide) (by decide) (g := (mkF m 1 #[.val (.ref a1), .val (.ref r2), .val (.ref r3), .val (.ref r4), .val (.ref r5), .val (.ref r6), .val (.long q7), .second, .val (.long q8), .second] [(.ref a1)])) rfl (by rw [hml]; rfl) (a := a1) (argsL := []) (rest := []) (lenOf pd_0 rfl) rfl (by show 2 * 0 + _ ≤ _; exact Nat.le_of_eq rfl) (hb hby d3_1) rfl
  obtain ⟨rfl, M1001, q1001⟩ := hQ1001
  rw [q1001] at e1001
  have N1001 := Fr.app N0 M1001
  refine GoalW.step (T' := T1001) (g' := (mkF m 4 #[.val (.ref a1), .val (.ref r2), .val (.ref r3), .val (.ref r4), .val (.ref r5), .val (.ref r6), .val (.long q7), .second, .val (.long q8), .second] [])) ?_ st1001
  refine GoalW.step (T' := T1001) (g' := (mkF m 5 #[.val (.ref a1), .val (.ref r2), .val (.ref r3), .val (.ref r4), .val (.ref r5), .val (.ref r6), .val (.long q7), .second, .val (.long q8), .second] [(.ref r2)])) ?_ (fun t k => XS.aloadN X1001.here hx rfl (hb hby d3_4) rfl rfl k)
  obtain ⟨b1002, T1002, h1002, k1002, X1002, e1002, E1002, hS, hk1002, hZ, hown, st1002⟩ := ldcS X1001 hx hZ hown (hw _ (List.mem_of_getElem? (i := 35) rfl)) (own_atoms hw) e1001 hS (by omega) (g := (mkF m 5 #[.val (.ref a1), .val (.ref r2), .val (.ref r3), .val (.ref r4), .val (.ref r5), .val (.ref r6), .val (.long q7), .second, .val (.long q8), .second] [(.ref r2)])) rfl (hb hby d3_5) (n := 32) (by decide +kernel) (by decide) (by decide) (by decide)
  refine GoalW.step (T' := T1002) (g' := (mkF m 7 #[.val (.ref a1), .val (.ref r2), .val (.ref r3), .val (.ref r4), .val (.ref r5), .val (.ref r6), .val (.long q7), .second, .val (.long q8), .second] [(.ref b1002), (.ref r2)])) ?_ st1002
  have sz1003 : h0.size ≤ h1002.size := E1002.1
  obtain ⟨v1004, T1004, h1004, L1004, X1004, e1004, hQ1004, st1004⟩ := callStatic X1002 hx hZ hown (hw _ (List.mem_of_getElem? (i := 36) rfl)) (hw _ (List.mem_of_getElem? (i := 37) rfl)) (hw _ (List.mem_of_getElem? (i := 38) rfl)) (hw _ (List.mem_of_getElem? (i := 39) rfl)) (by decide) (rmRNN l Z a0 hw r2 b1002 h1002 n0 (by omega) ) e1002 (W := 0) (by decide) (by decide) (by decide) (by decide) (g := (mkF m 7 #[.val (.ref a1), .val (.ref r2), .val (.ref r3), .val (.ref r4), .val (.ref r5), .val (.ref r6), .val (.long q7), .second, .val (.long q8), .second] [(.ref b1002), (.ref r2)])) rfl (by rw [hml]; rfl) (argsL := [(.ref r2), (.ref b1002)]) (rest := []) (lenOf pd_1 rfl) rfl (by show 2 * 0 + _ ≤ _; exact Nat.le_of_eq rfl) (hb hby d3_7) rfl
  obtain ⟨rfl, M1004, q1004⟩ := hQ1004
  rw [q1004] at e1004
  have N1004 := Fr.app N1001 M1004
  refine GoalW.step (T' := T1004) (g' := (mkF m 10 #[.val (.ref a1), .val (.ref r2), .val (.ref r3), .val (.ref r4), .val (.ref r5), .val (.ref r6), .val (.long q7), .second, .val (.long q8), .second] [(.ref r2)])) ?_ st1004
  refine GoalW.step (T' := T1004) (g' := (mkF m 11 #[.val (.ref a1), .val (.ref r2), .val (.ref r3), .val (.ref r4), .val (.ref r5), .val (.ref r6), .val (.long q7), .second, .val (.long q8), .second] [])) ?_ (fun t k => XS.pop X1004.here hx rfl (hb hby d3_10) rfl rfl k)
  refine GoalW.step (T' := T1004) (g' := (mkF m 12 #[.val (.ref a1), .val (.ref r2), .val (.ref r3), .val (.ref r4), .val (.ref r5), .val (.ref r6), .val (.long q7), .second, .val (.long q8), .second] [(.ref r3)])) ?_ (fun t k => XS.aloadN X1004.here hx rfl (hb hby d3_11) rfl rfl k)
  obtain ⟨b1005, T1005, h1005, k1005, X1005, e1005, E1005, hS, hk1005, hZ, hown, st1005⟩ := ldcS X1004 hx hZ hown (hw _ (List.mem_of_getElem? (i := 40) rfl)) (own_atoms hw) e1004 hS (by omega) (g := (mkF m 12 #[.val (.ref a1), .val (.ref r2), .val (.ref r3), .val (.ref r4), .val (.ref r5), .val (.ref r6), .val (.long q7), .second, .val (.long q8), .second] [(.ref r3)])) rfl (hb hby d3_12) (n := 32) (by decide +kernel) (by decide) (by decide) (by decide)
  refine GoalW.step (T' := T1005) (g' := (mkF m 14 #[.val (.ref a1), .val (.ref r2), .val (.ref r3), .val (.ref r4), .val (.ref r5), .val (.ref r6), .val (.long q7), .second, .val (.long q8), .second] [(.ref b1005), (.ref r3)])) ?_ st1005
  have sz1006 : h1002.size ≤ h1005.size := E1005.1
  obtain ⟨v1007, T1007, h1007, L1007, X1007, e1007, hQ1007, st1007⟩ := callStatic X1005 hx hZ hown (hw _ (List.mem_of_getElem? (i := 36) rfl)) (hw _ (List.mem_of_getElem? (i := 37) rfl)) (hw _ (List.mem_of_getElem? (i := 38) rfl)) (hw _ (List.mem_of_getElem? (i := 39) rfl)) (by decide) (rmRNN l Z a0 hw r3 b1005 h1005 n0 (by omega) ) e1005 (W := 0) (by decide) (by decide) (by decide) (by decide) (g := (mkF m 14 #[.val (.ref a1), .val (.ref r2), .val (.ref r3), .val (.ref r4), .val (.ref r5), .val (.ref r6), .val (.long q7), .second, .val (.long q8), .second] [(.ref b1005), (.ref r3)])) rfl (by rw [hml]; rfl) (argsL := [(.ref r3), (.ref b1005)]) (rest := []) (lenOf pd_1 rfl) rfl (by show 2 * 0 + _ ≤ _; exact Nat.le_of_eq rfl) (hb hby d3_14) rfl
  obtain ⟨rfl, M1007, q1007⟩ := hQ1007
  rw [q1007] at e1007
  have N1007 := Fr.app N1004 M1007
  refine GoalW.step (T' := T1007) (g' := (mkF m 17 #[.val (.ref a1), .val (.ref r2), .val (.ref r3), .val (.ref r4), .val (.ref r5), .val (.ref r6), .val (.long q7), .second, .val (.long q8), .second] [(.ref r3)])) ?_ st1007
  refine GoalW.step (T' := T1007) (g' := (mkF m 18 #[.val (.ref a1), .val (.ref r2), .val (.ref r3), .val (.ref r4), .val (.ref r5), .val (.ref r6), .val (.long q7), .second, .val (.long q8), .second] [])) ?_ (fun t k => XS.pop X1007.here hx rfl (hb hby d3_17) rfl rfl k)
  refine GoalW.step (T' := T1007) (g' := (mkF m 19 #[.val (.ref a1), .val (.ref r2), .val (.ref r3), .val (.ref r4), .val (.ref r5), .val (.ref r6), .val (.long q7), .second, .val (.long q8), .second] [(.ref r4)])) ?_ (fun t k => XS.aloadN X1007.here hx rfl (hb hby d3_18) rfl rfl k)
  obtain ⟨b1008, T1008, h1008, k1008, X1008, e1008, E1008, hS, hk1008, hZ, hown, st1008⟩ := ldcS X1007 hx hZ hown (hw _ (List.mem_of_getElem? (i := 41) rfl)) (own_atoms hw) e1007 hS (by omega) (g := (mkF m 19 #[.val (.ref a1), .val (.ref r2), .val (.ref r3), .val (.ref r4), .val (.ref r5), .val (.ref r6), .val (.long q7), .second, .val (.long q8), .second] [(.ref r4)])) rfl (hb hby d3_19) (n := 36) (by decide +kernel) (by decide) (by decide) (by decide)
  refine GoalW.step (T' := T1008) (g' := (mkF m 21 #[.val (.ref a1), .val (.ref r2), .val (.ref r3), .val (.ref r4), .val (.ref r5), .val (.ref r6), .val (.long q7), .second, .val (.long q8), .second] [(.ref b1008), (.ref r4)])) ?_ st1008
  have sz1009 : h1005.size ≤ h1008.size := E1008.1
  obtain ⟨v1010, T1010, h1010, L1010, X1010, e1010, hQ1010, st1010⟩ := callStatic X1008 hx hZ hown (hw _ (List.mem_of_getElem? (i := 36) rfl)) (hw _ (List.mem_of_getElem? (i := 37) rfl)) (hw _ (List.mem_of_getElem? (i := 38) rfl)) (hw _ (List.mem_of_getElem? (i := 39) rfl)) (by decide) (rmRNN l Z a0 hw r4 b1008 h1008 n0 (by omega) ) e1008 (W := 0) (by decide) (by decide) (by decide) (by decide) (g := (mkF m 21 #[.val (.ref a1), .val (.ref r2), .val (.ref r3), .val (.ref r4), .val (.ref r5), .val (.ref r6), .val (.long q7), .second, .val (.long q8), .second] [(.ref b1008), (.ref r4)])) rfl (by rw [hml]; rfl) (argsL := [(.ref r4), (.ref b1008)]) (rest := []) (lenOf pd_1 rfl) rfl (by show 2 * 0 + _ ≤ _; exact Nat.le_of_eq rfl) (hb hby d3_21) rfl
  obtain ⟨rfl, M1010, q1010⟩ := hQ1010
  rw [q1010] at e1010
  have N1010 := Fr.app N1007 M1010
  refine GoalW.step (T' := T1010) (g' := (mkF m 24 #[.val (.ref a1), .val (.ref r2), .val (.ref r3), .val (.ref r4), .val (.ref r5), .val (.ref r6), .val (.long q7), .second, .val (.long q8), .second] [(.ref r4)])) ?_ st1010
  refine GoalW.step (T' := T1010) (g' := (mkF m 25 #[.val (.ref a1), .val (.ref r2), .val (.ref r3), .val (.ref r4), .val (.ref r5), .val (.ref r6), .val (.long q7), .second, .val (.long q8), .second] [])) ?_ (fun t k => XS.pop X1010.here hx rfl (hb hby d3_24) rfl rfl k)
  refine GoalW.step (T' := T1010) (g' := (mkF m 27 #[.val (.ref a1), .val (.ref r2), .val (.ref r3), .val (.ref r4), .val (.ref r5), .val (.ref r6), .val (.long q7), .second, .val (.long q8), .second] [(.ref r5)])) ?_ (fun t k => XS.aload X1010.here hx rfl (hb hby d3_25) rfl rfl k)
  obtain ⟨b1011, T1011, h1011, k1011, X1011, e1011, E1011, hS, hk1011, hZ, hown, st1011⟩ := ldcS X1010 hx hZ hown (hw _ (List.mem_of_getElem? (i := 42) rfl)) (own_atoms hw) e1010 hS (by omega) (g := (mkF m 27 #[.val (.ref a1), .val (.ref r2), .val (.ref r3), .val (.ref r4), .val (.ref r5), .val (.ref r6), .val (.long q7), .second, .val (.long q8), .second] [(.ref r5)])) rfl (hb hby d3_27) (n := 24) (by decide +kernel) (by decide) (by decide) (by decide)
  refine GoalW.step (T' := T1011) (g' := (mkF m 29 #[.val (.ref a1), .val (.ref r2), .val (.ref r3), .val (.ref r4), .val (.ref r5), .val (.ref r6), .val (.long q7), .second, .val (.long q8), .second] [(.ref b1011), (.ref r5)])) ?_ st1011
  have sz1012 : h1008.size ≤ h1011.size := E1011.1
  obtain ⟨v1013, T1013, h1013, L1013, X1013, e1013, hQ1013, st1013⟩ := callStatic X1011 hx hZ hown (hw _ (List.mem_of_getElem? (i := 36) rfl)) (hw _ (List.mem_of_getElem? (i := 37) rfl)) (hw _ (List.mem_of_getElem? (i := 38) rfl)) (hw _ (List.mem_of_getElem? (i := 39) rfl)) (by decide) (rmRNN l Z a0 hw r5 b1011 h1011 n0 (by omega) ) e1011 (W := 0) (by decide) (by decide) (by decide) (by decide) (g := (mkF m 29 #[.val (.ref a1), .val (.ref r2), .val (.ref r3), .val (.ref r4), .val (.ref r5), .val (.ref r6), .val (.long q7), .second, .val (.long q8), .second] [(.ref b1011), (.ref r5)])) rfl (by rw [hml]; rfl) (argsL := [(.ref r5), (.ref b1011)]) (rest := []) (lenOf pd_1 rfl) rfl (by show 2 * 0 + _ ≤ _; exact Nat.le_of_eq rfl) (hb hby d3_29) rfl
  obtain ⟨rfl, M1013, q1013⟩ := hQ1013
  rw [q1013] at e1013
  have N1013 := Fr.app N1010 M1013
  refine GoalW.step (T' := T1013) (g' := (mkF m 32 #[.val (.ref a1), .val (.ref r2), .val (.ref r3), .val (.ref r4), .val (.ref r5), .val (.ref r6), .val (.long q7), .second, .val (.long q8), .second] [(.ref r5)])) ?_ st1013
  refine GoalW.step (T' := T1013) (g' := (mkF m 33 #[.val (.ref a1), .val (.ref r2), .val (.ref r3), .val (.ref r4), .val (.ref r5), .val (.ref r6), .val (.long q7), .second, .val (.long q8), .second] [])) ?_ (fun t k => XS.pop X1013.here hx rfl (hb hby d3_32) rfl rfl k)
  refine GoalW.step (T' := T1013) (g' := (mkF m 35 #[.val (.ref a1), .val (.ref r2), .val (.ref r3), .val (.ref r4), .val (.ref r5), .val (.ref r6), .val (.long q7), .second, .val (.long q8), .second] [(.ref r6)])) ?_ (fun t k => XS.aload X1013.here hx rfl (hb hby d3_33) rfl rfl k)
  obtain ⟨b1014, T1014, h1014, k1014, X1014, e1014, E1014, hS, hk1014, hZ, hown, st1014⟩ := ldcS X1013 hx hZ hown (hw _ (List.mem_of_getElem? (i := 43) rfl)) (own_atoms hw) e1013 hS (by omega) (g := (mkF m 35 #[.val (.ref a1), .val (.ref r2), .val (.ref r3), .val (.ref r4), .val (.ref r5), .val (.ref r6), .val (.long q7), .second, .val (.long q8), .second] [(.ref r6)])) rfl (hb hby d3_35) (n := 40) (by decide +kernel) (by decide) (by decide) (by decide)
  refine GoalW.step (T' := T1014) (g' := (mkF m 37 #[.val (.ref a1), .val (.ref r2), .val (.ref r3), .val (.ref r4), .val (.ref r5), .val (.ref r6), .val (.long q7), .second, .val (.long q8), .second] [(.ref b1014), (.ref r6)])) ?_ st1014
  have sz1015 : h1011.size ≤ h1014.size := E1014.1
  obtain ⟨v1016, T1016, h1016, L1016, X1016, e1016, hQ1016, st1016⟩ := callStatic X1014 hx hZ hown (hw _ (List.mem_of_getElem? (i := 36) rfl)) (hw _ (List.mem_of_getElem? (i := 37) rfl)) (hw _ (List.mem_of_getElem? (i := 38) rfl)) (hw _ (List.mem_of_getElem? (i := 39) rfl)) (by decide) (rmRNN l Z a0 hw r6 b1014 h1014 n0 (by omega) ) e1014 (W := 0) (by decide) (by decide) (by decide) (by decide) (g := (mkF m 37 #[.val (.ref a1), .val (.ref r2), .val (.ref r3), .val (.ref r4), .val (.ref r5), .val (.ref r6), .val (.long q7), .second, .val (.long q8), .second] [(.ref b1014), (.ref r6)])) rfl (by rw [hml]; rfl) (argsL := [(.ref r6), (.ref b1014)]) (rest := []) (lenOf pd_1 rfl) rfl (by show 2 * 0 + _ ≤ _; exact Nat.le_of_eq rfl) (hb hby d3_37) rfl
  obtain ⟨rfl, M1016, q1016⟩ := hQ1016
  rw [q1016] at e1016
  have N1016 := Fr.app N1013 M1016
  refine GoalW.step (T' := T1016) (g' := (mkF m 40 #[.val (.ref a1), .val (.ref r2), .val (.ref r3), .val (.ref r4), .val (.ref r5), .val (.ref r6), .val (.long q7), .second, .val (.long q8), .second] [(.ref r6)])) ?_ st1016
  refine GoalW.step (T' := T1016) (g' := (mkF m 41 #[.val (.ref a1), .val (.ref r2), .val (.ref r3), .val (.ref r4), .val (.ref r5), .val (.ref r6), .val (.long q7), .second, .val (.long q8), .second] [])) ?_ (fun t k => XS.pop X1016.here hx rfl (hb hby d3_40) rfl rfl k)
  refine GoalW.step (T' := T1016) (g' := (mkF m 42 #[.val (.ref a1), .val (.ref r2), .val (.ref r3), .val (.ref r4), .val (.ref r5), .val (.ref r6), .val (.long q7), .second, .val (.long q8), .second] [(.ref a1)])) ?_ (fun t k => XS.aloadN X1016.here hx rfl (hb hby d3_41) rfl rfl k)
  refine GoalW.step (T' := T1016) (g' := (mkF m 43 #[.val (.ref a1), .val (.ref r2), .val (.ref r3), .val (.ref r4), .val (.ref r5), .val (.ref r6), .val (.long q7), .second, .val (.long q8), .second] [(.ref r2), (.ref a1)])) ?_ (fun t k => XS.aloadN X1016.here hx rfl (hb hby d3_42) rfl rfl k)
  have f1017 : Fld Z h1014 a1 "com/example/prove_permissions/provepermissions/model/Certificate" "emittent" "Ljava/lang/String;" u0 := (((((F0.ext E1002).ext E1005).ext E1008).ext E1011).ext E1014)
  have f1018 : Exa Z h1014 a1 "com/example/prove_permissions/provepermissions/model/Certificate" := (((((E1.ext E1002).ext E1005).ext E1008).ext E1011).ext E1014)
  obtain ⟨T1019, h1019, X1019, e1019, W1019, st1019⟩ := putF X1016 hx hZ hown (host := "") (Or.inl (hw _ (List.mem_of_getElem? (i := 44) rfl))) Via.refl e1016 f1017 f1018 (Or.inr ⟨(hw _ (List.mem_of_getElem? (i := 45) rfl)), rfl, hnm⟩) (hw _ (List.mem_of_getElem? (i := 11) rfl)) (ty := (.object "java/lang/String")) (by decide) rfl rfl (g := (mkF m 43 #[.val (.ref a1), .val (.ref r2), .val (.ref r3), .val (.ref r4), .val (.ref r5), .val (.ref r6), .val (.long q7), .second, .val (.long q8), .second] [(.ref r2), (.ref a1)])) rfl rfl (hb hby d3_43)
  refine GoalW.step (T' := T1019) (g' := (mkF m 46 #[.val (.ref a1), .val (.ref r2), .val (.ref r3), .val (.ref r4), .val (.ref r5), .val (.ref r6), .val (.long q7), .second, .val (.long q8), .second] [])) ?_ st1019
  have sz1020 : h1014.size ≤ h1019.size := Nat.le_of_eq W1019.size.symm
  have F1019 := Fld.same W1019 f1017
  have N1019 := Fr.snoc X1019 N1016 (by omega : n0 ≤ a1)
  refine GoalW.step (T' := T1019) (g' := (mkF m 47 #[.val (.ref a1), .val (.ref r2), .val (.ref r3), .val (.ref r4), .val (.ref r5), .val (.ref r6), .val (.long q7), .second, .val (.long q8), .second] [(.ref a1)])) ?_ (fun t k => XS.aloadN X1019.here hx rfl (hb hby d3_46) rfl rfl k)
  refine GoalW.step (T' := T1019) (g' := (mkF m 48 #[.val (.ref a1), .val (.ref r2), .val (.ref r3), .val (.ref r4), .val (.ref r5), .val (.ref r6), .val (.long q7), .second, .val (.long q8), .second] [(.ref r3), (.ref a1)])) ?_ (fun t k => XS.aloadN X1019.here hx rfl (hb hby d3_47) rfl rfl k)
  have f1021 : Fld Z h1019 a1 "com/example/prove_permissions/provepermissions/model/Certificate" "delegate" "Ljava/util/Optional;" u1 := (Fld.other W1019 (((((F1.ext E1002).ext E1005).ext E1008).ext E1011).ext E1014) (Or.inr (slot_ne (Or.inr (hw _ (List.mem_of_getElem? (i := 47) rfl))) (Or.inr (hw _ (List.mem_of_getElem? (i := 45) rfl))) (by decide) (t := (.object "java/util/Optional")) (t' := (.object "java/lang/String")) (by decide) (by decide))))
  have f1022 : Exa Z h1019 a1 "com/example/prove_permissions/provepermissions/model/Certificate" := (Exa.wr W1019 f1018)
  obtain ⟨T1023, h1023, X1023, e1023, W1023, st1023⟩ := putF X1019 hx hZ hown (host := "") (Or.inl (hw _ (List.mem_of_getElem? (i := 46) rfl))) Via.refl e1019 f1021 f1022 (Or.inr ⟨(hw _ (List.mem_of_getElem? (i := 47) rfl)), rfl, hnm⟩) (hw _ (List.mem_of_getElem? (i := 11) rfl)) (ty := (.object "java/util/Optional")) (by decide) rfl rfl (g := (mkF m 48 #[.val (.ref a1), .val (.ref r2), .val (.ref r3), .val (.ref r4), .val (.ref r5), .val (.ref r6), .val (.long q7), .second, .val (.long q8), .second] [(.ref r3), (.ref a1)])) rfl rfl (hb hby d3_48)
  refine GoalW.step (T' := T1023) (g' := (mkF m 51 #[.val (.ref a1), .val (.ref r2), .val (.ref r3), .val (.ref r4), .val (.ref r5), .val (.ref r6), .val (.long q7), .second, .val (.long q8), .second] [])) ?_ st1023
  have sz1024 : h1019.size ≤ h1023.size := Nat.le_of_eq W1023.size.symm
  have F1023 := Fld.same W1023 f1021
  have N1023 := Fr.snoc X1023 N1019 (by omega : n0 ≤ a1)
  refine GoalW.step (T' := T1023) (g' := (mkF m 52 #[.val (.ref a1), .val (.ref r2), .val (.ref r3), .val (.ref r4), .val (.ref r5), .val (.ref r6), .val (.long q7), .second, .val (.long q8), .second] [(.ref a1)])) ?_ (fun t k => XS.aloadN X1023.here hx rfl (hb hby d3_51) rfl rfl k)
  refine GoalW.step (T' := T1023) (g' := (mkF m 53 #[.val (.ref a1), .val (.ref r2), .val (.ref r3), .val (.ref r4), .val (.ref r5), .val (.ref r6), .val (.long q7), .second, .val (.long q8), .second] [(.ref r4), (.ref a1)])) ?_ (fun t k => XS.aloadN X1023.here hx rfl (hb hby d3_52) rfl rfl k)
  have f1025 : Fld Z h1023 a1 "com/example/prove_permissions/provepermissions/model/Certificate" "className" "Ljava/lang/String;" u2 := (Fld.other W1023 (Fld.other W1019 (((((F2.ext E1002).ext E1005).ext E1008).ext E1011).ext E1014) (Or.inr (slot_ne (Or.inr (hw _ (List.mem_of_getElem? (i := 49) rfl))) (Or.inr (hw _ (List.mem_of_getElem? (i := 45) rfl))) (by decide) (t := (.object "java/lang/String")) (t' := (.object "java/lang/String")) (by decide) (by decide)))) (Or.inr (slot_ne (Or.inr (hw _ (List.mem_of_getElem? (i := 49) rfl))) (Or.inr (hw _ (List.mem_of_getElem? (i := 47) rfl))) (by decide) (t := (.object "java/lang/String")) (t' := (.object "java/util/Optional")) (by decide) (by decide))))
  have f1026 : Exa Z h1023 a1 "com/example/prove_permissions/provepermissions/model/Certificate" := (Exa.wr W1023 f1022)
  obtain ⟨T1027, h1027, X1027, e1027, W1027, st1027⟩ := putF X1023 hx hZ hown (host := "") (Or.inl (hw _ (List.mem_of_getElem? (i := 48) rfl))) Via.refl e1023 f1025 f1026 (Or.inr ⟨(hw _ (List.mem_of_getElem? (i := 49) rfl)), rfl, hnm⟩) (hw _ (List.mem_of_getElem? (i := 11) rfl)) (ty := (.object "java/lang/String")) (by decide) rfl rfl (g := (mkF m 53 #[.val (.ref a1), .val (.ref r2), .val (.ref r3), .val (.ref r4), .val (.ref r5), .val (.ref r6), .val (.long q7), .second, .val (.long q8), .second] [(.ref r4), (.ref a1)])) rfl rfl (hb hby d3_53)
  refine GoalW.step (T' := T1027) (g' := (mkF m 56 #[.val (.ref a1), .val (.ref r2), .val (.ref r3), .val (.ref r4), .val (.ref r5), .val (.ref r6), .val (.long q7), .second, .val (.long q8), .second] [])) ?_ st1027
  have sz1028 : h1023.size ≤ h1027.size := Nat.le_of_eq W1027.size.symm
  have F1027 := Fld.same W1027 f1025
  have N1027 := Fr.snoc X1027 N1023 (by omega : n0 ≤ a1)
  refine GoalW.step (T' := T1027) (g' := (mkF m 57 #[.val (.ref a1), .val (.ref r2), .val (.ref r3), .val (.ref r4), .val (.ref r5), .val (.ref r6), .val (.long q7), .second, .val (.long q8), .second] [(.ref a1)])) ?_ (fun t k => XS.aloadN X1027.here hx rfl (hb hby d3_56) rfl rfl k)
  refine GoalW.step (T' := T1027) (g' := (mkF m 59 #[.val (.ref a1), .val (.ref r2), .val (.ref r3), .val (.ref r4), .val (.ref r5), .val (.ref r6), .val (.long q7), .second, .val (.long q8), .second] [(.ref r5), (.ref a1)])) ?_ (fun t k => XS.aload X1027.here hx rfl (hb hby d3_57) rfl rfl k)
  have f1029 : Fld Z h1027 a1 "com/example/prove_permissions/provepermissions/model/Certificate" "object" "Ljava/lang/String;" u3 := (Fld.other W1027 (Fld.other W1023 (Fld.other W1019 (((((F3.ext E1002).ext E1005).ext E1008).ext E1011).ext E1014) (Or.inr (slot_ne (Or.inr (hw _ (List.mem_of_getElem? (i := 51) rfl))) (Or.inr (hw _ (List.mem_of_getElem? (i := 45) rfl))) (by decide) (t := (.object "java/lang/String")) (t' := (.object "java/lang/String")) (by decide) (by decide)))) (Or.inr (slot_ne (Or.inr (hw _ (List.mem_of_getElem? (i := 51) rfl))) (Or.inr (hw _ (List.mem_of_getElem? (i := 47) rfl))) (by decide) (t := (.object "java/lang/String")) (t' := (.object "java/util/Optional")) (by decide) (by decide)))) (Or.inr (slot_ne (Or.inr (hw _ (List.mem_of_getElem? (i := 51) rfl))) (Or.inr (hw _ (List.mem_of_getElem? (i := 49) rfl))) (by decide) (t := (.object "java/lang/String")) (t' := (.object "java/lang/String")) (by decide) (by decide))))
  have f1030 : Exa Z h1027 a1 "com/example/prove_permissions/provepermissions/model/Certificate" := (Exa.wr W1027 f1026)
  obtain ⟨T1031, h1031, X1031, e1031, W1031, st1031⟩ := putF X1027 hx hZ hown (host := "") (Or.inl (hw _ (List.mem_of_getElem? (i := 50) rfl))) Via.refl e1027 f1029 f1030 (Or.inr ⟨(hw _ (List.mem_of_getElem? (i := 51) rfl)), rfl, hnm⟩) (hw _ (List.mem_of_getElem? (i := 11) rfl)) (ty := (.object "java/lang/String")) (by decide) rfl rfl (g := (mkF m 59 #[.val (.ref a1), .val (.ref r2), .val (.ref r3), .val (.ref r4), .val (.ref r5), .val (.ref r6), .val (.long q7), .second, .val (.long q8), .second] [(.ref r5), (.ref a1)])) rfl rfl (hb hby d3_59)
  refine GoalW.step (T' := T1031) (g' := (mkF m 62 #[.val (.ref a1), .val (.ref r2), .val (.ref r3), .val (.ref r4), .val (.ref r5), .val (.ref r6), .val (.long q7), .second, .val (.long q8), .second] [])) ?_ st1031
  have sz1032 : h1027.size ≤ h1031.size := Nat.le_of_eq W1031.size.symm
  have F1031 := Fld.same W1031 f1029
  have N1031 := Fr.snoc X1031 N1027 (by omega : n0 ≤ a1)
  refine GoalW.step (T' := T1031) (g' := (mkF m 63 #[.val (.ref a1), .val (.ref r2), .val (.ref r3), .val (.ref r4), .val (.ref r5), .val (.ref r6), .val (.long q7), .second, .val (.long q8), .second] [(.ref a1)])) ?_ (fun t k => XS.aloadN X1031.here hx rfl (hb hby d3_62) rfl rfl k)
  refine GoalW.step (T' := T1031) (g' := (mkF m 65 #[.val (.ref a1), .val (.ref r2), .val (.ref r3), .val (.ref r4), .val (.ref r5), .val (.ref r6), .val (.long q7), .second, .val (.long q8), .second] [(.ref r6), (.ref a1)])) ?_ (fun t k => XS.aload X1031.here hx rfl (hb hby d3_63) rfl rfl k)
  have f1033 : Fld Z h1031 a1 "com/example/prove_permissions/provepermissions/model/Certificate" "permission" "Ljava/lang/String;" u4 := (Fld.other W1031 (Fld.other W1027 (Fld.other W1023 (Fld.other W1019 (((((F4.ext E1002).ext E1005).ext E1008).ext E1011).ext E1014) (Or.inr (slot_ne (Or.inr (hw _ (List.mem_of_getElem? (i := 53) rfl))) (Or.inr (hw _ (List.mem_of_getElem? (i := 45) rfl))) (by decide) (t := (.object "java/lang/String")) (t' := (.object "java/lang/String")) (by decide) (by decide)))) (Or.inr (slot_ne (Or.inr (hw _ (List.mem_of_getElem? (i := 53) rfl))) (Or.inr (hw _ (List.mem_of_getElem? (i := 47) rfl))) (by decide) (t := (.object "java/lang/String")) (t' := (.object "java/util/Optional")) (by decide) (by decide)))) (Or.inr (slot_ne (Or.inr (hw _ (List.mem_of_getElem? (i := 53) rfl))) (Or.inr (hw _ (List.mem_of_getElem? (i := 49) rfl))) (by decide) (t := (.object "java/lang/String")) (t' := (.object "java/lang/String")) (by decide) (by decide)))) (Or.inr (slot_ne (Or.inr (hw _ (List.mem_of_getElem? (i := 53) rfl))) (Or.inr (hw _ (List.mem_of_getElem? (i := 51) rfl))) (by decide) (t := (.object "java/lang/String")) (t' := (.object "java/lang/String")) (by decide) (by decide))))
  have f1034 : Exa Z h1031 a1 "com/example/prove_permissions/provepermissions/model/Certificate" := (Exa.wr W1031 f1030)
  obtain ⟨T1035, h1035, X1035, e1035, W1035, st1035⟩ := putF X1031 hx hZ hown (host := "") (Or.inl (hw _ (List.mem_of_getElem? (i := 52) rfl))) Via.refl e1031 f1033 f1034 (Or.inr ⟨(hw _ (List.mem_of_getElem? (i := 53) rfl)), rfl, hnm⟩) (hw _ (List.mem_of_getElem? (i := 11) rfl)) (ty := (.object "java/lang/String")) (by decide) rfl rfl (g := (mkF m 65 #[.val (.ref a1), .val (.ref r2), .val (.ref r3), .val (.ref r4), .val (.ref r5), .val (.ref r6), .val (.long q7), .second, .val (.long q8), .second] [(.ref r6), (.ref a1)])) rfl rfl (hb hby d3_65)
  refine GoalW.step (T' := T1035) (g' := (mkF m 68 #[.val (.ref a1), .val (.ref r2), .val (.ref r3), .val (.ref r4), .val (.ref r5), .val (.ref r6), .val (.long q7), .second, .val (.long q8), .second] [])) ?_ st1035
  have sz1036 : h1031.size ≤ h1035.size := Nat.le_of_eq W1035.size.symm
  have F1035 := Fld.same W1035 f1033
  have N1035 := Fr.snoc X1035 N1031 (by omega : n0 ≤ a1)
  refine GoalW.step (T' := T1035) (g' := (mkF m 69 #[.val (.ref a1), .val (.ref r2), .val (.ref r3), .val (.ref r4), .val (.ref r5), .val (.ref r6), .val (.long q7), .second, .val (.long q8), .second] [(.ref a1)])) ?_ (fun t k => XS.aloadN X1035.here hx rfl (hb hby d3_68) rfl rfl k)
  refine GoalW.step (T' := T1035) (g' := (mkF m 71 #[.val (.ref a1), .val (.ref r2), .val (.ref r3), .val (.ref r4), .val (.ref r5), .val (.ref r6), .val (.long q7), .second, .val (.long q8), .second] [(.long q7), (.ref a1)])) ?_ (fun t k => XS.lload X1035.here hx rfl (hb hby d3_69) rfl k)
  have f1037 : Fld Z h1035 a1 "com/example/prove_permissions/provepermissions/model/Certificate" "expiry" "J" u5 := (Fld.other W1035 (Fld.other W1031 (Fld.other W1027 (Fld.other W1023 (Fld.other W1019 (((((F5.ext E1002).ext E1005).ext E1008).ext E1011).ext E1014) (Or.inr (slot_ne (Or.inr (hw _ (List.mem_of_getElem? (i := 55) rfl))) (Or.inr (hw _ (List.mem_of_getElem? (i := 45) rfl))) (by decide) (t := .long) (t' := (.object "java/lang/String")) (by decide) (by decide)))) (Or.inr (slot_ne (Or.inr (hw _ (List.mem_of_getElem? (i := 55) rfl))) (Or.inr (hw _ (List.mem_of_getElem? (i := 47) rfl))) (by decide) (t := .long) (t' := (.object "java/util/Optional")) (by decide) (by decide)))) (Or.inr (slot_ne (Or.inr (hw _ (List.mem_of_getElem? (i := 55) rfl))) (Or.inr (hw _ (List.mem_of_getElem? (i := 49) rfl))) (by decide) (t := .long) (t' := (.object "java/lang/String")) (by decide) (by decide)))) (Or.inr (slot_ne (Or.inr (hw _ (List.mem_of_getElem? (i := 55) rfl))) (Or.inr (hw _ (List.mem_of_getElem? (i := 51) rfl))) (by decide) (t := .long) (t' := (.object "java/lang/String")) (by decide) (by decide)))) (Or.inr (slot_ne (Or.inr (hw _ (List.mem_of_getElem? (i := 55) rfl))) (Or.inr (hw _ (List.mem_of_getElem? (i := 53) rfl))) (by decide) (t := .long) (t' := (.object "java/lang/String")) (by decide) (by decide))))
  have f1038 : Exa Z h1035 a1 "com/example/prove_permissions/provepermissions/model/Certificate" := (Exa.wr W1035 f1034)
  obtain ⟨T1039, h1039, X1039, e1039, W1039, st1039⟩ := putF X1035 hx hZ hown (host := "") (Or.inl (hw _ (List.mem_of_getElem? (i := 54) rfl))) Via.refl e1035 f1037 f1038 (Or.inr ⟨(hw _ (List.mem_of_getElem? (i := 55) rfl)), rfl, hnm⟩) (hw _ (List.mem_of_getElem? (i := 11) rfl)) (ty := .long) (by decide) rfl rfl (g := (mkF m 71 #[.val (.ref a1), .val (.ref r2), .val (.ref r3), .val (.ref r4), .val (.ref r5), .val (.ref r6), .val (.long q7), .second, .val (.long q8), .second] [(.long q7), (.ref a1)])) rfl rfl (hb hby d3_71)
  refine GoalW.step (T' := T1039) (g' := (mkF m 74 #[.val (.ref a1), .val (.ref r2), .val (.ref r3), .val (.ref r4), .val (.ref r5), .val (.ref r6), .val (.long q7), .second, .val (.long q8), .second] [])) ?_ st1039
  have sz1040 : h1035.size ≤ h1039.size := Nat.le_of_eq W1039.size.symm
  have F1039 := Fld.same W1039 f1037
  have N1039 := Fr.snoc X1039 N1035 (by omega : n0 ≤ a1)
  refine GoalW.step (T' := T1039) (g' := (mkF m 75 #[.val (.ref a1), .val (.ref r2), .val (.ref r3), .val (.ref r4), .val (.ref r5), .val (.ref r6), .val (.long q7), .second, .val (.long q8), .second] [(.ref a1)])) ?_ (fun t k => XS.aloadN X1039.here hx rfl (hb hby d3_74) rfl rfl k)
  refine GoalW.step (T' := T1039) (g' := (mkF m 77 #[.val (.ref a1), .val (.ref r2), .val (.ref r3), .val (.ref r4), .val (.ref r5), .val (.ref r6), .val (.long q7), .second, .val (.long q8), .second] [(.long q8), (.ref a1)])) ?_ (fun t k => XS.lload X1039.here hx rfl (hb hby d3_75) rfl k)
  have f1041 : Fld Z h1039 a1 "com/example/prove_permissions/provepermissions/model/Certificate" "sequence" "J" u6 := (Fld.other W1039 (Fld.other W1035 (Fld.other W1031 (Fld.other W1027 (Fld.other W1023 (Fld.other W1019 (((((F6.ext E1002).ext E1005).ext E1008).ext E1011).ext E1014) (Or.inr (slot_ne (Or.inr (hw _ (List.mem_of_getElem? (i := 57) rfl))) (Or.inr (hw _ (List.mem_of_getElem? (i := 45) rfl))) (by decide) (t := .long) (t' := (.object "java/lang/String")) (by decide) (by decide)))) (Or.inr (slot_ne (Or.inr (hw _ (List.mem_of_getElem? (i := 57) rfl))) (Or.inr (hw _ (List.mem_of_getElem? (i := 47) rfl))) (by decide) (t := .long) (t' := (.object "java/util/Optional")) (by decide) (by decide)))) (Or.inr (slot_ne (Or.inr (hw _ (List.mem_of_getElem? (i := 57) rfl))) (Or.inr (hw _ (List.mem_of_getElem? (i := 49) rfl))) (by decide) (t := .long) (t' := (.object "java/lang/String")) (by decide) (by decide)))) (Or.inr (slot_ne (Or.inr (hw _ (List.mem_of_getElem? (i := 57) rfl))) (Or.inr (hw _ (List.mem_of_getElem? (i := 51) rfl))) (by decide) (t := .long) (t' := (.object "java/lang/String")) (by decide) (by decide)))) (Or.inr (slot_ne (Or.inr (hw _ (List.mem_of_getElem? (i := 57) rfl))) (Or.inr (hw _ (List.mem_of_getElem? (i := 53) rfl))) (by decide) (t := .long) (t' := (.object "java/lang/String")) (by decide) (by decide)))) (Or.inr (slot_ne (Or.inr (hw _ (List.mem_of_getElem? (i := 57) rfl))) (Or.inr (hw _ (List.mem_of_getElem? (i := 55) rfl))) (by decide) (t := .long) (t' := .long) (by decide) (by decide))))
  have f1042 : Exa Z h1039 a1 "com/example/prove_permissions/provepermissions/model/Certificate" := (Exa.wr W1039 f1038)
  obtain ⟨T1043, h1043, X1043, e1043, W1043, st1043⟩ := putF X1039 hx hZ hown (host := "") (Or.inl (hw _ (List.mem_of_getElem? (i := 56) rfl))) Via.refl e1039 f1041 f1042 (Or.inr ⟨(hw _ (List.mem_of_getElem? (i := 57) rfl)), rfl, hnm⟩) (hw _ (List.mem_of_getElem? (i := 11) rfl)) (ty := .long) (by decide) rfl rfl (g := (mkF m 77 #[.val (.ref a1), .val (.ref r2), .val (.ref r3), .val (.ref r4), .val (.ref r5), .val (.ref r6), .val (.long q7), .second, .val (.long q8), .second] [(.long q8), (.ref a1)])) rfl rfl (hb hby d3_77)
  refine GoalW.step (T' := T1043) (g' := (mkF m 80 #[.val (.ref a1), .val (.ref r2), .val (.ref r3), .val (.ref r4), .val (.ref r5), .val (.ref r6), .val (.long q7), .second, .val (.long q8), .second] [])) ?_ st1043
  have sz1044 : h1039.size ≤ h1043.size := Nat.le_of_eq W1043.size.symm
  have F1043 := Fld.same W1043 f1041
  have N1043 := Fr.snoc X1043 N1039 (by omega : n0 ≤ a1)
  refine GoalW.retV X1043 hS (by rw [e1043]; omega) hx hret (hb hby d3_80) ?_
  have k1045 : Keep h0 h1043 [a1] := (((((((((((((Keep.refl h0 [a1]).ext E1002).ext E1005).ext E1008).ext E1011).ext E1014).wr W1019 (Or.inl (by simp))).wr W1023 (Or.inl (by simp))).wr W1027 (Or.inl (by simp))).wr W1031 (Or.inl (by simp))).wr W1035 (Or.inl (by simp))).wr W1039 (Or.inl (by simp))).wr W1043 (Or.inl (by simp)))
  have f1046 : Fld Z h1043 a1 "com/example/prove_permissions/provepermissions/model/Certificate" "expiry" "J" (.long q7) := (Fld.other W1043 F1039 (Or.inr (slot_ne (Or.inr (hw _ (List.mem_of_getElem? (i := 55) rfl))) (Or.inr (hw _ (List.mem_of_getElem? (i := 57) rfl))) (by decide) (t := .long) (t' := .long) (by decide) (by decide))))
  refine ⟨?_, by decide, by decide⟩
  rw [e1043]
  exact ⟨rfl, N1043, k1045, f1046, F1043⟩
theorem d1_0 : decode method_2_code 0 = .ok (.iload_n 0, 1) := by decide +kernel
theorem d1_1 : decode method_2_code 1 = .ok (.iconst 3, 1) := by decide +kernel
theorem d1_2 : decode method_2_code 2 = .ok (.iand, 1) := by decide +kernel
theorem d1_3 : decode method_2_code 3 = .ok (.istore_n 3, 1) := by decide +kernel
theorem d1_4 : decode method_2_code 4 = .ok (.iload_n 3, 1) := by decide +kernel
theorem d1_5 : decode method_2_code 5 = .ok (.ifCond .ne 7, 3) := by decide +kernel
theorem d1_8 : decode method_2_code 8 = .ok (.ldc2_w 7, 3) := by decide +kernel
theorem d1_11 : decode method_2_code 11 = .ok (.lreturn, 1) := by decide +kernel
theorem d1_12 : decode method_2_code 12 = .ok (.iload_n 3, 1) := by decide +kernel
theorem d1_13 : decode method_2_code 13 = .ok (.iconst 1, 1) := by decide +kernel
theorem d1_14 : decode method_2_code 14 = .ok (.if_icmp .ne 7, 3) := by decide +kernel
theorem d1_17 : decode method_2_code 17 = .ok (.ldc2_w 9, 3) := by decide +kernel
theorem d1_20 : decode method_2_code 20 = .ok (.lreturn, 1) := by decide +kernel
theorem d1_21 : decode method_2_code 21 = .ok (.iload_n 3, 1) := by decide +kernel
theorem d1_22 : decode method_2_code 22 = .ok (.iconst 2, 1) := by decide +kernel
theorem d1_23 : decode method_2_code 23 = .ok (.if_icmp .ne 5, 3) := by decide +kernel
theorem d1_26 : decode method_2_code 26 = .ok (.lconst 0, 1) := by decide +kernel
theorem d1_27 : decode method_2_code 27 = .ok (.lreturn, 1) := by decide +kernel
theorem d1_28 : decode method_2_code 28 = .ok (.lload_n 1, 1) := by decide +kernel
theorem d1_29 : decode method_2_code 29 = .ok (.lreturn, 1) := by decide +kernel
theorem ef_1 (m : MethodId) (x0 : Int32) (x1 : Int64) : entryFrame m #[(.int x0), (.long x1)] 4 = mkF m 0 #[.val (.int x0), .val (.long x1), .second, .unset] [] := by first | (simp [entryFrame, mkF, argsToLocals, Value.category]; done) | rfl
set_option maxRecDepth 65536 in
set_option maxHeartbeats 40000000 in
theorem rmPK (l : Launch) (Z : State) (a0 : Array Value) (hw : ∀ d ∈ tables_1, d.before a0 Z = true) (p1 : Int32) (q2 : Int64) (h0 : Heap) (n0 : Nat) (Z0 : n0 ≤ h0.size) :
    Met l (⟨"com/example/prove_permissions/provepermissions/model/CertificateReusablePinLaw", "pick", "(IJ)J"⟩ : MethodName) method_2_code 4 (some .long) [] ({ frames := 0, cells := 0, slots := 0, locals := 0 } : Room) Z #[(.int p1), (.long q2)] h0 (fun v h L => v = some (.long (pk p1 q2)) ∧ Fr n0 L ∧ h = h0) := by
  refine of_goal (plainFor_of_name (by first | (simp [plainName, overriddenIn]; done) | decide +kernel)) ?_
  intro p e s m below meth c s₁ C X0 e0
  have C0 := C
  obtain ⟨hx, hZ, hby, hml, hret, hown, hnm⟩ := C
  have hown : s.vm.findClass "com/example/prove_permissions/provepermissions/model/CertificateReusablePinLaw" = some m.cls := hown
  have hret : meth.sig.returnType = (some .long) := hret
  have N0 := Fr.nil n0
  rw [ef_1]
  refine Goal.step (T' := s₁) (g' := (mkF m 1 #[.val (.int p1), .val (.long q2), .second, .unset] [(.int p1)])) ?_ (fun t k => XS.iloadN X0.here hx rfl (hb hby d1_0) rfl k)
  refine Goal.step (T' := s₁) (g' := (mkF m 2 #[.val (.int p1), .val (.long q2), .second, .unset] [(.int (3 : Int32)), (.int p1)])) ?_ (fun t k => XS.iconst X0.here hx rfl (hb hby d1_1) k)
  refine Goal.step (T' := s₁) (g' := (mkF m 3 #[.val (.int p1), .val (.long q2), .second, .unset] [(.int (p1 &&& (3 : Int32)))])) ?_ (fun t k => XS.iand X0.here hx rfl (hb hby d1_2) rfl k)
  refine Goal.step (T' := s₁) (g' := (mkF m 4 #[.val (.int p1), .val (.long q2), .second, .val (.int (p1 &&& (3 : Int32)))] [])) ?_ (fun t k => XS.istoreN X0.here hx rfl (hb hby d1_3) rfl (l' := #[.val (.int p1), .val (.long q2), .second, .val (.int (p1 &&& (3 : Int32)))]) rfl k)
  refine Goal.step (T' := s₁) (g' := (mkF m 5 #[.val (.int p1), .val (.long q2), .second, .val (.int (p1 &&& (3 : Int32)))] [(.int (p1 &&& (3 : Int32)))])) ?_ (fun t k => XS.iloadN X0.here hx rfl (hb hby d1_4) rfl k)
  by_cases c1001 : (p1 &&& (3 : Int32)) = (0 : Int32)
  · refine Goal.step (T' := s₁) (g' := (mkF m 8 #[.val (.int p1), .val (.long q2), .second, .val (.int (p1 &&& (3 : Int32)))] [])) ?_ (fun t k => XS.ifNo X0.here hx rfl (hb hby d1_5) rfl ((if0 _ _).trans (teq c1001).2) k)
    refine Goal.step (T' := s₁) (g' := (mkF m 11 #[.val (.int p1), .val (.long q2), .second, .val (.int (p1 &&& (3 : Int32)))] [(.long (-1 : Int64))])) ?_ (fun t k => X0.ldc2Long hx hown (mvT hZ (hw _ (List.mem_of_getElem? (i := 4) rfl))) (g := (mkF m 8 #[.val (.int p1), .val (.long q2), .second, .val (.int (p1 &&& (3 : Int32)))] [])) rfl (hb hby d1_8) _ k)
    refine Goal.retJ X0 hx hret (hb hby d1_11) ?_
    refine ⟨?_, by decide, by decide⟩
    rw [e0]
    exact ⟨by simp [pk, c1001], N0, rfl⟩
  · refine Goal.step (T' := s₁) (g' := (mkF m 12 #[.val (.int p1), .val (.long q2), .second, .val (.int (p1 &&& (3 : Int32)))] [])) ?_ (fun t k => XS.ifYes X0.here hx rfl (pc0 := 5) (pc' := 12) rfl (hb hby d1_5) rfl ((if0 _ _).trans (feq c1001).2) (by decide) (by decide) k)
    refine Goal.step (T' := s₁) (g' := (mkF m 13 #[.val (.int p1), .val (.long q2), .second, .val (.int (p1 &&& (3 : Int32)))] [(.int (p1 &&& (3 : Int32)))])) ?_ (fun t k => XS.iloadN X0.here hx rfl (hb hby d1_12) rfl k)
    refine Goal.step (T' := s₁) (g' := (mkF m 14 #[.val (.int p1), .val (.long q2), .second, .val (.int (p1 &&& (3 : Int32)))] [(.int (1 : Int32)), (.int (p1 &&& (3 : Int32)))])) ?_ (fun t k => XS.iconst X0.here hx rfl (hb hby d1_13) k)
    by_cases c1002 : (p1 &&& (3 : Int32)) = (1 : Int32)
    · refine Goal.step (T' := s₁) (g' := (mkF m 17 #[.val (.int p1), .val (.long q2), .second, .val (.int (p1 &&& (3 : Int32)))] [])) ?_ (fun t k => XS.icmpNo X0.here hx rfl (hb hby d1_14) rfl (teq c1002).2 k)
      refine Goal.step (T' := s₁) (g' := (mkF m 20 #[.val (.int p1), .val (.long q2), .second, .val (.int (p1 &&& (3 : Int32)))] [(.long (-2 : Int64))])) ?_ (fun t k => X0.ldc2Long hx hown (mvT hZ (hw _ (List.mem_of_getElem? (i := 64) rfl))) (g := (mkF m 17 #[.val (.int p1), .val (.long q2), .second, .val (.int (p1 &&& (3 : Int32)))] [])) rfl (hb hby d1_17) _ k)
      refine Goal.retJ X0 hx hret (hb hby d1_20) ?_
      refine ⟨?_, by decide, by decide⟩
      rw [e0]
      exact ⟨by simp [pk, c1001, c1002], N0, rfl⟩
    · refine Goal.step (T' := s₁) (g' := (mkF m 21 #[.val (.int p1), .val (.long q2), .second, .val (.int (p1 &&& (3 : Int32)))] [])) ?_ (fun t k => XS.icmpYes X0.here hx rfl (pc0 := 14) (pc' := 21) rfl (hb hby d1_14) rfl (feq c1002).2 (by decide) (by decide) k)
      refine Goal.step (T' := s₁) (g' := (mkF m 22 #[.val (.int p1), .val (.long q2), .second, .val (.int (p1 &&& (3 : Int32)))] [(.int (p1 &&& (3 : Int32)))])) ?_ (fun t k => XS.iloadN X0.here hx rfl (hb hby d1_21) rfl k)
      refine Goal.step (T' := s₁) (g' := (mkF m 23 #[.val (.int p1), .val (.long q2), .second, .val (.int (p1 &&& (3 : Int32)))] [(.int (2 : Int32)), (.int (p1 &&& (3 : Int32)))])) ?_ (fun t k => XS.iconst X0.here hx rfl (hb hby d1_22) k)
      by_cases c1003 : (p1 &&& (3 : Int32)) = (2 : Int32)
      · refine Goal.step (T' := s₁) (g' := (mkF m 26 #[.val (.int p1), .val (.long q2), .second, .val (.int (p1 &&& (3 : Int32)))] [])) ?_ (fun t k => XS.icmpNo X0.here hx rfl (hb hby d1_23) rfl (teq c1003).2 k)
        refine Goal.step (T' := s₁) (g' := (mkF m 27 #[.val (.int p1), .val (.long q2), .second, .val (.int (p1 &&& (3 : Int32)))] [(.long (0 : Int64))])) ?_ (fun t k => XS.lconst X0.here hx rfl (hb hby d1_26) k)
        refine Goal.retJ X0 hx hret (hb hby d1_27) ?_
        refine ⟨?_, by decide, by decide⟩
        rw [e0]
        exact ⟨by simp [pk, c1001, c1002, c1003], N0, rfl⟩
      · refine Goal.step (T' := s₁) (g' := (mkF m 28 #[.val (.int p1), .val (.long q2), .second, .val (.int (p1 &&& (3 : Int32)))] [])) ?_ (fun t k => XS.icmpYes X0.here hx rfl (pc0 := 23) (pc' := 28) rfl (hb hby d1_23) rfl (feq c1003).2 (by decide) (by decide) k)
        refine Goal.step (T' := s₁) (g' := (mkF m 29 #[.val (.int p1), .val (.long q2), .second, .val (.int (p1 &&& (3 : Int32)))] [(.long q2)])) ?_ (fun t k => XS.lloadN X0.here hx rfl (hb hby d1_28) rfl k)
        refine Goal.retJ X0 hx hret (hb hby d1_29) ?_
        refine ⟨?_, by decide, by decide⟩
        rw [e0]
        exact ⟨by simp [pk, c1001, c1002, c1003], N0, rfl⟩
theorem d7_0 : decode prog_14_method_4_code 0 = .ok (.aload_n 0, 1) := by decide +kernel
theorem d7_1 : decode prog_14_method_4_code 1 = .ok (.getfield 41, 3) := by decide +kernel
theorem d7_4 : decode prog_14_method_4_code 4 = .ok (.ldc2_w 49, 3) := by decide +kernel
theorem d7_7 : decode prog_14_method_4_code 7 = .ok (.lcmp, 1) := by decide +kernel
theorem d7_8 : decode prog_14_method_4_code 8 = .ok (.ifCond .ne 7, 3) := by decide +kernel
theorem d7_11 : decode prog_14_method_4_code 11 = .ok (.iconst 1, 1) := by decide +kernel
theorem d7_12 : decode prog_14_method_4_code 12 = .ok (.goto 4, 3) := by decide +kernel
theorem d7_16 : decode prog_14_method_4_code 16 = .ok (.ireturn, 1) := by decide +kernel
theorem d7_15 : decode prog_14_method_4_code 15 = .ok (.iconst 0, 1) := by decide +kernel
theorem ef_7 (m : MethodId) (x0 : Nat) : entryFrame m #[(.ref x0)] 1 = mkF m 0 #[.val (.ref x0)] [] := by first | (simp [entryFrame, mkF, argsToLocals, Value.category]; done) | rfl
set_option maxRecDepth 65536 in
set_option maxHeartbeats 40000000 in
theorem rmRU (l : Launch) (Z : State) (a0 : Array Value) (hw : ∀ d ∈ tables_1, d.before a0 Z = true) (a1 : Nat) (w1 : Int64) (h0 : Heap) (n0 : Nat) (Z0 : n0 ≤ h0.size) (F1 : Fld Z h0 a1 "com/example/prove_permissions/provepermissions/model/Certificate" "sequence" "J" (.long w1)) :
    Met l (⟨"com/example/prove_permissions/provepermissions/model/Certificate", "reusable", "()Z"⟩ : MethodName) prog_14_method_4_code 1 (some .boolean) [] ({ frames := 0, cells := 0, slots := 0, locals := 0 } : Room) Z #[(.ref a1)] h0 (fun v h L => (w1 = (-1 : Int64) ∧ v = some (.int 1) ∧ Fr n0 L ∧ h = h0) ∨ (¬ w1 = (-1 : Int64) ∧ v = some (.int 0) ∧ Fr n0 L ∧ h = h0)) := by
  refine of_goal (plainFor_of_name (by first | (simp [plainName, overriddenIn]; done) | decide +kernel)) ?_
  intro p e s m below meth c s₁ C X0 e0
  have C0 := C
  obtain ⟨hx, hZ, hby, hml, hret, hown, hnm⟩ := C
  have hown : s.vm.findClass "com/example/prove_permissions/provepermissions/model/Certificate" = some m.cls := hown
  have hret : meth.sig.returnType = (some .boolean) := hret
  have N0 := Fr.nil n0
  rw [ef_7]
  refine Goal.step (T' := s₁) (g' := (mkF m 1 #[.val (.ref a1)] [(.ref a1)])) ?_ (fun t k => XS.aloadN X0.here hx rfl (hb hby d7_0) rfl rfl k)
  obtain ⟨T1001, X1001, e1001, st1001⟩ := getF X0 hx hZ hown (host := "") (Or.inl (hw _ (List.mem_of_getElem? (i := 56) rfl))) Via.refl e0 F1 (g := (mkF m 1 #[.val (.ref a1)] [(.ref a1)])) rfl rfl (hb hby d7_1)
  refine Goal.step (T' := T1001) (g' := (mkF m 4 #[.val (.ref a1)] [(.long w1)])) ?_ st1001
  refine Goal.step (T' := T1001) (g' := (mkF m 7 #[.val (.ref a1)] [(.long (-1 : Int64)), (.long w1)])) ?_ (fun t k => X1001.ldc2Long hx hown (mvT hZ (hw _ (List.mem_of_getElem? (i := 63) rfl))) (g := (mkF m 4 #[.val (.ref a1)] [(.long w1)])) rfl (hb hby d7_4) _ k)
  refine Goal.step (T' := T1001) (g' := (mkF m 8 #[.val (.ref a1)] [(.int (Jvm.Free.XT.cmpL w1 (-1 : Int64)))])) ?_ (fun t k => Jvm.Free.XT.lcmp X1001.here hx rfl (hb hby d7_7) rfl k)
  by_cases c1002 : w1 = (-1 : Int64)
  · refine Goal.step (T' := T1001) (g' := (mkF m 11 #[.val (.ref a1)] [])) ?_ (fun t k => XS.ifNo X1001.here hx rfl (hb hby d7_8) rfl (Jvm.Free.XT.ll_ne_f c1002) k)
    refine Goal.step (T' := T1001) (g' := (mkF m 12 #[.val (.ref a1)] [(.int (1 : Int32))])) ?_ (fun t k => XS.iconst X1001.here hx rfl (hb hby d7_11) k)
    refine Goal.step (T' := T1001) (g' := (mkF m 16 #[.val (.ref a1)] [(.int (1 : Int32))])) ?_ (fun t k => XS.goto X1001.here hx rfl (pc0 := 12) (pc' := 16) rfl (hb hby d7_12) (by decide) (by decide) k)
    refine Goal.retN (t := .boolean) X1001 hx hret (by simp) (hb hby d7_16) ?_
    refine ⟨?_, by decide, by decide⟩
    rw [e1001]
    exact Or.inl ⟨c1002, rfl, N0, rfl⟩
  · refine Goal.step (T' := T1001) (g' := (mkF m 15 #[.val (.ref a1)] [])) ?_ (fun t k => XS.ifYes X1001.here hx rfl (pc0 := 8) (pc' := 15) rfl (hb hby d7_8) rfl (Jvm.Free.XT.ll_ne_t c1002) (by decide) (by decide) k)
    refine Goal.step (T' := T1001) (g' := (mkF m 16 #[.val (.ref a1)] [(.int (0 : Int32))])) ?_ (fun t k => XS.iconst X1001.here hx rfl (hb hby d7_15) k)
    refine Goal.retN (t := .boolean) X1001 hx hret (by simp) (hb hby d7_16) ?_
    refine ⟨?_, by decide, by decide⟩
    rw [e1001]
    exact Or.inr ⟨c1002, rfl, N0, rfl⟩
theorem pd_2 : parseMethodDescriptor "(IJ)J" = some ⟨[.int, .long], some .long⟩ := by decide +kernel
theorem pd_3 : parseMethodDescriptor "()Ljava/util/Optional;" = some ⟨[], some (.object "java/util/Optional")⟩ := by decide +kernel
theorem pd_4 : parseMethodDescriptor "(Ljava/lang/String;Ljava/util/Optional;Ljava/lang/String;Ljava/lang/String;Ljava/lang/String;JJ)V" = some ⟨[(.object "java/lang/String"), (.object "java/util/Optional"), (.object "java/lang/String"), (.object "java/lang/String"), (.object "java/lang/String"), .long, .long], none⟩ := by decide +kernel
theorem pd_5 : parseMethodDescriptor "()Z" = some ⟨[], some .boolean⟩ := by decide +kernel
theorem ef_0 (m : MethodId) (x0 : Int64) (x1 : Int64) (x2 : Int32) : entryFrame m #[(.long x0), (.long x1), (.int x2)] maxLocals = mkF m 0 #[.val (.long x0), .second, .val (.long x1), .second, .val (.int x2), .unset, .unset, .unset, .unset, .unset] [] := by first | (simp [entryFrame, mkF, argsToLocals, Value.category, maxLocals]; done) | rfl
set_option maxRecDepth 65536 in
set_option maxHeartbeats 40000000 in
theorem rm0 (l : Launch) (Z : State) (a0 : Array Value) (hw : ∀ d ∈ tables_1, d.before a0 Z = true) (q1 q2 : Int64) (p3 : Int32) (o1 : Nat) (h0 : Heap) (n0 : Nat) (Z0 : n0 ≤ h0.size) (S1 : Sta Z h0 "java/util/Optional" "EMPTY" "Ljava/util/Optional;" (.ref o1)) :
    MetW l x code maxLocals ret tables_1 room_1 Z #[(.long q1), (.long q2), (.int p3)] h0 (fun v h L => v = some (.int 1) ∧ Fr n0 L) := by
  refine of_goalW (plainFor_of_name (by first | (simp [plainName, overriddenIn]; done) | decide +kernel)) ?_
  intro p e s m below meth c s₁ C X0 hS e0
  have C0 := C
  obtain ⟨hx, hZ, hby, hml, hret, hown, hnm⟩ := C
  have hown : s.vm.findClass "com/example/prove_permissions/provepermissions/model/CertificateReusablePinLaw" = some m.cls := hown
  have hret : meth.sig.returnType = (some .boolean) := hret
  have N0 := Fr.nil n0
  rw [ef_0]
  refine GoalW.step (T' := s₁) (g' := (mkF m 2 #[.val (.long q1), .second, .val (.long q2), .second, .val (.int p3), .unset, .unset, .unset, .unset, .unset] [(.int p3)])) ?_ (fun t k => XS.iload X0.here hx rfl (hb hby at_0) rfl k)
  refine GoalW.step (T' := s₁) (g' := (mkF m 3 #[.val (.long q1), .second, .val (.long q2), .second, .val (.int p3), .unset, .unset, .unset, .unset, .unset] [(.long q1), (.int p3)])) ?_ (fun t k => XS.lloadN X0.here hx rfl (hb hby at_2) rfl k)
  obtain ⟨v1001, T1001, h1001, L1001, X1001, e1001, hQ1001, st1001⟩ := callStatic X0 hx hZ hown (hw _ (List.mem_of_getElem? (i := 0) rfl)) (hw _ (List.mem_of_getElem? (i := 1) rfl)) (hw _ (List.mem_of_getElem? (i := 2) rfl)) (hw _ (List.mem_of_getElem? (i := 3) rfl)) (by decide) (rmPK l Z a0 hw p3 q1 h0 n0 (by omega) ) e0 (W := 0) (by decide) (by decide) (by decide) (by decide) (g := (mkF m 3 #[.val (.long q1), .second, .val (.long q2), .second, .val (.int p3), .unset, .unset, .unset, .unset, .unset] [(.long q1), (.int p3)])) rfl (by rw [hml]; rfl) (argsL := [(.int p3), (.long q1)]) (rest := []) (lenOf pd_2 rfl) rfl (by show 2 * 0 + _ ≤ _; exact Nat.le_of_eq rfl) (hb hby at_3) rfl
  obtain ⟨rfl, M1001, q1001⟩ := hQ1001
  rw [q1001] at e1001
  have N1001 := Fr.app N0 M1001
  refine GoalW.step (T' := T1001) (g' := (mkF m 6 #[.val (.long q1), .second, .val (.long q2), .second, .val (.int p3), .unset, .unset, .unset, .unset, .unset] [(.long (pk p3 q1))])) ?_ st1001
  refine GoalW.step (T' := T1001) (g' := (mkF m 8 #[.val (.long q1), .second, .val (.long q2), .second, .val (.int p3), .val (.long (pk p3 q1)), .second, .unset, .unset, .unset] [])) ?_ (fun t k => XS.lstore X1001.here hx rfl (hb hby at_6) rfl (l' := #[.val (.long q1), .second, .val (.long q2), .second, .val (.int p3), .val (.long (pk p3 q1)), .second, .unset, .unset, .unset]) rfl k)
  obtain ⟨v1002, T1002, h1002, L1002, X1002, e1002, hQ1002, st1002⟩ := callStatic X1001 hx hZ hown (hw _ (List.mem_of_getElem? (i := 5) rfl)) (hw _ (List.mem_of_getElem? (i := 6) rfl)) (hw _ (List.mem_of_getElem? (i := 7) rfl)) (hw _ (List.mem_of_getElem? (i := 8) rfl)) (by decide) (rmOE l Z a0 hw o1 h0 n0 (by omega) S1) e1001 (W := 0) (by decide) (by decide) (by decide) (by decide) (g := (mkF m 8 #[.val (.long q1), .second, .val (.long q2), .second, .val (.int p3), .val (.long (pk p3 q1)), .second, .unset, .unset, .unset] [])) rfl (by rw [hml]; rfl) (argsL := []) (rest := []) (lenOf pd_3 rfl) rfl (by show 2 * 0 + _ ≤ _; exact Nat.le_of_eq rfl) (hb hby at_8) rfl
  obtain ⟨rfl, M1002, q1002⟩ := hQ1002
  rw [q1002] at e1002
  have N1002 := Fr.app N1001 M1002
  refine GoalW.step (T' := T1002) (g' := (mkF m 11 #[.val (.long q1), .second, .val (.long q2), .second, .val (.int p3), .val (.long (pk p3 q1)), .second, .unset, .unset, .unset] [(.ref o1)])) ?_ st1002
  refine GoalW.step (T' := T1002) (g' := (mkF m 13 #[.val (.long q1), .second, .val (.long q2), .second, .val (.int p3), .val (.long (pk p3 q1)), .second, .val (.ref o1), .unset, .unset] [])) ?_ (fun t k => XS.astore X1002.here hx rfl (hb hby at_11) rfl rfl (l' := #[.val (.long q1), .second, .val (.long q2), .second, .val (.int p3), .val (.long (pk p3 q1)), .second, .val (.ref o1), .unset, .unset]) rfl k)
  obtain ⟨T1003, h1003, X1003, e1003, E1003, A1003, D1003, -, st1003⟩ := newO X1002 hx hZ hown (hw _ (List.mem_of_getElem? (i := 10) rfl)) (hw _ (List.mem_of_getElem? (i := 11) rfl)) (hw _ (List.mem_of_getElem? (i := 12) rfl)) e1002 (g := (mkF m 13 #[.val (.long q1), .second, .val (.long q2), .second, .val (.int p3), .val (.long (pk p3 q1)), .second, .val (.ref o1), .unset, .unset] [])) rfl (hb hby at_13) (by decide) (by decide)
  obtain ⟨b1003, g1003⟩ : ∃ z, z = h0.size := ⟨_, rfl⟩
  rw [← g1003] at A1003 D1003 st1003
  refine GoalW.step (T' := T1003) (g' := (mkF m 16 #[.val (.long q1), .second, .val (.long q2), .second, .val (.int p3), .val (.long (pk p3 q1)), .second, .val (.ref o1), .unset, .unset] [(.ref b1003)])) ?_ st1003
  have sz1004 : h0.size ≤ h1003.size := E1003.1
  have lt_b1003 : b1003 < h1003.size := A1003.lt
  refine GoalW.step (T' := T1003) (g' := (mkF m 17 #[.val (.long q1), .second, .val (.long q2), .second, .val (.int p3), .val (.long (pk p3 q1)), .second, .val (.ref o1), .unset, .unset] [(.ref b1003), (.ref b1003)])) ?_ (fun t k => XS.dup X1003.here hx rfl (hb hby at_16) rfl rfl k)
  obtain ⟨b1005, T1005, h1005, k1005, X1005, e1005, E1005, hS, hk1005, hZ, hown, st1005⟩ := ldcS X1003 hx hZ hown (hw _ (List.mem_of_getElem? (i := 13) rfl)) (own_atoms hw) e1003 hS (by omega) (g := (mkF m 17 #[.val (.long q1), .second, .val (.long q2), .second, .val (.int p3), .val (.long (pk p3 q1)), .second, .val (.ref o1), .unset, .unset] [(.ref b1003), (.ref b1003)])) rfl (hb hby at_17) (n := 4) (by decide +kernel) (by decide) (by decide) (by decide)
  refine GoalW.step (T' := T1005) (g' := (mkF m 19 #[.val (.long q1), .second, .val (.long q2), .second, .val (.int p3), .val (.long (pk p3 q1)), .second, .val (.ref o1), .unset, .unset] [(.ref b1005), (.ref b1003), (.ref b1003)])) ?_ st1005
  have sz1006 : h1003.size ≤ h1005.size := E1005.1
  refine GoalW.step (T' := T1005) (g' := (mkF m 21 #[.val (.long q1), .second, .val (.long q2), .second, .val (.int p3), .val (.long (pk p3 q1)), .second, .val (.ref o1), .unset, .unset] [(.ref o1), (.ref b1005), (.ref b1003), (.ref b1003)])) ?_ (fun t k => XS.aload X1005.here hx rfl (hb hby at_19) rfl rfl k)
  obtain ⟨b1007, T1007, h1007, k1007, X1007, e1007, E1007, hS, hk1007, hZ, hown, st1007⟩ := ldcS X1005 hx hZ hown (hw _ (List.mem_of_getElem? (i := 21) rfl)) (own_atoms hw) e1005 hS (by omega) (g := (mkF m 21 #[.val (.long q1), .second, .val (.long q2), .second, .val (.int p3), .val (.long (pk p3 q1)), .second, .val (.ref o1), .unset, .unset] [(.ref o1), (.ref b1005), (.ref b1003), (.ref b1003)])) rfl (hb hby at_21) (n := 4) (by decide +kernel) (by decide) (by decide) (by decide)
  refine GoalW.step (T' := T1007) (g' := (mkF m 23 #[.val (.long q1), .second, .val (.long q2), .second, .val (.int p3), .val (.long (pk p3 q1)), .second, .val (.ref o1), .unset, .unset] [(.ref b1007), (.ref o1), (.ref b1005), (.ref b1003), (.ref b1003)])) ?_ st1007
  have sz1008 : h1005.size ≤ h1007.size := E1007.1
  obtain ⟨b1009, T1009, h1009, k1009, X1009, e1009, E1009, hS, hk1009, hZ, hown, st1009⟩ := ldcS X1007 hx hZ hown (hw _ (List.mem_of_getElem? (i := 22) rfl)) (own_atoms hw) e1007 hS (by omega) (g := (mkF m 23 #[.val (.long q1), .second, .val (.long q2), .second, .val (.int p3), .val (.long (pk p3 q1)), .second, .val (.ref o1), .unset, .unset] [(.ref b1007), (.ref o1), (.ref b1005), (.ref b1003), (.ref b1003)])) rfl (hb hby at_23) (n := 4) (by decide +kernel) (by decide) (by decide) (by decide)
  refine GoalW.step (T' := T1009) (g' := (mkF m 25 #[.val (.long q1), .second, .val (.long q2), .second, .val (.int p3), .val (.long (pk p3 q1)), .second, .val (.ref o1), .unset, .unset] [(.ref b1009), (.ref b1007), (.ref o1), (.ref b1005), (.ref b1003), (.ref b1003)])) ?_ st1009
  have sz1010 : h1007.size ≤ h1009.size := E1009.1
  obtain ⟨b1011, T1011, h1011, k1011, X1011, e1011, E1011, hS, hk1011, hZ, hown, st1011⟩ := ldcS X1009 hx hZ hown (hw _ (List.mem_of_getElem? (i := 23) rfl)) (own_atoms hw) e1009 hS (by omega) (g := (mkF m 25 #[.val (.long q1), .second, .val (.long q2), .second, .val (.int p3), .val (.long (pk p3 q1)), .second, .val (.ref o1), .unset, .unset] [(.ref b1009), (.ref b1007), (.ref o1), (.ref b1005), (.ref b1003), (.ref b1003)])) rfl (hb hby at_25) (n := 4) (by decide +kernel) (by decide) (by decide) (by decide)
  refine GoalW.step (T' := T1011) (g' := (mkF m 27 #[.val (.long q1), .second, .val (.long q2), .second, .val (.int p3), .val (.long (pk p3 q1)), .second, .val (.ref o1), .unset, .unset] [(.ref b1011), (.ref b1009), (.ref b1007), (.ref o1), (.ref b1005), (.ref b1003), (.ref b1003)])) ?_ st1011
  have sz1012 : h1009.size ≤ h1011.size := E1011.1
  refine GoalW.step (T' := T1011) (g' := (mkF m 28 #[.val (.long q1), .second, .val (.long q2), .second, .val (.int p3), .val (.long (pk p3 q1)), .second, .val (.ref o1), .unset, .unset] [(.long q2), (.ref b1011), (.ref b1009), (.ref b1007), (.ref o1), (.ref b1005), (.ref b1003), (.ref b1003)])) ?_ (fun t k => XS.lloadN X1011.here hx rfl (hb hby at_27) rfl k)
  refine GoalW.step (T' := T1011) (g' := (mkF m 30 #[.val (.long q1), .second, .val (.long q2), .second, .val (.int p3), .val (.long (pk p3 q1)), .second, .val (.ref o1), .unset, .unset] [(.long (pk p3 q1)), (.long q2), (.ref b1011), (.ref b1009), (.ref b1007), (.ref o1), (.ref b1005), (.ref b1003), (.ref b1003)])) ?_ (fun t k => XS.lload X1011.here hx rfl (hb hby at_28) rfl k)
  have f1014 : Exa Z h1011 b1003 "com/example/prove_permissions/provepermissions/model/Certificate" := ((((A1003.ext E1005).ext E1007).ext E1009).ext E1011)
  have f1015 : Fld Z h1011 b1003 "com/example/prove_permissions/provepermissions/model/Certificate" "emittent" "Ljava/lang/String;" .null := (((((D1003 (Or.inr (hw _ (List.mem_of_getElem? (i := 45) rfl))) (ty := (.object "java/lang/String")) (by decide)).ext E1005).ext E1007).ext E1009).ext E1011)
  have f1016 : Fld Z h1011 b1003 "com/example/prove_permissions/provepermissions/model/Certificate" "delegate" "Ljava/util/Optional;" .null := (((((D1003 (Or.inr (hw _ (List.mem_of_getElem? (i := 47) rfl))) (ty := (.object "java/util/Optional")) (by decide)).ext E1005).ext E1007).ext E1009).ext E1011)
  have f1017 : Fld Z h1011 b1003 "com/example/prove_permissions/provepermissions/model/Certificate" "className" "Ljava/lang/String;" .null := (((((D1003 (Or.inr (hw _ (List.mem_of_getElem? (i := 49) rfl))) (ty := (.object "java/lang/String")) (by decide)).ext E1005).ext E1007).ext E1009).ext E1011)
  have f1018 : Fld Z h1011 b1003 "com/example/prove_permissions/provepermissions/model/Certificate" "object" "Ljava/lang/String;" .null := (((((D1003 (Or.inr (hw _ (List.mem_of_getElem? (i := 51) rfl))) (ty := (.object "java/lang/String")) (by decide)).ext E1005).ext E1007).ext E1009).ext E1011)
  have f1019 : Fld Z h1011 b1003 "com/example/prove_permissions/provepermissions/model/Certificate" "permission" "Ljava/lang/String;" .null := (((((D1003 (Or.inr (hw _ (List.mem_of_getElem? (i := 53) rfl))) (ty := (.object "java/lang/String")) (by decide)).ext E1005).ext E1007).ext E1009).ext E1011)
  have f1020 : Fld Z h1011 b1003 "com/example/prove_permissions/provepermissions/model/Certificate" "expiry" "J" (.long (0 : Int64)) := (((((D1003 (Or.inr (hw _ (List.mem_of_getElem? (i := 55) rfl))) (ty := .long) (by decide)).ext E1005).ext E1007).ext E1009).ext E1011)
  have f1021 : Fld Z h1011 b1003 "com/example/prove_permissions/provepermissions/model/Certificate" "sequence" "J" (.long (0 : Int64)) := (((((D1003 (Or.inr (hw _ (List.mem_of_getElem? (i := 57) rfl))) (ty := .long) (by decide)).ext E1005).ext E1007).ext E1009).ext E1011)
  obtain ⟨v1013, T1013, h1013, L1013, k1013, X1013, e1013, hQ1013, hS, hk1013, hsz1013, hZ, hown, st1013⟩ := callInitW X1011 hx hZ hown hS (by omega) rfl (hw _ (List.mem_of_getElem? (i := 24) rfl)) (hw _ (List.mem_of_getElem? (i := 25) rfl)) (hw _ (List.mem_of_getElem? (i := 12) rfl)) (hw _ (List.mem_of_getElem? (i := 26) rfl)) (by decide) (rmCI l Z a0 hw b1003 b1005 o1 b1007 b1009 b1011 q2 (pk p3 q1) .null .null .null .null .null (.long (0 : Int64)) (.long (0 : Int64)) h1011 n0 (by omega) f1014 f1015 f1016 f1017 f1018 f1019 f1020 f1021 (by omega) (by omega)) e1011 (W := 1) (by decide) (by decide) (by decide) (by decide) (g := (mkF m 30 #[.val (.long q1), .second, .val (.long q2), .second, .val (.int p3), .val (.long (pk p3 q1)), .second, .val (.ref o1), .unset, .unset] [(.long (pk p3 q1)), (.long q2), (.ref b1011), (.ref b1009), (.ref b1007), (.ref o1), (.ref b1005), (.ref b1003), (.ref b1003)])) rfl (by rw [hml]; rfl) (a := b1003) (argsL := [(.ref b1005), (.ref o1), (.ref b1007), (.ref b1009), (.ref b1011), (.long q2), (.long (pk p3 q1))]) (rest := [(.ref b1003)]) (lenOf pd_4 rfl) rfl (by show 2 * 0 + _ ≤ _; exact Nat.le_of_eq rfl) (hb hby at_30) rfl
  obtain ⟨rfl, M1013, K1013, Fe1013, Fq1013⟩ := hQ1013
  have N1013 := Fr.app N1002 M1013
  refine GoalW.step (T' := T1013) (g' := (mkF m 33 #[.val (.long q1), .second, .val (.long q2), .second, .val (.int p3), .val (.long (pk p3 q1)), .second, .val (.ref o1), .unset, .unset] [(.ref b1003)])) ?_ st1013
  have sz1022 : h1011.size ≤ h1013.size := K1013.1
  refine GoalW.step (T' := T1013) (g' := (mkF m 35 #[.val (.long q1), .second, .val (.long q2), .second, .val (.int p3), .val (.long (pk p3 q1)), .second, .val (.ref o1), .val (.ref b1003), .unset] [])) ?_ (fun t k => XS.astore X1013.here hx rfl (hb hby at_33) rfl rfl (l' := #[.val (.long q1), .second, .val (.long q2), .second, .val (.int p3), .val (.long (pk p3 q1)), .second, .val (.ref o1), .val (.ref b1003), .unset]) rfl k)
  refine GoalW.step (T' := T1013) (g' := (mkF m 37 #[.val (.long q1), .second, .val (.long q2), .second, .val (.int p3), .val (.long (pk p3 q1)), .second, .val (.ref o1), .val (.ref b1003), .unset] [(.long (pk p3 q1))])) ?_ (fun t k => XS.lload X1013.here hx rfl (hb hby at_35) rfl k)
  refine GoalW.step (T' := T1013) (g' := (mkF m 40 #[.val (.long q1), .second, .val (.long q2), .second, .val (.int p3), .val (.long (pk p3 q1)), .second, .val (.ref o1), .val (.ref b1003), .unset] [(.long (-1 : Int64)), (.long (pk p3 q1))])) ?_ (fun t k => X1013.ldc2Long hx hown (mvT hZ (hw _ (List.mem_of_getElem? (i := 4) rfl))) (g := (mkF m 37 #[.val (.long q1), .second, .val (.long q2), .second, .val (.int p3), .val (.long (pk p3 q1)), .second, .val (.ref o1), .val (.ref b1003), .unset] [(.long (pk p3 q1))])) rfl (hb hby at_37) _ k)
  refine GoalW.step (T' := T1013) (g' := (mkF m 41 #[.val (.long q1), .second, .val (.long q2), .second, .val (.int p3), .val (.long (pk p3 q1)), .second, .val (.ref o1), .val (.ref b1003), .unset] [(.int (Jvm.Free.XT.cmpL (pk p3 q1) (-1 : Int64)))])) ?_ (fun t k => Jvm.Free.XT.lcmp X1013.here hx rfl (hb hby at_40) rfl k)
  by_cases c1023 : (pk p3 q1) = (-1 : Int64)
  · refine GoalW.step (T' := T1013) (g' := (mkF m 44 #[.val (.long q1), .second, .val (.long q2), .second, .val (.int p3), .val (.long (pk p3 q1)), .second, .val (.ref o1), .val (.ref b1003), .unset] [])) ?_ (fun t k => XS.ifNo X1013.here hx rfl (hb hby at_41) rfl (Jvm.Free.XT.ll_ne_f c1023) k)
    refine GoalW.step (T' := T1013) (g' := (mkF m 45 #[.val (.long q1), .second, .val (.long q2), .second, .val (.int p3), .val (.long (pk p3 q1)), .second, .val (.ref o1), .val (.ref b1003), .unset] [(.int (1 : Int32))])) ?_ (fun t k => XS.iconst X1013.here hx rfl (hb hby at_44) k)
    refine GoalW.step (T' := T1013) (g' := (mkF m 49 #[.val (.long q1), .second, .val (.long q2), .second, .val (.int p3), .val (.long (pk p3 q1)), .second, .val (.ref o1), .val (.ref b1003), .unset] [(.int (1 : Int32))])) ?_ (fun t k => XS.goto X1013.here hx rfl (pc0 := 45) (pc' := 49) rfl (hb hby at_45) (by decide) (by decide) k)
    refine GoalW.step (T' := T1013) (g' := (mkF m 51 #[.val (.long q1), .second, .val (.long q2), .second, .val (.int p3), .val (.long (pk p3 q1)), .second, .val (.ref o1), .val (.ref b1003), .val (.int (1 : Int32))] [])) ?_ (fun t k => XS.istore X1013.here hx rfl (hb hby at_49) rfl (l' := #[.val (.long q1), .second, .val (.long q2), .second, .val (.int p3), .val (.long (pk p3 q1)), .second, .val (.ref o1), .val (.ref b1003), .val (.int (1 : Int32))]) rfl k)
    refine GoalW.step (T' := T1013) (g' := (mkF m 53 #[.val (.long q1), .second, .val (.long q2), .second, .val (.int p3), .val (.long (pk p3 q1)), .second, .val (.ref o1), .val (.ref b1003), .val (.int (1 : Int32))] [(.ref b1003)])) ?_ (fun t k => XS.aload X1013.here hx rfl (hb hby at_51) rfl rfl k)
    have f1025 : Exa Z h1013 b1003 "com/example/prove_permissions/provepermissions/model/Certificate" := (f1014.keep K1013)
    obtain ⟨v1024, T1024, h1024, L1024, X1024, e1024, hQ1024, st1024⟩ := callVirt X1013 hx hZ hown (hw _ (List.mem_of_getElem? (i := 58) rfl)) (hw _ (List.mem_of_getElem? (i := 59) rfl)) (notFace_of_selects (args := #[]) (mvT hZ (hw _ (List.mem_of_getElem? (i := 61) rfl)))) (hw _ (List.mem_of_getElem? (i := 61) rfl)) (hw _ (List.mem_of_getElem? (i := 60) rfl)) (hw _ (List.mem_of_getElem? (i := 12) rfl)) (hw _ (List.mem_of_getElem? (i := 62) rfl)) (by decide) (rmRU l Z a0 hw b1003 (pk p3 q1) h1013 n0 (by omega) Fq1013) e1013 f1025 (W := 0) (by decide) (by decide) (by decide) (by decide) (g := (mkF m 53 #[.val (.long q1), .second, .val (.long q2), .second, .val (.int p3), .val (.long (pk p3 q1)), .second, .val (.ref o1), .val (.ref b1003), .val (.int (1 : Int32))] [(.ref b1003)])) rfl (by rw [hml]; rfl) (argsL := []) (rest := []) (lenOf pd_5 rfl) rfl (by show 2 * 0 + _ ≤ _; exact Nat.le_of_eq rfl) (hb hby at_53) rfl
    obtain ⟨rfl, M1024, q1024⟩ := hQ1024.elim (fun x => x.2) (fun x => absurd x.1 (fun q => q c1023))
    rw [q1024] at e1024
    have N1024 := Fr.app N1013 M1024
    refine GoalW.step (T' := T1024) (g' := (mkF m 56 #[.val (.long q1), .second, .val (.long q2), .second, .val (.int p3), .val (.long (pk p3 q1)), .second, .val (.ref o1), .val (.ref b1003), .val (.int (1 : Int32))] [(.int (1 : Int32))])) ?_ st1024
    refine GoalW.step (T' := T1024) (g' := (mkF m 58 #[.val (.long q1), .second, .val (.long q2), .second, .val (.int p3), .val (.long (pk p3 q1)), .second, .val (.ref o1), .val (.ref b1003), .val (.int (1 : Int32))] [(.int (1 : Int32)), (.int (1 : Int32))])) ?_ (fun t k => XS.iload X1024.here hx rfl (hb hby at_56) rfl k)
    refine GoalW.step (T' := T1024) (g' := (mkF m 61 #[.val (.long q1), .second, .val (.long q2), .second, .val (.int p3), .val (.long (pk p3 q1)), .second, .val (.ref o1), .val (.ref b1003), .val (.int (1 : Int32))] [])) ?_ (fun t k => XS.icmpNo X1024.here hx rfl (hb hby at_58) rfl (teq (by decide)).2 k)
    refine GoalW.step (T' := T1024) (g' := (mkF m 62 #[.val (.long q1), .second, .val (.long q2), .second, .val (.int p3), .val (.long (pk p3 q1)), .second, .val (.ref o1), .val (.ref b1003), .val (.int (1 : Int32))] [(.int (1 : Int32))])) ?_ (fun t k => XS.iconst X1024.here hx rfl (hb hby at_61) k)
    refine GoalW.step (T' := T1024) (g' := (mkF m 66 #[.val (.long q1), .second, .val (.long q2), .second, .val (.int p3), .val (.long (pk p3 q1)), .second, .val (.ref o1), .val (.ref b1003), .val (.int (1 : Int32))] [(.int (1 : Int32))])) ?_ (fun t k => XS.goto X1024.here hx rfl (pc0 := 62) (pc' := 66) rfl (hb hby at_62) (by decide) (by decide) k)
    refine GoalW.retN (t := .boolean) X1024 hS (by rw [e1024]; omega) hx hret (by simp) (hb hby at_66) ?_
    exact ⟨⟨rfl, N1024⟩, by decide, by decide⟩
  · refine GoalW.step (T' := T1013) (g' := (mkF m 48 #[.val (.long q1), .second, .val (.long q2), .second, .val (.int p3), .val (.long (pk p3 q1)), .second, .val (.ref o1), .val (.ref b1003), .unset] [])) ?_ (fun t k => XS.ifYes X1013.here hx rfl (pc0 := 41) (pc' := 48) rfl (hb hby at_41) rfl (Jvm.Free.XT.ll_ne_t c1023) (by decide) (by decide) k)
    refine GoalW.step (T' := T1013) (g' := (mkF m 49 #[.val (.long q1), .second, .val (.long q2), .second, .val (.int p3), .val (.long (pk p3 q1)), .second, .val (.ref o1), .val (.ref b1003), .unset] [(.int (0 : Int32))])) ?_ (fun t k => XS.iconst X1013.here hx rfl (hb hby at_48) k)
    refine GoalW.step (T' := T1013) (g' := (mkF m 51 #[.val (.long q1), .second, .val (.long q2), .second, .val (.int p3), .val (.long (pk p3 q1)), .second, .val (.ref o1), .val (.ref b1003), .val (.int (0 : Int32))] [])) ?_ (fun t k => XS.istore X1013.here hx rfl (hb hby at_49) rfl (l' := #[.val (.long q1), .second, .val (.long q2), .second, .val (.int p3), .val (.long (pk p3 q1)), .second, .val (.ref o1), .val (.ref b1003), .val (.int (0 : Int32))]) rfl k)
    refine GoalW.step (T' := T1013) (g' := (mkF m 53 #[.val (.long q1), .second, .val (.long q2), .second, .val (.int p3), .val (.long (pk p3 q1)), .second, .val (.ref o1), .val (.ref b1003), .val (.int (0 : Int32))] [(.ref b1003)])) ?_ (fun t k => XS.aload X1013.here hx rfl (hb hby at_51) rfl rfl k)
    have f1027 : Exa Z h1013 b1003 "com/example/prove_permissions/provepermissions/model/Certificate" := (f1014.keep K1013)
    obtain ⟨v1026, T1026, h1026, L1026, X1026, e1026, hQ1026, st1026⟩ := callVirt X1013 hx hZ hown (hw _ (List.mem_of_getElem? (i := 58) rfl)) (hw _ (List.mem_of_getElem? (i := 59) rfl)) (notFace_of_selects (args := #[]) (mvT hZ (hw _ (List.mem_of_getElem? (i := 61) rfl)))) (hw _ (List.mem_of_getElem? (i := 61) rfl)) (hw _ (List.mem_of_getElem? (i := 60) rfl)) (hw _ (List.mem_of_getElem? (i := 12) rfl)) (hw _ (List.mem_of_getElem? (i := 62) rfl)) (by decide) (rmRU l Z a0 hw b1003 (pk p3 q1) h1013 n0 (by omega) Fq1013) e1013 f1027 (W := 0) (by decide) (by decide) (by decide) (by decide) (g := (mkF m 53 #[.val (.long q1), .second, .val (.long q2), .second, .val (.int p3), .val (.long (pk p3 q1)), .second, .val (.ref o1), .val (.ref b1003), .val (.int (0 : Int32))] [(.ref b1003)])) rfl (by rw [hml]; rfl) (argsL := []) (rest := []) (lenOf pd_5 rfl) rfl (by show 2 * 0 + _ ≤ _; exact Nat.le_of_eq rfl) (hb hby at_53) rfl
    obtain ⟨rfl, M1026, q1026⟩ := hQ1026.elim (fun x => absurd x.1 c1023) (fun x => x.2)
    rw [q1026] at e1026
    have N1026 := Fr.app N1013 M1026
    refine GoalW.step (T' := T1026) (g' := (mkF m 56 #[.val (.long q1), .second, .val (.long q2), .second, .val (.int p3), .val (.long (pk p3 q1)), .second, .val (.ref o1), .val (.ref b1003), .val (.int (0 : Int32))] [(.int (0 : Int32))])) ?_ st1026
    refine GoalW.step (T' := T1026) (g' := (mkF m 58 #[.val (.long q1), .second, .val (.long q2), .second, .val (.int p3), .val (.long (pk p3 q1)), .second, .val (.ref o1), .val (.ref b1003), .val (.int (0 : Int32))] [(.int (0 : Int32)), (.int (0 : Int32))])) ?_ (fun t k => XS.iload X1026.here hx rfl (hb hby at_56) rfl k)
    refine GoalW.step (T' := T1026) (g' := (mkF m 61 #[.val (.long q1), .second, .val (.long q2), .second, .val (.int p3), .val (.long (pk p3 q1)), .second, .val (.ref o1), .val (.ref b1003), .val (.int (0 : Int32))] [])) ?_ (fun t k => XS.icmpNo X1026.here hx rfl (hb hby at_58) rfl (teq (by decide)).2 k)
    refine GoalW.step (T' := T1026) (g' := (mkF m 62 #[.val (.long q1), .second, .val (.long q2), .second, .val (.int p3), .val (.long (pk p3 q1)), .second, .val (.ref o1), .val (.ref b1003), .val (.int (0 : Int32))] [(.int (1 : Int32))])) ?_ (fun t k => XS.iconst X1026.here hx rfl (hb hby at_61) k)
    refine GoalW.step (T' := T1026) (g' := (mkF m 66 #[.val (.long q1), .second, .val (.long q2), .second, .val (.int p3), .val (.long (pk p3 q1)), .second, .val (.ref o1), .val (.ref b1003), .val (.int (0 : Int32))] [(.int (1 : Int32))])) ?_ (fun t k => XS.goto X1026.here hx rfl (pc0 := 62) (pc' := 66) rfl (hb hby at_62) (by decide) (by decide) k)
    refine GoalW.retN (t := .boolean) X1026 hS (by rw [e1026]; omega) hx hret (by simp) (hb hby at_66) ?_
    exact ⟨⟨rfl, N1026⟩, by decide, by decide⟩
set_option maxRecDepth 65536 in
set_option maxHeartbeats 40000000 in
theorem comes_1 {Post : Tables → Env → Array Value → State → Outcome → State → Prop} (hpost : ∀ tb e args s v u, (limb_1_1.after args s (.returned v) u = true ∧ limb_1_2.after args s (.returned v) u = true ∧ True) → ReturnedEndW s (.returned v) u (Jvm.fieldLocs frame_1_writes args s ++ Jvm.arrayLocs frame_1_arrays args s ++ Jvm.staticLocs frame_1_statics s) 32 9344 → Post tb e args s (.returned v) u) :
    ArmFor flags0 classFile x code maxLocals ret World_1 tables_1 room_1 Calls_1 rest_1 Pre_1 Post := by
  intro l hfl _ _ p e ha hc hk s m args below hf hA hF happ hP
  obtain ⟨hcalls, hrest, hpre⟩ := hP
  obtain ⟨-, -, -, hnamed, -, -, -, hat⟩ := (Spec.applies_iff hf).mp happ
  obtain ⟨hg, hn⟩ := and_e (Cond.before_iff.mp (show (Jvm.Cond.and given_1 narrow_1).before args s = true from hpre))
  obtain ⟨gc, gr0⟩ := and_e hg
  obtain ⟨ga0, gr1⟩ := and_e gr0
  obtain ⟨ga1, gr2⟩ := and_e gr1
  obtain ⟨w0, w1, w2, rfl⟩ : ∃ w0 w1 w2 : Value, args = #[w0, w1, w2] := by
    have hs : args.size = 3 := by simpa [Cond.value, given_1] using gc
    obtain ⟨L⟩ := args
    match L, hs with
    | [w0, w1, w2], _ => exact ⟨w0, w1, w2, rfl⟩
  have hw := fun d (hd : d ∈ tables_1) => atoms_spec (ws := Jvm.Cond.code x code maxLocals ret :: tables_1) hat d (List.mem_cons_of_mem _ hd)
  have hfit : Fit s := fun {y c} hc i hi => by
    obtain ⟨ha, rfl⟩ := Array.getElem?_eq_some_iff.mp hc
    have q := List.all_eq_true.mp ((Array.all_eq_true_iff_forall_mem.mp hF) _ (Array.getElem_mem ha)) i (List.mem_range.mpr hi)
    simpa [Array.getElem?_eq_getElem hi] using q
  obtain ⟨hsets, hown0⟩ := atoms_of _ (rest_1_c_eq ▸ (show rest_1_c.before _ s = true from hrest))
  have hr0 := Cond.before_iff.mp hown0
  obtain ⟨i0, ei0⟩ := isL_v ga0
  obtain rfl : w0 = (.long i0) := Option.some.inj ei0
  obtain ⟨i1, ei1⟩ := isL_v ga1
  obtain rfl : w1 = (.long i1) := Option.some.inj ei1
  obtain ⟨i2, ei2⟩ := is_v gr2
  obtain rfl : w2 = (.int i2) := Option.some.inj ei2
  obtain ⟨o1, _, _, _, e1, -⟩ := Cond.exactly_spec (hsets _ (List.mem_of_getElem? (i := 2) rfl))
  have S1 := Sta.start e1 (Or.inl (hsets _ (List.mem_of_getElem? (i := 1) rfl)))
  obtain ⟨n, o, h1, h2, h3, _, L, rfl, ⟨rfl, N⟩, hq⟩ := rm0 l s _ hw i0 i1 i2 o1 s.heap s.heap.size (Nat.le_refl _) S1 p e ha hc hk s m _ below hf ((Spec.applies_iff_loose hf).mp happ).1 ⟨rfl, State.Warmed39.refl s, rfl⟩ trivial
  refine ⟨n, _, h1, h2, h3, hpost _ _ _ _ _ _ ⟨Cond.after_iff.mpr rfl, Cond.after_iff.mpr (eq_i res_at (Term.int_eval (1)) rfl), trivial⟩ ⟨hq.1, hq.2.1, hq.2.2.1, (hq.2.2.2.sift fun y hy => Or.inr (N y hy)).mono (by decide) (by decide)⟩⟩
theorem main_1_1 : Claimed_1_1 := comes_1 fun _ _ _ _ _ _ h hF => ⟨h.1, hF⟩
theorem main_1_2 : Claimed_1_2 := comes_1 fun _ _ _ _ _ _ h hF => ⟨h.2.1, hF⟩
end Jvm.Pilot.@@N@@
namespace Jvm.Pilot.@@N@@
open Jvm Jvm.ClassFile Sem Op Lib Jvm.Free Jvm.Stand Jvm.Pilot.@@N@@.Jvm.D
/-! MADE BY PROGRAM (witnessworld.py) out of the Statement's table words and the real class files: 17 classes; the members and pool entries that the words name. The judged class is class 1, her method 2. -/
namespace start1
open Jvm.ClassFile
def u (s : String) : CpInfo := .utf8 (stringToUtf16 s)
/-- a pool by its gaps: so many unusable entries, then the entry; so many at the end -/
def gap : Nat → List CpInfo → List CpInfo
  | 0, r => r
  | n + 1, r => .unusable :: gap n r
def poolList (es : List (Nat × CpInfo)) (last : Nat) : List CpInfo := es.foldr (fun e r => gap e.1 (e.2 :: r)) (gap last [])
def pool (es : List (Nat × CpInfo)) (last : Nat) : Array CpInfo := ⟨poolList es last⟩
def fileOf (pool : Array CpInfo) (this : Nat) (attrs : Array Attribute := #[]) (ms : Array MethodInfo := #[]) (fl : Nat := 33) (sup : Nat := 0) (ifs : Array Nat := #[]) (fds : Array FieldInfo := #[]) : ClassFile where
  minorVersion := 0
  majorVersion := 65
  constantPool := pool
  accessFlags := fl
  thisClass := this
  superClass := sup
  interfaces := ifs
  fields := fds
  methods := ms
  attributes := attrs
def plain (name : String) (sup : Option ClassId) : Class where
  name := name
  kind := .ordinary
  loader := none
  accessFlags := 33
  super := sup
  interfaces := #[]
  cf := none
  fields := #[]
  methods := #[]
  instanceTypes := #[]
  staticTypes := #[]
  resolved := #[]
  callSites := []
  init := .initialized
  statics := none
  mirror := none

def pool0 : Array CpInfo := pool [(5, u "<init>"), (0, u "()V"), (1, .class_ 10), (1, u "java/lang/Object")] 113

def k0c0 : Code := { maxStack := 0, maxLocals := 1, code := object_method_1_code, exceptionTable := #[], attributes := #[] }
def k0m0 : Method := { name := "<init>", desc := "()V", sig := { parameters := [], returnType := none }, accessFlags := 1, code := some k0c0 }
/-- java/lang/Object -/
def k0 : Class := { plain "java/lang/Object" none with
  accessFlags := 33
  interfaces := #[]
  cf := some (fileOf pool0 8 #[] #[{ accessFlags := 1, nameIndex := 5, descriptorIndex := 6, attributes := #[] }] 33 0 #[] #[])
  fields := #[]
  methods := #[k0m0]
  instanceTypes := #[]
  staticTypes := #[]
  resolved := Array.replicate 124 none
  statics := none }

def pool1 : Array CpInfo := pool [(2, .class_ 4), (1, u "java/lang/Object"), (0, u "<init>"), (0, u "()V"), (0, .long 18446744073709551615), (1, .long 18446744073709551614), (1, .methodref 12 13), (0, .class_ 14), (0, .nameAndType 15 16), (0, u "com/example/prove_permissions/provepermissions/model/CertificateReusablePinLaw"), (0, u "pick"), (0, u "(IJ)J"), (0, .methodref 18 19), (0, .class_ 20), (0, .nameAndType 21 22), (0, u "java/util/Optional"), (0, u "empty"), (0, u "()Ljava/util/Optional;"), (0, .class_ 24), (0, u "com/example/prove_permissions/provepermissions/model/Certificate"), (0, .string 26), (0, u "e"), (0, .string 28), (0, u "C"), (0, .string 30), (0, u "o"), (0, .string 32), (0, u "p"), (0, .methodref 23 34), (0, .nameAndType 5 35), (0, u "(Ljava/lang/String;Ljava/util/Optional;Ljava/lang/String;Ljava/lang/String;Ljava/lang/String;JJ)V"), (0, .methodref 23 37), (0, .nameAndType 38 39), (0, u "reusable"), (0, u "()Z"), (3, u "law"), (0, u "(JJI)Z")] 2

def k1m0 : Method := { name := "<init>", desc := "()V", sig := { parameters := [], returnType := none }, accessFlags := 1, code := none }
def k1c1 : Code := { maxStack := 2, maxLocals := 4, code := method_2_code, exceptionTable := #[], attributes := #[] }
def k1m1 : Method := { name := "pick", desc := "(IJ)J", sig := { parameters := [.int, .long], returnType := some .long }, accessFlags := 10, code := some k1c1 }
def k1c2 : Code := { maxStack := 11, maxLocals := 10, code := code, exceptionTable := #[], attributes := #[] }
def k1m2 : Method := { name := "law", desc := "(JJI)Z", sig := { parameters := [.long, .long, .int], returnType := some .boolean }, accessFlags := 9, code := some k1c2 }
/-- com/example/prove_permissions/provepermissions/model/CertificateReusablePinLaw -/
def k1 : Class := { plain "com/example/prove_permissions/provepermissions/model/CertificateReusablePinLaw" (some 0) with
  accessFlags := 49
  interfaces := #[]
  cf := some (fileOf pool1 12 #[] #[{ accessFlags := 1, nameIndex := 5, descriptorIndex := 6, attributes := #[] }, { accessFlags := 10, nameIndex := 15, descriptorIndex := 16, attributes := #[] }, { accessFlags := 9, nameIndex := 43, descriptorIndex := 44, attributes := #[] }] 49 2 #[] #[])
  fields := #[]
  methods := #[k1m0, k1m1, k1m2]
  instanceTypes := #[]
  staticTypes := #[]
  resolved := Array.replicate 47 none
  statics := none }

def pool2 : Array CpInfo := pool [(1, .fieldref 2 3), (0, .class_ 4), (0, .nameAndType 5 6), (0, u "java/util/Optional"), (0, u "EMPTY"), (0, u "Ljava/util/Optional;"), (1, .class_ 10), (1, u "java/lang/Object"), (4, u "value"), (0, u "Ljava/lang/Object;"), (38, u "empty"), (0, u "()Ljava/util/Optional;")] 130

def k2c0 : Code := { maxStack := 1, maxLocals := 1, code := jdk_32_method_1_code, exceptionTable := #[], attributes := #[] }
def k2m0 : Method := { name := "empty", desc := "()Ljava/util/Optional;", sig := { parameters := [], returnType := some (.object "java/util/Optional") }, accessFlags := 9, code := some k2c0 }
/-- java/util/Optional -/
def k2 : Class := { plain "java/util/Optional" (some 0) with
  accessFlags := 49
  interfaces := #[]
  cf := some (fileOf pool2 2 #[] #[{ accessFlags := 9, nameIndex := 55, descriptorIndex := 56, attributes := #[] }] 49 8 #[] #[{ accessFlags := 26, nameIndex := 5, descriptorIndex := 6, attributes := #[] }, { accessFlags := 18, nameIndex := 15, descriptorIndex := 16, attributes := #[] }])
  fields := #[{ name := "EMPTY", type := (.object "java/util/Optional"), accessFlags := 26, slot := 0, constantValue := 0 }, { name := "value", type := (.object "java/lang/Object"), accessFlags := 18, slot := 0, constantValue := 0 }]
  methods := #[k2m0]
  instanceTypes := #[(.object "java/lang/Object")]
  staticTypes := #[(.object "java/util/Optional")]
  resolved := Array.replicate 187 none
  statics := some 0 }

def pool3 : Array CpInfo := pool [(1, .methodref 2 3), (0, .class_ 4), (0, .nameAndType 5 6), (0, u "java/lang/Object"), (0, u "<init>"), (0, u "()V"), (0, .class_ 8), (0, u "java/lang/Record")] 13

def k3c0 : Code := { maxStack := 1, maxLocals := 1, code := jdk_30_method_1_code, exceptionTable := #[], attributes := #[] }
def k3m0 : Method := { name := "<init>", desc := "()V", sig := { parameters := [], returnType := none }, accessFlags := 4, code := some k3c0 }
/-- java/lang/Record -/
def k3 : Class := { plain "java/lang/Record" (some 0) with
  accessFlags := 1057
  interfaces := #[]
  cf := some (fileOf pool3 7 #[] #[{ accessFlags := 4, nameIndex := 5, descriptorIndex := 6, attributes := #[] }] 1057 2 #[] #[])
  fields := #[]
  methods := #[k3m0]
  instanceTypes := #[]
  staticTypes := #[]
  resolved := Array.replicate 22 none
  statics := none }

def pool4 : Array CpInfo := pool [(1, .methodref 2 3), (0, .class_ 4), (0, .nameAndType 5 6), (0, u "java/lang/Record"), (0, u "<init>"), (0, u "()V"), (0, .string 8), (0, u "emittent"), (0, .methodref 10 11), (0, .class_ 12), (0, .nameAndType 13 14), (0, u "java/util/Objects"), (0, u "requireNonNull"), (0, u "(Ljava/lang/Object;Ljava/lang/String;)Ljava/lang/Object;"), (0, .string 16), (0, u "delegate"), (0, .string 18), (0, u "className"), (0, .string 20), (0, u "object"), (0, .string 22), (0, u "permission"), (0, .fieldref 24 25), (0, .class_ 26), (0, .nameAndType 8 27), (0, u "com/example/prove_permissions/provepermissions/model/Certificate"), (0, u "Ljava/lang/String;"), (0, .fieldref 24 29), (0, .nameAndType 16 30), (0, u "Ljava/util/Optional;"), (0, .fieldref 24 32), (0, .nameAndType 18 27), (0, .fieldref 24 34), (0, .nameAndType 20 27), (0, .fieldref 24 36), (0, .nameAndType 22 27), (0, .fieldref 24 38), (0, .nameAndType 39 40), (0, u "expiry"), (0, u "J"), (0, .fieldref 24 42), (0, .nameAndType 43 40), (0, u "sequence"), (5, .long 18446744073709551615), (41, u "(Ljava/lang/String;Ljava/util/Optional;Ljava/lang/String;Ljava/lang/String;Ljava/lang/String;JJ)V"), (9, u "reusable"), (0, u "()Z")] 24

def k4c0 : Code := { maxStack := 3, maxLocals := 10, code := prog_14_method_1_code, exceptionTable := #[], attributes := #[] }
def k4m0 : Method := { name := "<init>", desc := "(Ljava/lang/String;Ljava/util/Optional;Ljava/lang/String;Ljava/lang/String;Ljava/lang/String;JJ)V", sig := { parameters := [(.object "java/lang/String"), (.object "java/util/Optional"), (.object "java/lang/String"), (.object "java/lang/String"), (.object "java/lang/String"), .long, .long], returnType := none }, accessFlags := 1, code := some k4c0 }
def k4c1 : Code := { maxStack := 4, maxLocals := 1, code := prog_14_method_4_code, exceptionTable := #[], attributes := #[] }
def k4m1 : Method := { name := "reusable", desc := "()Z", sig := { parameters := [], returnType := some .boolean }, accessFlags := 1, code := some k4c1 }
/-- com/example/prove_permissions/provepermissions/model/Certificate -/
def k4 : Class := { plain "com/example/prove_permissions/provepermissions/model/Certificate" (some 3) with
  accessFlags := 49
  interfaces := #[]
  cf := some (fileOf pool4 24 #[] #[{ accessFlags := 1, nameIndex := 5, descriptorIndex := 91, attributes := #[] }, { accessFlags := 1, nameIndex := 101, descriptorIndex := 102, attributes := #[] }] 49 2 #[] #[{ accessFlags := 18, nameIndex := 8, descriptorIndex := 27, attributes := #[] }, { accessFlags := 18, nameIndex := 16, descriptorIndex := 30, attributes := #[] }, { accessFlags := 18, nameIndex := 18, descriptorIndex := 27, attributes := #[] }, { accessFlags := 18, nameIndex := 20, descriptorIndex := 27, attributes := #[] }, { accessFlags := 18, nameIndex := 22, descriptorIndex := 27, attributes := #[] }, { accessFlags := 18, nameIndex := 39, descriptorIndex := 40, attributes := #[] }, { accessFlags := 18, nameIndex := 43, descriptorIndex := 40, attributes := #[] }])
  fields := #[{ name := "emittent", type := (.object "java/lang/String"), accessFlags := 18, slot := 0, constantValue := 0 }, { name := "delegate", type := (.object "java/util/Optional"), accessFlags := 18, slot := 1, constantValue := 0 }, { name := "className", type := (.object "java/lang/String"), accessFlags := 18, slot := 2, constantValue := 0 }, { name := "object", type := (.object "java/lang/String"), accessFlags := 18, slot := 3, constantValue := 0 }, { name := "permission", type := (.object "java/lang/String"), accessFlags := 18, slot := 4, constantValue := 0 }, { name := "expiry", type := .long, accessFlags := 18, slot := 5, constantValue := 0 }, { name := "sequence", type := .long, accessFlags := 18, slot := 6, constantValue := 0 }]
  methods := #[k4m0, k4m1]
  instanceTypes := #[(.object "java/lang/String"), (.object "java/util/Optional"), (.object "java/lang/String"), (.object "java/lang/String"), (.object "java/lang/String"), .long, .long]
  staticTypes := #[]
  resolved := Array.replicate 127 none
  statics := none }

def pool5 : Array CpInfo := pool [(1, .class_ 2), (0, u "java/io/Serializable"), (0, .class_ 4), (0, u "java/lang/Object")] 2

/-- java/io/Serializable -/
def k5 : Class := { plain "java/io/Serializable" (some 0) with
  accessFlags := 1537
  interfaces := #[]
  cf := some (fileOf pool5 1 #[] #[] 1537 3 #[] #[])
  fields := #[]
  methods := #[]
  instanceTypes := #[]
  staticTypes := #[]
  resolved := Array.replicate 7 none
  statics := none }

def pool6 : Array CpInfo := pool [(1, .class_ 2), (0, u "java/lang/Comparable"), (0, .class_ 4), (0, u "java/lang/Object")] 7

/-- java/lang/Comparable -/
def k6 : Class := { plain "java/lang/Comparable" (some 0) with
  accessFlags := 1537
  interfaces := #[]
  cf := some (fileOf pool6 1 #[] #[] 1537 3 #[] #[])
  fields := #[]
  methods := #[]
  instanceTypes := #[]
  staticTypes := #[]
  resolved := Array.replicate 12 none
  statics := none }

def pool7 : Array CpInfo := pool [(2, .class_ 4), (1, u "java/lang/CharSequence"), (42, .class_ 48), (0, u "java/lang/CharSequence$1CodePointIterator"), (10, .class_ 60), (0, u "java/lang/CharSequence$1CharIterator"), (5, .class_ 67), (0, u "java/lang/Object")] 63

/-- java/lang/CharSequence -/
def k7 : Class := { plain "java/lang/CharSequence" (some 0) with
  accessFlags := 1537
  interfaces := #[]
  cf := some (fileOf pool7 2 #[.nestMembers #[47, 59]] #[] 1537 66 #[] #[])
  fields := #[]
  methods := #[]
  instanceTypes := #[]
  staticTypes := #[]
  resolved := Array.replicate 131 none
  statics := none }

def pool8 : Array CpInfo := pool [(1, .class_ 2), (0, u "java/lang/constant/Constable"), (0, .class_ 4), (0, u "java/lang/Object")] 6

/-- java/lang/constant/Constable -/
def k8 : Class := { plain "java/lang/constant/Constable" (some 0) with
  accessFlags := 1537
  interfaces := #[]
  cf := some (fileOf pool8 1 #[] #[] 1537 3 #[] #[])
  fields := #[]
  methods := #[]
  instanceTypes := #[]
  staticTypes := #[]
  resolved := Array.replicate 11 none
  statics := none }

def pool9 : Array CpInfo := pool [(1, .class_ 2), (0, u "java/lang/constant/ConstantDesc"), (0, .class_ 4), (0, u "java/lang/Object")] 32

/-- java/lang/constant/ConstantDesc -/
def k9 : Class := { plain "java/lang/constant/ConstantDesc" (some 0) with
  accessFlags := 1537
  interfaces := #[]
  cf := some (fileOf pool9 1 #[] #[] 1537 3 #[] #[])
  fields := #[]
  methods := #[]
  instanceTypes := #[]
  staticTypes := #[]
  resolved := Array.replicate 37 none
  statics := none }

def pool10 : Array CpInfo := pool [(2, .class_ 4), (1, u "java/lang/Object"), (0, u "<init>"), (0, u "()V"), (3, .class_ 12), (1, u "java/lang/String"), (0, u "value"), (0, u "[B"), (2, u "coder"), (0, u "B"), (2, u "hash"), (0, u "I"), (2, u "hashIsZero"), (0, u "Z"), (13, u "COMPACT_STRINGS"), (534, .class_ 576), (0, u "java/lang/CharSequence"), (22, u "CASE_INSENSITIVE_ORDER"), (0, u "Ljava/util/Comparator;"), (500, u "serialPersistentFields"), (0, u "[Ljava/io/ObjectStreamField;"), (0, .class_ 1104), (0, u "java/lang/String$CaseInsensitiveComparator"), (1, .class_ 1107), (0, u "java/io/Serializable"), (0, .class_ 1109), (0, u "java/lang/Comparable"), (0, .class_ 1111), (0, u "java/lang/constant/Constable"), (0, .class_ 1113), (0, u "java/lang/constant/ConstantDesc"), (2, u "serialVersionUID"), (0, u "J"), (3, u "REPL"), (0, u "C"), (2, u "LATIN1"), (1, u "UTF16")] 323

def k10m0 : Method := { name := "<init>", desc := "()V", sig := { parameters := [], returnType := none }, accessFlags := 1, code := none }
/-- java/lang/String -/
def k10 : Class := { plain "java/lang/String" (some 0) with
  accessFlags := 49
  interfaces := #[5, 6, 7, 8, 9]
  cf := some (fileOf pool10 10 #[.nestMembers #[1103]] #[{ accessFlags := 1, nameIndex := 5, descriptorIndex := 6, attributes := #[] }] 49 2 #[1106, 1108, 575, 1110, 1112] #[{ accessFlags := 18, nameIndex := 13, descriptorIndex := 14, attributes := #[] }, { accessFlags := 18, nameIndex := 17, descriptorIndex := 18, attributes := #[] }, { accessFlags := 2, nameIndex := 21, descriptorIndex := 22, attributes := #[] }, { accessFlags := 2, nameIndex := 25, descriptorIndex := 26, attributes := #[] }, { accessFlags := 26, nameIndex := 1116, descriptorIndex := 1117, attributes := #[] }, { accessFlags := 24, nameIndex := 40, descriptorIndex := 26, attributes := #[] }, { accessFlags := 26, nameIndex := 1101, descriptorIndex := 1102, attributes := #[] }, { accessFlags := 26, nameIndex := 1121, descriptorIndex := 1122, attributes := #[] }, { accessFlags := 25, nameIndex := 599, descriptorIndex := 600, attributes := #[] }, { accessFlags := 24, nameIndex := 1125, descriptorIndex := 18, attributes := #[] }, { accessFlags := 24, nameIndex := 1127, descriptorIndex := 18, attributes := #[] }])
  fields := #[{ name := "value", type := (.array .byte), accessFlags := 18, slot := 0, constantValue := 0 }, { name := "coder", type := .byte, accessFlags := 18, slot := 1, constantValue := 0 }, { name := "hash", type := .int, accessFlags := 2, slot := 2, constantValue := 0 }, { name := "hashIsZero", type := .boolean, accessFlags := 2, slot := 3, constantValue := 0 }, { name := "serialVersionUID", type := .long, accessFlags := 26, slot := 0, constantValue := 0 }, { name := "COMPACT_STRINGS", type := .boolean, accessFlags := 24, slot := 1, constantValue := 0 }, { name := "serialPersistentFields", type := (.array (.object "java/io/ObjectStreamField")), accessFlags := 26, slot := 2, constantValue := 0 }, { name := "REPL", type := .char, accessFlags := 26, slot := 3, constantValue := 0 }, { name := "CASE_INSENSITIVE_ORDER", type := (.object "java/util/Comparator"), accessFlags := 25, slot := 4, constantValue := 0 }, { name := "LATIN1", type := .byte, accessFlags := 24, slot := 5, constantValue := 0 }, { name := "UTF16", type := .byte, accessFlags := 24, slot := 6, constantValue := 0 }]
  methods := #[k10m0]
  instanceTypes := #[(.array .byte), .byte, .int, .boolean]
  staticTypes := #[.long, .boolean, (.array (.object "java/io/ObjectStreamField")), .char, (.object "java/util/Comparator"), .byte, .byte]
  resolved := Array.replicate 1451 none
  statics := none }

def pool11 : Array CpInfo := pool [(2, .class_ 4), (1, u "java/lang/Object"), (0, u "<init>"), (0, u "()V"), (35, .class_ 44), (1, u "java/util/Objects"), (0, u "requireNonNull"), (48, u "(Ljava/lang/Object;Ljava/lang/String;)Ljava/lang/Object;")] 89

def k11m0 : Method := { name := "<init>", desc := "()V", sig := { parameters := [], returnType := none }, accessFlags := 2, code := none }
def k11c1 : Code := { maxStack := 3, maxLocals := 2, code := jdk_31_method_11_code, exceptionTable := #[], attributes := #[] }
def k11m1 : Method := { name := "requireNonNull", desc := "(Ljava/lang/Object;Ljava/lang/String;)Ljava/lang/Object;", sig := { parameters := [(.object "java/lang/Object"), (.object "java/lang/String")], returnType := some (.object "java/lang/Object") }, accessFlags := 9, code := some k11c1 }
/-- java/util/Objects -/
def k11 : Class := { plain "java/util/Objects" (some 0) with
  accessFlags := 49
  interfaces := #[]
  cf := some (fileOf pool11 42 #[] #[{ accessFlags := 2, nameIndex := 5, descriptorIndex := 6, attributes := #[] }, { accessFlags := 9, nameIndex := 45, descriptorIndex := 94, attributes := #[] }] 49 2 #[] #[])
  fields := #[]
  methods := #[k11m0, k11m1]
  instanceTypes := #[]
  staticTypes := #[]
  resolved := Array.replicate 184 none
  statics := none }

def pool12 : Array CpInfo := pool [(1, u "java/lang/Cloneable"), (0, .class_ 1), (0, u "java/lang/Object"), (0, .class_ 3)] 3

/-- java/lang/Cloneable -/
def k12 : Class := { plain "java/lang/Cloneable" (some 0) with
  accessFlags := 1537
  interfaces := #[]
  cf := some (fileOf pool12 2 #[] #[] 1537 4 #[] #[])
  fields := #[]
  methods := #[]
  instanceTypes := #[]
  staticTypes := #[]
  resolved := Array.replicate 8 none
  statics := none }

/-- the primitive byte -/
def k13 : Class := { plain "byte" none with kind := .primitive 'B', accessFlags := 0x411 }
/-- [B -/
def k14 : Class := { plain "[B" (some 0) with kind := .array 13 .byte, interfaces := #[12, 5], accessFlags := 1041 }

/-- the primitive int -/
def k15 : Class := { plain "int" none with kind := .primitive 'I', accessFlags := 0x411 }
/-- [I -/
def k16 : Class := { plain "[I" (some 0) with kind := .array 15 .int, interfaces := #[12, 5], accessFlags := 1041 }

def heap : Heap := #[{ cls := 2, slots := #[.ref 1], vm := .statics 2 },
  { cls := 2, slots := #[.null], vm := .none }]
def classes : Array Class := #[k0, k1, k2, k3, k4, k5, k6, k7, k8, k9, k10, k11, k12, k13, k14, k15, k16]
def interned : List (Array UInt16 × Addr) := []
def slotsUsed : Nat := 2
def theMethod : MethodId := ⟨1, 2⟩
def args0 : Array Value := #[.long 5, .long 6, .int 7]
def aboutOver (below : List Frame) : State where
  vm := { classes := classes, interned := interned.toArray }
  heap := heap
  slotsUsed := slotsUsed
  threads := #[{ frames := .invoking theMethod args0 :: below }]
def below0 : List Frame := [.native { method := ⟨0, 0⟩, args := #[] }]
def about1 : State := aboutOver below0
def p0 : Program := .bare "" "" ""
def e0 : Env := launch0.env 0 0 0
theorem w_frames : about1.frames = Frame.invoking theMethod args0 :: below0 := rfl
set_option maxRecDepth 65536 in
theorem w_args : argsFit about1.vm theMethod args0 = true := by decide +kernel
set_option maxRecDepth 65536 in
theorem w_heap : heapFits about1 = true := by decide +kernel
set_option maxRecDepth 65536 in
theorem w_runnable : about1.curStatus? = some .runnable := by decide +kernel
set_option maxRecDepth 65536 in
theorem w_alone : about1.alone = true := by decide +kernel
set_option maxRecDepth 65536 in
theorem w_named : about1.methodNamed? x = some theMethod := by decide +kernel
set_option maxRecDepth 65536 in
theorem w_hears : about1.hears theMethod below0 = true := by decide +kernel
set_option maxRecDepth 65536 in
theorem w_ripe : about1.ripe theMethod args0 below0 = true := by decide +kernel
theorem w_running : about1.status = .running := rfl
set_option maxRecDepth 65536 in
theorem w_room : about1.hasRoom e0.platform room_1 = true :=
  launch0.hasRoom_least _ room_1 (by decide +kernel) (by decide +kernel) (by decide +kernel) (by decide +kernel) (by decide +kernel) (by decide +kernel)
theorem allAtoms_all (ts : List Jvm.Cond) (a : Array Jvm.Value) (st : Jvm.State) : (allAtoms ts).before a st = ts.all (fun c => c.before a st) := by
  induction ts with
  | nil => rfl
  | cons c t ih =>
    show (Jvm.Cond.and c (allAtoms t)).before a st = _
    rw [Jvm.Cond.before_and, ih, List.all_cons]
def words1 : List Jvm.Cond := Jvm.Cond.code x code maxLocals ret :: tables_1
/-- a 'code' word, met by the world's own term for the bytes: nothing is compared byte by byte -/
theorem code_word {y : MethodName} {bytes : ByteArray} {mx : Nat} {rt : Option FieldType} {a : Array Value} {s : State} {m : MethodId} {meth : Method} {c : Code} (h1 : s.methodNamed? y = some m) (h2 : s.vm.method? m = some meth) (h3 : meth.code = some c) (h4 : c.code = bytes)
    (h5 : (c.maxLocals == mx && c.exceptionTable.isEmpty && decide (c.maxStack ≤ mostOperands) && decide (meth.sig.returnType = rt) && !meth.locks && decide (parseMethodDescriptor y.desc = some meth.sig)) = true) : (Jvm.Cond.code y bytes mx rt).before a s = true := by
  simp only [Bool.and_eq_true, beq_iff_eq, Bool.not_eq_true', decide_eq_true_eq] at h5
  obtain ⟨⟨⟨⟨⟨g1, g2⟩, g3⟩, g4⟩, g5⟩, g6⟩ := h5
  simp [Cond.before, Cond.holds, Cond.value, h1, h2, h3, h4, g1, g2, g3, g4, g5, g6]
def isCode : Jvm.Cond → Bool
  | .code _ _ _ _ => true
  | _ => false
theorem all_split {L : List Jvm.Cond} {P : Jvm.Cond → Bool} (h1 : L.all (fun c => isCode c || P c) = true) (h2 : ∀ c ∈ L.filter isCode, P c = true) : L.all P = true := by
  refine List.all_eq_true.mpr fun c hc => ?_
  have h := List.all_eq_true.mp h1 c hc
  rcases Bool.eq_false_or_eq_true (isCode c) with hi | hi
  · exact h2 c (List.mem_filter.mpr ⟨hc, hi⟩)
  · simpa [hi] using h
set_option maxRecDepth 65536 in
theorem w_c0 : (Jvm.Cond.code x code maxLocals ret).before args0 about1 = true := code_word (m := ⟨1, 2⟩) (meth := k1m2) (c := k1c2) (by decide +kernel) rfl rfl rfl (by decide +kernel)
set_option maxRecDepth 65536 in
theorem w_c1 : (Jvm.Cond.code ({ cls := "com/example/prove_permissions/provepermissions/model/CertificateReusablePinLaw", name := "pick", desc := "(IJ)J" } : Jvm.MethodName) method_2_code (4 : Nat) (Option.some Jvm.ClassFile.FieldType.long)).before args0 about1 = true := code_word (m := ⟨1, 1⟩) (meth := k1m1) (c := k1c1) (by decide +kernel) rfl rfl rfl (by decide +kernel)
set_option maxRecDepth 65536 in
theorem w_c2 : (Jvm.Cond.code ({ cls := "java/util/Optional", name := "empty", desc := "()Ljava/util/Optional;" } : Jvm.MethodName) jdk_32_method_1_code (1 : Nat) (Option.some (Jvm.ClassFile.FieldType.object "java/util/Optional"))).before args0 about1 = true := code_word (m := ⟨2, 0⟩) (meth := k2m0) (c := k2c0) (by decide +kernel) rfl rfl rfl (by decide +kernel)
set_option maxRecDepth 65536 in
theorem w_c3 : (Jvm.Cond.code ({ cls := "com/example/prove_permissions/provepermissions/model/Certificate", name := "<init>", desc := "(Ljava/lang/String;Ljava/util/Optional;Ljava/lang/String;Ljava/lang/String;Ljava/lang/String;JJ)V" } : Jvm.MethodName) prog_14_method_1_code (10 : Nat) (Option.none : Option Jvm.ClassFile.FieldType)).before args0 about1 = true := code_word (m := ⟨4, 0⟩) (meth := k4m0) (c := k4c0) (by decide +kernel) rfl rfl rfl (by decide +kernel)
set_option maxRecDepth 65536 in
theorem w_c4 : (Jvm.Cond.code ({ cls := "java/lang/Record", name := "<init>", desc := "()V" } : Jvm.MethodName) jdk_30_method_1_code (1 : Nat) (Option.none : Option Jvm.ClassFile.FieldType)).before args0 about1 = true := code_word (m := ⟨3, 0⟩) (meth := k3m0) (c := k3c0) (by decide +kernel) rfl rfl rfl (by decide +kernel)
set_option maxRecDepth 65536 in
theorem w_c5 : (Jvm.Cond.code ({ cls := "java/lang/Object", name := "<init>", desc := "()V" } : Jvm.MethodName) object_method_1_code (1 : Nat) (Option.none : Option Jvm.ClassFile.FieldType)).before args0 about1 = true := code_word (m := ⟨0, 0⟩) (meth := k0m0) (c := k0c0) (by decide +kernel) rfl rfl rfl (by decide +kernel)
set_option maxRecDepth 65536 in
theorem w_c6 : (Jvm.Cond.code ({ cls := "java/util/Objects", name := "requireNonNull", desc := "(Ljava/lang/Object;Ljava/lang/String;)Ljava/lang/Object;" } : Jvm.MethodName) jdk_31_method_11_code (2 : Nat) (Option.some (Jvm.ClassFile.FieldType.object "java/lang/Object"))).before args0 about1 = true := code_word (m := ⟨11, 1⟩) (meth := k11m1) (c := k11c1) (by decide +kernel) rfl rfl rfl (by decide +kernel)
set_option maxRecDepth 65536 in
theorem w_c7 : (Jvm.Cond.code ({ cls := "com/example/prove_permissions/provepermissions/model/Certificate", name := "reusable", desc := "()Z" } : Jvm.MethodName) prog_14_method_4_code (1 : Nat) (Option.some Jvm.ClassFile.FieldType.boolean)).before args0 about1 = true := code_word (m := ⟨4, 1⟩) (meth := k4m1) (c := k4c1) (by decide +kernel) rfl rfl rfl (by decide +kernel)
def codes1 : List Jvm.Cond := [Jvm.Cond.code x code maxLocals ret, Jvm.Cond.code ({ cls := "com/example/prove_permissions/provepermissions/model/CertificateReusablePinLaw", name := "pick", desc := "(IJ)J" } : Jvm.MethodName) method_2_code (4 : Nat) (Option.some Jvm.ClassFile.FieldType.long), Jvm.Cond.code ({ cls := "java/util/Optional", name := "empty", desc := "()Ljava/util/Optional;" } : Jvm.MethodName) jdk_32_method_1_code (1 : Nat) (Option.some (Jvm.ClassFile.FieldType.object "java/util/Optional")), Jvm.Cond.code ({ cls := "com/example/prove_permissions/provepermissions/model/Certificate", name := "<init>", desc := "(Ljava/lang/String;Ljava/util/Optional;Ljava/lang/String;Ljava/lang/String;Ljava/lang/String;JJ)V" } : Jvm.MethodName) prog_14_method_1_code (10 : Nat) (Option.none : Option Jvm.ClassFile.FieldType), Jvm.Cond.code ({ cls := "java/lang/Record", name := "<init>", desc := "()V" } : Jvm.MethodName) jdk_30_method_1_code (1 : Nat) (Option.none : Option Jvm.ClassFile.FieldType), Jvm.Cond.code ({ cls := "java/lang/Object", name := "<init>", desc := "()V" } : Jvm.MethodName) object_method_1_code (1 : Nat) (Option.none : Option Jvm.ClassFile.FieldType), Jvm.Cond.code ({ cls := "java/util/Objects", name := "requireNonNull", desc := "(Ljava/lang/Object;Ljava/lang/String;)Ljava/lang/Object;" } : Jvm.MethodName) jdk_31_method_11_code (2 : Nat) (Option.some (Jvm.ClassFile.FieldType.object "java/lang/Object")), Jvm.Cond.code ({ cls := "com/example/prove_permissions/provepermissions/model/Certificate", name := "reusable", desc := "()Z" } : Jvm.MethodName) prog_14_method_4_code (1 : Nat) (Option.some Jvm.ClassFile.FieldType.boolean)]
set_option maxRecDepth 65536 in
theorem codes_eq : words1.filter isCode = codes1 := rfl
theorem w_codes : ∀ c ∈ words1.filter isCode, c.before args0 about1 = true := by
  rw [codes_eq]
  intro c hc
  simp only [codes1, List.mem_cons, List.not_mem_nil, or_false] at hc
  rcases hc with rfl | rfl | rfl | rfl | rfl | rfl | rfl | rfl
  · exact w_c0
  · exact w_c1
  · exact w_c2
  · exact w_c3
  · exact w_c4
  · exact w_c5
  · exact w_c6
  · exact w_c7
set_option maxRecDepth 65536 in
theorem w_t1 : (words1.take 24).all (fun c => isCode c || c.before args0 about1) = true := by decide +kernel
set_option maxRecDepth 65536 in
theorem w_t2 : ((words1.drop 24).take 24).all (fun c => isCode c || c.before args0 about1) = true := by decide +kernel
set_option maxRecDepth 65536 in
theorem w_t3 : ((words1.drop 24).drop 24).all (fun c => isCode c || c.before args0 about1) = true := by decide +kernel
theorem w_tables : (allAtoms (Jvm.Cond.code x code maxLocals ret :: tables_1)).before args0 about1 = true := by
  rw [allAtoms_all]
  show words1.all (fun c => c.before args0 about1) = true
  refine all_split ?_ w_codes
  rw [← List.take_append_drop 24 words1, List.all_append, w_t1, ← List.take_append_drop 24 (words1.drop 24), List.all_append, w_t2, w_t3]
  rfl
set_option maxRecDepth 65536 in
theorem w_rest : rest_1_c.before args0 about1 = true := by decide +kernel
set_option maxRecDepth 65536 in
theorem w_case : (Jvm.Cond.and given_1 narrow_1).before args0 about1 = true := by decide +kernel
theorem w_applies : (headSpec (Jvm.Cond.code x code maxLocals ret :: tables_1) room_1).applies x e0.platform about1 = true :=
  (Spec.applies_iff w_frames).mpr ⟨w_running, w_runnable, w_alone, w_named, w_hears, w_ripe, w_room, w_tables⟩
theorem atStart : AtStart classFile x code maxLocals ret World_1 tables_1 room_1 Calls_1 rest_1 Pre_1 launch0 p0 e0 about1 theMethod args0 below0 :=
  ⟨lists_1, trivial, launch0.admits_env _ _ _, launch0.least_env, fairChoices_fair.cas, fairChoices_fair.clock, w_frames, w_args, w_heap, w_applies, trivial, w_rest, w_case⟩
end start1
theorem witness_1 : WitnessClaimed_1 := ⟨start1.p0, start1.e0, start1.about1, start1.theMethod, start1.args0, start1.below0, start1.atStart⟩
end Jvm.Pilot.@@N@@
