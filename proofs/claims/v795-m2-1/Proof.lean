import JvmDerived
import JvmDerived.Pilot.@@N@@Statement
import JvmDerived.Pilot.@@N@@Code
set_option linter.unusedVariables false
set_option linter.unusedSimpArgs false
@@BLOCK:NumsL.lean.txt@@
namespace Jvm.Pilot.@@N@@
open Jvm Jvm.ClassFile Sem Op Lib Jvm.Free Jvm.Stand Jvm.LawKit Jvm.RoadKit Bundle Jvm.Pilot.@@N@@.Jvm.D
section Own
variable {p : Program} {l : Launch} {e : Env} {R : Room} {s : State} {m : MethodId} {args : Array Value} {below : List Frame} {meth : Method} {c : Code} {T T' : State} {locs : List Loc} {cells slots : Nat} {g g' : JFrame} {Q : Option Value → Heap → List Loc → Nat → Nat → Prop} {Z : State} {a0 : Array Value} {h : Heap}
/-- from this frame, in this state, the run comes to a return, and what it leaves meets Q -/
def Goal (p : Program) (l : Launch) (e : Env) (R : Room) (s : State) (m : MethodId) (args : Array Value) (below : List Frame) (meth : Method) (c : Code) (Q : Option Value → Heap → List Loc → Nat → Nat → Prop) (T : State) (g : JFrame) : Prop :=
  ∃ v U L k n, Stand p l e R s m args below meth c U L k n ∧ (meth.sig.returnType = none → v = none) ∧ Q v U.heap L k n ∧
    ∀ fs, (∀ (f : JFrame) (acts : List Action), f.method = m → f.locked = none → f.entered = [] → (doReturn e (U.setTop f) acts v).1 = U.setFrames fs) → Steps p.tables e below (T.setTop g) (U.setFrames fs)
theorem Goal.step (h : Goal p l e R s m args below meth c Q T' g') (st : ∀ t, Steps p.tables e below (T'.setTop g') t → Steps p.tables e below (T.setTop g) t) : Goal p l e R s m args below meth c Q T g := by
  obtain ⟨v, U, L, k, n, X, hv, hq, hs⟩ := h
  exact ⟨v, U, L, k, n, X, hv, hq, fun fs hl => st _ (hs fs hl)⟩
theorem Goal.imp {Q' : Option Value → Heap → List Loc → Nat → Nat → Prop} (h : Goal p l e R s m args below meth c Q T g) (q : ∀ v h L k n, Q v h L k n → Q' v h L k n) : Goal p l e R s m args below meth c Q' T g := by
  obtain ⟨v, U, L, k, n, X, hv, hq, hs⟩ := h
  exact ⟨v, U, L, k, n, X, hv, q _ _ _ _ _ hq, hs⟩
theorem Goal.retN (X : Stand p l e R s m args below meth c T locs cells slots) (hx : p.tables.exec = Jvm.exec) {pc : Nat} {Ls : Array Slot} {z : Int32} {t : FieldType} {rest : List Value} (hret : meth.sig.returnType = some t) (ht : t = .boolean ∨ t = .byte ∨ t = .char ∨ t = .short)
    (hd : decode c.code pc = .ok (.ireturn, 1)) (hq : Q (some (.int (nar t z))) T.heap locs cells slots) : Goal p l e R s m args below meth c Q T (mkF m pc Ls (.int z :: rest)) :=
  ⟨_, T, _, _, _, X, fun q => (by rw [hret] at q; cases q), hq, fun fs hl => Jvm.RoadKit.retN X hx hret ht hd hl⟩
theorem Goal.retI (X : Stand p l e R s m args below meth c T locs cells slots) (hx : p.tables.exec = Jvm.exec) {pc : Nat} {Ls : Array Slot} {z : Int32} {rest : List Value} (hret : meth.sig.returnType = some .int)
    (hd : decode c.code pc = .ok (.ireturn, 1)) (hq : Q (some (.int z)) T.heap locs cells slots) : Goal p l e R s m args below meth c Q T (mkF m pc Ls (.int z :: rest)) :=
  ⟨_, T, _, _, _, X, fun q => (by rw [hret] at q; cases q), hq, fun fs hl => retOut X hx hret rfl (Or.inl ⟨rfl, Or.inl rfl, _, rfl⟩) hd hl⟩
theorem Goal.retJ (X : Stand p l e R s m args below meth c T locs cells slots) (hx : p.tables.exec = Jvm.exec) {pc : Nat} {Ls : Array Slot} {z : Int64} {rest : List Value} (hret : meth.sig.returnType = some .long)
    (hd : decode c.code pc = .ok (.lreturn, 1)) (hq : Q (some (.long z)) T.heap locs cells slots) : Goal p l e R s m args below meth c Q T (mkF m pc Ls (.long z :: rest)) :=
  ⟨_, T, _, _, _, X, fun q => (by rw [hret] at q; cases q), hq, fun fs hl => retOut X hx hret rfl (Or.inr (Or.inl ⟨rfl, rfl, _, rfl⟩)) hd hl⟩
theorem Goal.retD (X : Stand p l e R s m args below meth c T locs cells slots) (hx : p.tables.exec = Jvm.exec) {pc : Nat} {Ls : Array Slot} {z : UInt64} {rest : List Value} (hret : meth.sig.returnType = some .double)
    (hd : decode c.code pc = .ok (.dreturn, 1)) (hq : Q (some (.double z)) T.heap locs cells slots) : Goal p l e R s m args below meth c Q T (mkF m pc Ls (.double z :: rest)) :=
  ⟨_, T, _, _, _, X, fun q => (by rw [hret] at q; cases q), hq, fun fs hl => retOut X hx hret rfl (Or.inr (Or.inr (Or.inl ⟨rfl, rfl, _, rfl⟩))) hd hl⟩
theorem Goal.retA (X : Stand p l e R s m args below meth c T locs cells slots) (hx : p.tables.exec = Jvm.exec) {pc : Nat} {Ls : Array Slot} {w : Value} {t : FieldType} {rest : List Value} (hret : meth.sig.returnType = some t) (ht : t.isReference = true) (hn : narrow t w = w) (hw : w.isRef = true)
    (hd : decode c.code pc = .ok (.areturn, 1)) (hq : Q (some w) T.heap locs cells slots) : Goal p l e R s m args below meth c Q T (mkF m pc Ls (w :: rest)) :=
  ⟨_, T, _, _, _, X, fun q => (by rw [hret] at q; cases q), hq, fun fs hl => retOut X hx hret hn (Or.inr (Or.inr (Or.inr (Or.inr ⟨rfl, ht, hw⟩)))) hd hl⟩
theorem Goal.retV (X : Stand p l e R s m args below meth c T locs cells slots) (hx : p.tables.exec = Jvm.exec) {pc : Nat} {Ls : Array Slot} (hret : meth.sig.returnType = none)
    (hd : decode c.code pc = .ok (.return_, 1)) (hq : Q none T.heap locs cells slots) : Goal p l e R s m args below meth c Q T (mkF m pc Ls []) :=
  ⟨_, T, _, _, _, X, fun _ => rfl, hq, fun fs hl => X.returnOut hx hret hd hl⟩
/-- what a walk knows of where it runs -/
def Ctx (p : Program) (s : State) (m : MethodId) (meth : Method) (c : Code) (Z : State) (bytes : ByteArray) (maxL : Nat) (ret : Option FieldType) (own nm : String) : Prop :=
  p.tables.exec = Jvm.exec ∧ Z.Warmed39 s.vm ∧ c.code = bytes ∧ c.maxLocals = maxL ∧ meth.sig.returnType = ret ∧ s.vm.findClass own = some m.cls ∧ meth.name = nm
/-- a body's contract: called with as' at the heap h0, it returns, and what it leaves meets Q -/
def Met (l : Launch) (y : MethodName) (bytes : ByteArray) (maxL : Nat) (ret : Option FieldType) (ws : List Jvm.Cond) (rm : Room) (Z : State) (as' : Array Value) (h0 : Heap) (Q : Option Value → Heap → List Loc → Prop) : Prop :=
  MetFree l y (head1 (Jvm.Cond.code y bytes maxL ret :: ws) rm) (fun a U => a = as' ∧ Z.Warmed39 U.vm ∧ U.heap = h0) (fun _ _ _ _ _ => True) (fun _ U o U' => ∃ v L, o = .returned v ∧ Q v U'.heap L ∧ FrameEnd U o U' L rm.cells rm.slots)
/-- Q within the room -/
def In (rm : Room) (Q : Option Value → Heap → List Loc → Prop) (v : Option Value) (h : Heap) (L : List Loc) (k n : Nat) : Prop := Q v h L ∧ k ≤ rm.cells ∧ n ≤ rm.slots
theorem of_goal {y : MethodName} {bytes : ByteArray} {maxL : Nat} {ret : Option FieldType} {ws : List Jvm.Cond} {rm : Room} {as' : Array Value} {h0 : Heap} {Q : Option Value → Heap → List Loc → Prop} (hpl : plainFor y = true)
    (body : ∀ (p : Program) (e : Env) (s : State) (m : MethodId) (below : List Frame) (meth : Method) (c : Code) (s₁ : State), Ctx p s m meth c Z bytes maxL ret y.cls y.name → Stand p l e rm s m as' below meth c s₁ [] 0 0 → s₁.heap = h0 →
      Goal p l e rm s m as' below meth c (In rm Q) s₁ (entryFrame m as' maxL)) : Met l y bytes maxL ret ws rm Z as' h0 Q := by
  refine MetFree.of_bodySF hpl hisR ?_
  intro p e s m args below meth c s₁ Bd hml0 hP hK
  obtain ⟨rfl, hZ, hh⟩ := hP
  have X0 : Stand p l e rm s m _ below meth c s₁ [] 0 0 := Stand.of_body Bd
  have e0 : s₁.heap = h0 := by rw [← hh, Bd.state]; rfl
  obtain ⟨v, U, L, k, n, X, hv, ⟨hq, hk, hn⟩, hs⟩ := body p e s m below meth c s₁ ⟨Bd.exec, hZ, Bd.bytes, hml0, Bd.returns, findClass_of_methodNamed Bd.named, (name_of_methodNamed Bd.named Bd.method).1⟩ X0 e0
  obtain ⟨fs, hr, hrun, hended, hW, hsame⟩ := X.leave (v := v) hv
  exact ⟨_, _, hs fs hr, hrun, hended, _, _, rfl, hq, ⟨_, rfl⟩, hW, hsame.mono hk hn⟩
variable {own : String} {index maxL : Nat} {y z : MethodName} {bytes : ByteArray} {ret : Option FieldType} {rm : Room} {as' : Array Value} {Qc : Option Value → Heap → List Loc → Prop}
theorem callStatic (X : Stand p l e R s m args below meth c T locs cells slots) (hx : p.tables.exec = Jvm.exec) (hZ : Z.Warmed39 s.vm) (hown : s.vm.findClass own = some m.cls)
    (w1 : (Cond.methodLink own index y).before a0 Z = true) (w2 : (Cond.static y).before a0 Z = true) (w3 : (Cond.initialized y.cls).before a0 Z = true) (w4 : (Cond.code y bytes maxL ret).before a0 Z = true)
    (hy : y.cls ≠ "java/lang/invoke/MethodHandle" ∧ y.cls ≠ "java/lang/invoke/VarHandle") (hM : Met l y bytes maxL ret [] rm Z as' h Qc) (eT : T.heap = h) {W : Nat} (hf : rm.frames + 1 ≤ R.frames) (hl : W + (maxL + 11) + rm.locals ≤ R.locals)
    (hc : cells + rm.cells ≤ R.cells) (hs : slots + rm.slots ≤ R.slots)
    {g : JFrame} (hg : g.method = m) (hsize : g.locals.size = c.maxLocals) {argsL rest : List Value} (hlen : ∀ sig, parseMethodDescriptor y.desc = some sig → argsL.length = sig.parameters.length)
    (hstack : g.stack = argsL.reverse ++ rest) (hW : 2 * g.monitorRoom + (rest.map fun v => v.category).sum ≤ W) (hdg : decode c.code g.pc = .ok (.invokestatic index, 3)) (has : argsL.toArray = as') :
    ∃ v T' h' L, Stand p l e R s m args below meth c T' (locs ++ L) (cells + rm.cells) (slots + rm.slots) ∧ T'.heap = h' ∧ Qc v h' L ∧ ∀ target, Steps p.tables e below (T'.setTop { g with pc := g.pc + 3, stack := v.toList ++ rest }) target → Steps p.tables e below (T.setTop g) target := by
  subst has
  obtain ⟨v, _, ⟨T', L', k', n'⟩, -, X', ⟨Lc, hQ, l1, y1, z1⟩, st⟩ := Jvm.LawKit.callS X hx (y := y) hown (mvT hZ w1) (mvT hZ w2) (mvT hZ w3) (mvT hZ w4) hy (backOf (W := W) hM hZ w4 w3 hf hl) (g := g) hg hsize (argsL := argsL) (rest := rest) hlen hstack hW hdg (fun _ _ => ⟨rfl, eT, hc, hs⟩)
  dsimp only [Pt.U, Pt.locs, Pt.cells, Pt.slots] at X' l1 y1 z1 st hQ
  subst l1 y1 z1
  exact ⟨v, T', _, Lc, X', rfl, hQ, st⟩
theorem callInit (X : Stand p l e R s m args below meth c T locs cells slots) (hx : p.tables.exec = Jvm.exec) (hZ : Z.Warmed39 s.vm) (hown : s.vm.findClass own = some m.cls) (hy1 : y.name = "<init>")
    (w1 : (Cond.methodLink own index y).before a0 Z = true) (w2 : (Cond.instanceMethod y).before a0 Z = true) (w3 : (Cond.initialized y.cls).before a0 Z = true) (w4 : (Cond.code y bytes maxL none).before a0 Z = true)
    (hy : y.cls ≠ "java/lang/invoke/MethodHandle" ∧ y.cls ≠ "java/lang/invoke/VarHandle") (hM : Met l y bytes maxL none [] rm Z as' h Qc) (eT : T.heap = h) {W : Nat} (hf : rm.frames + 1 ≤ R.frames) (hl : W + (maxL + 11) + rm.locals ≤ R.locals)
    (hc : cells + rm.cells ≤ R.cells) (hs : slots + rm.slots ≤ R.slots)
    {g : JFrame} (hg : g.method = m) (hsize : g.locals.size = c.maxLocals) {a : Addr} {argsL rest : List Value} (hlen : ∀ sig, parseMethodDescriptor y.desc = some sig → argsL.length = sig.parameters.length)
    (hstack : g.stack = argsL.reverse ++ .ref a :: rest) (hW : 2 * g.monitorRoom + (rest.map fun v => v.category).sum ≤ W) (hdg : decode c.code g.pc = .ok (.invokespecial index, 3)) (has : (Value.ref a :: argsL).toArray = as') :
    ∃ v T' h' L, Stand p l e R s m args below meth c T' (locs ++ L) (cells + rm.cells) (slots + rm.slots) ∧ T'.heap = h' ∧ Qc v h' L ∧ ∀ target, Steps p.tables e below (T'.setTop { g with pc := g.pc + 3, stack := v.toList ++ rest }) target → Steps p.tables e below (T.setTop g) target := by
  subst has
  obtain ⟨v, _, ⟨T', L', k', n'⟩, -, X', ⟨Lc, hQ, l1, y1, z1⟩, st⟩ := X.specialBack hx (y := y) hy1 hown (mvT hZ w1) (mvT hZ w2) (mvT hZ w4) hy (backOf (W := W) hM hZ w4 w3 hf hl) (g := g) hg hsize (Steps.refl _) (a := a) (argsL := argsL) (rest := rest) hlen hstack hW hdg (fun _ _ => ⟨rfl, eT, hc, hs⟩)
  dsimp only [Pt.U, Pt.locs, Pt.cells, Pt.slots] at X' l1 y1 z1 st hQ
  subst l1 y1 z1
  exact ⟨v, T', _, Lc, X', rfl, hQ, fun t k => st.trans k⟩
theorem callVirt (X : Stand p l e R s m args below meth c T locs cells slots) (hx : p.tables.exec = Jvm.exec) (hZ : Z.Warmed39 s.vm) (hown : s.vm.findClass own = some m.cls) {C : String}
    (w1 : (Cond.methodLink own index y).before a0 Z = true) (w2 : (Cond.declares y).before a0 Z = true) (hnf : NotFace s y) (w5 : (Cond.selects C y z).before a0 Z = true) (w6 : (Cond.instanceMethod z).before a0 Z = true) (w3 : (Cond.initialized z.cls).before a0 Z = true) (w4 : (Cond.code z bytes maxL ret).before a0 Z = true)
    (hy : y.cls ≠ "java/lang/invoke/MethodHandle" ∧ y.cls ≠ "java/lang/invoke/VarHandle") (hM : Met l z bytes maxL ret [] rm Z as' h Qc) (eT : T.heap = h) {a : Addr} (E : Exa Z h a C) {W : Nat} (hf : rm.frames + 1 ≤ R.frames) (hl : W + (maxL + 11) + rm.locals ≤ R.locals)
    (hc : cells + rm.cells ≤ R.cells) (hs : slots + rm.slots ≤ R.slots)
    {g : JFrame} (hg : g.method = m) (hsize : g.locals.size = c.maxLocals) {argsL rest : List Value} (hlen : ∀ sig, parseMethodDescriptor y.desc = some sig → argsL.length = sig.parameters.length)
    (hstack : g.stack = argsL.reverse ++ .ref a :: rest) (hW : 2 * g.monitorRoom + (rest.map fun v => v.category).sum ≤ W) (hdg : decode c.code g.pc = .ok (.invokevirtual index, 3)) (has : (Value.ref a :: argsL).toArray = as') :
    ∃ v T' h' L, Stand p l e R s m args below meth c T' (locs ++ L) (cells + rm.cells) (slots + rm.slots) ∧ T'.heap = h' ∧ Qc v h' L ∧ ∀ target, Steps p.tables e below (T'.setTop { g with pc := g.pc + 3, stack := v.toList ++ rest }) target → Steps p.tables e below (T.setTop g) target := by
  subst has
  obtain ⟨cq, kq, qa, qb, qc⟩ := isOf hZ eT E
  obtain ⟨v, _, ⟨T', L', k', n'⟩, -, X', ⟨Lc, hQ, l1, y1, z1⟩, st⟩ := X.virtualBack hx (y := y) (z := z) hown (mvT hZ w1) (mvT hZ w2) hnf (mvT hZ w5) (mvT hZ w6) hy (backOf (W := W) hM hZ w4 w3 hf hl) qa qc (g := g) hg hsize (Steps.refl _) (argsL := argsL) (rest := rest) hlen hstack hW hdg (fun _ _ => ⟨rfl, eT, hc, hs⟩)
  dsimp only [Pt.U, Pt.locs, Pt.cells, Pt.slots] at X' l1 y1 z1 st hQ
  subst l1 y1 z1
  exact ⟨v, T', _, Lc, X', rfl, hQ, fun t k => st.trans k⟩
theorem nne {x y : Nat} (q : ¬ x = y) : @Ne Addr x y := q
end Own
section OwnH
variable {p : Program} {l : Launch} {e : Env} {R : Room} {s : State} {m : MethodId} {args : Array Value} {below : List Frame} {meth : Method} {c : Code} {T T' : State} {locs : List Loc} {cells slots : Nat} {g g' : JFrame} {Q : Option Value → Heap → List Loc → Nat → Nat → Prop} {Z : State} {a0 : Array Value} {h : Heap} {vm0 : Vm} {k0 : Nat} {EL : List (String × Nat)} {hb : Heap} {xs : List Addr}
/-- as GoalH, and the String constants held at the start are held at the end -/
def GoalH (Z : State) (EL : List (String × Nat)) (hb : Heap) (p : Program) (l : Launch) (e : Env) (R : Room) (s : State) (m : MethodId) (args : Array Value) (below : List Frame) (meth : Method) (c : Code) (Q : Option Value → Heap → List Loc → Nat → Nat → Prop) (T : State) (g : JFrame) : Prop :=
  ∃ v U vm k0 L k n, Stand p l e R (s.setVm vm) m args below meth c U L k n ∧ s.Since vm k0 ∧ k0 ≤ U.heap.size ∧ (meth.sig.returnType = none → v = none) ∧ Q v U.heap L k n ∧ CHr Z EL s.vm hb U.vm U.heap ∧
    ∀ fs, (∀ (f : JFrame) (acts : List Action), f.method = m → f.locked = none → f.entered = [] → (doReturn e (U.setTop f) acts v).1 = U.setFrames fs) → Steps p.tables e below (T.setTop g) (U.setFrames fs)
theorem GoalH.step (h : GoalH Z EL hb p l e R s m args below meth c Q T' g') (st : ∀ t, Steps p.tables e below (T'.setTop g') t → Steps p.tables e below (T.setTop g) t) : GoalH Z EL hb p l e R s m args below meth c Q T g := by
  obtain ⟨v, U, vm, k0, L, k, n, X, hS, hk, hv, hq, hC, hs⟩ := h
  exact ⟨v, U, vm, k0, L, k, n, X, hS, hk, hv, hq, hC, fun fs hl => st _ (hs fs hl)⟩
theorem GoalH.retN (X : Stand p l e R (s.setVm vm0) m args below meth c T locs cells slots) (hS : s.Since vm0 k0) (hk : k0 ≤ T.heap.size) (hZ : Z.Warmed39 vm0) (hEL : EW Z a0 EL) (hC : CHr Z EL s.vm hb vm0 T.heap) (hx : p.tables.exec = Jvm.exec) {pc : Nat} {Ls : Array Slot} {z : Int32} {t : FieldType} {rest : List Value} (hret : meth.sig.returnType = some t) (ht : t = .boolean ∨ t = .byte ∨ t = .char ∨ t = .short)
    (hd : decode c.code pc = .ok (.ireturn, 1)) (hq : Q (some (.int (nar t z))) T.heap locs cells slots) : GoalH Z EL hb p l e R s m args below meth c Q T (mkF m pc Ls (.int z :: rest)) :=
  ⟨_, T, vm0, k0, _, _, _, X, hS, hk, fun q => (by rw [hret] at q; cases q), hq, hC.trans (CHv.at X hZ hEL hC.1), fun fs hl => Jvm.RoadKit.retN X hx hret ht hd hl⟩
theorem GoalH.retI (X : Stand p l e R (s.setVm vm0) m args below meth c T locs cells slots) (hS : s.Since vm0 k0) (hk : k0 ≤ T.heap.size) (hZ : Z.Warmed39 vm0) (hEL : EW Z a0 EL) (hC : CHr Z EL s.vm hb vm0 T.heap) (hx : p.tables.exec = Jvm.exec) {pc : Nat} {Ls : Array Slot} {z : Int32} {rest : List Value} (hret : meth.sig.returnType = some .int)
    (hd : decode c.code pc = .ok (.ireturn, 1)) (hq : Q (some (.int z)) T.heap locs cells slots) : GoalH Z EL hb p l e R s m args below meth c Q T (mkF m pc Ls (.int z :: rest)) :=
  ⟨_, T, vm0, k0, _, _, _, X, hS, hk, fun q => (by rw [hret] at q; cases q), hq, hC.trans (CHv.at X hZ hEL hC.1), fun fs hl => retOut X hx hret rfl (Or.inl ⟨rfl, Or.inl rfl, _, rfl⟩) hd hl⟩
theorem GoalH.retA (X : Stand p l e R (s.setVm vm0) m args below meth c T locs cells slots) (hS : s.Since vm0 k0) (hk : k0 ≤ T.heap.size) (hZ : Z.Warmed39 vm0) (hEL : EW Z a0 EL) (hC : CHr Z EL s.vm hb vm0 T.heap) (hx : p.tables.exec = Jvm.exec) {pc : Nat} {Ls : Array Slot} {w : Value} {t : FieldType} {rest : List Value} (hret : meth.sig.returnType = some t) (ht : t.isReference = true) (hn : narrow t w = w) (hw : w.isRef = true)
    (hd : decode c.code pc = .ok (.areturn, 1)) (hq : Q (some w) T.heap locs cells slots) : GoalH Z EL hb p l e R s m args below meth c Q T (mkF m pc Ls (w :: rest)) :=
  ⟨_, T, vm0, k0, _, _, _, X, hS, hk, fun q => (by rw [hret] at q; cases q), hq, hC.trans (CHv.at X hZ hEL hC.1), fun fs hl => retOut X hx hret hn (Or.inr (Or.inr (Or.inr (Or.inr ⟨rfl, ht, hw⟩)))) hd hl⟩
theorem GoalH.retV (X : Stand p l e R (s.setVm vm0) m args below meth c T locs cells slots) (hS : s.Since vm0 k0) (hk : k0 ≤ T.heap.size) (hZ : Z.Warmed39 vm0) (hEL : EW Z a0 EL) (hC : CHr Z EL s.vm hb vm0 T.heap) (hx : p.tables.exec = Jvm.exec) {pc : Nat} {Ls : Array Slot} (hret : meth.sig.returnType = none)
    (hd : decode c.code pc = .ok (.return_, 1)) (hq : Q none T.heap locs cells slots) : GoalH Z EL hb p l e R s m args below meth c Q T (mkF m pc Ls []) :=
  ⟨_, T, vm0, k0, _, _, _, X, hS, hk, fun _ => rfl, hq, hC.trans (CHv.at X hZ hEL hC.1), fun fs hl => X.returnOut hx hret hd hl⟩
def MetH (l : Launch) (y : MethodName) (bytes : ByteArray) (maxL : Nat) (ret : Option FieldType) (ws : List Jvm.Cond) (rm : Room) (Z : State) (EL : List (String × Nat)) (xs : List Addr) (as' : Array Value) (h0 : Heap) (Q : Option Value → Heap → List Loc → Prop) : Prop :=
  MetFree l y (head1 (Jvm.Cond.code y bytes maxL ret :: ws) rm) (fun a U => a = as' ∧ Z.Warmed39 U.vm ∧ U.heap = h0 ∧ CHv Z EL U.vm h0 ∧ ∀ x ∈ xs, x < h0.size ∧ Safe Z EL U.vm h0 x) (fun _ _ _ _ _ => True) (fun _ U o U' => ∃ v L, o = .returned v ∧ Q v U'.heap L ∧ CHr Z EL U.vm U.heap U'.vm U'.heap ∧ ReturnedEndW U o U' L rm.cells rm.slots)
theorem of_goalH {y : MethodName} {bytes : ByteArray} {maxL : Nat} {ret : Option FieldType} {ws : List Jvm.Cond} {rm : Room} {as' : Array Value} {h0 : Heap} {Q : Option Value → Heap → List Loc → Prop} (hpl : plainFor y = true)
    (body : ∀ (p : Program) (e : Env) (s : State) (m : MethodId) (below : List Frame) (meth : Method) (c : Code) (s₁ : State), Ctx p s m meth c Z bytes maxL ret y.cls y.name → Stand p l e rm (s.setVm s.vm) m as' below meth c s₁ [] 0 0 → s.Since s.vm 0 → s₁.heap = h0 → CHv Z EL s.vm h0 → (∀ x ∈ xs, x < h0.size ∧ Safe Z EL s.vm h0 x) →
      GoalH Z EL h0 p l e rm s m as' below meth c (In rm Q) s₁ (entryFrame m as' maxL)) : MetH l y bytes maxL ret ws rm Z EL xs as' h0 Q := by
  refine MetFree.of_bodySF hpl hisR ?_
  intro p e s m args below meth c s₁ Bd hml0 hP hK
  obtain ⟨rfl, hZ, hh, hCH, hSf⟩ := hP
  have X0 : Stand p l e rm s m _ below meth c s₁ [] 0 0 := Stand.of_body Bd
  have e0 : s₁.heap = h0 := by rw [← hh, Bd.state]; rfl
  obtain ⟨v, U, vm, k0, L, k, n, X, hS, hk0, hv, ⟨hq, hk, hn⟩, hC, hs⟩ := body p e s m below meth c s₁ ⟨Bd.exec, hZ, Bd.bytes, hml0, Bd.returns, findClass_of_methodNamed Bd.named, (name_of_methodNamed Bd.named Bd.method).1⟩ X0 ((State.WarmedH.refl s).since 0) e0 hCH hSf
  obtain ⟨fs, hr, hrun, hended, hE⟩ := X.leaveW hS hk0 (v := v) hv
  subst hh
  exact ⟨_, _, hs fs hr, hrun, hended, _, _, rfl, hq, hC, hE.1, hE.2.1, hE.2.2.1, hE.2.2.2.mono hk hn⟩
variable {own : String} {index maxL : Nat} {y z : MethodName} {bytes : ByteArray} {ret : Option FieldType} {rm : Room} {as' : Array Value} {Qc : Option Value → Heap → List Loc → Prop}
theorem backOfX {y : MethodName} {bytes : ByteArray} {maxL : Nat} {ret : Option FieldType} {rm : Room} {len W : Nat} {as' : Array Value} {Q : Option Value → Heap → List Loc → Prop} (hM : MetH l y bytes maxL ret [] rm Z EL xs as' h Q)
    (hZ : Z.Warmed39 vm0) (wc : (Cond.code y bytes maxL ret).before a0 Z = true) (wz : (Cond.initialized y.cls).before a0 Z = true) (hf : rm.frames + 1 ≤ R.frames) (hl : W + (maxL + 11) + rm.locals ≤ R.locals) (hEL : EW Z a0 EL) (H : CHv Z EL vm0 h) (hxs : ∀ x ∈ xs, x < h.size ∧ Safe Z EL vm0 h x) :
    BackS l R p e below (s.setVm vm0) args y len W (fun A a => a = as' ∧ A.U.heap = h ∧ A.cells + rm.cells ≤ R.cells ∧ A.slots + rm.slots ≤ R.slots)
      (fun A _ v B => ∃ L, Q v B.U.heap L ∧ B.locs = A.locs ++ L ∧ B.cells = A.cells + rm.cells ∧ B.slots = A.slots + rm.slots ∧ CHr Z EL vm0 h B.U.vm B.U.heap) :=
  BackS.of_freeW (bytes := bytes) (maxL := maxL) (ret := ret) (E := fun _ first o t L k n => k = rm.cells ∧ n = rm.slots ∧ (∃ v, o = .returned v ∧ Q v t.heap L) ∧ CHr Z EL first.vm first.heap t.vm t.heap) hM hf hl
    (fun m meth c A a Y hp => have hU : Z.Warmed39 A.U.vm := wtrans (s := s.setVm vm0) hZ Y.warmed
      ⟨by show (Cond.and _ .tt).before a A.U = true; rw [Cond.before_and, mv hU wc]; rfl, mv hU wc, mv hU wz, hp.2.2.1, hp.2.2.2⟩)
    (fun m meth c A a g mk Y hp => ⟨hp.1, wtrans (s := s.setVm vm0) hZ Y.warmed, hp.2.1, (CHv.at Y hZ hEL H).1, fun x hx => ⟨(hxs x hx).1, (CHv.at Y hZ hEL H).safe (hxs x hx).1 (hxs x hx).2⟩⟩) (fun _ _ _ _ _ _ _ _ _ => trivial)
    (fun _ _ _ _ ⟨v, L, h1, h2, h3, h4⟩ => ⟨L, _, _, h4, rfl, rfl, ⟨v, h1, h2⟩, h3⟩)
    (fun m meth c A a g mk v t L k n Y hp _ _ ⟨e1, e2, ⟨v', e3, e4⟩, e5⟩ => by
      cases e3; subst e1 e2
      refine ⟨L, e4, rfl, rfl, rfl, (CHv.at Y hZ hEL H).trans ?_⟩
      rw [← hp.2.1]; exact e5)
theorem callStaticH (X : Stand p l e R (s.setVm vm0) m args below meth c T locs cells slots) (hx : p.tables.exec = Jvm.exec) (hZ : Z.Warmed39 (s.setVm vm0).vm) (hown : (s.setVm vm0).vm.findClass own = some m.cls) (hS : s.Since vm0 k0) (hk : k0 ≤ h.size) (hEL : EW Z a0 EL) (H : CHv Z EL vm0 h) (hxs : ∀ x ∈ xs, x < h.size ∧ Safe Z EL vm0 h x)
    (w1 : (Cond.methodLink own index y).before a0 Z = true) (w2 : (Cond.static y).before a0 Z = true) (w3 : (Cond.initialized y.cls).before a0 Z = true) (w4 : (Cond.code y bytes maxL ret).before a0 Z = true)
    (hy : y.cls ≠ "java/lang/invoke/MethodHandle" ∧ y.cls ≠ "java/lang/invoke/VarHandle") (hM : MetH l y bytes maxL ret [] rm Z EL xs as' h Qc) (eT : T.heap = h) {W : Nat} (hf : rm.frames + 1 ≤ R.frames) (hl : W + (maxL + 11) + rm.locals ≤ R.locals)
    (hc : cells + rm.cells ≤ R.cells) (hs : slots + rm.slots ≤ R.slots)
    {g : JFrame} (hg : g.method = m) (hsize : g.locals.size = c.maxLocals) {argsL rest : List Value} (hlen : ∀ sig, parseMethodDescriptor y.desc = some sig → argsL.length = sig.parameters.length)
    (hstack : g.stack = argsL.reverse ++ rest) (hW : 2 * g.monitorRoom + (rest.map fun v => v.category).sum ≤ W) (hdg : decode c.code g.pc = .ok (.invokestatic index, 3)) (has : argsL.toArray = as') :
    ∃ v T' h' L k1, Stand p l e R (s.setVm T'.vm) m args below meth c T' (locs ++ L) (cells + rm.cells) (slots + rm.slots) ∧ T'.heap = h' ∧ Qc v h' L ∧ s.Since T'.vm k1 ∧ k1 ≤ h'.size ∧ h.size ≤ h'.size ∧ CHr Z EL vm0 h T'.vm h' ∧ Z.Warmed39 (s.setVm T'.vm).vm ∧ (s.setVm T'.vm).vm.findClass own = some m.cls ∧ ∀ target, Steps p.tables e below (T'.setTop { g with pc := g.pc + 3, stack := v.toList ++ rest }) target → Steps p.tables e below (T.setTop g) target := by
  subst has
  subst eT
  obtain ⟨v, _, ⟨T', L', k', n'⟩, -, X', hS', hg', ⟨Lc, hQ, l1, y1, z1, hC1⟩, st⟩ := callSS X hx (y := y) hown (mvT hZ w1) (mvT hZ w2) (mvT hZ w3) (mvT hZ w4) hy (backOfX (W := W) hM hZ w4 w3 hf hl hEL H hxs) (g := g) hg hsize (argsL := argsL) (rest := rest) hlen hstack hW hdg (fun _ _ => ⟨rfl, rfl, hc, hs⟩)
  dsimp only [Pt.U, Pt.locs, Pt.cells, Pt.slots] at X' l1 y1 z1 st hQ hS' hg' hC1
  subst l1 y1 z1
  exact ⟨v, T', _, Lc, _, X', rfl, hQ, hS.trans hS' (Nat.le_trans hk hg'), Nat.le_refl _, hg', hC1, State.Warmed39.trans (t := s.setVm vm0) hZ hS'.1, by rw [show (s.setVm T'.vm).vm = T'.vm from rfl, hS'.1.alike.findClass]; exact hown, fun t k => st.trans k⟩
theorem callInitH (X : Stand p l e R (s.setVm vm0) m args below meth c T locs cells slots) (hx : p.tables.exec = Jvm.exec) (hZ : Z.Warmed39 (s.setVm vm0).vm) (hown : (s.setVm vm0).vm.findClass own = some m.cls) (hS : s.Since vm0 k0) (hk : k0 ≤ h.size) (hEL : EW Z a0 EL) (H : CHv Z EL vm0 h) (hxs : ∀ x ∈ xs, x < h.size ∧ Safe Z EL vm0 h x) (hy1 : y.name = "<init>")
    (w1 : (Cond.methodLink own index y).before a0 Z = true) (w2 : (Cond.instanceMethod y).before a0 Z = true) (w3 : (Cond.initialized y.cls).before a0 Z = true) (w4 : (Cond.code y bytes maxL none).before a0 Z = true)
    (hy : y.cls ≠ "java/lang/invoke/MethodHandle" ∧ y.cls ≠ "java/lang/invoke/VarHandle") (hM : MetH l y bytes maxL none [] rm Z EL xs as' h Qc) (eT : T.heap = h) {W : Nat} (hf : rm.frames + 1 ≤ R.frames) (hl : W + (maxL + 11) + rm.locals ≤ R.locals)
    (hc : cells + rm.cells ≤ R.cells) (hs : slots + rm.slots ≤ R.slots)
    {g : JFrame} (hg : g.method = m) (hsize : g.locals.size = c.maxLocals) {a : Addr} {argsL rest : List Value} (hlen : ∀ sig, parseMethodDescriptor y.desc = some sig → argsL.length = sig.parameters.length)
    (hstack : g.stack = argsL.reverse ++ .ref a :: rest) (hW : 2 * g.monitorRoom + (rest.map fun v => v.category).sum ≤ W) (hdg : decode c.code g.pc = .ok (.invokespecial index, 3)) (has : (Value.ref a :: argsL).toArray = as') :
    ∃ v T' h' L k1, Stand p l e R (s.setVm T'.vm) m args below meth c T' (locs ++ L) (cells + rm.cells) (slots + rm.slots) ∧ T'.heap = h' ∧ Qc v h' L ∧ s.Since T'.vm k1 ∧ k1 ≤ h'.size ∧ h.size ≤ h'.size ∧ CHr Z EL vm0 h T'.vm h' ∧ Z.Warmed39 (s.setVm T'.vm).vm ∧ (s.setVm T'.vm).vm.findClass own = some m.cls ∧ ∀ target, Steps p.tables e below (T'.setTop { g with pc := g.pc + 3, stack := v.toList ++ rest }) target → Steps p.tables e below (T.setTop g) target := by
  subst has
  subst eT
  obtain ⟨v, _, ⟨T', L', k', n'⟩, -, X', hS', hg', ⟨Lc, hQ, l1, y1, z1, hC1⟩, st⟩ := X.specialBackS hx (y := y) hy1 hown (mvT hZ w1) (mvT hZ w2) (mvT hZ w4) hy (backOfX (W := W) hM hZ w4 w3 hf hl hEL H hxs) (g := g) hg hsize (Steps.refl _) (a := a) (argsL := argsL) (rest := rest) hlen hstack hW hdg (fun _ _ => ⟨rfl, rfl, hc, hs⟩)
  dsimp only [Pt.U, Pt.locs, Pt.cells, Pt.slots] at X' l1 y1 z1 st hQ hS' hg' hC1
  subst l1 y1 z1
  exact ⟨v, T', _, Lc, _, X', rfl, hQ, hS.trans hS' (Nat.le_trans hk hg'), Nat.le_refl _, hg', hC1, State.Warmed39.trans (t := s.setVm vm0) hZ hS'.1, by rw [show (s.setVm T'.vm).vm = T'.vm from rfl, hS'.1.alike.findClass]; exact hown, fun t k => st.trans k⟩
theorem callVirtH (X : Stand p l e R (s.setVm vm0) m args below meth c T locs cells slots) (hx : p.tables.exec = Jvm.exec) (hZ : Z.Warmed39 (s.setVm vm0).vm) (hown : (s.setVm vm0).vm.findClass own = some m.cls) (hS : s.Since vm0 k0) (hk : k0 ≤ h.size) (hEL : EW Z a0 EL) (H : CHv Z EL vm0 h) (hxs : ∀ x ∈ xs, x < h.size ∧ Safe Z EL vm0 h x) {C : String}
    (w1 : (Cond.methodLink own index y).before a0 Z = true) (w2 : (Cond.declares y).before a0 Z = true) (hnf : NotFace (s.setVm vm0) y) (w5 : (Cond.selects C y z).before a0 Z = true) (w6 : (Cond.instanceMethod z).before a0 Z = true) (w3 : (Cond.initialized z.cls).before a0 Z = true) (w4 : (Cond.code z bytes maxL ret).before a0 Z = true)
    (hy : y.cls ≠ "java/lang/invoke/MethodHandle" ∧ y.cls ≠ "java/lang/invoke/VarHandle") (hM : MetH l z bytes maxL ret [] rm Z EL xs as' h Qc) (eT : T.heap = h) {a : Addr} (E : Exa Z h a C) {W : Nat} (hf : rm.frames + 1 ≤ R.frames) (hl : W + (maxL + 11) + rm.locals ≤ R.locals)
    (hc : cells + rm.cells ≤ R.cells) (hs : slots + rm.slots ≤ R.slots)
    {g : JFrame} (hg : g.method = m) (hsize : g.locals.size = c.maxLocals) {argsL rest : List Value} (hlen : ∀ sig, parseMethodDescriptor y.desc = some sig → argsL.length = sig.parameters.length)
    (hstack : g.stack = argsL.reverse ++ .ref a :: rest) (hW : 2 * g.monitorRoom + (rest.map fun v => v.category).sum ≤ W) (hdg : decode c.code g.pc = .ok (.invokevirtual index, 3)) (has : (Value.ref a :: argsL).toArray = as') :
    ∃ v T' h' L k1, Stand p l e R (s.setVm T'.vm) m args below meth c T' (locs ++ L) (cells + rm.cells) (slots + rm.slots) ∧ T'.heap = h' ∧ Qc v h' L ∧ s.Since T'.vm k1 ∧ k1 ≤ h'.size ∧ h.size ≤ h'.size ∧ CHr Z EL vm0 h T'.vm h' ∧ Z.Warmed39 (s.setVm T'.vm).vm ∧ (s.setVm T'.vm).vm.findClass own = some m.cls ∧ ∀ target, Steps p.tables e below (T'.setTop { g with pc := g.pc + 3, stack := v.toList ++ rest }) target → Steps p.tables e below (T.setTop g) target := by
  subst has
  subst eT
  obtain ⟨cq, kq, qa, qb, qc⟩ := isOf hZ rfl E
  obtain ⟨v, _, ⟨T', L', k', n'⟩, -, X', hS', hg', ⟨Lc, hQ, l1, y1, z1, hC1⟩, st⟩ := X.virtualBackS hx (y := y) (z := z) hown (mvT hZ w1) (mvT hZ w2) hnf (mvT hZ w5) (mvT hZ w6) hy (backOfX (W := W) hM hZ w4 w3 hf hl hEL H hxs) qa qc (g := g) hg hsize (Steps.refl _) (argsL := argsL) (rest := rest) hlen hstack hW hdg (fun _ _ => ⟨rfl, rfl, hc, hs⟩)
  dsimp only [Pt.U, Pt.locs, Pt.cells, Pt.slots] at X' l1 y1 z1 st hQ hS' hg' hC1
  subst l1 y1 z1
  exact ⟨v, T', _, Lc, _, X', rfl, hQ, hS.trans hS' (Nat.le_trans hk hg'), Nat.le_refl _, hg', hC1, State.Warmed39.trans (t := s.setVm vm0) hZ hS'.1, by rw [show (s.setVm T'.vm).vm = T'.vm from rfl, hS'.1.alike.findClass]; exact hown, fun t k => st.trans k⟩
theorem safeFresh {hq : Heap} {x : Addr} (K : Keep hb hq []) (H : CHv Z EL vm0 hb) (hx : hb.size ≤ x) : Safe Z EL vm0 hq x := fun B => Safe.new hx ((H.keepStep K all0).2 _ B)
end OwnH
section OwnA
variable {Z : State} {h h' : Heap} {a b : Nat} {k : ClassId} {ty : FieldType} {n : Nat} {f g : Nat → Int32} {sl : Nat} {v : Value} {ws : List Nat}
/-- an array of n ints, told by a function -/
def Arf (Z : State) (h : Heap) (a : Nat) (k : ClassId) (ty : FieldType) (n : Nat) (f : Nat → Int32) : Prop := ∃ c : Cell, Arr Z h a c ty ∧ c.cls = k ∧ c.slots.size = n ∧ ∀ i, i < n → c.slots[i]? = some (.int (f i))
theorem Arf.lt (F : Arf Z h a k ty n f) : a < h.size := by obtain ⟨c, A, -⟩ := F; exact A.lt
theorem Arf.ext (F : Arf Z h a k ty n f) (E : Ext h h') : Arf Z h' a k ty n f := by obtain ⟨c, A, r⟩ := F; exact ⟨c, A.ext E, r⟩
theorem Arf.other (F : Arf Z h b k ty n f) (W : Wr h h' a sl v) (q : b ≠ a) : Arf Z h' b k ty n f := by obtain ⟨c, A, r⟩ := F; exact ⟨c, A.other W q, r⟩
theorem Arf.keep (F : Arf Z h a k ty n f) (K : Keep h h' ws) (q : a ∉ ws) : Arf Z h' a k ty n f := by obtain ⟨c, A, r⟩ := F; exact ⟨c, ⟨K.2.1 a c A.1 q, A.2⟩, r⟩
theorem Arf.congr (F : Arf Z h a k ty n f) (q : ∀ i, i < n → f i = g i) : Arf Z h a k ty n g := by obtain ⟨c, A, r1, r2, H⟩ := F; exact ⟨c, A, r1, r2, fun i hi => by rw [← q i hi]; exact H i hi⟩
theorem Arf.set {c : Cell} (A : Arr Z h a c ty) (q1 : c.cls = k) (S : c.slots.size = n) (H : ∀ i, i < n → c.slots[i]? = some (.int (f i))) {j : Nat} {x : Int32} (W : Wr h h' a j (.int x)) : Arf Z h' a k ty n (fun i => if i = j then x else f i) := by
  refine ⟨_, A.same W, q1, by rw [sz_set]; exact S, fun i hi => ?_⟩
  show ((c.slots.setIfInBounds j (.int x)))[i]? = some (.int (if i = j then x else f i))
  by_cases e : i = j
  · subst e; rw [if_pos rfl, Array.getElem?_setIfInBounds_self_of_lt (by omega)]
  · rw [if_neg e, Array.getElem?_setIfInBounds_ne (Ne.symm e)]; exact H i hi
theorem Arf.new {z : Int32} (A : Arr Z h a (newA k ty z) ty) (hd : defaultValue ty = .int 0) (hn : z.toNatClampNeg = n) : Arf Z h a k ty n (fun _ => 0) := by
  refine ⟨_, A, rfl, by rw [sz_new]; exact hn, fun i hi => ?_⟩
  have hi' : i < (newA k ty z).slots.size := by rw [sz_new]; omega
  rw [Array.getElem?_eq_getElem hi']
  simp [newA, hd]
/-- small naturals as ints -/
theorem nat_clamp {i : Nat} (h : i < 2 ^ 31) : (Int32.ofNat i).toNatClampNeg = i := by
  have : (Int32.ofNat i).toInt = i := Int32.toInt_ofNat_of_lt (by omega)
  simp only [Int32.toNatClampNeg, this]; omega
theorem nat_toInt {i : Nat} (h : i < 2 ^ 31) : (Int32.ofNat i).toInt = i := Int32.toInt_ofNat_of_lt (by omega)
theorem nat_lt {i n : Nat} (h1 : i < 2 ^ 31) (h2 : n < 2 ^ 31) : Int32.ofNat i < Int32.ofNat n ↔ i < n := by rw [Int32.lt_iff_toInt_lt, nat_toInt h1, nat_toInt h2]; omega
theorem nat_one (i : Nat) : Int32.ofNat i + (1 : Int32) = Int32.ofNat (i + 1) := (Int32.ofNat_add i 1).symm
theorem nat_inb {c : Cell} {i n : Nat} (S : c.slots.size = n) (hi : i < n) (hn : n < 2 ^ 31) : ¬ (Int32.ofNat i < 0 ∨ c.slots.size ≤ (Int32.ofNat i).toNatClampNeg) := by
  rw [nat_clamp (by omega), S, Int32.lt_iff_toInt_lt, nat_toInt (by omega)]
  have : (0 : Int32).toInt = 0 := by decide
  omega
end OwnA
def i2c (x : Int32) : Int32 := x.toUInt32.toUInt16.toUInt32.toInt32
def i2b (x : Int32) : Int32 := x.toInt8.toInt32
theorem bv_i2c (x : Int32) : (i2c x).toBitVec = (x.toBitVec.setWidth 16).setWidth 32 := by
  simp only [i2c, UInt32.toBitVec_toInt32, UInt16.toBitVec_toUInt32, UInt32.toBitVec_toUInt16, Int32.toBitVec_toUInt32]
theorem bv_i2b (x : Int32) : (i2b x).toBitVec = (x.toBitVec.setWidth 8).signExtend 32 := by
  simp only [i2b, Int8.toBitVec_toInt32, Int32.toBitVec_toInt8, BitVec.signExtend_eq_setWidth_of_le _ (by decide : 8 ≤ 32)]
theorem bit255 (i : Nat) (h : i < 32) : (255#32).getLsbD i = decide (i < 8) := by
  have : (255#32) = (BitVec.allOnes 8).setWidth 32 := by decide
  rw [this, BitVec.getLsbD_setWidth, BitVec.getLsbD_allOnes]; simp; omega
/-- a byte, read back -/
theorem bv_byte (x : BitVec 32) : ((((x.setWidth 8).signExtend 32).setWidth 8).signExtend 32) &&& 255#32 = (x.setWidth 8).setWidth 32 := by
  apply BitVec.eq_of_getLsbD_eq
  intro i hi
  rw [BitVec.getLsbD_and, bit255 i hi]
  simp only [BitVec.getLsbD_signExtend, BitVec.getLsbD_setWidth]
  by_cases h : i < 8
  · simp [h, hi]
  · simp [h]
theorem own_latin (c : Int32) (h0 : 0 ≤ c.toInt) (h1 : c.toInt ≤ 255) : i2c ((i2b (i2b c)) &&& 255) = c := by
  apply Int32.toBitVec_inj.mp
  rw [bv_i2c, Int32.toBitVec_and, bv_i2b, bv_i2b, show (255 : Int32).toBitVec = 255#32 from rfl, bv_byte]
  have hc : c.toBitVec.toNat ≤ 255 := by
    have e : c.toInt = c.toBitVec.toInt := rfl
    rw [e, BitVec.toInt_eq_toNat_cond] at h0 h1
    split at h0 <;> split at h1 <;> omega
  apply BitVec.eq_of_toNat_eq
  simp only [BitVec.toNat_setWidth]
  omega
theorem own_pack (c : Int32) (h0 : 0 ≤ c.toInt) (h1 : c.toInt ≤ 65535) :
    i2c ((((i2b (i2b (c >>> ((0 : Int32) &&& 31)))) &&& 255) <<< ((0 : Int32) &&& 31)) ||| (((i2b (i2b (c >>> ((8 : Int32) &&& 31)))) &&& 255) <<< ((8 : Int32) &&& 31))) = c := by
  have e0 : ((0 : Int32) &&& 31) = 0 := by decide
  have e8 : ((8 : Int32) &&& 31) = 8 := by decide
  have hc : c.toBitVec.toNat ≤ 65535 := by
    have e : c.toInt = c.toBitVec.toInt := rfl
    rw [e, BitVec.toInt_eq_toNat_cond] at h0 h1
    split at h0 <;> split at h1 <;> omega
  apply Int32.toBitVec_inj.mp
  rw [e0, e8, bv_i2c, Int32.toBitVec_or, Int32.toBitVec_shiftLeft, Int32.toBitVec_shiftLeft, Int32.toBitVec_and, Int32.toBitVec_and, bv_i2b, bv_i2b, bv_i2b, bv_i2b, Int32.toBitVec_shiftRight, Int32.toBitVec_shiftRight]
  have s0 : ((0 : Int32).toBitVec.smod 32) = 0#32 := by decide
  have s8 : ((8 : Int32).toBitVec.smod 32) = 8#32 := by decide
  rw [s0, s8, show (255 : Int32).toBitVec = 255#32 from rfl, bv_byte, bv_byte]
  have hbit : ∀ i, 16 ≤ i → c.toBitVec.getLsbD i = false := fun i hi => by
    rw [BitVec.getLsbD, Nat.testBit_lt_two_pow]
    exact Nat.lt_of_le_of_lt hc (Nat.lt_of_lt_of_le (by decide : 65535 < 2 ^ 16) (Nat.pow_le_pow_right (by decide) hi))
  have hmsb : c.toBitVec.msb = false := by rw [BitVec.msb_eq_getLsbD_last]; exact hbit 31 (by decide)
  apply BitVec.eq_of_getLsbD_eq
  intro i hi
  simp only [BitVec.getLsbD_setWidth, BitVec.getLsbD_or, BitVec.shiftLeft_eq', BitVec.sshiftRight_eq', BitVec.getLsbD_shiftLeft, BitVec.getLsbD_sshiftRight, hmsb]
  have t0 : (0#32).toNat = 0 := rfl
  have t8 : (8#32).toNat = 8 := rfl
  simp only [t0, t8]
  by_cases h8 : i < 8
  · have h16 : i < 16 := by omega
    simp [h8, hi, h16]
  · by_cases h16 : i < 16
    · have h1 : 8 + (i - 8) = i := by omega
      have h2 : i - 8 < 32 := by omega
      have h3 : i - 8 < 8 := by omega
      have h4 : ¬ 32 ≤ i - 8 := by omega
      simp [h8, hi, h16, h1, h2, h3, h4]
    · have hb := hbit i (by omega)
      simp only [BitVec.getLsbD_eq_getElem hi] at hb
      simp [h8, hi, h16, hb]
theorem own_i2c (c : Int32) (h0 : 0 ≤ c.toInt) (h1 : c.toInt ≤ 65535) : i2c c = c := by
  have hc : c.toBitVec.toNat ≤ 65535 := by
    have e : c.toInt = c.toBitVec.toInt := rfl
    rw [e, BitVec.toInt_eq_toNat_cond] at h0 h1
    split at h0 <;> split at h1 <;> omega
  apply Int32.toBitVec_inj.mp
  rw [bv_i2c]
  apply BitVec.eq_of_toNat_eq
  simp only [BitVec.toNat_setWidth]
  omega

/-- the JDK's own statics that the String bodies read -/
def SEnv (Z : State) (cs : Int32) (fm : Value) : Prop := Sta Z Z.heap "java/lang/String" "COMPACT_STRINGS" "Z" (.int cs) ∧ ¬ cs = 0 ∧ Sta Z Z.heap "java/lang/StringUTF16" "$assertionsDisabled" "Z" (.int (1 : Int32)) ∧ Sta Z Z.heap "java/lang/StringUTF16" "HI_BYTE_SHIFT" "I" (.int (0 : Int32)) ∧ Sta Z Z.heap "java/lang/StringUTF16" "LO_BYTE_SHIFT" "I" (.int (8 : Int32)) ∧ Sta Z Z.heap "jdk/internal/util/Preconditions" "SIOOBE_FORMATTER" "Ljava/util/function/BiFunction;" fm ∧ fm.isRef = true
def chars (n : Nat) (f : Nat → Int32) : Prop := n < 2 ^ 28 ∧ ∀ i, i < n → 0 ≤ (f i).toInt ∧ (f i).toInt ≤ 65535
def lat (f : Nat → Int32) (i : Nat) : Int32 := i2b (i2b (f i))
def utf (f : Nat → Int32) (i : Nat) : Int32 := if i % 2 = 0 then i2b (i2b (f (i / 2) >>> ((0 : Int32) &&& 31))) else i2b (i2b (f (i / 2) >>> ((8 : Int32) &&& 31)))
/-- the String at a spells f 0, .., f (n - 1) -/
def Str (Z : State) (h : Heap) (a : Nat) (n : Nat) (f : Nat → Int32) : Prop := chars n f ∧ Exa Z h a "java/lang/String" ∧ ∃ b k, Fld Z h a "java/lang/String" "value" "[B" (.ref b) ∧
  ((Fld Z h a "java/lang/String" "coder" "B" (.int (0 : Int32)) ∧ (∀ i, i < n → (f i).toInt ≤ 255) ∧ Arf Z h b k .byte n (lat f)) ∨ (Fld Z h a "java/lang/String" "coder" "B" (.int (1 : Int32)) ∧ Arf Z h b k .byte (2 * n) (utf f)))
theorem Str.ext {Z : State} {h h' : Heap} {a : Nat} {n : Nat} {f : Nat → Int32} (S : Str Z h a n f) (E : Ext h h') : Str Z h' a n f := by
  obtain ⟨hc, X, b, k, F, r⟩ := S
  refine ⟨hc, X.ext E, b, k, F.ext E, ?_⟩
  rcases r with ⟨r1, r2, r3⟩ | ⟨r1, r2⟩
  · exact .inl ⟨r1.ext E, r2, r3.ext E⟩
  · exact .inr ⟨r1.ext E, r2.ext E⟩
theorem extRefl (h : Heap) : Ext h h := ⟨Nat.le_refl _, fun _ _ q => q⟩
theorem extTr {h h' h'' : Heap} (E : Ext h h') (F : Ext h' h'') : Ext h h'' := ⟨Nat.le_trans E.1 F.1, fun a c q => F.2 a c (E.2 a c q)⟩
theorem extKp {h h' h'' : Heap} {ws : List Nat} (E : Ext h h') (K : Keep h' h'' ws) (q : ∀ x ∈ ws, h.size ≤ x) : Ext h h'' :=
  ⟨Nat.le_trans E.1 K.1, fun a c r => K.2.1 a c (E.2 a c r) fun m => absurd (q a m) (Nat.not_le.mpr (Array.getElem?_eq_some_iff.mp r).1)⟩
theorem extW {h h' h'' : Heap} {a : Nat} {sl : Nat} {v : Value} (E : Ext h h') (W : Wr h' h'' a sl v) (q : h.size ≤ a) : Ext h h'' := extKp E (Keep.of_wr W) (allS q all0)
theorem own_shr1 {n : Nat} (h : n < 2 ^ 28) : Int32.ofNat (2 * n) >>> ((1 : Int32) &&& 31) = Int32.ofNat n := by
  apply Int32.toInt_inj.mp
  rw [Jvm.Kit.i32_shr _ _ (k := 1) (by decide), nat_toInt (by omega), nat_toInt (by omega)]
  omega
theorem own_shr0 (n : Nat) : Int32.ofNat n >>> ((0 : Int32) &&& 31) = Int32.ofNat n := by
  apply Int32.toInt_inj.mp
  rw [Jvm.Kit.i32_shr _ _ (k := 0) (by decide)]
  omega
theorem own_shl1 {n : Nat} (h : n < 2 ^ 28) : Int32.ofNat n <<< ((1 : Int32) &&& 31) = Int32.ofNat (2 * n) := by
  apply Int32.toInt_inj.mp
  rw [Jvm.Kit.i32_shl _ _ (k := 1) (by decide) (by rw [nat_toInt (by omega)]; omega) (by rw [nat_toInt (by omega)]; omega), nat_toInt (by omega), nat_toInt (by omega)]
  omega
theorem nat_nn {i : Nat} (h : i < 2 ^ 31) : ¬ Int32.ofNat i < (0 : Int32) := by
  rw [Int32.lt_iff_toInt_lt, nat_toInt h]; have : (0 : Int32).toInt = 0 := by decide
  omega

theorem own_empty {Z : State} {h : Heap} {b : Nat} {k : ClassId} (A : Arv Z h b k .byte 0 [] (.int 0)) : Arf Z h b k .byte 0 (fun _ => 0) := by
  obtain ⟨c, A, q, S, -⟩ := A
  exact ⟨c, A, q, S, fun i hi => absurd hi (Nat.not_lt_zero _)⟩
theorem own_step {P : Nat → Prop} {i : Nat} (h : ∀ j, j < i → P j) (q : P i) : ∀ j, j < i + 1 → P j := fun j hj => by
  by_cases e : j = i
  · rw [e]; exact q
  · exact h j (by omega)
theorem own_255 (x : Int32) : (255 : Int32) < x ↔ 255 < x.toInt := by
  rw [Int32.lt_iff_toInt_lt]; have : (255 : Int32).toInt = 255 := by decide
  rw [this]
theorem nat_ltc {n : Nat} (h : n < 2 ^ 28) : Int32.ofNat n < (1073741823 : Int32) := by
  rw [Int32.lt_iff_toInt_lt, nat_toInt (by omega)]; have : (1073741823 : Int32).toInt = 1073741823 := by decide
  omega
theorem nat_ne {i n : Nat} (h : i < n) (hn : n < 2 ^ 31) : ¬ Int32.ofNat i = Int32.ofNat n := fun q => by
  have := congrArg Int32.toInt q
  rw [nat_toInt (by omega), nat_toInt hn] at this
  omega
theorem nat_pos {n : Nat} (h : 0 < n) (hn : n < 2 ^ 31) : ¬ Int32.ofNat n = (0 : Int32) := fun q => nat_ne h hn q.symm
def put (g : Nat → Int32) (i : Nat) (x : Int32) : Nat → Int32 := fun z => if z = 2 * i + 1 then i2b (i2b (x >>> ((8 : Int32) &&& 31))) else if z = 2 * i then i2b (i2b (x >>> ((0 : Int32) &&& 31))) else g z
theorem own_put {g f : Nat → Int32} {i : Nat} (h : ∀ j, j < 2 * i → g j = utf f j) : ∀ j, j < 2 * (i + 1) → put g i (f i) j = utf f j := fun j hj => by
  unfold put
  by_cases h1 : j = 2 * i + 1
  · rw [if_pos h1, h1]; unfold utf; rw [if_neg (by omega), show (2 * i + 1) / 2 = i by omega]
  · by_cases h2 : j = 2 * i
    · rw [if_neg h1, if_pos h2, h2]; unfold utf; rw [if_pos (by omega), show 2 * i / 2 = i by omega]
    · rw [if_neg h1, if_neg h2]; exact h j (by omega)
theorem own_lat {g f : Nat → Int32} {i : Nat} (h : ∀ j, j < i → g j = lat f j) : ∀ j, j < i + 1 → (if j = i then nar .byte ((f i).toInt8.toInt32) else g j) = lat f j := fun j hj => by
  by_cases h1 : j = i
  · rw [if_pos h1, h1]; rfl
  · rw [if_neg h1]; exact h j (by omega)
theorem own_coder0 (n : Nat) : nar .byte ((((Int32.ofNat n - Int32.ofNat n).toUInt32 >>> ((31 : Int32) &&& 31).toUInt32).toInt32).toInt8.toInt32) = 0 := by rw [Int32.sub_self]; decide
theorem own_coder1 {n : Nat} (h0 : 0 < n) (h : n < 2 ^ 28) : nar .byte ((((Int32.ofNat n - Int32.ofNat (2 * n)).toUInt32 >>> ((31 : Int32) &&& 31).toUInt32).toInt32).toInt8.toInt32) = 1 := by
  have e : ((Int32.ofNat n - Int32.ofNat (2 * n)).toUInt32 >>> ((31 : Int32) &&& 31).toUInt32) = 1 := by
    apply UInt32.toNat_inj.mp
    have e1 : (Int32.ofNat n - Int32.ofNat (2 * n)).toUInt32.toNat = 2 ^ 32 - n := by
      show ((Int32.ofNat n - Int32.ofNat (2 * n)).toBitVec).toNat = _
      rw [Int32.toBitVec_sub, Int32.toBitVec_ofNat', Int32.toBitVec_ofNat']
      simp only [BitVec.toNat_sub, BitVec.toNat_ofNat]
      omega
    rw [UInt32.toNat_shiftRight, e1, show ((((31 : Int32) &&& 31).toUInt32).toNat % 32) = 31 from by decide, Nat.shiftRight_eq_div_pow]
    show (2 ^ 32 - n) / 2 ^ 31 = 1
    omega
  rw [e]; decide
theorem own_i2cr (x : Int32) : 0 ≤ (i2c x).toInt ∧ (i2c x).toInt ≤ 65535 := by
  have e : (i2c x).toInt = ((x.toBitVec.setWidth 16).setWidth 32).toInt := by rw [← bv_i2c]; rfl
  rw [e, BitVec.toInt_eq_toNat_cond, BitVec.toNat_setWidth, BitVec.toNat_setWidth]
  have := x.toBitVec.toNat % 2 ^ 16
  split <;> omega
theorem own_ne0 {args : Array Value} {s : State} {t : Term} {z : Int32} (h : (Cond.not (.eq t (.int 0))).value args s none s [] = some true) (e : t.eval args s none [] s = some (.int z)) : ¬ z = 0 := by
  intro q; subst q; simp [Cond.value, Term.eval, e] at h
theorem own_isref {args : Array Value} {s : State} {t : Term} (h : (Cond.isRef t).value args s none s [] = some true) : ∃ v : Value, t.eval args s none [] s = some v ∧ v.isRef = true := by
  simp only [Cond.value] at h
  cases e : t.eval args s none [] s with
  | none => simp [e] at h
  | some v => refine ⟨v, rfl, ?_⟩; cases v <;> simp [e] at h ⊢ <;> rfl

def low (c : Int32) : Int32 := if c < 65 then c else if 90 < c then c else c + 32
theorem own_low {c : Int32} (h1 : ¬ c < 65) (h2 : ¬ 90 < c) : i2c (i2c (c + 32)) = c + 32 ∧ i2c (c + 32) = c + 32 ∧ 0 ≤ (c + 32).toInt ∧ (c + 32).toInt ≤ 65535 ∧ 90 < (c + 32).toInt := by
  rw [Int32.lt_iff_toInt_lt] at h1 h2
  have e1 : (65 : Int32).toInt = 65 := by decide
  have e2 : (90 : Int32).toInt = 90 := by decide
  have e3 : (32 : Int32).toInt = 32 := by decide
  rw [e1] at h1; rw [e2] at h2
  have e : (c + 32).toInt = c.toInt + 32 := by rw [Jvm.Kit.i32_add] <;> rw [e3] <;> omega
  have r : i2c (c + 32) = c + 32 := own_i2c _ (by omega) (by omega)
  exact ⟨by rw [r, r], r, by omega, by omega, by omega⟩
def rng (c : Int32) : Prop := 0 ≤ c.toInt ∧ c.toInt ≤ 65535
def noCap (c : Int32) : Prop := c < 65 ∨ 90 < c
def pre2 (a b : Int32) : Nat → Int32 := fun j => if j = 0 then a else b
def t3 (a b c : Int32) : Nat → Int32 := fun j => if j = 0 then a else if j = 1 then b else c
theorem own_p2 {a b : Int32} (ha : rng a) (hb : rng b) (j : Nat) : 0 ≤ (pre2 a b j).toInt ∧ (pre2 a b j).toInt ≤ 65535 := by unfold pre2; split; exact ha; exact hb
theorem own_t3 {a b c : Int32} (ha : rng a) (hb : rng b) (hc : rng c) (j : Nat) : 0 ≤ (t3 a b c j).toInt ∧ (t3 a b c j).toInt ≤ 65535 := by unfold t3; split; exact ha; split; exact hb; exact hc
theorem own_m (x : Int32) : ∃ m : Nat, m ≤ 2 ∧ (x &&& 2147483647) % 3 = Int32.ofNat m := by
  have e : (x &&& 2147483647).toInt = x.toInt % 2 ^ 31 := Jvm.Kit.i32_mask x 2147483647 (k := 31) (by decide) (by decide)
  have e3 : (3 : Int32).toInt = 3 := by decide
  have q : ((x &&& 2147483647) % 3).toInt = (x.toInt % 2 ^ 31) % 3 := by rw [Jvm.Kit.i32_rem_nonneg (by omega), e, e3]
  refine ⟨((x.toInt % 2 ^ 31) % 3).toNat, by omega, ?_⟩
  apply Int32.toInt_inj.mp
  rw [q, nat_toInt (by omega)]
  omega
theorem own_n (x : Int32) : ∃ m : Nat, m ≤ 3 ∧ x &&& 3 = Int32.ofNat m := by
  have e : (x &&& 3).toInt = x.toInt % 2 ^ 2 := Jvm.Kit.i32_mask x 3 (k := 2) (by decide) (by decide)
  refine ⟨(x.toInt % 2 ^ 2).toNat, by omega, ?_⟩
  apply Int32.toInt_inj.mp
  rw [e, nat_toInt (by omega)]
  omega
theorem own_same {t p : Int32} (hp : noCap p) : low t = p ↔ (t = p ∨ (¬ t < 65 ∧ ¬ 90 < t ∧ i2c (t + 32) = p)) := by
  unfold low
  by_cases h1 : t < 65
  · rw [if_pos h1]; exact ⟨Or.inl, fun q => q.elim id (fun z => absurd h1 z.1)⟩
  · by_cases h2 : 90 < t
    · rw [if_neg h1, if_pos h2]; exact ⟨Or.inl, fun q => q.elim id (fun z => absurd h2 z.2.1)⟩
    · rw [if_neg h1, if_neg h2, (own_low h1 h2).2.1]
      exact ⟨fun q => Or.inr ⟨h1, h2, q⟩, fun q => q.elim (fun z => by subst z; rcases hp with hp | hp; exact absurd hp h1; exact absurd hp h2) (fun z => z.2.2)⟩

theorem own_atoms {Z : State} {a0 : Array Value} (hw : ∀ d ∈ tables_1, d.before a0 Z = true) : ∀ a ∈ Bundle.stringAtoms, a.before a0 Z = true := by
  intro a ha
  simp only [Bundle.stringAtoms, List.mem_cons, List.not_mem_nil, or_false] at ha
  rcases ha with rfl | rfl | rfl | rfl | rfl | rfl | rfl
  · exact (hw _ (List.mem_of_getElem? (i := 12) rfl))
  · exact (hw _ (List.mem_of_getElem? (i := 11) rfl))
  · exact (hw _ (List.mem_of_getElem? (i := 24) rfl))
  · exact (hw _ (List.mem_of_getElem? (i := 25) rfl))
  · exact (hw _ (List.mem_of_getElem? (i := 26) rfl))
  · exact (hw _ (List.mem_of_getElem? (i := 27) rfl))
  · exact (hw _ (List.mem_of_getElem? (i := 28) rfl))

theorem ef_rmP3n (m : MethodId) (x0 : Int32) (x1 : Int32) : entryFrame m #[(.int x0), (.int x1), .null] 3 = mkF m 0 #[.val (.int x0), .val (.int x1), .val .null] [] := by first | (simp [entryFrame, mkF, argsToLocals, Value.category]; done) | rfl
theorem d24_0 : decode jdk_41_method_11_code 0 = .ok (.iload_n 0, 1) := by decide +kernel
theorem d24_1 : decode jdk_41_method_11_code 1 = .ok (.ifCond .lt 8, 3) := by decide +kernel
theorem d24_4 : decode jdk_41_method_11_code 4 = .ok (.iload_n 0, 1) := by decide +kernel
theorem d24_5 : decode jdk_41_method_11_code 5 = .ok (.iload_n 1, 1) := by decide +kernel
theorem d24_6 : decode jdk_41_method_11_code 6 = .ok (.if_icmp .lt 10, 3) := by decide +kernel
theorem d24_16 : decode jdk_41_method_11_code 16 = .ok (.iload_n 0, 1) := by decide +kernel
theorem d24_17 : decode jdk_41_method_11_code 17 = .ok (.ireturn, 1) := by decide +kernel
set_option maxRecDepth 65536 in
set_option maxHeartbeats 40000000 in
theorem rmP3n (l : Launch) (Z : State) (a0 : Array Value) (hw : ∀ d ∈ tables_1, d.before a0 Z = true) (p1 p2 : Int32) (h0 : Heap) (n0 : Nat) (Z0 : n0 ≤ h0.size) (h1 : ¬ p1 < 0) (h2 : p1 < p2) :
    Met l (⟨"jdk/internal/util/Preconditions", "checkIndex", "(IILjava/util/function/BiFunction;)I"⟩ : MethodName) jdk_41_method_11_code 3 (some .int) [] ({ frames := 0, cells := 0, slots := 0, locals := 0 } : Room) Z #[(.int p1), (.int p2), .null] h0 (fun v h L => v = some (.int p1) ∧ Fr n0 L ∧ h = h0) := by
  refine of_goal (plainFor_of_name (by first | (simp [plainName, overriddenIn]; done) | decide +kernel)) ?_
  intro p e s m below meth c s₁ C X0 e0
  have C0 := C
  obtain ⟨hx, hZ, hby, hml, hret, hown, hnm⟩ := C
  have hown : s.vm.findClass "jdk/internal/util/Preconditions" = some m.cls := hown
  have hret : meth.sig.returnType = (some .int) := hret
  have N0 := Fr.nil n0
  rw [ef_rmP3n]
  refine Goal.step (T' := s₁) (g' := (mkF m 1 #[.val (.int p1), .val (.int p2), .val .null] [(.int p1)])) ?_ (fun t k => XS.iloadN X0.here hx rfl (hb hby d24_0) rfl k)
  refine Goal.step (T' := s₁) (g' := (mkF m 4 #[.val (.int p1), .val (.int p2), .val .null] [])) ?_ (fun t k => XS.ifNo X0.here hx rfl (hb hby d24_1) rfl ((if0 _ _).trans (flt h1).1) k)
  refine Goal.step (T' := s₁) (g' := (mkF m 5 #[.val (.int p1), .val (.int p2), .val .null] [(.int p1)])) ?_ (fun t k => XS.iloadN X0.here hx rfl (hb hby d24_4) rfl k)
  refine Goal.step (T' := s₁) (g' := (mkF m 6 #[.val (.int p1), .val (.int p2), .val .null] [(.int p2), (.int p1)])) ?_ (fun t k => XS.iloadN X0.here hx rfl (hb hby d24_5) rfl k)
  refine Goal.step (T' := s₁) (g' := (mkF m 16 #[.val (.int p1), .val (.int p2), .val .null] [])) ?_ (fun t k => XS.icmpYes X0.here hx rfl (pc0 := 6) (pc' := 16) rfl (hb hby d24_6) rfl (tlt h2).1 (by decide) (by decide) k)
  refine Goal.step (T' := s₁) (g' := (mkF m 17 #[.val (.int p1), .val (.int p2), .val .null] [(.int p1)])) ?_ (fun t k => XS.iloadN X0.here hx rfl (hb hby d24_16) rfl k)
  refine Goal.retI X0 hx hret (hb hby d24_17) ?_
  refine ⟨?_, by decide, by decide⟩
  rw [e0]
  exact ⟨rfl, N0, rfl⟩
theorem ef_rmP3r (m : MethodId) (x0 : Int32) (x1 : Int32) (x2 : Nat) : entryFrame m #[(.int x0), (.int x1), (.ref x2)] 3 = mkF m 0 #[.val (.int x0), .val (.int x1), .val (.ref x2)] [] := by first | (simp [entryFrame, mkF, argsToLocals, Value.category]; done) | rfl
set_option maxRecDepth 65536 in
set_option maxHeartbeats 40000000 in
theorem rmP3r (l : Launch) (Z : State) (a0 : Array Value) (hw : ∀ d ∈ tables_1, d.before a0 Z = true) (p1 p2 : Int32) (r3 : Nat) (h0 : Heap) (n0 : Nat) (Z0 : n0 ≤ h0.size) (h1 : ¬ p1 < 0) (h2 : p1 < p2) :
    Met l (⟨"jdk/internal/util/Preconditions", "checkIndex", "(IILjava/util/function/BiFunction;)I"⟩ : MethodName) jdk_41_method_11_code 3 (some .int) [] ({ frames := 0, cells := 0, slots := 0, locals := 0 } : Room) Z #[(.int p1), (.int p2), (.ref r3)] h0 (fun v h L => v = some (.int p1) ∧ Fr n0 L ∧ h = h0) := by
  refine of_goal (plainFor_of_name (by first | (simp [plainName, overriddenIn]; done) | decide +kernel)) ?_
  intro p e s m below meth c s₁ C X0 e0
  have C0 := C
  obtain ⟨hx, hZ, hby, hml, hret, hown, hnm⟩ := C
  have hown : s.vm.findClass "jdk/internal/util/Preconditions" = some m.cls := hown
  have hret : meth.sig.returnType = (some .int) := hret
  have N0 := Fr.nil n0
  rw [ef_rmP3r]
  refine Goal.step (T' := s₁) (g' := (mkF m 1 #[.val (.int p1), .val (.int p2), .val (.ref r3)] [(.int p1)])) ?_ (fun t k => XS.iloadN X0.here hx rfl (hb hby d24_0) rfl k)
  refine Goal.step (T' := s₁) (g' := (mkF m 4 #[.val (.int p1), .val (.int p2), .val (.ref r3)] [])) ?_ (fun t k => XS.ifNo X0.here hx rfl (hb hby d24_1) rfl ((if0 _ _).trans (flt h1).1) k)
  refine Goal.step (T' := s₁) (g' := (mkF m 5 #[.val (.int p1), .val (.int p2), .val (.ref r3)] [(.int p1)])) ?_ (fun t k => XS.iloadN X0.here hx rfl (hb hby d24_4) rfl k)
  refine Goal.step (T' := s₁) (g' := (mkF m 6 #[.val (.int p1), .val (.int p2), .val (.ref r3)] [(.int p2), (.int p1)])) ?_ (fun t k => XS.iloadN X0.here hx rfl (hb hby d24_5) rfl k)
  refine Goal.step (T' := s₁) (g' := (mkF m 16 #[.val (.int p1), .val (.int p2), .val (.ref r3)] [])) ?_ (fun t k => XS.icmpYes X0.here hx rfl (pc0 := 6) (pc' := 16) rfl (hb hby d24_6) rfl (tlt h2).1 (by decide) (by decide) k)
  refine Goal.step (T' := s₁) (g' := (mkF m 17 #[.val (.int p1), .val (.int p2), .val (.ref r3)] [(.int p1)])) ?_ (fun t k => XS.iloadN X0.here hx rfl (hb hby d24_16) rfl k)
  refine Goal.retI X0 hx hret (hb hby d24_17) ?_
  refine ⟨?_, by decide, by decide⟩
  rw [e0]
  exact ⟨rfl, N0, rfl⟩
theorem d23_0 : decode jdk_42_method_155_code 0 = .ok (.iload_n 0, 1) := by decide +kernel
theorem d23_1 : decode jdk_42_method_155_code 1 = .ok (.iload_n 1, 1) := by decide +kernel
theorem d23_2 : decode jdk_42_method_155_code 2 = .ok (.getstatic 1053, 3) := by decide +kernel
theorem d23_5 : decode jdk_42_method_155_code 5 = .ok (.invokestatic 1059, 3) := by decide +kernel
theorem pd_0 : parseMethodDescriptor "(IILjava/util/function/BiFunction;)I" = some ⟨[.int, .int, (.object "java/util/function/BiFunction")], some .int⟩ := by decide +kernel
theorem d23_8 : decode jdk_42_method_155_code 8 = .ok (.pop, 1) := by decide +kernel
theorem d23_9 : decode jdk_42_method_155_code 9 = .ok (.return_, 1) := by decide +kernel
theorem ef_23 (m : MethodId) (x0 : Int32) (x1 : Int32) : entryFrame m #[(.int x0), (.int x1)] 2 = mkF m 0 #[.val (.int x0), .val (.int x1)] [] := by first | (simp [entryFrame, mkF, argsToLocals, Value.category]; done) | rfl
set_option maxRecDepth 65536 in
set_option maxHeartbeats 40000000 in
theorem rmSCI (l : Launch) (Z : State) (a0 : Array Value) (hw : ∀ d ∈ tables_1, d.before a0 Z = true) (p1 p2 : Int32) (cs : Int32) (fm : Value) (h0 : Heap) (n0 : Nat) (Z0 : n0 ≤ h0.size) (SE : SEnv Z cs fm) (O0 : Old Z n0 h0) (h1 : ¬ p1 < 0) (h2 : p1 < p2) :
    Met l (⟨"java/lang/String", "checkIndex", "(II)V"⟩ : MethodName) jdk_42_method_155_code 2 none [] ({ frames := 1, cells := 0, slots := 0, locals := 16 } : Room) Z #[(.int p1), (.int p2)] h0 (fun v h L => v = none ∧ Fr n0 L ∧ h = h0) := by
  refine of_goal (plainFor_of_name (by first | (simp [plainName, overriddenIn]; done) | decide +kernel)) ?_
  intro p e s m below meth c s₁ C X0 e0
  have C0 := C
  obtain ⟨hx, hZ, hby, hml, hret, hown, hnm⟩ := C
  have hown : s.vm.findClass "java/lang/String" = some m.cls := hown
  have hret : meth.sig.returnType = none := hret
  have N0 := Fr.nil n0
  rw [ef_23]
  have hfm := SE.2.2.2.2.2.2
  rcases ref_cases hfm with rfl | ⟨r3, rfl⟩
  · refine Goal.step (T' := s₁) (g' := (mkF m 1 #[.val (.int p1), .val (.int p2)] [(.int p1)])) ?_ (fun t k => XS.iloadN X0.here hx rfl (hb hby d23_0) rfl k)
    refine Goal.step (T' := s₁) (g' := (mkF m 2 #[.val (.int p1), .val (.int p2)] [(.int p2), (.int p1)])) ?_ (fun t k => XS.iloadN X0.here hx rfl (hb hby d23_1) rfl k)
    have S1001 : Sta Z h0 "jdk/internal/util/Preconditions" "SIOOBE_FORMATTER" "Ljava/util/function/BiFunction;" .null := Sta.ext O0.2 SE.2.2.2.2.2.1
    obtain ⟨T1002, X1002, e1002, st1002⟩ := getS2 X0 hx hZ hown (host := "") (Or.inl (hw _ (List.mem_of_getElem? (i := 100) rfl))) Via.refl e0 S1001 (g := (mkF m 2 #[.val (.int p1), .val (.int p2)] [(.int p2), (.int p1)])) rfl (hb hby d23_2)
    refine Goal.step (T' := T1002) (g' := (mkF m 5 #[.val (.int p1), .val (.int p2)] [.null, (.int p2), (.int p1)])) ?_ st1002
    obtain ⟨v1003, T1003, h1003, L1003, X1003, e1003, hQ1003, st1003⟩ := callStatic X1002 hx hZ hown (hw _ (List.mem_of_getElem? (i := 102) rfl)) (hw _ (List.mem_of_getElem? (i := 103) rfl)) (hw _ (List.mem_of_getElem? (i := 101) rfl)) (hw _ (List.mem_of_getElem? (i := 104) rfl)) (by decide) (rmP3n l Z a0 hw p1 p2 h0 n0 (by omega) h1 h2) e1002 (W := 0) (by decide) (by decide) (by decide) (by decide) (g := (mkF m 5 #[.val (.int p1), .val (.int p2)] [.null, (.int p2), (.int p1)])) rfl (by rw [hml]; rfl) (argsL := [(.int p1), (.int p2), .null]) (rest := []) (lenOf pd_0 rfl) rfl (by show 2 * 0 + _ ≤ _; exact Nat.le_of_eq rfl) (hb hby d23_5) rfl
    obtain ⟨rfl, M1003, q1003⟩ := hQ1003
    rw [q1003] at e1003
    have N1003 := Fr.app N0 M1003
    refine Goal.step (T' := T1003) (g' := (mkF m 8 #[.val (.int p1), .val (.int p2)] [(.int p1)])) ?_ st1003
    refine Goal.step (T' := T1003) (g' := (mkF m 9 #[.val (.int p1), .val (.int p2)] [])) ?_ (fun t k => XS.pop X1003.here hx rfl (hb hby d23_8) rfl rfl k)
    refine Goal.retV X1003 hx hret (hb hby d23_9) ?_
    refine ⟨?_, by decide, by decide⟩
    rw [e1003]
    exact ⟨rfl, N1003, rfl⟩
  · refine Goal.step (T' := s₁) (g' := (mkF m 1 #[.val (.int p1), .val (.int p2)] [(.int p1)])) ?_ (fun t k => XS.iloadN X0.here hx rfl (hb hby d23_0) rfl k)
    refine Goal.step (T' := s₁) (g' := (mkF m 2 #[.val (.int p1), .val (.int p2)] [(.int p2), (.int p1)])) ?_ (fun t k => XS.iloadN X0.here hx rfl (hb hby d23_1) rfl k)
    have S1004 : Sta Z h0 "jdk/internal/util/Preconditions" "SIOOBE_FORMATTER" "Ljava/util/function/BiFunction;" (.ref r3) := Sta.ext O0.2 SE.2.2.2.2.2.1
    obtain ⟨T1005, X1005, e1005, st1005⟩ := getS2 X0 hx hZ hown (host := "") (Or.inl (hw _ (List.mem_of_getElem? (i := 100) rfl))) Via.refl e0 S1004 (g := (mkF m 2 #[.val (.int p1), .val (.int p2)] [(.int p2), (.int p1)])) rfl (hb hby d23_2)
    refine Goal.step (T' := T1005) (g' := (mkF m 5 #[.val (.int p1), .val (.int p2)] [(.ref r3), (.int p2), (.int p1)])) ?_ st1005
    obtain ⟨v1006, T1006, h1006, L1006, X1006, e1006, hQ1006, st1006⟩ := callStatic X1005 hx hZ hown (hw _ (List.mem_of_getElem? (i := 102) rfl)) (hw _ (List.mem_of_getElem? (i := 103) rfl)) (hw _ (List.mem_of_getElem? (i := 101) rfl)) (hw _ (List.mem_of_getElem? (i := 104) rfl)) (by decide) (rmP3r l Z a0 hw p1 p2 r3 h0 n0 (by omega) h1 h2) e1005 (W := 0) (by decide) (by decide) (by decide) (by decide) (g := (mkF m 5 #[.val (.int p1), .val (.int p2)] [(.ref r3), (.int p2), (.int p1)])) rfl (by rw [hml]; rfl) (argsL := [(.int p1), (.int p2), (.ref r3)]) (rest := []) (lenOf pd_0 rfl) rfl (by show 2 * 0 + _ ≤ _; exact Nat.le_of_eq rfl) (hb hby d23_5) rfl
    obtain ⟨rfl, M1006, q1006⟩ := hQ1006
    rw [q1006] at e1006
    have N1006 := Fr.app N0 M1006
    refine Goal.step (T' := T1006) (g' := (mkF m 8 #[.val (.int p1), .val (.int p2)] [(.int p1)])) ?_ st1006
    refine Goal.step (T' := T1006) (g' := (mkF m 9 #[.val (.int p1), .val (.int p2)] [])) ?_ (fun t k => XS.pop X1006.here hx rfl (hb hby d23_8) rfl rfl k)
    refine Goal.retV X1006 hx hret (hb hby d23_9) ?_
    refine ⟨?_, by decide, by decide⟩
    rw [e1006]
    exact ⟨rfl, N1006, rfl⟩
theorem d26_0 : decode jdk_43_method_2_code 0 = .ok (.iload_n 1, 1) := by decide +kernel
theorem d26_1 : decode jdk_43_method_2_code 1 = .ok (.aload_n 0, 1) := by decide +kernel
theorem d26_2 : decode jdk_43_method_2_code 2 = .ok (.arraylength, 1) := by decide +kernel
theorem d26_3 : decode jdk_43_method_2_code 3 = .ok (.invokestatic 9, 3) := by decide +kernel
theorem pd_1 : parseMethodDescriptor "(II)V" = some ⟨[.int, .int], none⟩ := by decide +kernel
theorem d26_6 : decode jdk_43_method_2_code 6 = .ok (.aload_n 0, 1) := by decide +kernel
theorem d26_7 : decode jdk_43_method_2_code 7 = .ok (.iload_n 1, 1) := by decide +kernel
theorem d26_8 : decode jdk_43_method_2_code 8 = .ok (.baload, 1) := by decide +kernel
theorem d26_9 : decode jdk_43_method_2_code 9 = .ok (.sipush 255, 3) := by decide +kernel
theorem d26_12 : decode jdk_43_method_2_code 12 = .ok (.iand, 1) := by decide +kernel
theorem d26_13 : decode jdk_43_method_2_code 13 = .ok (.i2c, 1) := by decide +kernel
theorem d26_14 : decode jdk_43_method_2_code 14 = .ok (.ireturn, 1) := by decide +kernel
theorem ef_26 (m : MethodId) (x0 : Nat) (x1 : Int32) : entryFrame m #[(.ref x0), (.int x1)] 2 = mkF m 0 #[.val (.ref x0), .val (.int x1)] [] := by first | (simp [entryFrame, mkF, argsToLocals, Value.category]; done) | rfl
set_option maxRecDepth 65536 in
set_option maxHeartbeats 40000000 in
theorem rmLCA (l : Launch) (Z : State) (a0 : Array Value) (hw : ∀ d ∈ tables_1, d.before a0 Z = true) (a1 : Nat) (i : Nat) (k1 : ClassId) (n : Nat) (f : Nat → Int32) (cs : Int32) (fm : Value) (h0 : Heap) (n0 : Nat) (Z0 : n0 ≤ h0.size) (SE : SEnv Z cs fm) (O0 : Old Z n0 h0) (A1 : Arf Z h0 a1 k1 .byte n (lat f)) (hi : i < n) (hn : n < 2 ^ 28) (hc : 0 ≤ (f i).toInt ∧ (f i).toInt ≤ 255) :
    Met l (⟨"java/lang/StringLatin1", "charAt", "([BI)C"⟩ : MethodName) jdk_43_method_2_code 2 (some .char) [] ({ frames := 2, cells := 0, slots := 0, locals := 30 } : Room) Z #[(.ref a1), (.int (Int32.ofNat i))] h0 (fun v h L => v = some (.int (f i)) ∧ Fr n0 L ∧ h = h0) := by
  refine of_goal (plainFor_of_name (by first | (simp [plainName, overriddenIn]; done) | decide +kernel)) ?_
  intro p e s m below meth c s₁ C X0 e0
  have C0 := C
  obtain ⟨hx, hZ, hby, hml, hret, hown, hnm⟩ := C
  have hown : s.vm.findClass "java/lang/StringLatin1" = some m.cls := hown
  have hret : meth.sig.returnType = (some .char) := hret
  have N0 := Fr.nil n0
  rw [ef_26]
  have hval : nar .char (i2c ((lat f i) &&& (255 : Int32))) = f i := by show i2c (i2c ((lat f i) &&& 255)) = f i; rw [show lat f i = i2b (i2b (f i)) from rfl, own_latin _ hc.1 hc.2]; exact own_i2c _ hc.1 (by omega)
  refine Goal.step (T' := s₁) (g' := (mkF m 1 #[.val (.ref a1), .val (.int (Int32.ofNat i))] [(.int (Int32.ofNat i))])) ?_ (fun t k => XS.iloadN X0.here hx rfl (hb hby d26_0) rfl k)
  refine Goal.step (T' := s₁) (g' := (mkF m 2 #[.val (.ref a1), .val (.int (Int32.ofNat i))] [(.ref a1), (.int (Int32.ofNat i))])) ?_ (fun t k => XS.aloadN X0.here hx rfl (hb hby d26_1) rfl rfl k)
  obtain ⟨cl1001, Ar1001, q1001, S1001, H1001⟩ := (id A1)
  refine Goal.step (T' := s₁) (g' := (mkF m 3 #[.val (.ref a1), .val (.int (Int32.ofNat i))] [(.int (Int32.ofNat n)), (.int (Int32.ofNat i))])) ?_ (fun t k => X0.arraylength hx (by rw [e0]; exact Ar1001.1) (State.isArrayOf_alike hZ.alike Ar1001.2.1) (g := (mkF m 2 #[.val (.ref a1), .val (.int (Int32.ofNat i))] [(.ref a1), (.int (Int32.ofNat i))])) rfl rfl (hb hby d26_2) _ (by rw [S1001]; exact k))
  obtain ⟨v1002, T1002, h1002, L1002, X1002, e1002, hQ1002, st1002⟩ := callStatic X0 hx hZ hown (hw _ (List.mem_of_getElem? (i := 112) rfl)) (hw _ (List.mem_of_getElem? (i := 98) rfl)) (hw _ (List.mem_of_getElem? (i := 12) rfl)) (hw _ (List.mem_of_getElem? (i := 99) rfl)) (by decide) (rmSCI l Z a0 hw (Int32.ofNat i) (Int32.ofNat n) cs fm h0 n0 (by omega) SE O0 (nat_nn (by omega)) ((nat_lt (by omega) (by omega)).mpr hi)) e0 (W := 0) (by decide) (by decide) (by decide) (by decide) (g := (mkF m 3 #[.val (.ref a1), .val (.int (Int32.ofNat i))] [(.int (Int32.ofNat n)), (.int (Int32.ofNat i))])) rfl (by rw [hml]; rfl) (argsL := [(.int (Int32.ofNat i)), (.int (Int32.ofNat n))]) (rest := []) (lenOf pd_1 rfl) rfl (by show 2 * 0 + _ ≤ _; exact Nat.le_of_eq rfl) (hb hby d26_3) rfl
  obtain ⟨rfl, M1002, q1002⟩ := hQ1002
  rw [q1002] at e1002
  have N1002 := Fr.app N0 M1002
  refine Goal.step (T' := T1002) (g' := (mkF m 6 #[.val (.ref a1), .val (.int (Int32.ofNat i))] [])) ?_ st1002
  refine Goal.step (T' := T1002) (g' := (mkF m 7 #[.val (.ref a1), .val (.int (Int32.ofNat i))] [(.ref a1)])) ?_ (fun t k => XS.aloadN X1002.here hx rfl (hb hby d26_6) rfl rfl k)
  refine Goal.step (T' := T1002) (g' := (mkF m 8 #[.val (.ref a1), .val (.int (Int32.ofNat i))] [(.int (Int32.ofNat i)), (.ref a1)])) ?_ (fun t k => XS.iloadN X1002.here hx rfl (hb hby d26_7) rfl k)
  obtain ⟨cl1003, Ar1003, q1003, S1003, H1003⟩ := (id A1)
  have hlt1003 : i < n := hi
  have hn1003 : n < 2 ^ 31 := by omega
  have hin1003 : ¬ ((Int32.ofNat i) < 0 ∨ cl1003.slots.size ≤ ((Int32.ofNat i)).toNatClampNeg) := nat_inb S1003 hlt1003 hn1003
  have hat1003 : cl1003.slots[((Int32.ofNat i)).toNatClampNeg]? = some (.int (((lat f)) i)) := by rw [nat_clamp (show i < 2 ^ 31 by omega)]; exact H1003 _ hlt1003
  refine Goal.step (T' := T1002) (g' := (mkF m 9 #[.val (.ref a1), .val (.int (Int32.ofNat i))] [(.int (((lat f)) i))])) ?_ (fun t k => X1002.baloadBytes hx (j := (Int32.ofNat i)) (v := (.int (((lat f)) i))) (by rw [e1002]; exact Ar1003.1) (State.isArrayOf_alike hZ.alike Ar1003.2.1) Ar1003.2.2 hin1003 hat1003 (g := (mkF m 8 #[.val (.ref a1), .val (.int (Int32.ofNat i))] [(.int (Int32.ofNat i)), (.ref a1)])) rfl rfl (hb hby d26_8) _ k)
  refine Goal.step (T' := T1002) (g' := (mkF m 12 #[.val (.ref a1), .val (.int (Int32.ofNat i))] [(.int (255 : Int32)), (.int (((lat f)) i))])) ?_ (fun t k => XS.sipush X1002.here hx rfl (hb hby d26_9) k)
  refine Goal.step (T' := T1002) (g' := (mkF m 13 #[.val (.ref a1), .val (.int (Int32.ofNat i))] [(.int ((((lat f)) i) &&& (255 : Int32)))])) ?_ (fun t k => XS.iand X1002.here hx rfl (hb hby d26_12) rfl k)
  refine Goal.step (T' := T1002) (g' := (mkF m 14 #[.val (.ref a1), .val (.int (Int32.ofNat i))] [(.int (((((lat f)) i) &&& (255 : Int32)).toUInt32.toUInt16.toUInt32.toInt32))])) ?_ (fun t k => XS.i2c X1002.here hx rfl (hb hby d26_13) rfl k)
  refine Goal.retN (t := .char) X1002 hx hret (by simp) (hb hby d26_14) ?_
  refine ⟨?_, by decide, by decide⟩
  rw [e1002]
  exact ⟨congrArg (fun z => some (Value.int z)) hval, N1002, rfl⟩
theorem d22_0 : decode jdk_52_method_6_code 0 = .ok (.aload_n 0, 1) := by decide +kernel
theorem d22_1 : decode jdk_52_method_6_code 1 = .ok (.arraylength, 1) := by decide +kernel
theorem d22_2 : decode jdk_52_method_6_code 2 = .ok (.iconst 1, 1) := by decide +kernel
theorem d22_3 : decode jdk_52_method_6_code 3 = .ok (.ishr, 1) := by decide +kernel
theorem d22_4 : decode jdk_52_method_6_code 4 = .ok (.ireturn, 1) := by decide +kernel
theorem ef_22 (m : MethodId) (x0 : Nat) : entryFrame m #[(.ref x0)] 1 = mkF m 0 #[.val (.ref x0)] [] := by first | (simp [entryFrame, mkF, argsToLocals, Value.category]; done) | rfl
set_option maxRecDepth 65536 in
set_option maxHeartbeats 40000000 in
theorem rmULN (l : Launch) (Z : State) (a0 : Array Value) (hw : ∀ d ∈ tables_1, d.before a0 Z = true) (a1 : Nat) (k1 : ClassId) (n : Nat) (f : Nat → Int32) (h0 : Heap) (n0 : Nat) (Z0 : n0 ≤ h0.size) (A1 : Arf Z h0 a1 k1 .byte (2 * n) f) (hn : n < 2 ^ 28) :
    Met l (⟨"java/lang/StringUTF16", "length", "([B)I"⟩ : MethodName) jdk_52_method_6_code 1 (some .int) [] ({ frames := 0, cells := 0, slots := 0, locals := 0 } : Room) Z #[(.ref a1)] h0 (fun v h L => v = some (.int (Int32.ofNat n)) ∧ Fr n0 L ∧ h = h0) := by
  refine of_goal (plainFor_of_name (by first | (simp [plainName, overriddenIn]; done) | decide +kernel)) ?_
  intro p e s m below meth c s₁ C X0 e0
  have C0 := C
  obtain ⟨hx, hZ, hby, hml, hret, hown, hnm⟩ := C
  have hown : s.vm.findClass "java/lang/StringUTF16" = some m.cls := hown
  have hret : meth.sig.returnType = (some .int) := hret
  have N0 := Fr.nil n0
  rw [ef_22]
  refine Goal.step (T' := s₁) (g' := (mkF m 1 #[.val (.ref a1)] [(.ref a1)])) ?_ (fun t k => XS.aloadN X0.here hx rfl (hb hby d22_0) rfl rfl k)
  obtain ⟨cl1001, Ar1001, q1001, S1001, H1001⟩ := (id A1)
  refine Goal.step (T' := s₁) (g' := (mkF m 2 #[.val (.ref a1)] [(.int (Int32.ofNat (2 * n)))])) ?_ (fun t k => X0.arraylength hx (by rw [e0]; exact Ar1001.1) (State.isArrayOf_alike hZ.alike Ar1001.2.1) (g := (mkF m 1 #[.val (.ref a1)] [(.ref a1)])) rfl rfl (hb hby d22_1) _ (by rw [S1001]; exact k))
  refine Goal.step (T' := s₁) (g' := (mkF m 3 #[.val (.ref a1)] [(.int (1 : Int32)), (.int (Int32.ofNat (2 * n)))])) ?_ (fun t k => XS.iconst X0.here hx rfl (hb hby d22_2) k)
  refine Goal.step (T' := s₁) (g' := (mkF m 4 #[.val (.ref a1)] [(.int ((Int32.ofNat (2 * n)) >>> ((1 : Int32) &&& 31)))])) ?_ (fun t k => XS.ishr X0.here hx rfl (hb hby d22_3) rfl k)
  refine Goal.retI X0 hx hret (hb hby d22_4) ?_
  refine ⟨?_, by decide, by decide⟩
  rw [e0]
  exact ⟨congrArg (fun z => some (Value.int z)) (own_shr1 hn), N0, rfl⟩
theorem d21_0 : decode jdk_52_method_91_code 0 = .ok (.iload_n 0, 1) := by decide +kernel
theorem d21_1 : decode jdk_52_method_91_code 1 = .ok (.aload_n 1, 1) := by decide +kernel
theorem d21_2 : decode jdk_52_method_91_code 2 = .ok (.invokestatic 48, 3) := by decide +kernel
theorem pd_2 : parseMethodDescriptor "([B)I" = some ⟨[(.array .byte)], some .int⟩ := by decide +kernel
theorem d21_5 : decode jdk_52_method_91_code 5 = .ok (.invokestatic 414, 3) := by decide +kernel
theorem d21_8 : decode jdk_52_method_91_code 8 = .ok (.return_, 1) := by decide +kernel
theorem ef_21 (m : MethodId) (x0 : Int32) (x1 : Nat) : entryFrame m #[(.int x0), (.ref x1)] 2 = mkF m 0 #[.val (.int x0), .val (.ref x1)] [] := by first | (simp [entryFrame, mkF, argsToLocals, Value.category]; done) | rfl
set_option maxRecDepth 65536 in
set_option maxHeartbeats 40000000 in
theorem rmUCI (l : Launch) (Z : State) (a0 : Array Value) (hw : ∀ d ∈ tables_1, d.before a0 Z = true) (i : Nat) (a1 : Nat) (k1 : ClassId) (n : Nat) (f : Nat → Int32) (cs : Int32) (fm : Value) (h0 : Heap) (n0 : Nat) (Z0 : n0 ≤ h0.size) (SE : SEnv Z cs fm) (O0 : Old Z n0 h0) (A1 : Arf Z h0 a1 k1 .byte (2 * n) f) (hi : i < n) (hn : n < 2 ^ 28) :
    Met l (⟨"java/lang/StringUTF16", "checkIndex", "(I[B)V"⟩ : MethodName) jdk_52_method_91_code 2 none [] ({ frames := 2, cells := 0, slots := 0, locals := 32 } : Room) Z #[(.int (Int32.ofNat i)), (.ref a1)] h0 (fun v h L => v = none ∧ Fr n0 L ∧ h = h0) := by
  refine of_goal (plainFor_of_name (by first | (simp [plainName, overriddenIn]; done) | decide +kernel)) ?_
  intro p e s m below meth c s₁ C X0 e0
  have C0 := C
  obtain ⟨hx, hZ, hby, hml, hret, hown, hnm⟩ := C
  have hown : s.vm.findClass "java/lang/StringUTF16" = some m.cls := hown
  have hret : meth.sig.returnType = none := hret
  have N0 := Fr.nil n0
  rw [ef_21]
  refine Goal.step (T' := s₁) (g' := (mkF m 1 #[.val (.int (Int32.ofNat i)), .val (.ref a1)] [(.int (Int32.ofNat i))])) ?_ (fun t k => XS.iloadN X0.here hx rfl (hb hby d21_0) rfl k)
  refine Goal.step (T' := s₁) (g' := (mkF m 2 #[.val (.int (Int32.ofNat i)), .val (.ref a1)] [(.ref a1), (.int (Int32.ofNat i))])) ?_ (fun t k => XS.aloadN X0.here hx rfl (hb hby d21_1) rfl rfl k)
  obtain ⟨v1001, T1001, h1001, L1001, X1001, e1001, hQ1001, st1001⟩ := callStatic X0 hx hZ hown (hw _ (List.mem_of_getElem? (i := 94) rfl)) (hw _ (List.mem_of_getElem? (i := 95) rfl)) (hw _ (List.mem_of_getElem? (i := 48) rfl)) (hw _ (List.mem_of_getElem? (i := 96) rfl)) (by decide) (rmULN l Z a0 hw a1 k1 n f h0 n0 (by omega) A1 hn) e0 (W := 1) (by decide) (by decide) (by decide) (by decide) (g := (mkF m 2 #[.val (.int (Int32.ofNat i)), .val (.ref a1)] [(.ref a1), (.int (Int32.ofNat i))])) rfl (by rw [hml]; rfl) (argsL := [(.ref a1)]) (rest := [(.int (Int32.ofNat i))]) (lenOf pd_2 rfl) rfl (by show 2 * 0 + _ ≤ _; exact Nat.le_of_eq rfl) (hb hby d21_2) rfl
  obtain ⟨rfl, M1001, q1001⟩ := hQ1001
  rw [q1001] at e1001
  have N1001 := Fr.app N0 M1001
  refine Goal.step (T' := T1001) (g' := (mkF m 5 #[.val (.int (Int32.ofNat i)), .val (.ref a1)] [(.int (Int32.ofNat n)), (.int (Int32.ofNat i))])) ?_ st1001
  obtain ⟨v1002, T1002, h1002, L1002, X1002, e1002, hQ1002, st1002⟩ := callStatic X1001 hx hZ hown (hw _ (List.mem_of_getElem? (i := 97) rfl)) (hw _ (List.mem_of_getElem? (i := 98) rfl)) (hw _ (List.mem_of_getElem? (i := 12) rfl)) (hw _ (List.mem_of_getElem? (i := 99) rfl)) (by decide) (rmSCI l Z a0 hw (Int32.ofNat i) (Int32.ofNat n) cs fm h0 n0 (by omega) SE O0 (nat_nn (by omega)) ((nat_lt (by omega) (by omega)).mpr hi)) e1001 (W := 0) (by decide) (by decide) (by decide) (by decide) (g := (mkF m 5 #[.val (.int (Int32.ofNat i)), .val (.ref a1)] [(.int (Int32.ofNat n)), (.int (Int32.ofNat i))])) rfl (by rw [hml]; rfl) (argsL := [(.int (Int32.ofNat i)), (.int (Int32.ofNat n))]) (rest := []) (lenOf pd_1 rfl) rfl (by show 2 * 0 + _ ≤ _; exact Nat.le_of_eq rfl) (hb hby d21_5) rfl
  obtain ⟨rfl, M1002, q1002⟩ := hQ1002
  rw [q1002] at e1002
  have N1002 := Fr.app N1001 M1002
  refine Goal.step (T' := T1002) (g' := (mkF m 8 #[.val (.int (Int32.ofNat i)), .val (.ref a1)] [])) ?_ st1002
  refine Goal.retV X1002 hx hret (hb hby d21_8) ?_
  refine ⟨?_, by decide, by decide⟩
  rw [e1002]
  exact ⟨rfl, N1002, rfl⟩
theorem d16_0 : decode jdk_52_method_5_code 0 = .ok (.getstatic 44, 3) := by decide +kernel
theorem d16_3 : decode jdk_52_method_5_code 3 = .ok (.ifCond .ne 25, 3) := by decide +kernel
theorem d16_28 : decode jdk_52_method_5_code 28 = .ok (.iload_n 1, 1) := by decide +kernel
theorem d16_29 : decode jdk_52_method_5_code 29 = .ok (.iconst 1, 1) := by decide +kernel
theorem d16_30 : decode jdk_52_method_5_code 30 = .ok (.ishl, 1) := by decide +kernel
theorem d16_31 : decode jdk_52_method_5_code 31 = .ok (.istore_n 1, 1) := by decide +kernel
theorem d16_32 : decode jdk_52_method_5_code 32 = .ok (.aload_n 0, 1) := by decide +kernel
theorem d16_33 : decode jdk_52_method_5_code 33 = .ok (.iload_n 1, 1) := by decide +kernel
theorem d16_34 : decode jdk_52_method_5_code 34 = .ok (.iinc 1 1, 3) := by decide +kernel
theorem d16_37 : decode jdk_52_method_5_code 37 = .ok (.baload, 1) := by decide +kernel
theorem d16_38 : decode jdk_52_method_5_code 38 = .ok (.sipush 255, 3) := by decide +kernel
theorem d16_41 : decode jdk_52_method_5_code 41 = .ok (.iand, 1) := by decide +kernel
theorem d16_42 : decode jdk_52_method_5_code 42 = .ok (.getstatic 59, 3) := by decide +kernel
theorem d16_45 : decode jdk_52_method_5_code 45 = .ok (.ishl, 1) := by decide +kernel
theorem d16_46 : decode jdk_52_method_5_code 46 = .ok (.aload_n 0, 1) := by decide +kernel
theorem d16_47 : decode jdk_52_method_5_code 47 = .ok (.iload_n 1, 1) := by decide +kernel
theorem d16_48 : decode jdk_52_method_5_code 48 = .ok (.baload, 1) := by decide +kernel
theorem d16_49 : decode jdk_52_method_5_code 49 = .ok (.sipush 255, 3) := by decide +kernel
theorem d16_52 : decode jdk_52_method_5_code 52 = .ok (.iand, 1) := by decide +kernel
theorem d16_53 : decode jdk_52_method_5_code 53 = .ok (.getstatic 63, 3) := by decide +kernel
theorem d16_56 : decode jdk_52_method_5_code 56 = .ok (.ishl, 1) := by decide +kernel
theorem d16_57 : decode jdk_52_method_5_code 57 = .ok (.ior, 1) := by decide +kernel
theorem d16_58 : decode jdk_52_method_5_code 58 = .ok (.i2c, 1) := by decide +kernel
theorem d16_59 : decode jdk_52_method_5_code 59 = .ok (.ireturn, 1) := by decide +kernel
theorem ef_16 (m : MethodId) (x0 : Nat) (x1 : Int32) : entryFrame m #[(.ref x0), (.int x1)] 2 = mkF m 0 #[.val (.ref x0), .val (.int x1)] [] := by first | (simp [entryFrame, mkF, argsToLocals, Value.category]; done) | rfl
set_option maxRecDepth 65536 in
set_option maxHeartbeats 40000000 in
theorem rmUGC (l : Launch) (Z : State) (a0 : Array Value) (hw : ∀ d ∈ tables_1, d.before a0 Z = true) (a1 : Nat) (i : Nat) (k1 : ClassId) (n : Nat) (f : Nat → Int32) (cs : Int32) (fm : Value) (h0 : Heap) (n0 : Nat) (Z0 : n0 ≤ h0.size) (SE : SEnv Z cs fm) (O0 : Old Z n0 h0) (A1 : Arf Z h0 a1 k1 .byte (2 * n) (utf f)) (hi : i < n) (hn : n < 2 ^ 28) (hc : 0 ≤ (f i).toInt ∧ (f i).toInt ≤ 65535) :
    Met l (⟨"java/lang/StringUTF16", "getChar", "([BI)C"⟩ : MethodName) jdk_52_method_5_code 2 (some .char) [] ({ frames := 0, cells := 0, slots := 0, locals := 0 } : Room) Z #[(.ref a1), (.int (Int32.ofNat i))] h0 (fun v h L => v = some (.int (f i)) ∧ Fr n0 L ∧ h = h0) := by
  refine of_goal (plainFor_of_name (by first | (simp [plainName, overriddenIn]; done) | decide +kernel)) ?_
  intro p e s m below meth c s₁ C X0 e0
  have C0 := C
  obtain ⟨hx, hZ, hby, hml, hret, hown, hnm⟩ := C
  have hown : s.vm.findClass "java/lang/StringUTF16" = some m.cls := hown
  have hret : meth.sig.returnType = (some .char) := hret
  have N0 := Fr.nil n0
  rw [ef_16]
  have u0 : utf f (2 * i) = i2b (i2b (f i >>> ((0 : Int32) &&& 31))) := by unfold utf; rw [if_pos (by omega), show 2 * i / 2 = i by omega]
  have u1 : utf f (2 * i + 1) = i2b (i2b (f i >>> ((8 : Int32) &&& 31))) := by unfold utf; rw [if_neg (by omega), show (2 * i + 1) / 2 = i by omega]
  have hval : nar .char (i2c ((((utf f) (2 * i) &&& (255 : Int32)) <<< ((0 : Int32) &&& 31)) ||| (((utf f) (2 * i + 1) &&& (255 : Int32)) <<< ((8 : Int32) &&& 31)))) = f i := by rw [u0, u1]; show i2c (i2c _) = _; rw [own_pack _ hc.1 hc.2]; exact own_i2c _ hc.1 hc.2
  have S1001 : Sta Z h0 "java/lang/StringUTF16" "$assertionsDisabled" "Z" (.int (1 : Int32)) := Sta.ext O0.2 SE.2.2.1
  obtain ⟨T1002, X1002, e1002, st1002⟩ := getS2 X0 hx hZ hown (host := "") (Or.inl (hw _ (List.mem_of_getElem? (i := 69) rfl))) Via.refl e0 S1001 (g := (mkF m 0 #[.val (.ref a1), .val (.int (Int32.ofNat i))] [])) rfl (hb hby d16_0)
  refine Goal.step (T' := T1002) (g' := (mkF m 3 #[.val (.ref a1), .val (.int (Int32.ofNat i))] [(.int (1 : Int32))])) ?_ st1002
  refine Goal.step (T' := T1002) (g' := (mkF m 28 #[.val (.ref a1), .val (.int (Int32.ofNat i))] [])) ?_ (fun t k => XS.ifYes X1002.here hx rfl (pc0 := 3) (pc' := 28) rfl (hb hby d16_3) rfl ((if0 _ _).trans (feq (by decide)).2) (by decide) (by decide) k)
  refine Goal.step (T' := T1002) (g' := (mkF m 29 #[.val (.ref a1), .val (.int (Int32.ofNat i))] [(.int (Int32.ofNat i))])) ?_ (fun t k => XS.iloadN X1002.here hx rfl (hb hby d16_28) rfl k)
  refine Goal.step (T' := T1002) (g' := (mkF m 30 #[.val (.ref a1), .val (.int (Int32.ofNat i))] [(.int (1 : Int32)), (.int (Int32.ofNat i))])) ?_ (fun t k => XS.iconst X1002.here hx rfl (hb hby d16_29) k)
  refine Goal.step (T' := T1002) (g' := (mkF m 31 #[.val (.ref a1), .val (.int (Int32.ofNat i))] [(.int ((Int32.ofNat i) <<< ((1 : Int32) &&& 31)))])) ?_ (fun t k => XS.ishl X1002.here hx rfl (hb hby d16_30) rfl k)
  rw [own_shl1 (show i < 2 ^ 28 by omega)]
  refine Goal.step (T' := T1002) (g' := (mkF m 32 #[.val (.ref a1), .val (.int (Int32.ofNat (2 * i)))] [])) ?_ (fun t k => XS.istoreN X1002.here hx rfl (hb hby d16_31) rfl (l' := #[.val (.ref a1), .val (.int (Int32.ofNat (2 * i)))]) rfl k)
  refine Goal.step (T' := T1002) (g' := (mkF m 33 #[.val (.ref a1), .val (.int (Int32.ofNat (2 * i)))] [(.ref a1)])) ?_ (fun t k => XS.aloadN X1002.here hx rfl (hb hby d16_32) rfl rfl k)
  refine Goal.step (T' := T1002) (g' := (mkF m 34 #[.val (.ref a1), .val (.int (Int32.ofNat (2 * i)))] [(.int (Int32.ofNat (2 * i))), (.ref a1)])) ?_ (fun t k => XS.iloadN X1002.here hx rfl (hb hby d16_33) rfl k)
  refine Goal.step (T' := T1002) (g' := (mkF m 37 #[.val (.ref a1), .val (.int ((Int32.ofNat (2 * i)) + (1 : Int32)))] [(.int (Int32.ofNat (2 * i))), (.ref a1)])) ?_ (fun t k => XS.iinc X1002.here hx rfl (hb hby d16_34) rfl (l' := #[.val (.ref a1), .val (.int ((Int32.ofNat (2 * i)) + (1 : Int32)))]) rfl k)
  rw [nat_one]
  obtain ⟨cl1003, Ar1003, q1003, S1003, H1003⟩ := (id A1)
  have hlt1003 : (2 * i) < (2 * n) := by omega
  have hn1003 : (2 * n) < 2 ^ 31 := by omega
  have hin1003 : ¬ ((Int32.ofNat (2 * i)) < 0 ∨ cl1003.slots.size ≤ ((Int32.ofNat (2 * i))).toNatClampNeg) := nat_inb S1003 hlt1003 hn1003
  have hat1003 : cl1003.slots[((Int32.ofNat (2 * i))).toNatClampNeg]? = some (.int (((utf f)) (2 * i))) := by rw [nat_clamp (show (2 * i) < 2 ^ 31 by omega)]; exact H1003 _ hlt1003
  refine Goal.step (T' := T1002) (g' := (mkF m 38 #[.val (.ref a1), .val (.int (Int32.ofNat (2 * i + 1)))] [(.int (((utf f)) (2 * i)))])) ?_ (fun t k => X1002.baloadBytes hx (j := (Int32.ofNat (2 * i))) (v := (.int (((utf f)) (2 * i)))) (by rw [e1002]; exact Ar1003.1) (State.isArrayOf_alike hZ.alike Ar1003.2.1) Ar1003.2.2 hin1003 hat1003 (g := (mkF m 37 #[.val (.ref a1), .val (.int (Int32.ofNat (2 * i + 1)))] [(.int (Int32.ofNat (2 * i))), (.ref a1)])) rfl rfl (hb hby d16_37) _ k)
  refine Goal.step (T' := T1002) (g' := (mkF m 41 #[.val (.ref a1), .val (.int (Int32.ofNat (2 * i + 1)))] [(.int (255 : Int32)), (.int (((utf f)) (2 * i)))])) ?_ (fun t k => XS.sipush X1002.here hx rfl (hb hby d16_38) k)
  refine Goal.step (T' := T1002) (g' := (mkF m 42 #[.val (.ref a1), .val (.int (Int32.ofNat (2 * i + 1)))] [(.int ((((utf f)) (2 * i)) &&& (255 : Int32)))])) ?_ (fun t k => XS.iand X1002.here hx rfl (hb hby d16_41) rfl k)
  have S1004 : Sta Z h0 "java/lang/StringUTF16" "HI_BYTE_SHIFT" "I" (.int (0 : Int32)) := Sta.ext O0.2 SE.2.2.2.1
  obtain ⟨T1005, X1005, e1005, st1005⟩ := getS2 X1002 hx hZ hown (host := "") (Or.inl (hw _ (List.mem_of_getElem? (i := 70) rfl))) Via.refl e1002 S1004 (g := (mkF m 42 #[.val (.ref a1), .val (.int (Int32.ofNat (2 * i + 1)))] [(.int ((((utf f)) (2 * i)) &&& (255 : Int32)))])) rfl (hb hby d16_42)
  refine Goal.step (T' := T1005) (g' := (mkF m 45 #[.val (.ref a1), .val (.int (Int32.ofNat (2 * i + 1)))] [(.int (0 : Int32)), (.int ((((utf f)) (2 * i)) &&& (255 : Int32)))])) ?_ st1005
  refine Goal.step (T' := T1005) (g' := (mkF m 46 #[.val (.ref a1), .val (.int (Int32.ofNat (2 * i + 1)))] [(.int (((((utf f)) (2 * i)) &&& (255 : Int32)) <<< ((0 : Int32) &&& 31)))])) ?_ (fun t k => XS.ishl X1005.here hx rfl (hb hby d16_45) rfl k)
  refine Goal.step (T' := T1005) (g' := (mkF m 47 #[.val (.ref a1), .val (.int (Int32.ofNat (2 * i + 1)))] [(.ref a1), (.int (((((utf f)) (2 * i)) &&& (255 : Int32)) <<< ((0 : Int32) &&& 31)))])) ?_ (fun t k => XS.aloadN X1005.here hx rfl (hb hby d16_46) rfl rfl k)
  refine Goal.step (T' := T1005) (g' := (mkF m 48 #[.val (.ref a1), .val (.int (Int32.ofNat (2 * i + 1)))] [(.int (Int32.ofNat (2 * i + 1))), (.ref a1), (.int (((((utf f)) (2 * i)) &&& (255 : Int32)) <<< ((0 : Int32) &&& 31)))])) ?_ (fun t k => XS.iloadN X1005.here hx rfl (hb hby d16_47) rfl k)
  obtain ⟨cl1006, Ar1006, q1006, S1006, H1006⟩ := (id A1)
  have hlt1006 : (2 * i + 1) < (2 * n) := by omega
  have hn1006 : (2 * n) < 2 ^ 31 := by omega
  have hin1006 : ¬ ((Int32.ofNat (2 * i + 1)) < 0 ∨ cl1006.slots.size ≤ ((Int32.ofNat (2 * i + 1))).toNatClampNeg) := nat_inb S1006 hlt1006 hn1006
  have hat1006 : cl1006.slots[((Int32.ofNat (2 * i + 1))).toNatClampNeg]? = some (.int (((utf f)) (2 * i + 1))) := by rw [nat_clamp (show (2 * i + 1) < 2 ^ 31 by omega)]; exact H1006 _ hlt1006
  refine Goal.step (T' := T1005) (g' := (mkF m 49 #[.val (.ref a1), .val (.int (Int32.ofNat (2 * i + 1)))] [(.int (((utf f)) (2 * i + 1))), (.int (((((utf f)) (2 * i)) &&& (255 : Int32)) <<< ((0 : Int32) &&& 31)))])) ?_ (fun t k => X1005.baloadBytes hx (j := (Int32.ofNat (2 * i + 1))) (v := (.int (((utf f)) (2 * i + 1)))) (by rw [e1005]; exact Ar1006.1) (State.isArrayOf_alike hZ.alike Ar1006.2.1) Ar1006.2.2 hin1006 hat1006 (g := (mkF m 48 #[.val (.ref a1), .val (.int (Int32.ofNat (2 * i + 1)))] [(.int (Int32.ofNat (2 * i + 1))), (.ref a1), (.int (((((utf f)) (2 * i)) &&& (255 : Int32)) <<< ((0 : Int32) &&& 31)))])) rfl rfl (hb hby d16_48) _ k)
  refine Goal.step (T' := T1005) (g' := (mkF m 52 #[.val (.ref a1), .val (.int (Int32.ofNat (2 * i + 1)))] [(.int (255 : Int32)), (.int (((utf f)) (2 * i + 1))), (.int (((((utf f)) (2 * i)) &&& (255 : Int32)) <<< ((0 : Int32) &&& 31)))])) ?_ (fun t k => XS.sipush X1005.here hx rfl (hb hby d16_49) k)
  refine Goal.step (T' := T1005) (g' := (mkF m 53 #[.val (.ref a1), .val (.int (Int32.ofNat (2 * i + 1)))] [(.int ((((utf f)) (2 * i + 1)) &&& (255 : Int32))), (.int (((((utf f)) (2 * i)) &&& (255 : Int32)) <<< ((0 : Int32) &&& 31)))])) ?_ (fun t k => XS.iand X1005.here hx rfl (hb hby d16_52) rfl k)
  have S1007 : Sta Z h0 "java/lang/StringUTF16" "LO_BYTE_SHIFT" "I" (.int (8 : Int32)) := Sta.ext O0.2 SE.2.2.2.2.1
  obtain ⟨T1008, X1008, e1008, st1008⟩ := getS2 X1005 hx hZ hown (host := "") (Or.inl (hw _ (List.mem_of_getElem? (i := 71) rfl))) Via.refl e1005 S1007 (g := (mkF m 53 #[.val (.ref a1), .val (.int (Int32.ofNat (2 * i + 1)))] [(.int ((((utf f)) (2 * i + 1)) &&& (255 : Int32))), (.int (((((utf f)) (2 * i)) &&& (255 : Int32)) <<< ((0 : Int32) &&& 31)))])) rfl (hb hby d16_53)
  refine Goal.step (T' := T1008) (g' := (mkF m 56 #[.val (.ref a1), .val (.int (Int32.ofNat (2 * i + 1)))] [(.int (8 : Int32)), (.int ((((utf f)) (2 * i + 1)) &&& (255 : Int32))), (.int (((((utf f)) (2 * i)) &&& (255 : Int32)) <<< ((0 : Int32) &&& 31)))])) ?_ st1008
  refine Goal.step (T' := T1008) (g' := (mkF m 57 #[.val (.ref a1), .val (.int (Int32.ofNat (2 * i + 1)))] [(.int (((((utf f)) (2 * i + 1)) &&& (255 : Int32)) <<< ((8 : Int32) &&& 31))), (.int (((((utf f)) (2 * i)) &&& (255 : Int32)) <<< ((0 : Int32) &&& 31)))])) ?_ (fun t k => XS.ishl X1008.here hx rfl (hb hby d16_56) rfl k)
  refine Goal.step (T' := T1008) (g' := (mkF m 58 #[.val (.ref a1), .val (.int (Int32.ofNat (2 * i + 1)))] [(.int ((((((utf f)) (2 * i)) &&& (255 : Int32)) <<< ((0 : Int32) &&& 31)) ||| (((((utf f)) (2 * i + 1)) &&& (255 : Int32)) <<< ((8 : Int32) &&& 31))))])) ?_ (fun t k => XS.ior X1008.here hx rfl (hb hby d16_57) rfl k)
  refine Goal.step (T' := T1008) (g' := (mkF m 59 #[.val (.ref a1), .val (.int (Int32.ofNat (2 * i + 1)))] [(.int (((((((utf f)) (2 * i)) &&& (255 : Int32)) <<< ((0 : Int32) &&& 31)) ||| (((((utf f)) (2 * i + 1)) &&& (255 : Int32)) <<< ((8 : Int32) &&& 31))).toUInt32.toUInt16.toUInt32.toInt32))])) ?_ (fun t k => XS.i2c X1008.here hx rfl (hb hby d16_58) rfl k)
  refine Goal.retN (t := .char) X1008 hx hret (by simp) (hb hby d16_59) ?_
  refine ⟨?_, by decide, by decide⟩
  rw [e1008]
  exact ⟨congrArg (fun z => some (Value.int z)) hval, N0, rfl⟩
theorem d20_0 : decode jdk_52_method_83_code 0 = .ok (.iload_n 1, 1) := by decide +kernel
theorem d20_1 : decode jdk_52_method_83_code 1 = .ok (.aload_n 0, 1) := by decide +kernel
theorem d20_2 : decode jdk_52_method_83_code 2 = .ok (.invokestatic 67, 3) := by decide +kernel
theorem pd_3 : parseMethodDescriptor "(I[B)V" = some ⟨[.int, (.array .byte)], none⟩ := by decide +kernel
theorem d20_5 : decode jdk_52_method_83_code 5 = .ok (.aload_n 0, 1) := by decide +kernel
theorem d20_6 : decode jdk_52_method_83_code 6 = .ok (.iload_n 1, 1) := by decide +kernel
theorem d20_7 : decode jdk_52_method_83_code 7 = .ok (.invokestatic 71, 3) := by decide +kernel
theorem pd_4 : parseMethodDescriptor "([BI)C" = some ⟨[(.array .byte), .int], some .char⟩ := by decide +kernel
theorem d20_10 : decode jdk_52_method_83_code 10 = .ok (.ireturn, 1) := by decide +kernel
theorem ef_20 (m : MethodId) (x0 : Nat) (x1 : Int32) : entryFrame m #[(.ref x0), (.int x1)] 2 = mkF m 0 #[.val (.ref x0), .val (.int x1)] [] := by first | (simp [entryFrame, mkF, argsToLocals, Value.category]; done) | rfl
set_option maxRecDepth 65536 in
set_option maxHeartbeats 40000000 in
theorem rmUCA (l : Launch) (Z : State) (a0 : Array Value) (hw : ∀ d ∈ tables_1, d.before a0 Z = true) (a1 : Nat) (i : Nat) (k1 : ClassId) (n : Nat) (f : Nat → Int32) (cs : Int32) (fm : Value) (h0 : Heap) (n0 : Nat) (Z0 : n0 ≤ h0.size) (SE : SEnv Z cs fm) (O0 : Old Z n0 h0) (A1 : Arf Z h0 a1 k1 .byte (2 * n) (utf f)) (hi : i < n) (hn : n < 2 ^ 28) (hc : 0 ≤ (f i).toInt ∧ (f i).toInt ≤ 65535) :
    Met l (⟨"java/lang/StringUTF16", "charAt", "([BI)C"⟩ : MethodName) jdk_52_method_83_code 2 (some .char) [] ({ frames := 3, cells := 0, slots := 0, locals := 48 } : Room) Z #[(.ref a1), (.int (Int32.ofNat i))] h0 (fun v h L => v = some (.int (f i)) ∧ Fr n0 L ∧ h = h0) := by
  refine of_goal (plainFor_of_name (by first | (simp [plainName, overriddenIn]; done) | decide +kernel)) ?_
  intro p e s m below meth c s₁ C X0 e0
  have C0 := C
  obtain ⟨hx, hZ, hby, hml, hret, hown, hnm⟩ := C
  have hown : s.vm.findClass "java/lang/StringUTF16" = some m.cls := hown
  have hret : meth.sig.returnType = (some .char) := hret
  have N0 := Fr.nil n0
  rw [ef_20]
  refine Goal.step (T' := s₁) (g' := (mkF m 1 #[.val (.ref a1), .val (.int (Int32.ofNat i))] [(.int (Int32.ofNat i))])) ?_ (fun t k => XS.iloadN X0.here hx rfl (hb hby d20_0) rfl k)
  refine Goal.step (T' := s₁) (g' := (mkF m 2 #[.val (.ref a1), .val (.int (Int32.ofNat i))] [(.ref a1), (.int (Int32.ofNat i))])) ?_ (fun t k => XS.aloadN X0.here hx rfl (hb hby d20_1) rfl rfl k)
  obtain ⟨v1001, T1001, h1001, L1001, X1001, e1001, hQ1001, st1001⟩ := callStatic X0 hx hZ hown (hw _ (List.mem_of_getElem? (i := 91) rfl)) (hw _ (List.mem_of_getElem? (i := 92) rfl)) (hw _ (List.mem_of_getElem? (i := 48) rfl)) (hw _ (List.mem_of_getElem? (i := 93) rfl)) (by decide) (rmUCI l Z a0 hw i a1 k1 n (utf f) cs fm h0 n0 (by omega) SE O0 A1 hi hn) e0 (W := 0) (by decide) (by decide) (by decide) (by decide) (g := (mkF m 2 #[.val (.ref a1), .val (.int (Int32.ofNat i))] [(.ref a1), (.int (Int32.ofNat i))])) rfl (by rw [hml]; rfl) (argsL := [(.int (Int32.ofNat i)), (.ref a1)]) (rest := []) (lenOf pd_3 rfl) rfl (by show 2 * 0 + _ ≤ _; exact Nat.le_of_eq rfl) (hb hby d20_2) rfl
  obtain ⟨rfl, M1001, q1001⟩ := hQ1001
  rw [q1001] at e1001
  have N1001 := Fr.app N0 M1001
  refine Goal.step (T' := T1001) (g' := (mkF m 5 #[.val (.ref a1), .val (.int (Int32.ofNat i))] [])) ?_ st1001
  refine Goal.step (T' := T1001) (g' := (mkF m 6 #[.val (.ref a1), .val (.int (Int32.ofNat i))] [(.ref a1)])) ?_ (fun t k => XS.aloadN X1001.here hx rfl (hb hby d20_5) rfl rfl k)
  refine Goal.step (T' := T1001) (g' := (mkF m 7 #[.val (.ref a1), .val (.int (Int32.ofNat i))] [(.int (Int32.ofNat i)), (.ref a1)])) ?_ (fun t k => XS.iloadN X1001.here hx rfl (hb hby d20_6) rfl k)
  obtain ⟨v1002, T1002, h1002, L1002, X1002, e1002, hQ1002, st1002⟩ := callStatic X1001 hx hZ hown (hw _ (List.mem_of_getElem? (i := 72) rfl)) (hw _ (List.mem_of_getElem? (i := 73) rfl)) (hw _ (List.mem_of_getElem? (i := 48) rfl)) (hw _ (List.mem_of_getElem? (i := 74) rfl)) (by decide) (rmUGC l Z a0 hw a1 i k1 n f cs fm h0 n0 (by omega) SE O0 A1 hi hn hc) e1001 (W := 0) (by decide) (by decide) (by decide) (by decide) (g := (mkF m 7 #[.val (.ref a1), .val (.int (Int32.ofNat i))] [(.int (Int32.ofNat i)), (.ref a1)])) rfl (by rw [hml]; rfl) (argsL := [(.ref a1), (.int (Int32.ofNat i))]) (rest := []) (lenOf pd_4 rfl) rfl (by show 2 * 0 + _ ≤ _; exact Nat.le_of_eq rfl) (hb hby d20_7) rfl
  obtain ⟨rfl, M1002, q1002⟩ := hQ1002
  rw [q1002] at e1002
  have N1002 := Fr.app N1001 M1002
  refine Goal.step (T' := T1002) (g' := (mkF m 10 #[.val (.ref a1), .val (.int (Int32.ofNat i))] [(.int (f i))])) ?_ st1002
  refine Goal.retN (t := .char) X1002 hx hret (by simp) (hb hby d20_10) ?_
  refine ⟨?_, by decide, by decide⟩
  rw [e1002]
  exact ⟨congrArg (fun z => some (Value.int z)) (own_i2c _ hc.1 hc.2), N1002, rfl⟩
theorem d8_0 : decode jdk_42_method_152_code 0 = .ok (.getstatic 38, 3) := by decide +kernel
theorem d8_3 : decode jdk_42_method_152_code 3 = .ok (.ifCond .eq 10, 3) := by decide +kernel
theorem d8_6 : decode jdk_42_method_152_code 6 = .ok (.aload_n 0, 1) := by decide +kernel
theorem d8_7 : decode jdk_42_method_152_code 7 = .ok (.getfield 15, 3) := by decide +kernel
theorem d8_10 : decode jdk_42_method_152_code 10 = .ok (.goto 4, 3) := by decide +kernel
theorem d8_14 : decode jdk_42_method_152_code 14 = .ok (.ireturn, 1) := by decide +kernel
theorem ef_8 (m : MethodId) (x0 : Nat) : entryFrame m #[(.ref x0)] 1 = mkF m 0 #[.val (.ref x0)] [] := by first | (simp [entryFrame, mkF, argsToLocals, Value.category]; done) | rfl
set_option maxRecDepth 65536 in
set_option maxHeartbeats 40000000 in
theorem rmCOD (l : Launch) (Z : State) (a0 : Array Value) (hw : ∀ d ∈ tables_1, d.before a0 Z = true) (a1 : Nat) (co : Int32) (cs : Int32) (fm : Value) (h0 : Heap) (n0 : Nat) (Z0 : n0 ≤ h0.size) (SE : SEnv Z cs fm) (O0 : Old Z n0 h0) (F1 : Fld Z h0 a1 "java/lang/String" "coder" "B" (.int co)) (hco : co = 0 ∨ co = 1) :
    Met l (⟨"java/lang/String", "coder", "()B"⟩ : MethodName) jdk_42_method_152_code 1 (some .byte) [] ({ frames := 0, cells := 0, slots := 0, locals := 0 } : Room) Z #[(.ref a1)] h0 (fun v h L => v = some (.int co) ∧ Fr n0 L ∧ h = h0) := by
  refine of_goal (plainFor_of_name (by first | (simp [plainName, overriddenIn]; done) | decide +kernel)) ?_
  intro p e s m below meth c s₁ C X0 e0
  have C0 := C
  obtain ⟨hx, hZ, hby, hml, hret, hown, hnm⟩ := C
  have hown : s.vm.findClass "java/lang/String" = some m.cls := hown
  have hret : meth.sig.returnType = (some .byte) := hret
  have N0 := Fr.nil n0
  rw [ef_8]
  have S1001 : Sta Z h0 "java/lang/String" "COMPACT_STRINGS" "Z" (.int cs) := Sta.ext O0.2 SE.1
  obtain ⟨T1002, X1002, e1002, st1002⟩ := getS2 X0 hx hZ hown (host := "") (Or.inl (hw _ (List.mem_of_getElem? (i := 45) rfl))) Via.refl e0 S1001 (g := (mkF m 0 #[.val (.ref a1)] [])) rfl (hb hby d8_0)
  refine Goal.step (T' := T1002) (g' := (mkF m 3 #[.val (.ref a1)] [(.int cs)])) ?_ st1002
  refine Goal.step (T' := T1002) (g' := (mkF m 6 #[.val (.ref a1)] [])) ?_ (fun t k => XS.ifNo X1002.here hx rfl (hb hby d8_3) rfl ((if0 _ _).trans (feq SE.2.1).1) k)
  refine Goal.step (T' := T1002) (g' := (mkF m 7 #[.val (.ref a1)] [(.ref a1)])) ?_ (fun t k => XS.aloadN X1002.here hx rfl (hb hby d8_6) rfl rfl k)
  obtain ⟨T1003, X1003, e1003, st1003⟩ := getF X1002 hx hZ hown (host := "") (Or.inl (hw _ (List.mem_of_getElem? (i := 30) rfl))) Via.refl e1002 F1 (g := (mkF m 7 #[.val (.ref a1)] [(.ref a1)])) rfl rfl (hb hby d8_7)
  refine Goal.step (T' := T1003) (g' := (mkF m 10 #[.val (.ref a1)] [(.int co)])) ?_ st1003
  refine Goal.step (T' := T1003) (g' := (mkF m 14 #[.val (.ref a1)] [(.int co)])) ?_ (fun t k => XS.goto X1003.here hx rfl (pc0 := 10) (pc' := 14) rfl (hb hby d8_10) (by decide) (by decide) k)
  refine Goal.retN (t := .byte) X1003 hx hret (by simp) (hb hby d8_14) ?_
  refine ⟨?_, by decide, by decide⟩
  rw [e1003]
  exact ⟨congrArg (fun z => some (Value.int z)) (by rcases hco with rfl | rfl <;> decide), N0, rfl⟩
theorem d19_0 : decode jdk_42_method_154_code 0 = .ok (.getstatic 38, 3) := by decide +kernel
theorem d19_3 : decode jdk_42_method_154_code 3 = .ok (.ifCond .eq 14, 3) := by decide +kernel
theorem d19_6 : decode jdk_42_method_154_code 6 = .ok (.aload_n 0, 1) := by decide +kernel
theorem d19_7 : decode jdk_42_method_154_code 7 = .ok (.getfield 15, 3) := by decide +kernel
theorem d19_10 : decode jdk_42_method_154_code 10 = .ok (.ifCond .ne 7, 3) := by decide +kernel
theorem d19_13 : decode jdk_42_method_154_code 13 = .ok (.iconst 1, 1) := by decide +kernel
theorem d19_14 : decode jdk_42_method_154_code 14 = .ok (.goto 4, 3) := by decide +kernel
theorem d19_18 : decode jdk_42_method_154_code 18 = .ok (.ireturn, 1) := by decide +kernel
theorem ef_19 (m : MethodId) (x0 : Nat) : entryFrame m #[(.ref x0)] 1 = mkF m 0 #[.val (.ref x0)] [] := by first | (simp [entryFrame, mkF, argsToLocals, Value.category]; done) | rfl
set_option maxRecDepth 65536 in
set_option maxHeartbeats 40000000 in
theorem rmISL1 (l : Launch) (Z : State) (a0 : Array Value) (hw : ∀ d ∈ tables_1, d.before a0 Z = true) (a1 : Nat) (co : Int32) (cs : Int32) (fm : Value) (h0 : Heap) (n0 : Nat) (Z0 : n0 ≤ h0.size) (SE : SEnv Z cs fm) (O0 : Old Z n0 h0) (F1 : Fld Z h0 a1 "java/lang/String" "coder" "B" (.int co)) (hco : co = 0) :
    Met l (⟨"java/lang/String", "isLatin1", "()Z"⟩ : MethodName) jdk_42_method_154_code 1 (some .boolean) [] ({ frames := 0, cells := 0, slots := 0, locals := 0 } : Room) Z #[(.ref a1)] h0 (fun v h L => v = some (.int (1 : Int32)) ∧ Fr n0 L ∧ h = h0) := by
  refine of_goal (plainFor_of_name (by first | (simp [plainName, overriddenIn]; done) | decide +kernel)) ?_
  intro p e s m below meth c s₁ C X0 e0
  have C0 := C
  obtain ⟨hx, hZ, hby, hml, hret, hown, hnm⟩ := C
  have hown : s.vm.findClass "java/lang/String" = some m.cls := hown
  have hret : meth.sig.returnType = (some .boolean) := hret
  have N0 := Fr.nil n0
  rw [ef_19]
  have S1001 : Sta Z h0 "java/lang/String" "COMPACT_STRINGS" "Z" (.int cs) := Sta.ext O0.2 SE.1
  obtain ⟨T1002, X1002, e1002, st1002⟩ := getS2 X0 hx hZ hown (host := "") (Or.inl (hw _ (List.mem_of_getElem? (i := 45) rfl))) Via.refl e0 S1001 (g := (mkF m 0 #[.val (.ref a1)] [])) rfl (hb hby d19_0)
  refine Goal.step (T' := T1002) (g' := (mkF m 3 #[.val (.ref a1)] [(.int cs)])) ?_ st1002
  refine Goal.step (T' := T1002) (g' := (mkF m 6 #[.val (.ref a1)] [])) ?_ (fun t k => XS.ifNo X1002.here hx rfl (hb hby d19_3) rfl ((if0 _ _).trans (feq SE.2.1).1) k)
  refine Goal.step (T' := T1002) (g' := (mkF m 7 #[.val (.ref a1)] [(.ref a1)])) ?_ (fun t k => XS.aloadN X1002.here hx rfl (hb hby d19_6) rfl rfl k)
  obtain ⟨T1003, X1003, e1003, st1003⟩ := getF X1002 hx hZ hown (host := "") (Or.inl (hw _ (List.mem_of_getElem? (i := 30) rfl))) Via.refl e1002 F1 (g := (mkF m 7 #[.val (.ref a1)] [(.ref a1)])) rfl rfl (hb hby d19_7)
  refine Goal.step (T' := T1003) (g' := (mkF m 10 #[.val (.ref a1)] [(.int co)])) ?_ st1003
  refine Goal.step (T' := T1003) (g' := (mkF m 13 #[.val (.ref a1)] [])) ?_ (fun t k => XS.ifNo X1003.here hx rfl (hb hby d19_10) rfl ((if0 _ _).trans (teq hco).2) k)
  refine Goal.step (T' := T1003) (g' := (mkF m 14 #[.val (.ref a1)] [(.int (1 : Int32))])) ?_ (fun t k => XS.iconst X1003.here hx rfl (hb hby d19_13) k)
  refine Goal.step (T' := T1003) (g' := (mkF m 18 #[.val (.ref a1)] [(.int (1 : Int32))])) ?_ (fun t k => XS.goto X1003.here hx rfl (pc0 := 14) (pc' := 18) rfl (hb hby d19_14) (by decide) (by decide) k)
  refine Goal.retN (t := .boolean) X1003 hx hret (by simp) (hb hby d19_18) ?_
  refine ⟨?_, by decide, by decide⟩
  rw [e1003]
  exact ⟨rfl, N0, rfl⟩
theorem d19_17 : decode jdk_42_method_154_code 17 = .ok (.iconst 0, 1) := by decide +kernel
set_option maxRecDepth 65536 in
set_option maxHeartbeats 40000000 in
theorem rmISL0 (l : Launch) (Z : State) (a0 : Array Value) (hw : ∀ d ∈ tables_1, d.before a0 Z = true) (a1 : Nat) (co : Int32) (cs : Int32) (fm : Value) (h0 : Heap) (n0 : Nat) (Z0 : n0 ≤ h0.size) (SE : SEnv Z cs fm) (O0 : Old Z n0 h0) (F1 : Fld Z h0 a1 "java/lang/String" "coder" "B" (.int co)) (hco : ¬ co = 0) :
    Met l (⟨"java/lang/String", "isLatin1", "()Z"⟩ : MethodName) jdk_42_method_154_code 1 (some .boolean) [] ({ frames := 0, cells := 0, slots := 0, locals := 0 } : Room) Z #[(.ref a1)] h0 (fun v h L => v = some (.int (0 : Int32)) ∧ Fr n0 L ∧ h = h0) := by
  refine of_goal (plainFor_of_name (by first | (simp [plainName, overriddenIn]; done) | decide +kernel)) ?_
  intro p e s m below meth c s₁ C X0 e0
  have C0 := C
  obtain ⟨hx, hZ, hby, hml, hret, hown, hnm⟩ := C
  have hown : s.vm.findClass "java/lang/String" = some m.cls := hown
  have hret : meth.sig.returnType = (some .boolean) := hret
  have N0 := Fr.nil n0
  rw [ef_19]
  have S1001 : Sta Z h0 "java/lang/String" "COMPACT_STRINGS" "Z" (.int cs) := Sta.ext O0.2 SE.1
  obtain ⟨T1002, X1002, e1002, st1002⟩ := getS2 X0 hx hZ hown (host := "") (Or.inl (hw _ (List.mem_of_getElem? (i := 45) rfl))) Via.refl e0 S1001 (g := (mkF m 0 #[.val (.ref a1)] [])) rfl (hb hby d19_0)
  refine Goal.step (T' := T1002) (g' := (mkF m 3 #[.val (.ref a1)] [(.int cs)])) ?_ st1002
  refine Goal.step (T' := T1002) (g' := (mkF m 6 #[.val (.ref a1)] [])) ?_ (fun t k => XS.ifNo X1002.here hx rfl (hb hby d19_3) rfl ((if0 _ _).trans (feq SE.2.1).1) k)
  refine Goal.step (T' := T1002) (g' := (mkF m 7 #[.val (.ref a1)] [(.ref a1)])) ?_ (fun t k => XS.aloadN X1002.here hx rfl (hb hby d19_6) rfl rfl k)
  obtain ⟨T1003, X1003, e1003, st1003⟩ := getF X1002 hx hZ hown (host := "") (Or.inl (hw _ (List.mem_of_getElem? (i := 30) rfl))) Via.refl e1002 F1 (g := (mkF m 7 #[.val (.ref a1)] [(.ref a1)])) rfl rfl (hb hby d19_7)
  refine Goal.step (T' := T1003) (g' := (mkF m 10 #[.val (.ref a1)] [(.int co)])) ?_ st1003
  refine Goal.step (T' := T1003) (g' := (mkF m 17 #[.val (.ref a1)] [])) ?_ (fun t k => XS.ifYes X1003.here hx rfl (pc0 := 10) (pc' := 17) rfl (hb hby d19_10) rfl ((if0 _ _).trans (feq hco).2) (by decide) (by decide) k)
  refine Goal.step (T' := T1003) (g' := (mkF m 18 #[.val (.ref a1)] [(.int (0 : Int32))])) ?_ (fun t k => XS.iconst X1003.here hx rfl (hb hby d19_17) k)
  refine Goal.retN (t := .boolean) X1003 hx hret (by simp) (hb hby d19_18) ?_
  refine ⟨?_, by decide, by decide⟩
  rw [e1003]
  exact ⟨rfl, N0, rfl⟩
theorem d7_0 : decode jdk_42_method_54_code 0 = .ok (.aload_n 0, 1) := by decide +kernel
theorem d7_1 : decode jdk_42_method_54_code 1 = .ok (.getfield 9, 3) := by decide +kernel
theorem d7_4 : decode jdk_42_method_54_code 4 = .ok (.arraylength, 1) := by decide +kernel
theorem d7_5 : decode jdk_42_method_54_code 5 = .ok (.aload_n 0, 1) := by decide +kernel
theorem d7_6 : decode jdk_42_method_54_code 6 = .ok (.invokevirtual 335, 3) := by decide +kernel
theorem pd_5 : parseMethodDescriptor "()B" = some ⟨[], some .byte⟩ := by decide +kernel
theorem d7_9 : decode jdk_42_method_54_code 9 = .ok (.ishr, 1) := by decide +kernel
theorem d7_10 : decode jdk_42_method_54_code 10 = .ok (.ireturn, 1) := by decide +kernel
theorem ef_7 (m : MethodId) (x0 : Nat) : entryFrame m #[(.ref x0)] 1 = mkF m 0 #[.val (.ref x0)] [] := by first | (simp [entryFrame, mkF, argsToLocals, Value.category]; done) | rfl
set_option maxRecDepth 65536 in
set_option maxHeartbeats 40000000 in
theorem rmLEN (l : Launch) (Z : State) (a0 : Array Value) (hw : ∀ d ∈ tables_1, d.before a0 Z = true) (a1 : Nat) (n : Nat) (f : Nat → Int32) (cs : Int32) (fm : Value) (h0 : Heap) (n0 : Nat) (Z0 : n0 ≤ h0.size) (SE : SEnv Z cs fm) (O0 : Old Z n0 h0) (S1 : Str Z h0 a1 n f) :
    Met l (⟨"java/lang/String", "length", "()I"⟩ : MethodName) jdk_42_method_54_code 1 (some .int) [] ({ frames := 1, cells := 0, slots := 0, locals := 13 } : Room) Z #[(.ref a1)] h0 (fun v h L => v = some (.int (Int32.ofNat n)) ∧ Fr n0 L ∧ h = h0) := by
  refine of_goal (plainFor_of_name (by first | (simp [plainName, overriddenIn]; done) | decide +kernel)) ?_
  intro p e s m below meth c s₁ C X0 e0
  have C0 := C
  obtain ⟨hx, hZ, hby, hml, hret, hown, hnm⟩ := C
  have hown : s.vm.findClass "java/lang/String" = some m.cls := hown
  have hret : meth.sig.returnType = (some .int) := hret
  have N0 := Fr.nil n0
  rw [ef_7]
  obtain ⟨⟨hn, hc⟩, X1, b, k1, Fv, hr⟩ := S1
  rcases hr with ⟨Fc, hl, A1⟩ | ⟨Fc, A1⟩
  · refine Goal.step (T' := s₁) (g' := (mkF m 1 #[.val (.ref a1)] [(.ref a1)])) ?_ (fun t k => XS.aloadN X0.here hx rfl (hb hby d7_0) rfl rfl k)
    obtain ⟨T1001, X1001, e1001, st1001⟩ := getF X0 hx hZ hown (host := "") (Or.inl (hw _ (List.mem_of_getElem? (i := 29) rfl))) Via.refl e0 Fv (g := (mkF m 1 #[.val (.ref a1)] [(.ref a1)])) rfl rfl (hb hby d7_1)
    refine Goal.step (T' := T1001) (g' := (mkF m 4 #[.val (.ref a1)] [(.ref b)])) ?_ st1001
    obtain ⟨cl1002, Ar1002, q1002, S1002, H1002⟩ := (id A1)
    refine Goal.step (T' := T1001) (g' := (mkF m 5 #[.val (.ref a1)] [(.int (Int32.ofNat n))])) ?_ (fun t k => X1001.arraylength hx (by rw [e1001]; exact Ar1002.1) (State.isArrayOf_alike hZ.alike Ar1002.2.1) (g := (mkF m 4 #[.val (.ref a1)] [(.ref b)])) rfl rfl (hb hby d7_4) _ (by rw [S1002]; exact k))
    refine Goal.step (T' := T1001) (g' := (mkF m 6 #[.val (.ref a1)] [(.ref a1), (.int (Int32.ofNat n))])) ?_ (fun t k => XS.aloadN X1001.here hx rfl (hb hby d7_5) rfl rfl k)
    obtain ⟨v1003, T1003, h1003, L1003, X1003, e1003, hQ1003, st1003⟩ := callVirt X1001 hx hZ hown (hw _ (List.mem_of_getElem? (i := 40) rfl)) (hw _ (List.mem_of_getElem? (i := 41) rfl)) (notFace_of_selects (args := #[]) (mvT hZ (hw _ (List.mem_of_getElem? (i := 43) rfl)))) (hw _ (List.mem_of_getElem? (i := 43) rfl)) (hw _ (List.mem_of_getElem? (i := 42) rfl)) (hw _ (List.mem_of_getElem? (i := 12) rfl)) (hw _ (List.mem_of_getElem? (i := 44) rfl)) (by decide) (rmCOD l Z a0 hw a1 (0 : Int32) cs fm h0 n0 (by omega) SE O0 Fc (Or.inl rfl)) e1001 X1 (W := 1) (by decide) (by decide) (by decide) (by decide) (g := (mkF m 6 #[.val (.ref a1)] [(.ref a1), (.int (Int32.ofNat n))])) rfl (by rw [hml]; rfl) (argsL := []) (rest := [(.int (Int32.ofNat n))]) (lenOf pd_5 rfl) rfl (by show 2 * 0 + _ ≤ _; exact Nat.le_of_eq rfl) (hb hby d7_6) rfl
    obtain ⟨rfl, M1003, q1003⟩ := hQ1003
    rw [q1003] at e1003
    have N1003 := Fr.app N0 M1003
    refine Goal.step (T' := T1003) (g' := (mkF m 9 #[.val (.ref a1)] [(.int (0 : Int32)), (.int (Int32.ofNat n))])) ?_ st1003
    refine Goal.step (T' := T1003) (g' := (mkF m 10 #[.val (.ref a1)] [(.int ((Int32.ofNat n) >>> ((0 : Int32) &&& 31)))])) ?_ (fun t k => XS.ishr X1003.here hx rfl (hb hby d7_9) rfl k)
    refine Goal.retI X1003 hx hret (hb hby d7_10) ?_
    refine ⟨?_, by decide, by decide⟩
    rw [e1003]
    exact ⟨congrArg (fun z => some (Value.int z)) (own_shr0 n), N1003, rfl⟩
  · refine Goal.step (T' := s₁) (g' := (mkF m 1 #[.val (.ref a1)] [(.ref a1)])) ?_ (fun t k => XS.aloadN X0.here hx rfl (hb hby d7_0) rfl rfl k)
    obtain ⟨T1004, X1004, e1004, st1004⟩ := getF X0 hx hZ hown (host := "") (Or.inl (hw _ (List.mem_of_getElem? (i := 29) rfl))) Via.refl e0 Fv (g := (mkF m 1 #[.val (.ref a1)] [(.ref a1)])) rfl rfl (hb hby d7_1)
    refine Goal.step (T' := T1004) (g' := (mkF m 4 #[.val (.ref a1)] [(.ref b)])) ?_ st1004
    obtain ⟨cl1005, Ar1005, q1005, S1005, H1005⟩ := (id A1)
    refine Goal.step (T' := T1004) (g' := (mkF m 5 #[.val (.ref a1)] [(.int (Int32.ofNat (2 * n)))])) ?_ (fun t k => X1004.arraylength hx (by rw [e1004]; exact Ar1005.1) (State.isArrayOf_alike hZ.alike Ar1005.2.1) (g := (mkF m 4 #[.val (.ref a1)] [(.ref b)])) rfl rfl (hb hby d7_4) _ (by rw [S1005]; exact k))
    refine Goal.step (T' := T1004) (g' := (mkF m 6 #[.val (.ref a1)] [(.ref a1), (.int (Int32.ofNat (2 * n)))])) ?_ (fun t k => XS.aloadN X1004.here hx rfl (hb hby d7_5) rfl rfl k)
    obtain ⟨v1006, T1006, h1006, L1006, X1006, e1006, hQ1006, st1006⟩ := callVirt X1004 hx hZ hown (hw _ (List.mem_of_getElem? (i := 40) rfl)) (hw _ (List.mem_of_getElem? (i := 41) rfl)) (notFace_of_selects (args := #[]) (mvT hZ (hw _ (List.mem_of_getElem? (i := 43) rfl)))) (hw _ (List.mem_of_getElem? (i := 43) rfl)) (hw _ (List.mem_of_getElem? (i := 42) rfl)) (hw _ (List.mem_of_getElem? (i := 12) rfl)) (hw _ (List.mem_of_getElem? (i := 44) rfl)) (by decide) (rmCOD l Z a0 hw a1 (1 : Int32) cs fm h0 n0 (by omega) SE O0 Fc (Or.inr rfl)) e1004 X1 (W := 1) (by decide) (by decide) (by decide) (by decide) (g := (mkF m 6 #[.val (.ref a1)] [(.ref a1), (.int (Int32.ofNat (2 * n)))])) rfl (by rw [hml]; rfl) (argsL := []) (rest := [(.int (Int32.ofNat (2 * n)))]) (lenOf pd_5 rfl) rfl (by show 2 * 0 + _ ≤ _; exact Nat.le_of_eq rfl) (hb hby d7_6) rfl
    obtain ⟨rfl, M1006, q1006⟩ := hQ1006
    rw [q1006] at e1006
    have N1006 := Fr.app N0 M1006
    refine Goal.step (T' := T1006) (g' := (mkF m 9 #[.val (.ref a1)] [(.int (1 : Int32)), (.int (Int32.ofNat (2 * n)))])) ?_ st1006
    refine Goal.step (T' := T1006) (g' := (mkF m 10 #[.val (.ref a1)] [(.int ((Int32.ofNat (2 * n)) >>> ((1 : Int32) &&& 31)))])) ?_ (fun t k => XS.ishr X1006.here hx rfl (hb hby d7_9) rfl k)
    refine Goal.retI X1006 hx hret (hb hby d7_10) ?_
    refine ⟨?_, by decide, by decide⟩
    rw [e1006]
    exact ⟨congrArg (fun z => some (Value.int z)) (own_shr1 hn), N1006, rfl⟩
theorem d18_0 : decode jdk_42_method_56_code 0 = .ok (.aload_n 0, 1) := by decide +kernel
theorem d18_1 : decode jdk_42_method_56_code 1 = .ok (.invokevirtual 492, 3) := by decide +kernel
theorem pd_6 : parseMethodDescriptor "()Z" = some ⟨[], some .boolean⟩ := by decide +kernel
theorem d18_4 : decode jdk_42_method_56_code 4 = .ok (.ifCond .eq 12, 3) := by decide +kernel
theorem d18_7 : decode jdk_42_method_56_code 7 = .ok (.aload_n 0, 1) := by decide +kernel
theorem d18_8 : decode jdk_42_method_56_code 8 = .ok (.getfield 9, 3) := by decide +kernel
theorem d18_11 : decode jdk_42_method_56_code 11 = .ok (.iload_n 1, 1) := by decide +kernel
theorem d18_12 : decode jdk_42_method_56_code 12 = .ok (.invokestatic 495, 3) := by decide +kernel
theorem d18_15 : decode jdk_42_method_56_code 15 = .ok (.ireturn, 1) := by decide +kernel
theorem d18_16 : decode jdk_42_method_56_code 16 = .ok (.aload_n 0, 1) := by decide +kernel
theorem d18_17 : decode jdk_42_method_56_code 17 = .ok (.getfield 9, 3) := by decide +kernel
theorem d18_20 : decode jdk_42_method_56_code 20 = .ok (.iload_n 1, 1) := by decide +kernel
theorem d18_21 : decode jdk_42_method_56_code 21 = .ok (.invokestatic 498, 3) := by decide +kernel
theorem d18_24 : decode jdk_42_method_56_code 24 = .ok (.ireturn, 1) := by decide +kernel
theorem ef_18 (m : MethodId) (x0 : Nat) (x1 : Int32) : entryFrame m #[(.ref x0), (.int x1)] 2 = mkF m 0 #[.val (.ref x0), .val (.int x1)] [] := by first | (simp [entryFrame, mkF, argsToLocals, Value.category]; done) | rfl
set_option maxRecDepth 65536 in
set_option maxHeartbeats 40000000 in
theorem rmCHA (l : Launch) (Z : State) (a0 : Array Value) (hw : ∀ d ∈ tables_1, d.before a0 Z = true) (a1 : Nat) (i : Nat) (n : Nat) (f : Nat → Int32) (cs : Int32) (fm : Value) (h0 : Heap) (n0 : Nat) (Z0 : n0 ≤ h0.size) (SE : SEnv Z cs fm) (O0 : Old Z n0 h0) (S1 : Str Z h0 a1 n f) (hi : i < n) :
    Met l (⟨"java/lang/String", "charAt", "(I)C"⟩ : MethodName) jdk_42_method_56_code 2 (some .char) [] ({ frames := 4, cells := 0, slots := 0, locals := 62 } : Room) Z #[(.ref a1), (.int (Int32.ofNat i))] h0 (fun v h L => v = some (.int (f i)) ∧ Fr n0 L ∧ h = h0) := by
  refine of_goal (plainFor_of_name (by first | (simp [plainName, overriddenIn]; done) | decide +kernel)) ?_
  intro p e s m below meth c s₁ C X0 e0
  have C0 := C
  obtain ⟨hx, hZ, hby, hml, hret, hown, hnm⟩ := C
  have hown : s.vm.findClass "java/lang/String" = some m.cls := hown
  have hret : meth.sig.returnType = (some .char) := hret
  have N0 := Fr.nil n0
  rw [ef_18]
  obtain ⟨⟨hn, hc⟩, X1, b, k1, Fv, hr⟩ := S1
  rcases hr with ⟨Fc, hl, A1⟩ | ⟨Fc, A1⟩
  · refine Goal.step (T' := s₁) (g' := (mkF m 1 #[.val (.ref a1), .val (.int (Int32.ofNat i))] [(.ref a1)])) ?_ (fun t k => XS.aloadN X0.here hx rfl (hb hby d18_0) rfl rfl k)
    obtain ⟨v1001, T1001, h1001, L1001, X1001, e1001, hQ1001, st1001⟩ := callVirt X0 hx hZ hown (hw _ (List.mem_of_getElem? (i := 83) rfl)) (hw _ (List.mem_of_getElem? (i := 84) rfl)) (notFace_of_selects (args := #[]) (mvT hZ (hw _ (List.mem_of_getElem? (i := 86) rfl)))) (hw _ (List.mem_of_getElem? (i := 86) rfl)) (hw _ (List.mem_of_getElem? (i := 85) rfl)) (hw _ (List.mem_of_getElem? (i := 12) rfl)) (hw _ (List.mem_of_getElem? (i := 87) rfl)) (by decide) (rmISL1 l Z a0 hw a1 (0 : Int32) cs fm h0 n0 (by omega) SE O0 Fc (by decide)) e0 X1 (W := 0) (by decide) (by decide) (by decide) (by decide) (g := (mkF m 1 #[.val (.ref a1), .val (.int (Int32.ofNat i))] [(.ref a1)])) rfl (by rw [hml]; rfl) (argsL := []) (rest := []) (lenOf pd_6 rfl) rfl (by show 2 * 0 + _ ≤ _; exact Nat.le_of_eq rfl) (hb hby d18_1) rfl
    obtain ⟨rfl, M1001, q1001⟩ := hQ1001
    rw [q1001] at e1001
    have N1001 := Fr.app N0 M1001
    refine Goal.step (T' := T1001) (g' := (mkF m 4 #[.val (.ref a1), .val (.int (Int32.ofNat i))] [(.int (1 : Int32))])) ?_ st1001
    refine Goal.step (T' := T1001) (g' := (mkF m 7 #[.val (.ref a1), .val (.int (Int32.ofNat i))] [])) ?_ (fun t k => XS.ifNo X1001.here hx rfl (hb hby d18_4) rfl ((if0 _ _).trans (feq (by decide)).1) k)
    refine Goal.step (T' := T1001) (g' := (mkF m 8 #[.val (.ref a1), .val (.int (Int32.ofNat i))] [(.ref a1)])) ?_ (fun t k => XS.aloadN X1001.here hx rfl (hb hby d18_7) rfl rfl k)
    obtain ⟨T1002, X1002, e1002, st1002⟩ := getF X1001 hx hZ hown (host := "") (Or.inl (hw _ (List.mem_of_getElem? (i := 29) rfl))) Via.refl e1001 Fv (g := (mkF m 8 #[.val (.ref a1), .val (.int (Int32.ofNat i))] [(.ref a1)])) rfl rfl (hb hby d18_8)
    refine Goal.step (T' := T1002) (g' := (mkF m 11 #[.val (.ref a1), .val (.int (Int32.ofNat i))] [(.ref b)])) ?_ st1002
    refine Goal.step (T' := T1002) (g' := (mkF m 12 #[.val (.ref a1), .val (.int (Int32.ofNat i))] [(.int (Int32.ofNat i)), (.ref b)])) ?_ (fun t k => XS.iloadN X1002.here hx rfl (hb hby d18_11) rfl k)
    obtain ⟨v1003, T1003, h1003, L1003, X1003, e1003, hQ1003, st1003⟩ := callStatic X1002 hx hZ hown (hw _ (List.mem_of_getElem? (i := 108) rfl)) (hw _ (List.mem_of_getElem? (i := 109) rfl)) (hw _ (List.mem_of_getElem? (i := 110) rfl)) (hw _ (List.mem_of_getElem? (i := 111) rfl)) (by decide) (rmLCA l Z a0 hw b i k1 n f cs fm h0 n0 (by omega) SE O0 A1 hi hn ⟨(hc i hi).1, hl i hi⟩) e1002 (W := 0) (by decide) (by decide) (by decide) (by decide) (g := (mkF m 12 #[.val (.ref a1), .val (.int (Int32.ofNat i))] [(.int (Int32.ofNat i)), (.ref b)])) rfl (by rw [hml]; rfl) (argsL := [(.ref b), (.int (Int32.ofNat i))]) (rest := []) (lenOf pd_4 rfl) rfl (by show 2 * 0 + _ ≤ _; exact Nat.le_of_eq rfl) (hb hby d18_12) rfl
    obtain ⟨rfl, M1003, q1003⟩ := hQ1003
    rw [q1003] at e1003
    have N1003 := Fr.app N1001 M1003
    refine Goal.step (T' := T1003) (g' := (mkF m 15 #[.val (.ref a1), .val (.int (Int32.ofNat i))] [(.int (f i))])) ?_ st1003
    refine Goal.retN (t := .char) X1003 hx hret (by simp) (hb hby d18_15) ?_
    refine ⟨?_, by decide, by decide⟩
    rw [e1003]
    exact ⟨congrArg (fun z => some (Value.int z)) (own_i2c _ (hc i hi).1 (hc i hi).2), N1003, rfl⟩
  · refine Goal.step (T' := s₁) (g' := (mkF m 1 #[.val (.ref a1), .val (.int (Int32.ofNat i))] [(.ref a1)])) ?_ (fun t k => XS.aloadN X0.here hx rfl (hb hby d18_0) rfl rfl k)
    obtain ⟨v1004, T1004, h1004, L1004, X1004, e1004, hQ1004, st1004⟩ := callVirt X0 hx hZ hown (hw _ (List.mem_of_getElem? (i := 83) rfl)) (hw _ (List.mem_of_getElem? (i := 84) rfl)) (notFace_of_selects (args := #[]) (mvT hZ (hw _ (List.mem_of_getElem? (i := 86) rfl)))) (hw _ (List.mem_of_getElem? (i := 86) rfl)) (hw _ (List.mem_of_getElem? (i := 85) rfl)) (hw _ (List.mem_of_getElem? (i := 12) rfl)) (hw _ (List.mem_of_getElem? (i := 87) rfl)) (by decide) (rmISL0 l Z a0 hw a1 (1 : Int32) cs fm h0 n0 (by omega) SE O0 Fc (by decide)) e0 X1 (W := 0) (by decide) (by decide) (by decide) (by decide) (g := (mkF m 1 #[.val (.ref a1), .val (.int (Int32.ofNat i))] [(.ref a1)])) rfl (by rw [hml]; rfl) (argsL := []) (rest := []) (lenOf pd_6 rfl) rfl (by show 2 * 0 + _ ≤ _; exact Nat.le_of_eq rfl) (hb hby d18_1) rfl
    obtain ⟨rfl, M1004, q1004⟩ := hQ1004
    rw [q1004] at e1004
    have N1004 := Fr.app N0 M1004
    refine Goal.step (T' := T1004) (g' := (mkF m 4 #[.val (.ref a1), .val (.int (Int32.ofNat i))] [(.int (0 : Int32))])) ?_ st1004
    refine Goal.step (T' := T1004) (g' := (mkF m 16 #[.val (.ref a1), .val (.int (Int32.ofNat i))] [])) ?_ (fun t k => XS.ifYes X1004.here hx rfl (pc0 := 4) (pc' := 16) rfl (hb hby d18_4) rfl ((if0 _ _).trans (teq (by decide)).1) (by decide) (by decide) k)
    refine Goal.step (T' := T1004) (g' := (mkF m 17 #[.val (.ref a1), .val (.int (Int32.ofNat i))] [(.ref a1)])) ?_ (fun t k => XS.aloadN X1004.here hx rfl (hb hby d18_16) rfl rfl k)
    obtain ⟨T1005, X1005, e1005, st1005⟩ := getF X1004 hx hZ hown (host := "") (Or.inl (hw _ (List.mem_of_getElem? (i := 29) rfl))) Via.refl e1004 Fv (g := (mkF m 17 #[.val (.ref a1), .val (.int (Int32.ofNat i))] [(.ref a1)])) rfl rfl (hb hby d18_17)
    refine Goal.step (T' := T1005) (g' := (mkF m 20 #[.val (.ref a1), .val (.int (Int32.ofNat i))] [(.ref b)])) ?_ st1005
    refine Goal.step (T' := T1005) (g' := (mkF m 21 #[.val (.ref a1), .val (.int (Int32.ofNat i))] [(.int (Int32.ofNat i)), (.ref b)])) ?_ (fun t k => XS.iloadN X1005.here hx rfl (hb hby d18_20) rfl k)
    obtain ⟨v1006, T1006, h1006, L1006, X1006, e1006, hQ1006, st1006⟩ := callStatic X1005 hx hZ hown (hw _ (List.mem_of_getElem? (i := 88) rfl)) (hw _ (List.mem_of_getElem? (i := 89) rfl)) (hw _ (List.mem_of_getElem? (i := 48) rfl)) (hw _ (List.mem_of_getElem? (i := 90) rfl)) (by decide) (rmUCA l Z a0 hw b i k1 n f cs fm h0 n0 (by omega) SE O0 A1 hi hn (hc i hi)) e1005 (W := 0) (by decide) (by decide) (by decide) (by decide) (g := (mkF m 21 #[.val (.ref a1), .val (.int (Int32.ofNat i))] [(.int (Int32.ofNat i)), (.ref b)])) rfl (by rw [hml]; rfl) (argsL := [(.ref b), (.int (Int32.ofNat i))]) (rest := []) (lenOf pd_4 rfl) rfl (by show 2 * 0 + _ ≤ _; exact Nat.le_of_eq rfl) (hb hby d18_21) rfl
    obtain ⟨rfl, M1006, q1006⟩ := hQ1006
    rw [q1006] at e1006
    have N1006 := Fr.app N1004 M1006
    refine Goal.step (T' := T1006) (g' := (mkF m 24 #[.val (.ref a1), .val (.int (Int32.ofNat i))] [(.int (f i))])) ?_ st1006
    refine Goal.retN (t := .char) X1006 hx hret (by simp) (hb hby d18_24) ?_
    refine ⟨?_, by decide, by decide⟩
    rw [e1006]
    exact ⟨congrArg (fun z => some (Value.int z)) (own_i2c _ (hc i hi).1 (hc i hi).2), N1006, rfl⟩

theorem own_EW {Z : State} {a0 : Array Value} (hw : ∀ d ∈ tables_1, d.before a0 Z = true) : EW Z a0 consts_1 := by
  intro p hp
  simp only [consts_1, List.mem_cons, List.not_mem_nil, or_false] at hp
  subst hp
  exact ⟨"", (hw _ (List.mem_of_getElem? (i := 23) rfl)), by simp⟩

theorem d10_3 : decode jdk_52_method_21_code 3 = .ok (.iload 5, 2) := by decide +kernel
theorem d10_5 : decode jdk_52_method_21_code 5 = .ok (.iload 4, 2) := by decide +kernel
theorem d10_7 : decode jdk_52_method_21_code 7 = .ok (.if_icmp .ge 37, 3) := by decide +kernel
theorem d10_10 : decode jdk_52_method_21_code 10 = .ok (.aload_n 0, 1) := by decide +kernel
theorem d10_11 : decode jdk_52_method_21_code 11 = .ok (.iload_n 1, 1) := by decide +kernel
theorem d10_12 : decode jdk_52_method_21_code 12 = .ok (.caload, 1) := by decide +kernel
theorem d10_13 : decode jdk_52_method_21_code 13 = .ok (.istore 6, 2) := by decide +kernel
theorem os10_13 {z0 : Value} {z1 : Value} {z2 : Value} {z3 : Value} {z4 : Value} {z5 : Value} {s6 : Slot} {v : Int32} (h : One s6) : storeLocals #[.val z0, .val z1, .val z2, .val z3, .val z4, .val z5, s6] 6 (.int v) = some #[.val z0, .val z1, .val z2, .val z3, .val z4, .val z5, .val (.int v)] := by
  rcases h with rfl | ⟨w, rfl, hw⟩
  · rfl
  · cases w <;> first | rfl | (simp [Value.category] at hw)
theorem d10_15 : decode jdk_52_method_21_code 15 = .ok (.iload 6, 2) := by decide +kernel
theorem d10_17 : decode jdk_52_method_21_code 17 = .ok (.sipush 255, 3) := by decide +kernel
theorem d10_20 : decode jdk_52_method_21_code 20 = .ok (.if_icmp .le 6, 3) := by decide +kernel
theorem d10_23 : decode jdk_52_method_21_code 23 = .ok (.iload 5, 2) := by decide +kernel
theorem d10_25 : decode jdk_52_method_21_code 25 = .ok (.ireturn, 1) := by decide +kernel
theorem d10_26 : decode jdk_52_method_21_code 26 = .ok (.aload_n 2, 1) := by decide +kernel
theorem d10_27 : decode jdk_52_method_21_code 27 = .ok (.iload_n 3, 1) := by decide +kernel
theorem d10_28 : decode jdk_52_method_21_code 28 = .ok (.iload 6, 2) := by decide +kernel
theorem d10_30 : decode jdk_52_method_21_code 30 = .ok (.i2b, 1) := by decide +kernel
theorem d10_31 : decode jdk_52_method_21_code 31 = .ok (.bastore, 1) := by decide +kernel
theorem d10_32 : decode jdk_52_method_21_code 32 = .ok (.iinc 1 1, 3) := by decide +kernel
theorem d10_35 : decode jdk_52_method_21_code 35 = .ok (.iinc 3 1, 3) := by decide +kernel
theorem d10_38 : decode jdk_52_method_21_code 38 = .ok (.iinc 5 1, 3) := by decide +kernel
theorem d10_41 : decode jdk_52_method_21_code 41 = .ok (.goto (-38), 3) := by decide +kernel
theorem d10_44 : decode jdk_52_method_21_code 44 = .ok (.iload 4, 2) := by decide +kernel
theorem d10_46 : decode jdk_52_method_21_code 46 = .ok (.ireturn, 1) := by decide +kernel
set_option maxRecDepth 65536 in
set_option maxHeartbeats 40000000 in
theorem segCP {p : Program} {l : Launch} {e : Env} {s : State} {m : MethodId} {args : Array Value} {below : List Frame} {meth : Method} {c : Code} {Z : State} {a0 : Array Value} {T0 : State} {locs : List Loc} (hw : ∀ d ∈ tables_1, d.before a0 Z = true) (C0 : Ctx p s m meth c Z jdk_52_method_21_code 7 (some .int) "java/lang/StringUTF16" "compress") (d i n : Nat) (a1 b1 : Nat) (k1 k2 : ClassId) (f g : Nat → Int32) (s6 : Slot) (h0 : Heap) (n0 : Nat) (Z0 : n0 ≤ h0.size) (X0 : Stand p l e ({ frames := 0, cells := 0, slots := 0, locals := 0 } : Room) s m args below meth c T0 locs 0 0) (e0 : T0.heap = h0) (N0 : Fr n0 locs) (hd : i + d = n) (hn : n < 2 ^ 28) (hc : ∀ j, j < n → 0 ≤ (f j).toInt ∧ (f j).toInt ≤ 65535) (A1 : Arf Z h0 a1 k1 .char n f) (A2 : Arf Z h0 b1 k2 .byte n g) (nab : a1 ≠ b1) (g1 : n0 ≤ b1) (hg : ∀ j, j < i → g j = lat f j) (hl : ∀ j, j < i → (f j).toInt ≤ 255) (o6 : One s6) :
    Goal p l e ({ frames := 0, cells := 0, slots := 0, locals := 0 } : Room) s m args below meth c (In ({ frames := 0, cells := 0, slots := 0, locals := 0 } : Room) (fun v h L => Fr n0 L ∧ Keep h0 h [b1] ∧ ((v = some (.int (Int32.ofNat n)) ∧ (∀ j, j < n → (f j).toInt ≤ 255) ∧ Arf Z h b1 k2 .byte n (lat f)) ∨ ∃ j : Nat, j < n ∧ v = some (.int (Int32.ofNat j)) ∧ 255 < (f j).toInt))) T0 (mkF m 3 #[.val (.ref a1), .val (.int (Int32.ofNat i)), .val (.ref b1), .val (.int (Int32.ofNat i)), .val (.int (Int32.ofNat n)), .val (.int (Int32.ofNat i)), s6] []) := by
  have C := C0
  obtain ⟨hx, hZ, hby, hml, hret, hown, hnm⟩ := C
  have hown : s.vm.findClass "java/lang/StringUTF16" = some m.cls := hown
  have hret : meth.sig.returnType = (some .int) := hret
  refine Goal.step (T' := T0) (g' := (mkF m 5 #[.val (.ref a1), .val (.int (Int32.ofNat i)), .val (.ref b1), .val (.int (Int32.ofNat i)), .val (.int (Int32.ofNat n)), .val (.int (Int32.ofNat i)), s6] [(.int (Int32.ofNat i))])) ?_ (fun t k => XS.iload X0.here hx rfl (hb hby d10_3) rfl k)
  refine Goal.step (T' := T0) (g' := (mkF m 7 #[.val (.ref a1), .val (.int (Int32.ofNat i)), .val (.ref b1), .val (.int (Int32.ofNat i)), .val (.int (Int32.ofNat n)), .val (.int (Int32.ofNat i)), s6] [(.int (Int32.ofNat n)), (.int (Int32.ofNat i))])) ?_ (fun t k => XS.iload X0.here hx rfl (hb hby d10_5) rfl k)
  by_cases c1001 : (Int32.ofNat i) < (Int32.ofNat n)
  · refine Goal.step (T' := T0) (g' := (mkF m 10 #[.val (.ref a1), .val (.int (Int32.ofNat i)), .val (.ref b1), .val (.int (Int32.ofNat i)), .val (.int (Int32.ofNat n)), .val (.int (Int32.ofNat i)), s6] [])) ?_ (fun t k => XS.icmpNo X0.here hx rfl (hb hby d10_7) rfl (tlt c1001).2.1 k)
    have hin : i < n := (nat_lt (by omega) (by omega)).mp c1001
    refine Goal.step (T' := T0) (g' := (mkF m 11 #[.val (.ref a1), .val (.int (Int32.ofNat i)), .val (.ref b1), .val (.int (Int32.ofNat i)), .val (.int (Int32.ofNat n)), .val (.int (Int32.ofNat i)), s6] [(.ref a1)])) ?_ (fun t k => XS.aloadN X0.here hx rfl (hb hby d10_10) rfl rfl k)
    refine Goal.step (T' := T0) (g' := (mkF m 12 #[.val (.ref a1), .val (.int (Int32.ofNat i)), .val (.ref b1), .val (.int (Int32.ofNat i)), .val (.int (Int32.ofNat n)), .val (.int (Int32.ofNat i)), s6] [(.int (Int32.ofNat i)), (.ref a1)])) ?_ (fun t k => XS.iloadN X0.here hx rfl (hb hby d10_11) rfl k)
    obtain ⟨cl1002, Ar1002, q1002, S1002, H1002⟩ := (id A1)
    have hlt1002 : i < n := hin
    have hn1002 : n < 2 ^ 31 := by omega
    have hin1002 : ¬ ((Int32.ofNat i) < 0 ∨ cl1002.slots.size ≤ ((Int32.ofNat i)).toNatClampNeg) := nat_inb S1002 hlt1002 hn1002
    have hat1002 : cl1002.slots[((Int32.ofNat i)).toNatClampNeg]? = some (.int (f i)) := by rw [nat_clamp (show i < 2 ^ 31 by omega)]; exact H1002 _ hlt1002
    refine Goal.step (T' := T0) (g' := (mkF m 13 #[.val (.ref a1), .val (.int (Int32.ofNat i)), .val (.ref b1), .val (.int (Int32.ofNat i)), .val (.int (Int32.ofNat n)), .val (.int (Int32.ofNat i)), s6] [(.int (f i))])) ?_ (fun t k => X0.caload hx (j := (Int32.ofNat i)) (v := (.int (f i))) (by rw [e0]; exact Ar1002.1) (State.isArrayOf_alike hZ.alike Ar1002.2.1) Ar1002.2.2 hin1002 hat1002 (g := (mkF m 12 #[.val (.ref a1), .val (.int (Int32.ofNat i)), .val (.ref b1), .val (.int (Int32.ofNat i)), .val (.int (Int32.ofNat n)), .val (.int (Int32.ofNat i)), s6] [(.int (Int32.ofNat i)), (.ref a1)])) rfl rfl (hb hby d10_12) _ k)
    refine Goal.step (T' := T0) (g' := (mkF m 15 #[.val (.ref a1), .val (.int (Int32.ofNat i)), .val (.ref b1), .val (.int (Int32.ofNat i)), .val (.int (Int32.ofNat n)), .val (.int (Int32.ofNat i)), .val (.int (f i))] [])) ?_ (fun t k => XS.istore X0.here hx rfl (hb hby d10_13) rfl (l' := #[.val (.ref a1), .val (.int (Int32.ofNat i)), .val (.ref b1), .val (.int (Int32.ofNat i)), .val (.int (Int32.ofNat n)), .val (.int (Int32.ofNat i)), .val (.int (f i))]) (os10_13 o6) k)
    refine Goal.step (T' := T0) (g' := (mkF m 17 #[.val (.ref a1), .val (.int (Int32.ofNat i)), .val (.ref b1), .val (.int (Int32.ofNat i)), .val (.int (Int32.ofNat n)), .val (.int (Int32.ofNat i)), .val (.int (f i))] [(.int (f i))])) ?_ (fun t k => XS.iload X0.here hx rfl (hb hby d10_15) rfl k)
    refine Goal.step (T' := T0) (g' := (mkF m 20 #[.val (.ref a1), .val (.int (Int32.ofNat i)), .val (.ref b1), .val (.int (Int32.ofNat i)), .val (.int (Int32.ofNat n)), .val (.int (Int32.ofNat i)), .val (.int (f i))] [(.int (255 : Int32)), (.int (f i))])) ?_ (fun t k => XS.sipush X0.here hx rfl (hb hby d10_17) k)
    by_cases c1003 : (255 : Int32) < (f i)
    · refine Goal.step (T' := T0) (g' := (mkF m 23 #[.val (.ref a1), .val (.int (Int32.ofNat i)), .val (.ref b1), .val (.int (Int32.ofNat i)), .val (.int (Int32.ofNat n)), .val (.int (Int32.ofNat i)), .val (.int (f i))] [])) ?_ (fun t k => XS.icmpNo X0.here hx rfl (hb hby d10_20) rfl (tlt c1003).2.2.2 k)
      refine Goal.step (T' := T0) (g' := (mkF m 25 #[.val (.ref a1), .val (.int (Int32.ofNat i)), .val (.ref b1), .val (.int (Int32.ofNat i)), .val (.int (Int32.ofNat n)), .val (.int (Int32.ofNat i)), .val (.int (f i))] [(.int (Int32.ofNat i))])) ?_ (fun t k => XS.iload X0.here hx rfl (hb hby d10_23) rfl k)
      refine Goal.retI X0 hx hret (hb hby d10_25) ?_
      refine ⟨?_, by decide, by decide⟩
      rw [e0]
      exact ⟨N0, (Keep.refl h0 [b1]), Or.inr ⟨i, hin, rfl, (own_255 _).mp c1003⟩⟩
    · refine Goal.step (T' := T0) (g' := (mkF m 26 #[.val (.ref a1), .val (.int (Int32.ofNat i)), .val (.ref b1), .val (.int (Int32.ofNat i)), .val (.int (Int32.ofNat n)), .val (.int (Int32.ofNat i)), .val (.int (f i))] [])) ?_ (fun t k => XS.icmpYes X0.here hx rfl (pc0 := 20) (pc' := 26) rfl (hb hby d10_20) rfl (flt c1003).2.2.2 (by decide) (by decide) k)
      refine Goal.step (T' := T0) (g' := (mkF m 27 #[.val (.ref a1), .val (.int (Int32.ofNat i)), .val (.ref b1), .val (.int (Int32.ofNat i)), .val (.int (Int32.ofNat n)), .val (.int (Int32.ofNat i)), .val (.int (f i))] [(.ref b1)])) ?_ (fun t k => XS.aloadN X0.here hx rfl (hb hby d10_26) rfl rfl k)
      refine Goal.step (T' := T0) (g' := (mkF m 28 #[.val (.ref a1), .val (.int (Int32.ofNat i)), .val (.ref b1), .val (.int (Int32.ofNat i)), .val (.int (Int32.ofNat n)), .val (.int (Int32.ofNat i)), .val (.int (f i))] [(.int (Int32.ofNat i)), (.ref b1)])) ?_ (fun t k => XS.iloadN X0.here hx rfl (hb hby d10_27) rfl k)
      refine Goal.step (T' := T0) (g' := (mkF m 30 #[.val (.ref a1), .val (.int (Int32.ofNat i)), .val (.ref b1), .val (.int (Int32.ofNat i)), .val (.int (Int32.ofNat n)), .val (.int (Int32.ofNat i)), .val (.int (f i))] [(.int (f i)), (.int (Int32.ofNat i)), (.ref b1)])) ?_ (fun t k => XS.iload X0.here hx rfl (hb hby d10_28) rfl k)
      refine Goal.step (T' := T0) (g' := (mkF m 31 #[.val (.ref a1), .val (.int (Int32.ofNat i)), .val (.ref b1), .val (.int (Int32.ofNat i)), .val (.int (Int32.ofNat n)), .val (.int (Int32.ofNat i)), .val (.int (f i))] [(.int ((f i).toInt8.toInt32)), (.int (Int32.ofNat i)), (.ref b1)])) ?_ (fun t k => XS.i2b X0.here hx rfl (hb hby d10_30) rfl k)
      obtain ⟨cl1004, Ar1004, q1004, S1004, H1004⟩ := (id A2)
      have hlt1004 : i < n := hin
      have hn1004 : n < 2 ^ 31 := by omega
      have hin1004 : ¬ ((Int32.ofNat i) < 0 ∨ cl1004.slots.size ≤ ((Int32.ofNat i)).toNatClampNeg) := nat_inb S1004 hlt1004 hn1004
      obtain ⟨T1004, h1004, X1004, e1004, W1004, st1004⟩ := stB X0 hx hZ e0 Ar1004 (j := (Int32.ofNat i)) hin1004 (g := (mkF m 31 #[.val (.ref a1), .val (.int (Int32.ofNat i)), .val (.ref b1), .val (.int (Int32.ofNat i)), .val (.int (Int32.ofNat n)), .val (.int (Int32.ofNat i)), .val (.int (f i))] [(.int ((f i).toInt8.toInt32)), (.int (Int32.ofNat i)), (.ref b1)])) rfl rfl (hb hby d10_31)
      rw [nat_clamp (show i < 2 ^ 31 by omega)] at W1004 X1004
      refine Goal.step (T' := T1004) (g' := (mkF m 32 #[.val (.ref a1), .val (.int (Int32.ofNat i)), .val (.ref b1), .val (.int (Int32.ofNat i)), .val (.int (Int32.ofNat n)), .val (.int (Int32.ofNat i)), .val (.int (f i))] [])) ?_ st1004
      have sz1005 : h0.size ≤ h1004.size := Nat.le_of_eq W1004.size.symm
      have V1004 : Arf Z h1004 b1 k2 .byte n (fun z => if z = i then (nar .byte ((f i).toInt8.toInt32)) else (g) z) := Arf.set Ar1004 q1004 S1004 H1004 W1004
      have N1004 := Fr.snoc X1004 N0 (by omega : n0 ≤ b1)
      refine Goal.step (T' := T1004) (g' := (mkF m 35 #[.val (.ref a1), .val (.int ((Int32.ofNat i) + (1 : Int32))), .val (.ref b1), .val (.int (Int32.ofNat i)), .val (.int (Int32.ofNat n)), .val (.int (Int32.ofNat i)), .val (.int (f i))] [])) ?_ (fun t k => XS.iinc X1004.here hx rfl (hb hby d10_32) rfl (l' := #[.val (.ref a1), .val (.int ((Int32.ofNat i) + (1 : Int32))), .val (.ref b1), .val (.int (Int32.ofNat i)), .val (.int (Int32.ofNat n)), .val (.int (Int32.ofNat i)), .val (.int (f i))]) rfl k)
      refine Goal.step (T' := T1004) (g' := (mkF m 38 #[.val (.ref a1), .val (.int ((Int32.ofNat i) + (1 : Int32))), .val (.ref b1), .val (.int ((Int32.ofNat i) + (1 : Int32))), .val (.int (Int32.ofNat n)), .val (.int (Int32.ofNat i)), .val (.int (f i))] [])) ?_ (fun t k => XS.iinc X1004.here hx rfl (hb hby d10_35) rfl (l' := #[.val (.ref a1), .val (.int ((Int32.ofNat i) + (1 : Int32))), .val (.ref b1), .val (.int ((Int32.ofNat i) + (1 : Int32))), .val (.int (Int32.ofNat n)), .val (.int (Int32.ofNat i)), .val (.int (f i))]) rfl k)
      refine Goal.step (T' := T1004) (g' := (mkF m 41 #[.val (.ref a1), .val (.int ((Int32.ofNat i) + (1 : Int32))), .val (.ref b1), .val (.int ((Int32.ofNat i) + (1 : Int32))), .val (.int (Int32.ofNat n)), .val (.int ((Int32.ofNat i) + (1 : Int32))), .val (.int (f i))] [])) ?_ (fun t k => XS.iinc X1004.here hx rfl (hb hby d10_38) rfl (l' := #[.val (.ref a1), .val (.int ((Int32.ofNat i) + (1 : Int32))), .val (.ref b1), .val (.int ((Int32.ofNat i) + (1 : Int32))), .val (.int (Int32.ofNat n)), .val (.int ((Int32.ofNat i) + (1 : Int32))), .val (.int (f i))]) rfl k)
      refine Goal.step (T' := T1004) (g' := (mkF m 3 #[.val (.ref a1), .val (.int ((Int32.ofNat i) + (1 : Int32))), .val (.ref b1), .val (.int ((Int32.ofNat i) + (1 : Int32))), .val (.int (Int32.ofNat n)), .val (.int ((Int32.ofNat i) + (1 : Int32))), .val (.int (f i))] [])) ?_ (fun t k => XS.goto X1004.here hx rfl (pc0 := 41) (pc' := 3) rfl (hb hby d10_41) (by decide) (by decide) k)
      have k1006 : Keep h0 h1004 [b1] := ((Keep.refl h0 [b1]).wr W1004 (Or.inl (by simp)))
      have f1007 : Arf Z h1004 a1 k1 .char n f := (A1.other W1004 (nne (by omega)))
      rw [nat_one]
      have hlf : (f i).toInt ≤ 255 := Int.not_lt.mp (fun q => c1003 ((own_255 _).mpr q))
      exact (segCP hw C0 (d - 1) (i + 1) n a1 b1 k1 k2 f (fun z => if z = i then (nar .byte ((f i).toInt8.toInt32)) else (g) z) (.val (.int (f i))) h1004 n0 (by omega) X1004 e1004 N1004 (by omega) hn hc f1007 V1004 nab g1 (own_lat hg) (own_step (P := fun j => (f j).toInt ≤ 255) hl hlf) (Or.inr ⟨_, rfl, rfl⟩)).imp (fun v h L k n ⟨⟨q1, q2, q3⟩, q4⟩ => ⟨⟨q1, k1006.trans q2 (allS (Or.inl (by simp)) all0), q3⟩, q4⟩)
  · refine Goal.step (T' := T0) (g' := (mkF m 44 #[.val (.ref a1), .val (.int (Int32.ofNat i)), .val (.ref b1), .val (.int (Int32.ofNat i)), .val (.int (Int32.ofNat n)), .val (.int (Int32.ofNat i)), s6] [])) ?_ (fun t k => XS.icmpYes X0.here hx rfl (pc0 := 7) (pc' := 44) rfl (hb hby d10_7) rfl (flt c1001).2.1 (by decide) (by decide) k)
    have hin : ¬ i < n := fun q => c1001 ((nat_lt (by omega) (by omega)).mpr q)
    refine Goal.step (T' := T0) (g' := (mkF m 46 #[.val (.ref a1), .val (.int (Int32.ofNat i)), .val (.ref b1), .val (.int (Int32.ofNat i)), .val (.int (Int32.ofNat n)), .val (.int (Int32.ofNat i)), s6] [(.int (Int32.ofNat n))])) ?_ (fun t k => XS.iload X0.here hx rfl (hb hby d10_44) rfl k)
    refine Goal.retI X0 hx hret (hb hby d10_46) ?_
    refine ⟨?_, by decide, by decide⟩
    rw [e0]
    exact ⟨N0, (Keep.refl h0 [b1]), Or.inl ⟨rfl, fun j hj => hl j (by omega), Arf.congr A2 (fun j hj => hg j (by omega))⟩⟩
termination_by d
decreasing_by all_goals omega
theorem d10_0 : decode jdk_52_method_21_code 0 = .ok (.iconst 0, 1) := by decide +kernel
theorem d10_1 : decode jdk_52_method_21_code 1 = .ok (.istore 5, 2) := by decide +kernel
theorem ef_10 (m : MethodId) (x0 : Nat) (x2 : Nat) (x4 : Int32) : entryFrame m #[(.ref x0), (.int (0 : Int32)), (.ref x2), (.int (0 : Int32)), (.int x4)] 7 = mkF m 0 #[.val (.ref x0), .val (.int (0 : Int32)), .val (.ref x2), .val (.int (0 : Int32)), .val (.int x4), .unset, .unset] [] := by first | (simp [entryFrame, mkF, argsToLocals, Value.category]; done) | rfl
set_option maxRecDepth 65536 in
set_option maxHeartbeats 40000000 in
theorem rmCP (l : Launch) (Z : State) (a0 : Array Value) (hw : ∀ d ∈ tables_1, d.before a0 Z = true) (n : Nat) (a1 b1 : Nat) (k1 k2 : ClassId) (f g : Nat → Int32) (h0 : Heap) (n0 : Nat) (Z0 : n0 ≤ h0.size) (hn : n < 2 ^ 28) (hc : ∀ j, j < n → 0 ≤ (f j).toInt ∧ (f j).toInt ≤ 65535) (A1 : Arf Z h0 a1 k1 .char n f) (A2 : Arf Z h0 b1 k2 .byte n g) (nab : a1 ≠ b1) (g1 : n0 ≤ b1) :
    Met l (⟨"java/lang/StringUTF16", "compress", "([CI[BII)I"⟩ : MethodName) jdk_52_method_21_code 7 (some .int) [] ({ frames := 0, cells := 0, slots := 0, locals := 0 } : Room) Z #[(.ref a1), (.int (0 : Int32)), (.ref b1), (.int (0 : Int32)), (.int (Int32.ofNat n))] h0 (fun v h L => Fr n0 L ∧ Keep h0 h [b1] ∧ ((v = some (.int (Int32.ofNat n)) ∧ (∀ j, j < n → (f j).toInt ≤ 255) ∧ Arf Z h b1 k2 .byte n (lat f)) ∨ ∃ j : Nat, j < n ∧ v = some (.int (Int32.ofNat j)) ∧ 255 < (f j).toInt)) := by
  refine of_goal (plainFor_of_name (by first | (simp [plainName, overriddenIn]; done) | decide +kernel)) ?_
  intro p e s m below meth c s₁ C X0 e0
  have C0 := C
  obtain ⟨hx, hZ, hby, hml, hret, hown, hnm⟩ := C
  have hown : s.vm.findClass "java/lang/StringUTF16" = some m.cls := hown
  have hret : meth.sig.returnType = (some .int) := hret
  have N0 := Fr.nil n0
  rw [ef_10]
  refine Goal.step (T' := s₁) (g' := (mkF m 1 #[.val (.ref a1), .val (.int (0 : Int32)), .val (.ref b1), .val (.int (0 : Int32)), .val (.int (Int32.ofNat n)), .unset, .unset] [(.int (0 : Int32))])) ?_ (fun t k => XS.iconst X0.here hx rfl (hb hby d10_0) k)
  refine Goal.step (T' := s₁) (g' := (mkF m 3 #[.val (.ref a1), .val (.int (0 : Int32)), .val (.ref b1), .val (.int (0 : Int32)), .val (.int (Int32.ofNat n)), .val (.int (0 : Int32)), .unset] [])) ?_ (fun t k => XS.istore X0.here hx rfl (hb hby d10_1) rfl (l' := #[.val (.ref a1), .val (.int (0 : Int32)), .val (.ref b1), .val (.int (0 : Int32)), .val (.int (Int32.ofNat n)), .val (.int (0 : Int32)), .unset]) rfl k)
  exact segCP hw C0 n 0 n a1 b1 k1 k2 f g .unset h0 n0 Z0 X0 e0 N0 (by omega) hn hc A1 A2 nab g1 (fun j hj => absurd hj (Nat.not_lt_zero _)) (fun j hj => absurd hj (Nat.not_lt_zero _)) (Or.inl rfl)
theorem d14_0 : decode jdk_52_method_3_code 0 = .ok (.iload_n 0, 1) := by decide +kernel
theorem d14_1 : decode jdk_52_method_3_code 1 = .ok (.ifCond .ge 11, 3) := by decide +kernel
theorem d14_12 : decode jdk_52_method_3_code 12 = .ok (.iload_n 0, 1) := by decide +kernel
theorem d14_13 : decode jdk_52_method_3_code 13 = .ok (.ldc 20, 2) := by decide +kernel
theorem d14_15 : decode jdk_52_method_3_code 15 = .ok (.if_icmp .lt 40, 3) := by decide +kernel
theorem d14_55 : decode jdk_52_method_3_code 55 = .ok (.iload_n 0, 1) := by decide +kernel
theorem d14_56 : decode jdk_52_method_3_code 56 = .ok (.iconst 1, 1) := by decide +kernel
theorem d14_57 : decode jdk_52_method_3_code 57 = .ok (.ishl, 1) := by decide +kernel
theorem d14_58 : decode jdk_52_method_3_code 58 = .ok (.ireturn, 1) := by decide +kernel
theorem ef_14 (m : MethodId) (x0 : Int32) : entryFrame m #[(.int x0)] 1 = mkF m 0 #[.val (.int x0)] [] := by first | (simp [entryFrame, mkF, argsToLocals, Value.category]; done) | rfl
set_option maxRecDepth 65536 in
set_option maxHeartbeats 40000000 in
theorem rmNL (l : Launch) (Z : State) (a0 : Array Value) (hw : ∀ d ∈ tables_1, d.before a0 Z = true) (n : Nat) (h0 : Heap) (n0 : Nat) (Z0 : n0 ≤ h0.size) (hn : n < 2 ^ 28) :
    Met l (⟨"java/lang/StringUTF16", "newBytesLength", "(I)I"⟩ : MethodName) jdk_52_method_3_code 1 (some .int) [] ({ frames := 0, cells := 0, slots := 0, locals := 0 } : Room) Z #[(.int (Int32.ofNat n))] h0 (fun v h L => v = some (.int (Int32.ofNat (2 * n))) ∧ Fr n0 L ∧ h = h0) := by
  refine of_goal (plainFor_of_name (by first | (simp [plainName, overriddenIn]; done) | decide +kernel)) ?_
  intro p e s m below meth c s₁ C X0 e0
  have C0 := C
  obtain ⟨hx, hZ, hby, hml, hret, hown, hnm⟩ := C
  have hown : s.vm.findClass "java/lang/StringUTF16" = some m.cls := hown
  have hret : meth.sig.returnType = (some .int) := hret
  have N0 := Fr.nil n0
  rw [ef_14]
  refine Goal.step (T' := s₁) (g' := (mkF m 1 #[.val (.int (Int32.ofNat n))] [(.int (Int32.ofNat n))])) ?_ (fun t k => XS.iloadN X0.here hx rfl (hb hby d14_0) rfl k)
  refine Goal.step (T' := s₁) (g' := (mkF m 12 #[.val (.int (Int32.ofNat n))] [])) ?_ (fun t k => XS.ifYes X0.here hx rfl (pc0 := 1) (pc' := 12) rfl (hb hby d14_1) rfl ((if0 _ _).trans (flt (nat_nn (by omega))).2.1) (by decide) (by decide) k)
  refine Goal.step (T' := s₁) (g' := (mkF m 13 #[.val (.int (Int32.ofNat n))] [(.int (Int32.ofNat n))])) ?_ (fun t k => XS.iloadN X0.here hx rfl (hb hby d14_12) rfl k)
  refine Goal.step (T' := s₁) (g' := (mkF m 15 #[.val (.int (Int32.ofNat n))] [(.int (1073741823 : Int32)), (.int (Int32.ofNat n))])) ?_ (fun t k => X0.ldcInt hx hown (mvT hZ (hw _ (List.mem_of_getElem? (i := 65) rfl))) (g := (mkF m 13 #[.val (.int (Int32.ofNat n))] [(.int (Int32.ofNat n))])) rfl (hb hby d14_13) _ k)
  refine Goal.step (T' := s₁) (g' := (mkF m 55 #[.val (.int (Int32.ofNat n))] [])) ?_ (fun t k => XS.icmpYes X0.here hx rfl (pc0 := 15) (pc' := 55) rfl (hb hby d14_15) rfl (tlt (nat_ltc hn)).1 (by decide) (by decide) k)
  refine Goal.step (T' := s₁) (g' := (mkF m 56 #[.val (.int (Int32.ofNat n))] [(.int (Int32.ofNat n))])) ?_ (fun t k => XS.iloadN X0.here hx rfl (hb hby d14_55) rfl k)
  refine Goal.step (T' := s₁) (g' := (mkF m 57 #[.val (.int (Int32.ofNat n))] [(.int (1 : Int32)), (.int (Int32.ofNat n))])) ?_ (fun t k => XS.iconst X0.here hx rfl (hb hby d14_56) k)
  refine Goal.step (T' := s₁) (g' := (mkF m 58 #[.val (.int (Int32.ofNat n))] [(.int ((Int32.ofNat n) <<< ((1 : Int32) &&& 31)))])) ?_ (fun t k => XS.ishl X0.here hx rfl (hb hby d14_57) rfl k)
  refine Goal.retI X0 hx hret (hb hby d14_58) ?_
  refine ⟨?_, by decide, by decide⟩
  rw [e0]
  exact ⟨congrArg (fun z => some (Value.int z)) (own_shl1 hn), N0, rfl⟩
theorem d13_0 : decode jdk_52_method_2_code 0 = .ok (.iload_n 0, 1) := by decide +kernel
theorem d13_1 : decode jdk_52_method_2_code 1 = .ok (.invokestatic 11, 3) := by decide +kernel
theorem pd_7 : parseMethodDescriptor "(I)I" = some ⟨[.int], some .int⟩ := by decide +kernel
theorem d13_4 : decode jdk_52_method_2_code 4 = .ok (.newarray .byte, 2) := by decide +kernel
theorem d13_6 : decode jdk_52_method_2_code 6 = .ok (.areturn, 1) := by decide +kernel
theorem ef_13 (m : MethodId) (x0 : Int32) : entryFrame m #[(.int x0)] 1 = mkF m 0 #[.val (.int x0)] [] := by first | (simp [entryFrame, mkF, argsToLocals, Value.category]; done) | rfl
set_option maxRecDepth 65536 in
set_option maxHeartbeats 40000000 in
theorem rmNF (l : Launch) (Z : State) (a0 : Array Value) (hw : ∀ d ∈ tables_1, d.before a0 Z = true) (n : Nat) (h0 : Heap) (n0 : Nat) (Z0 : n0 ≤ h0.size) (hn : n ≤ 4) :
    Met l (⟨"java/lang/StringUTF16", "newBytesFor", "(I)[B"⟩ : MethodName) jdk_52_method_2_code 1 (some (.array .byte)) [] ({ frames := 1, cells := 1, slots := 8, locals := 12 } : Room) Z #[(.int (Int32.ofNat n))] h0 (fun v h L => ∃ (b : Nat) (k : ClassId), v = some (.ref b) ∧ Fr n0 L ∧ Ext h0 h ∧ h0.size ≤ b ∧ b < h.size ∧ Arf Z h b k .byte (2 * n) (fun _ => 0)) := by
  refine of_goal (plainFor_of_name (by first | (simp [plainName, overriddenIn]; done) | decide +kernel)) ?_
  intro p e s m below meth c s₁ C X0 e0
  have C0 := C
  obtain ⟨hx, hZ, hby, hml, hret, hown, hnm⟩ := C
  have hown : s.vm.findClass "java/lang/StringUTF16" = some m.cls := hown
  have hret : meth.sig.returnType = (some (.array .byte)) := hret
  have N0 := Fr.nil n0
  rw [ef_13]
  refine Goal.step (T' := s₁) (g' := (mkF m 1 #[.val (.int (Int32.ofNat n))] [(.int (Int32.ofNat n))])) ?_ (fun t k => XS.iloadN X0.here hx rfl (hb hby d13_0) rfl k)
  obtain ⟨v1001, T1001, h1001, L1001, X1001, e1001, hQ1001, st1001⟩ := callStatic X0 hx hZ hown (hw _ (List.mem_of_getElem? (i := 62) rfl)) (hw _ (List.mem_of_getElem? (i := 63) rfl)) (hw _ (List.mem_of_getElem? (i := 48) rfl)) (hw _ (List.mem_of_getElem? (i := 64) rfl)) (by decide) (rmNL l Z a0 hw n h0 n0 (by omega) (by omega)) e0 (W := 0) (by decide) (by decide) (by decide) (by decide) (g := (mkF m 1 #[.val (.int (Int32.ofNat n))] [(.int (Int32.ofNat n))])) rfl (by rw [hml]; rfl) (argsL := [(.int (Int32.ofNat n))]) (rest := []) (lenOf pd_7 rfl) rfl (by show 2 * 0 + _ ≤ _; exact Nat.le_of_eq rfl) (hb hby d13_1) rfl
  obtain ⟨rfl, M1001, q1001⟩ := hQ1001
  rw [q1001] at e1001
  have N1001 := Fr.app N0 M1001
  refine Goal.step (T' := T1001) (g' := (mkF m 4 #[.val (.int (Int32.ofNat n))] [(.int (Int32.ofNat (2 * n)))])) ?_ st1001
  obtain ⟨T1002, h1002, k1002, X1002, e1002, E1002, A1002, st1002⟩ := newP X1001 hx hZ (hw _ (List.mem_of_getElem? (i := 24) rfl)) e1001 (g := (mkF m 4 #[.val (.int (Int32.ofNat n))] [(.int (Int32.ofNat (2 * n)))])) rfl (hb hby d13_4) rfl (nat_nn (by omega)) (cap := 8) (by rw [nat_clamp (by omega)]; omega) (by decide) (by decide) (by decide)
  obtain ⟨b1002, g1002⟩ : ∃ z, z = h0.size := ⟨_, rfl⟩
  rw [← g1002] at A1002 st1002
  refine Goal.step (T' := T1002) (g' := (mkF m 6 #[.val (.int (Int32.ofNat n))] [(.ref b1002)])) ?_ st1002
  have sz1003 : h0.size ≤ h1002.size := E1002.1
  have lt_b1002 : b1002 < h1002.size := A1002.lt
  have V1002 : Arf Z h1002 b1002 k1002 .byte (2 * n) (fun _ => 0) := Arf.new A1002 rfl (nat_clamp (by omega))
  refine Goal.retA X1002 hx hret rfl rfl rfl (hb hby d13_6) ?_
  have k1004 : Keep h0 h1002 [] := ((Keep.refl h0 []).ext E1002)
  refine ⟨?_, by decide, by decide⟩
  rw [e1002]
  exact ⟨b1002, _, rfl, N1001, extKp (extRefl _) k1004 all0, by omega, by omega, V1002⟩
theorem d15_0 : decode jdk_52_method_4_code 0 = .ok (.getstatic 44, 3) := by decide +kernel
theorem d15_3 : decode jdk_52_method_4_code 3 = .ok (.ifCond .ne 25, 3) := by decide +kernel
theorem d15_28 : decode jdk_52_method_4_code 28 = .ok (.iload_n 1, 1) := by decide +kernel
theorem d15_29 : decode jdk_52_method_4_code 29 = .ok (.iconst 1, 1) := by decide +kernel
theorem d15_30 : decode jdk_52_method_4_code 30 = .ok (.ishl, 1) := by decide +kernel
theorem d15_31 : decode jdk_52_method_4_code 31 = .ok (.istore_n 1, 1) := by decide +kernel
theorem d15_32 : decode jdk_52_method_4_code 32 = .ok (.aload_n 0, 1) := by decide +kernel
theorem d15_33 : decode jdk_52_method_4_code 33 = .ok (.iload_n 1, 1) := by decide +kernel
theorem d15_34 : decode jdk_52_method_4_code 34 = .ok (.iinc 1 1, 3) := by decide +kernel
theorem d15_37 : decode jdk_52_method_4_code 37 = .ok (.iload_n 2, 1) := by decide +kernel
theorem d15_38 : decode jdk_52_method_4_code 38 = .ok (.getstatic 59, 3) := by decide +kernel
theorem d15_41 : decode jdk_52_method_4_code 41 = .ok (.ishr, 1) := by decide +kernel
theorem d15_42 : decode jdk_52_method_4_code 42 = .ok (.i2b, 1) := by decide +kernel
theorem d15_43 : decode jdk_52_method_4_code 43 = .ok (.bastore, 1) := by decide +kernel
theorem d15_44 : decode jdk_52_method_4_code 44 = .ok (.aload_n 0, 1) := by decide +kernel
theorem d15_45 : decode jdk_52_method_4_code 45 = .ok (.iload_n 1, 1) := by decide +kernel
theorem d15_46 : decode jdk_52_method_4_code 46 = .ok (.iload_n 2, 1) := by decide +kernel
theorem d15_47 : decode jdk_52_method_4_code 47 = .ok (.getstatic 63, 3) := by decide +kernel
theorem d15_50 : decode jdk_52_method_4_code 50 = .ok (.ishr, 1) := by decide +kernel
theorem d15_51 : decode jdk_52_method_4_code 51 = .ok (.i2b, 1) := by decide +kernel
theorem d15_52 : decode jdk_52_method_4_code 52 = .ok (.bastore, 1) := by decide +kernel
theorem d15_53 : decode jdk_52_method_4_code 53 = .ok (.return_, 1) := by decide +kernel
theorem ef_15 (m : MethodId) (x0 : Nat) (x1 : Int32) (x2 : Int32) : entryFrame m #[(.ref x0), (.int x1), (.int x2)] 3 = mkF m 0 #[.val (.ref x0), .val (.int x1), .val (.int x2)] [] := by first | (simp [entryFrame, mkF, argsToLocals, Value.category]; done) | rfl
set_option maxRecDepth 65536 in
set_option maxHeartbeats 40000000 in
theorem rmPC (l : Launch) (Z : State) (a0 : Array Value) (hw : ∀ d ∈ tables_1, d.before a0 Z = true) (a1 : Nat) (i : Nat) (x2 : Int32) (k1 : ClassId) (n : Nat) (g : Nat → Int32) (cs : Int32) (fm : Value) (h0 : Heap) (n0 : Nat) (Z0 : n0 ≤ h0.size) (SE : SEnv Z cs fm) (O0 : Old Z n0 h0) (A1 : Arf Z h0 a1 k1 .byte (2 * n) g) (hi : i < n) (hn : n < 2 ^ 28) (g1 : n0 ≤ a1) :
    Met l (⟨"java/lang/StringUTF16", "putChar", "([BII)V"⟩ : MethodName) jdk_52_method_4_code 3 none [] ({ frames := 0, cells := 0, slots := 0, locals := 0 } : Room) Z #[(.ref a1), (.int (Int32.ofNat i)), (.int x2)] h0 (fun v h L => v = none ∧ Fr n0 L ∧ Keep h0 h [a1] ∧ Arf Z h a1 k1 .byte (2 * n) (put g i x2)) := by
  refine of_goal (plainFor_of_name (by first | (simp [plainName, overriddenIn]; done) | decide +kernel)) ?_
  intro p e s m below meth c s₁ C X0 e0
  have C0 := C
  obtain ⟨hx, hZ, hby, hml, hret, hown, hnm⟩ := C
  have hown : s.vm.findClass "java/lang/StringUTF16" = some m.cls := hown
  have hret : meth.sig.returnType = none := hret
  have N0 := Fr.nil n0
  rw [ef_15]
  have S1001 : Sta Z h0 "java/lang/StringUTF16" "$assertionsDisabled" "Z" (.int (1 : Int32)) := Sta.ext O0.2 SE.2.2.1
  obtain ⟨T1002, X1002, e1002, st1002⟩ := getS2 X0 hx hZ hown (host := "") (Or.inl (hw _ (List.mem_of_getElem? (i := 69) rfl))) Via.refl e0 S1001 (g := (mkF m 0 #[.val (.ref a1), .val (.int (Int32.ofNat i)), .val (.int x2)] [])) rfl (hb hby d15_0)
  refine Goal.step (T' := T1002) (g' := (mkF m 3 #[.val (.ref a1), .val (.int (Int32.ofNat i)), .val (.int x2)] [(.int (1 : Int32))])) ?_ st1002
  refine Goal.step (T' := T1002) (g' := (mkF m 28 #[.val (.ref a1), .val (.int (Int32.ofNat i)), .val (.int x2)] [])) ?_ (fun t k => XS.ifYes X1002.here hx rfl (pc0 := 3) (pc' := 28) rfl (hb hby d15_3) rfl ((if0 _ _).trans (feq (by decide)).2) (by decide) (by decide) k)
  refine Goal.step (T' := T1002) (g' := (mkF m 29 #[.val (.ref a1), .val (.int (Int32.ofNat i)), .val (.int x2)] [(.int (Int32.ofNat i))])) ?_ (fun t k => XS.iloadN X1002.here hx rfl (hb hby d15_28) rfl k)
  refine Goal.step (T' := T1002) (g' := (mkF m 30 #[.val (.ref a1), .val (.int (Int32.ofNat i)), .val (.int x2)] [(.int (1 : Int32)), (.int (Int32.ofNat i))])) ?_ (fun t k => XS.iconst X1002.here hx rfl (hb hby d15_29) k)
  refine Goal.step (T' := T1002) (g' := (mkF m 31 #[.val (.ref a1), .val (.int (Int32.ofNat i)), .val (.int x2)] [(.int ((Int32.ofNat i) <<< ((1 : Int32) &&& 31)))])) ?_ (fun t k => XS.ishl X1002.here hx rfl (hb hby d15_30) rfl k)
  rw [own_shl1 (show i < 2 ^ 28 by omega)]
  refine Goal.step (T' := T1002) (g' := (mkF m 32 #[.val (.ref a1), .val (.int (Int32.ofNat (2 * i))), .val (.int x2)] [])) ?_ (fun t k => XS.istoreN X1002.here hx rfl (hb hby d15_31) rfl (l' := #[.val (.ref a1), .val (.int (Int32.ofNat (2 * i))), .val (.int x2)]) rfl k)
  refine Goal.step (T' := T1002) (g' := (mkF m 33 #[.val (.ref a1), .val (.int (Int32.ofNat (2 * i))), .val (.int x2)] [(.ref a1)])) ?_ (fun t k => XS.aloadN X1002.here hx rfl (hb hby d15_32) rfl rfl k)
  refine Goal.step (T' := T1002) (g' := (mkF m 34 #[.val (.ref a1), .val (.int (Int32.ofNat (2 * i))), .val (.int x2)] [(.int (Int32.ofNat (2 * i))), (.ref a1)])) ?_ (fun t k => XS.iloadN X1002.here hx rfl (hb hby d15_33) rfl k)
  refine Goal.step (T' := T1002) (g' := (mkF m 37 #[.val (.ref a1), .val (.int ((Int32.ofNat (2 * i)) + (1 : Int32))), .val (.int x2)] [(.int (Int32.ofNat (2 * i))), (.ref a1)])) ?_ (fun t k => XS.iinc X1002.here hx rfl (hb hby d15_34) rfl (l' := #[.val (.ref a1), .val (.int ((Int32.ofNat (2 * i)) + (1 : Int32))), .val (.int x2)]) rfl k)
  rw [nat_one]
  refine Goal.step (T' := T1002) (g' := (mkF m 38 #[.val (.ref a1), .val (.int (Int32.ofNat (2 * i + 1))), .val (.int x2)] [(.int x2), (.int (Int32.ofNat (2 * i))), (.ref a1)])) ?_ (fun t k => XS.iloadN X1002.here hx rfl (hb hby d15_37) rfl k)
  have S1003 : Sta Z h0 "java/lang/StringUTF16" "HI_BYTE_SHIFT" "I" (.int (0 : Int32)) := Sta.ext O0.2 SE.2.2.2.1
  obtain ⟨T1004, X1004, e1004, st1004⟩ := getS2 X1002 hx hZ hown (host := "") (Or.inl (hw _ (List.mem_of_getElem? (i := 70) rfl))) Via.refl e1002 S1003 (g := (mkF m 38 #[.val (.ref a1), .val (.int (Int32.ofNat (2 * i + 1))), .val (.int x2)] [(.int x2), (.int (Int32.ofNat (2 * i))), (.ref a1)])) rfl (hb hby d15_38)
  refine Goal.step (T' := T1004) (g' := (mkF m 41 #[.val (.ref a1), .val (.int (Int32.ofNat (2 * i + 1))), .val (.int x2)] [(.int (0 : Int32)), (.int x2), (.int (Int32.ofNat (2 * i))), (.ref a1)])) ?_ st1004
  refine Goal.step (T' := T1004) (g' := (mkF m 42 #[.val (.ref a1), .val (.int (Int32.ofNat (2 * i + 1))), .val (.int x2)] [(.int (x2 >>> ((0 : Int32) &&& 31))), (.int (Int32.ofNat (2 * i))), (.ref a1)])) ?_ (fun t k => XS.ishr X1004.here hx rfl (hb hby d15_41) rfl k)
  refine Goal.step (T' := T1004) (g' := (mkF m 43 #[.val (.ref a1), .val (.int (Int32.ofNat (2 * i + 1))), .val (.int x2)] [(.int ((x2 >>> ((0 : Int32) &&& 31)).toInt8.toInt32)), (.int (Int32.ofNat (2 * i))), (.ref a1)])) ?_ (fun t k => XS.i2b X1004.here hx rfl (hb hby d15_42) rfl k)
  obtain ⟨cl1005, Ar1005, q1005, S1005, H1005⟩ := (id A1)
  have hlt1005 : (2 * i) < (2 * n) := by omega
  have hn1005 : (2 * n) < 2 ^ 31 := by omega
  have hin1005 : ¬ ((Int32.ofNat (2 * i)) < 0 ∨ cl1005.slots.size ≤ ((Int32.ofNat (2 * i))).toNatClampNeg) := nat_inb S1005 hlt1005 hn1005
  obtain ⟨T1005, h1005, X1005, e1005, W1005, st1005⟩ := stB X1004 hx hZ e1004 Ar1005 (j := (Int32.ofNat (2 * i))) hin1005 (g := (mkF m 43 #[.val (.ref a1), .val (.int (Int32.ofNat (2 * i + 1))), .val (.int x2)] [(.int ((x2 >>> ((0 : Int32) &&& 31)).toInt8.toInt32)), (.int (Int32.ofNat (2 * i))), (.ref a1)])) rfl rfl (hb hby d15_43)
  rw [nat_clamp (show (2 * i) < 2 ^ 31 by omega)] at W1005 X1005
  refine Goal.step (T' := T1005) (g' := (mkF m 44 #[.val (.ref a1), .val (.int (Int32.ofNat (2 * i + 1))), .val (.int x2)] [])) ?_ st1005
  have sz1006 : h0.size ≤ h1005.size := Nat.le_of_eq W1005.size.symm
  have V1005 : Arf Z h1005 a1 k1 .byte (2 * n) (fun z => if z = (2 * i) then (nar .byte ((x2 >>> ((0 : Int32) &&& 31)).toInt8.toInt32)) else (g) z) := Arf.set Ar1005 q1005 S1005 H1005 W1005
  have N1005 := Fr.snoc X1005 N0 (by omega : n0 ≤ a1)
  refine Goal.step (T' := T1005) (g' := (mkF m 45 #[.val (.ref a1), .val (.int (Int32.ofNat (2 * i + 1))), .val (.int x2)] [(.ref a1)])) ?_ (fun t k => XS.aloadN X1005.here hx rfl (hb hby d15_44) rfl rfl k)
  refine Goal.step (T' := T1005) (g' := (mkF m 46 #[.val (.ref a1), .val (.int (Int32.ofNat (2 * i + 1))), .val (.int x2)] [(.int (Int32.ofNat (2 * i + 1))), (.ref a1)])) ?_ (fun t k => XS.iloadN X1005.here hx rfl (hb hby d15_45) rfl k)
  refine Goal.step (T' := T1005) (g' := (mkF m 47 #[.val (.ref a1), .val (.int (Int32.ofNat (2 * i + 1))), .val (.int x2)] [(.int x2), (.int (Int32.ofNat (2 * i + 1))), (.ref a1)])) ?_ (fun t k => XS.iloadN X1005.here hx rfl (hb hby d15_46) rfl k)
  have f1007 : Old Z n0 h1005 := (O0.wr W1005 (by omega))
  have S1008 : Sta Z h1005 "java/lang/StringUTF16" "LO_BYTE_SHIFT" "I" (.int (8 : Int32)) := Sta.ext f1007.2 SE.2.2.2.2.1
  obtain ⟨T1009, X1009, e1009, st1009⟩ := getS2 X1005 hx hZ hown (host := "") (Or.inl (hw _ (List.mem_of_getElem? (i := 71) rfl))) Via.refl e1005 S1008 (g := (mkF m 47 #[.val (.ref a1), .val (.int (Int32.ofNat (2 * i + 1))), .val (.int x2)] [(.int x2), (.int (Int32.ofNat (2 * i + 1))), (.ref a1)])) rfl (hb hby d15_47)
  refine Goal.step (T' := T1009) (g' := (mkF m 50 #[.val (.ref a1), .val (.int (Int32.ofNat (2 * i + 1))), .val (.int x2)] [(.int (8 : Int32)), (.int x2), (.int (Int32.ofNat (2 * i + 1))), (.ref a1)])) ?_ st1009
  refine Goal.step (T' := T1009) (g' := (mkF m 51 #[.val (.ref a1), .val (.int (Int32.ofNat (2 * i + 1))), .val (.int x2)] [(.int (x2 >>> ((8 : Int32) &&& 31))), (.int (Int32.ofNat (2 * i + 1))), (.ref a1)])) ?_ (fun t k => XS.ishr X1009.here hx rfl (hb hby d15_50) rfl k)
  refine Goal.step (T' := T1009) (g' := (mkF m 52 #[.val (.ref a1), .val (.int (Int32.ofNat (2 * i + 1))), .val (.int x2)] [(.int ((x2 >>> ((8 : Int32) &&& 31)).toInt8.toInt32)), (.int (Int32.ofNat (2 * i + 1))), (.ref a1)])) ?_ (fun t k => XS.i2b X1009.here hx rfl (hb hby d15_51) rfl k)
  obtain ⟨cl1010, Ar1010, q1010, S1010, H1010⟩ := (id V1005)
  have hlt1010 : (2 * i + 1) < (2 * n) := by omega
  have hn1010 : (2 * n) < 2 ^ 31 := by omega
  have hin1010 : ¬ ((Int32.ofNat (2 * i + 1)) < 0 ∨ cl1010.slots.size ≤ ((Int32.ofNat (2 * i + 1))).toNatClampNeg) := nat_inb S1010 hlt1010 hn1010
  obtain ⟨T1010, h1010, X1010, e1010, W1010, st1010⟩ := stB X1009 hx hZ e1009 Ar1010 (j := (Int32.ofNat (2 * i + 1))) hin1010 (g := (mkF m 52 #[.val (.ref a1), .val (.int (Int32.ofNat (2 * i + 1))), .val (.int x2)] [(.int ((x2 >>> ((8 : Int32) &&& 31)).toInt8.toInt32)), (.int (Int32.ofNat (2 * i + 1))), (.ref a1)])) rfl rfl (hb hby d15_52)
  rw [nat_clamp (show (2 * i + 1) < 2 ^ 31 by omega)] at W1010 X1010
  refine Goal.step (T' := T1010) (g' := (mkF m 53 #[.val (.ref a1), .val (.int (Int32.ofNat (2 * i + 1))), .val (.int x2)] [])) ?_ st1010
  have sz1011 : h1005.size ≤ h1010.size := Nat.le_of_eq W1010.size.symm
  have V1010 : Arf Z h1010 a1 k1 .byte (2 * n) (fun z => if z = (2 * i + 1) then (nar .byte ((x2 >>> ((8 : Int32) &&& 31)).toInt8.toInt32)) else ((fun z => if z = (2 * i) then (nar .byte ((x2 >>> ((0 : Int32) &&& 31)).toInt8.toInt32)) else (g) z)) z) := Arf.set Ar1010 q1010 S1010 H1010 W1010
  have N1010 := Fr.snoc X1010 N1005 (by omega : n0 ≤ a1)
  refine Goal.retV X1010 hx hret (hb hby d15_53) ?_
  have k1012 : Keep h0 h1010 [a1] := (((Keep.refl h0 [a1]).wr W1005 (Or.inl (by simp))).wr W1010 (Or.inl (by simp)))
  refine ⟨?_, by decide, by decide⟩
  rw [e1010]
  exact ⟨rfl, N1010, k1012, V1010⟩
theorem d12_8 : decode jdk_52_method_14_code 8 = .ok (.iload 4, 2) := by decide +kernel
theorem d12_10 : decode jdk_52_method_14_code 10 = .ok (.iload_n 2, 1) := by decide +kernel
theorem d12_11 : decode jdk_52_method_14_code 11 = .ok (.if_icmp .ge 21, 3) := by decide +kernel
theorem d12_14 : decode jdk_52_method_14_code 14 = .ok (.aload_n 3, 1) := by decide +kernel
theorem d12_15 : decode jdk_52_method_14_code 15 = .ok (.iload 4, 2) := by decide +kernel
theorem d12_17 : decode jdk_52_method_14_code 17 = .ok (.aload_n 0, 1) := by decide +kernel
theorem d12_18 : decode jdk_52_method_14_code 18 = .ok (.iload_n 1, 1) := by decide +kernel
theorem d12_19 : decode jdk_52_method_14_code 19 = .ok (.caload, 1) := by decide +kernel
theorem d12_20 : decode jdk_52_method_14_code 20 = .ok (.invokestatic 111, 3) := by decide +kernel
theorem pd_8 : parseMethodDescriptor "([BII)V" = some ⟨[(.array .byte), .int, .int], none⟩ := by decide +kernel
theorem d12_23 : decode jdk_52_method_14_code 23 = .ok (.iinc 1 1, 3) := by decide +kernel
theorem d12_26 : decode jdk_52_method_14_code 26 = .ok (.iinc 4 1, 3) := by decide +kernel
theorem d12_29 : decode jdk_52_method_14_code 29 = .ok (.goto (-21), 3) := by decide +kernel
theorem d12_32 : decode jdk_52_method_14_code 32 = .ok (.aload_n 3, 1) := by decide +kernel
theorem d12_33 : decode jdk_52_method_14_code 33 = .ok (.areturn, 1) := by decide +kernel
set_option maxRecDepth 65536 in
set_option maxHeartbeats 40000000 in
theorem segTB {p : Program} {l : Launch} {e : Env} {s : State} {m : MethodId} {args : Array Value} {below : List Frame} {meth : Method} {c : Code} {Z : State} {a0 : Array Value} {T0 : State} {locs : List Loc} (hw : ∀ d ∈ tables_1, d.before a0 Z = true) (C0 : Ctx p s m meth c Z jdk_52_method_14_code 5 (some (.array .byte)) "java/lang/StringUTF16" "toBytes") (d i n : Nat) (a1 b1 : Nat) (k1 k2 : ClassId) (f g : Nat → Int32) (cs : Int32) (fm : Value) (h0 : Heap) (n0 : Nat) (Z0 : n0 ≤ h0.size) (X0 : Stand p l e ({ frames := 2, cells := 1, slots := 8, locals := 24 } : Room) s m args below meth c T0 locs 1 8) (e0 : T0.heap = h0) (N0 : Fr n0 locs) (hd : i + d = n) (SE : SEnv Z cs fm) (O0 : Old Z n0 h0) (hn : n < 2 ^ 28) (A1 : Arf Z h0 a1 k1 .char n f) (A2 : Arf Z h0 b1 k2 .byte (2 * n) g) (nab : a1 ≠ b1) (g1 : n0 ≤ b1) (hg : ∀ j, j < 2 * i → g j = utf f j) :
    Goal p l e ({ frames := 2, cells := 1, slots := 8, locals := 24 } : Room) s m args below meth c (In ({ frames := 2, cells := 1, slots := 8, locals := 24 } : Room) (fun v h L => v = some (.ref b1) ∧ Fr n0 L ∧ Keep h0 h [b1] ∧ Arf Z h b1 k2 .byte (2 * n) (utf f))) T0 (mkF m 8 #[.val (.ref a1), .val (.int (Int32.ofNat i)), .val (.int (Int32.ofNat n)), .val (.ref b1), .val (.int (Int32.ofNat i))] []) := by
  have C := C0
  obtain ⟨hx, hZ, hby, hml, hret, hown, hnm⟩ := C
  have hown : s.vm.findClass "java/lang/StringUTF16" = some m.cls := hown
  have hret : meth.sig.returnType = (some (.array .byte)) := hret
  refine Goal.step (T' := T0) (g' := (mkF m 10 #[.val (.ref a1), .val (.int (Int32.ofNat i)), .val (.int (Int32.ofNat n)), .val (.ref b1), .val (.int (Int32.ofNat i))] [(.int (Int32.ofNat i))])) ?_ (fun t k => XS.iload X0.here hx rfl (hb hby d12_8) rfl k)
  refine Goal.step (T' := T0) (g' := (mkF m 11 #[.val (.ref a1), .val (.int (Int32.ofNat i)), .val (.int (Int32.ofNat n)), .val (.ref b1), .val (.int (Int32.ofNat i))] [(.int (Int32.ofNat n)), (.int (Int32.ofNat i))])) ?_ (fun t k => XS.iloadN X0.here hx rfl (hb hby d12_10) rfl k)
  by_cases c1001 : (Int32.ofNat i) < (Int32.ofNat n)
  · refine Goal.step (T' := T0) (g' := (mkF m 14 #[.val (.ref a1), .val (.int (Int32.ofNat i)), .val (.int (Int32.ofNat n)), .val (.ref b1), .val (.int (Int32.ofNat i))] [])) ?_ (fun t k => XS.icmpNo X0.here hx rfl (hb hby d12_11) rfl (tlt c1001).2.1 k)
    have hin : i < n := (nat_lt (by omega) (by omega)).mp c1001
    refine Goal.step (T' := T0) (g' := (mkF m 15 #[.val (.ref a1), .val (.int (Int32.ofNat i)), .val (.int (Int32.ofNat n)), .val (.ref b1), .val (.int (Int32.ofNat i))] [(.ref b1)])) ?_ (fun t k => XS.aloadN X0.here hx rfl (hb hby d12_14) rfl rfl k)
    refine Goal.step (T' := T0) (g' := (mkF m 17 #[.val (.ref a1), .val (.int (Int32.ofNat i)), .val (.int (Int32.ofNat n)), .val (.ref b1), .val (.int (Int32.ofNat i))] [(.int (Int32.ofNat i)), (.ref b1)])) ?_ (fun t k => XS.iload X0.here hx rfl (hb hby d12_15) rfl k)
    refine Goal.step (T' := T0) (g' := (mkF m 18 #[.val (.ref a1), .val (.int (Int32.ofNat i)), .val (.int (Int32.ofNat n)), .val (.ref b1), .val (.int (Int32.ofNat i))] [(.ref a1), (.int (Int32.ofNat i)), (.ref b1)])) ?_ (fun t k => XS.aloadN X0.here hx rfl (hb hby d12_17) rfl rfl k)
    refine Goal.step (T' := T0) (g' := (mkF m 19 #[.val (.ref a1), .val (.int (Int32.ofNat i)), .val (.int (Int32.ofNat n)), .val (.ref b1), .val (.int (Int32.ofNat i))] [(.int (Int32.ofNat i)), (.ref a1), (.int (Int32.ofNat i)), (.ref b1)])) ?_ (fun t k => XS.iloadN X0.here hx rfl (hb hby d12_18) rfl k)
    obtain ⟨cl1002, Ar1002, q1002, S1002, H1002⟩ := (id A1)
    have hlt1002 : i < n := hin
    have hn1002 : n < 2 ^ 31 := by omega
    have hin1002 : ¬ ((Int32.ofNat i) < 0 ∨ cl1002.slots.size ≤ ((Int32.ofNat i)).toNatClampNeg) := nat_inb S1002 hlt1002 hn1002
    have hat1002 : cl1002.slots[((Int32.ofNat i)).toNatClampNeg]? = some (.int (f i)) := by rw [nat_clamp (show i < 2 ^ 31 by omega)]; exact H1002 _ hlt1002
    refine Goal.step (T' := T0) (g' := (mkF m 20 #[.val (.ref a1), .val (.int (Int32.ofNat i)), .val (.int (Int32.ofNat n)), .val (.ref b1), .val (.int (Int32.ofNat i))] [(.int (f i)), (.int (Int32.ofNat i)), (.ref b1)])) ?_ (fun t k => X0.caload hx (j := (Int32.ofNat i)) (v := (.int (f i))) (by rw [e0]; exact Ar1002.1) (State.isArrayOf_alike hZ.alike Ar1002.2.1) Ar1002.2.2 hin1002 hat1002 (g := (mkF m 19 #[.val (.ref a1), .val (.int (Int32.ofNat i)), .val (.int (Int32.ofNat n)), .val (.ref b1), .val (.int (Int32.ofNat i))] [(.int (Int32.ofNat i)), (.ref a1), (.int (Int32.ofNat i)), (.ref b1)])) rfl rfl (hb hby d12_19) _ k)
    obtain ⟨v1003, T1003, h1003, L1003, X1003, e1003, hQ1003, st1003⟩ := callStatic X0 hx hZ hown (hw _ (List.mem_of_getElem? (i := 66) rfl)) (hw _ (List.mem_of_getElem? (i := 67) rfl)) (hw _ (List.mem_of_getElem? (i := 48) rfl)) (hw _ (List.mem_of_getElem? (i := 68) rfl)) (by decide) (rmPC l Z a0 hw b1 i (f i) k2 n g cs fm h0 n0 (by omega) SE O0 A2 hin hn g1) e0 (W := 0) (by decide) (by decide) (by decide) (by decide) (g := (mkF m 20 #[.val (.ref a1), .val (.int (Int32.ofNat i)), .val (.int (Int32.ofNat n)), .val (.ref b1), .val (.int (Int32.ofNat i))] [(.int (f i)), (.int (Int32.ofNat i)), (.ref b1)])) rfl (by rw [hml]; rfl) (argsL := [(.ref b1), (.int (Int32.ofNat i)), (.int (f i))]) (rest := []) (lenOf pd_8 rfl) rfl (by show 2 * 0 + _ ≤ _; exact Nat.le_of_eq rfl) (hb hby d12_20) rfl
    obtain ⟨rfl, M1003, K1003, V1003⟩ := hQ1003
    have N1003 := Fr.app N0 M1003
    refine Goal.step (T' := T1003) (g' := (mkF m 23 #[.val (.ref a1), .val (.int (Int32.ofNat i)), .val (.int (Int32.ofNat n)), .val (.ref b1), .val (.int (Int32.ofNat i))] [])) ?_ st1003
    have sz1004 : h0.size ≤ h1003.size := K1003.1
    refine Goal.step (T' := T1003) (g' := (mkF m 26 #[.val (.ref a1), .val (.int ((Int32.ofNat i) + (1 : Int32))), .val (.int (Int32.ofNat n)), .val (.ref b1), .val (.int (Int32.ofNat i))] [])) ?_ (fun t k => XS.iinc X1003.here hx rfl (hb hby d12_23) rfl (l' := #[.val (.ref a1), .val (.int ((Int32.ofNat i) + (1 : Int32))), .val (.int (Int32.ofNat n)), .val (.ref b1), .val (.int (Int32.ofNat i))]) rfl k)
    refine Goal.step (T' := T1003) (g' := (mkF m 29 #[.val (.ref a1), .val (.int ((Int32.ofNat i) + (1 : Int32))), .val (.int (Int32.ofNat n)), .val (.ref b1), .val (.int ((Int32.ofNat i) + (1 : Int32)))] [])) ?_ (fun t k => XS.iinc X1003.here hx rfl (hb hby d12_26) rfl (l' := #[.val (.ref a1), .val (.int ((Int32.ofNat i) + (1 : Int32))), .val (.int (Int32.ofNat n)), .val (.ref b1), .val (.int ((Int32.ofNat i) + (1 : Int32)))]) rfl k)
    refine Goal.step (T' := T1003) (g' := (mkF m 8 #[.val (.ref a1), .val (.int ((Int32.ofNat i) + (1 : Int32))), .val (.int (Int32.ofNat n)), .val (.ref b1), .val (.int ((Int32.ofNat i) + (1 : Int32)))] [])) ?_ (fun t k => XS.goto X1003.here hx rfl (pc0 := 29) (pc' := 8) rfl (hb hby d12_29) (by decide) (by decide) k)
    have k1005 : Keep h0 h1003 [b1] := ((Keep.refl h0 [b1]).trans K1003 (allS (Or.inl (by simp)) all0))
    have f1006 : Arf Z h1003 a1 k1 .char n f := (A1.keep K1003 (ninS (nne (by omega)) nin0))
    have f1007 : Old Z n0 h1003 := (O0.keep K1003 (allS (by omega) all0))
    rw [nat_one]
    exact (segTB hw C0 (d - 1) (i + 1) n a1 b1 k1 k2 f (put g i (f i)) cs fm h1003 n0 (by omega) X1003 e1003 N1003 (by omega) SE f1007 hn f1006 V1003 nab g1 (own_put hg)).imp (fun v h L k n ⟨⟨q1, q2, q3, q4⟩, q5⟩ => ⟨⟨q1, q2, k1005.trans q3 (allS (Or.inl (by simp)) all0), q4⟩, q5⟩)
  · refine Goal.step (T' := T0) (g' := (mkF m 32 #[.val (.ref a1), .val (.int (Int32.ofNat i)), .val (.int (Int32.ofNat n)), .val (.ref b1), .val (.int (Int32.ofNat i))] [])) ?_ (fun t k => XS.icmpYes X0.here hx rfl (pc0 := 11) (pc' := 32) rfl (hb hby d12_11) rfl (flt c1001).2.1 (by decide) (by decide) k)
    have hin : ¬ i < n := fun q => c1001 ((nat_lt (by omega) (by omega)).mpr q)
    refine Goal.step (T' := T0) (g' := (mkF m 33 #[.val (.ref a1), .val (.int (Int32.ofNat i)), .val (.int (Int32.ofNat n)), .val (.ref b1), .val (.int (Int32.ofNat i))] [(.ref b1)])) ?_ (fun t k => XS.aloadN X0.here hx rfl (hb hby d12_32) rfl rfl k)
    refine Goal.retA X0 hx hret rfl rfl rfl (hb hby d12_33) ?_
    refine ⟨?_, by decide, by decide⟩
    rw [e0]
    exact ⟨rfl, N0, (Keep.refl h0 [b1]), Arf.congr A2 (fun j hj => hg j (by omega))⟩
termination_by d
decreasing_by all_goals omega
theorem d12_0 : decode jdk_52_method_14_code 0 = .ok (.iload_n 2, 1) := by decide +kernel
theorem d12_1 : decode jdk_52_method_14_code 1 = .ok (.invokestatic 107, 3) := by decide +kernel
theorem pd_9 : parseMethodDescriptor "(I)[B" = some ⟨[.int], some (.array .byte)⟩ := by decide +kernel
theorem d12_4 : decode jdk_52_method_14_code 4 = .ok (.astore_n 3, 1) := by decide +kernel
theorem d12_5 : decode jdk_52_method_14_code 5 = .ok (.iconst 0, 1) := by decide +kernel
theorem d12_6 : decode jdk_52_method_14_code 6 = .ok (.istore 4, 2) := by decide +kernel
theorem ef_12 (m : MethodId) (x0 : Nat) (x2 : Int32) : entryFrame m #[(.ref x0), (.int (0 : Int32)), (.int x2)] 5 = mkF m 0 #[.val (.ref x0), .val (.int (0 : Int32)), .val (.int x2), .unset, .unset] [] := by first | (simp [entryFrame, mkF, argsToLocals, Value.category]; done) | rfl
set_option maxRecDepth 65536 in
set_option maxHeartbeats 40000000 in
theorem rmTB (l : Launch) (Z : State) (a0 : Array Value) (hw : ∀ d ∈ tables_1, d.before a0 Z = true) (n : Nat) (a1 : Nat) (k1 : ClassId) (f : Nat → Int32) (cs : Int32) (fm : Value) (h0 : Heap) (n0 : Nat) (Z0 : n0 ≤ h0.size) (SE : SEnv Z cs fm) (O0 : Old Z n0 h0) (hn : n ≤ 4) (A1 : Arf Z h0 a1 k1 .char n f) (lt1 : a1 < h0.size) :
    Met l (⟨"java/lang/StringUTF16", "toBytes", "([CII)[B"⟩ : MethodName) jdk_52_method_14_code 5 (some (.array .byte)) [] ({ frames := 2, cells := 1, slots := 8, locals := 24 } : Room) Z #[(.ref a1), (.int (0 : Int32)), (.int (Int32.ofNat n))] h0 (fun v h L => ∃ (b : Nat) (k : ClassId), v = some (.ref b) ∧ Fr n0 L ∧ Ext h0 h ∧ h0.size ≤ b ∧ b < h.size ∧ Arf Z h b k .byte (2 * n) (utf f)) := by
  refine of_goal (plainFor_of_name (by first | (simp [plainName, overriddenIn]; done) | decide +kernel)) ?_
  intro p e s m below meth c s₁ C X0 e0
  have C0 := C
  obtain ⟨hx, hZ, hby, hml, hret, hown, hnm⟩ := C
  have hown : s.vm.findClass "java/lang/StringUTF16" = some m.cls := hown
  have hret : meth.sig.returnType = (some (.array .byte)) := hret
  have N0 := Fr.nil n0
  rw [ef_12]
  refine Goal.step (T' := s₁) (g' := (mkF m 1 #[.val (.ref a1), .val (.int (0 : Int32)), .val (.int (Int32.ofNat n)), .unset, .unset] [(.int (Int32.ofNat n))])) ?_ (fun t k => XS.iloadN X0.here hx rfl (hb hby d12_0) rfl k)
  obtain ⟨v1001, T1001, h1001, L1001, X1001, e1001, hQ1001, st1001⟩ := callStatic X0 hx hZ hown (hw _ (List.mem_of_getElem? (i := 59) rfl)) (hw _ (List.mem_of_getElem? (i := 60) rfl)) (hw _ (List.mem_of_getElem? (i := 48) rfl)) (hw _ (List.mem_of_getElem? (i := 61) rfl)) (by decide) (rmNF l Z a0 hw n h0 n0 (by omega) hn) e0 (W := 0) (by decide) (by decide) (by decide) (by decide) (g := (mkF m 1 #[.val (.ref a1), .val (.int (0 : Int32)), .val (.int (Int32.ofNat n)), .unset, .unset] [(.int (Int32.ofNat n))])) rfl (by rw [hml]; rfl) (argsL := [(.int (Int32.ofNat n))]) (rest := []) (lenOf pd_9 rfl) rfl (by show 2 * 0 + _ ≤ _; exact Nat.le_of_eq rfl) (hb hby d12_1) rfl
  obtain ⟨b1, k2, rfl, M1001, E1001, lo1001, lt_b1, V1001⟩ := hQ1001
  have N1001 := Fr.app N0 M1001
  refine Goal.step (T' := T1001) (g' := (mkF m 4 #[.val (.ref a1), .val (.int (0 : Int32)), .val (.int (Int32.ofNat n)), .unset, .unset] [(.ref b1)])) ?_ st1001
  have sz1002 : h0.size ≤ h1001.size := E1001.1
  refine Goal.step (T' := T1001) (g' := (mkF m 5 #[.val (.ref a1), .val (.int (0 : Int32)), .val (.int (Int32.ofNat n)), .val (.ref b1), .unset] [])) ?_ (fun t k => XS.astoreN X1001.here hx rfl (hb hby d12_4) rfl rfl (l' := #[.val (.ref a1), .val (.int (0 : Int32)), .val (.int (Int32.ofNat n)), .val (.ref b1), .unset]) rfl k)
  refine Goal.step (T' := T1001) (g' := (mkF m 6 #[.val (.ref a1), .val (.int (0 : Int32)), .val (.int (Int32.ofNat n)), .val (.ref b1), .unset] [(.int (0 : Int32))])) ?_ (fun t k => XS.iconst X1001.here hx rfl (hb hby d12_5) k)
  refine Goal.step (T' := T1001) (g' := (mkF m 8 #[.val (.ref a1), .val (.int (0 : Int32)), .val (.int (Int32.ofNat n)), .val (.ref b1), .val (.int (0 : Int32))] [])) ?_ (fun t k => XS.istore X1001.here hx rfl (hb hby d12_6) rfl (l' := #[.val (.ref a1), .val (.int (0 : Int32)), .val (.int (Int32.ofNat n)), .val (.ref b1), .val (.int (0 : Int32))]) rfl k)
  have f1003 : Arf Z h1001 a1 k1 .char n f := (A1.ext E1001)
  have f1004 : Old Z n0 h1001 := (O0.ext E1001)
  have k1005 : Keep h0 h1001 [] := ((Keep.refl h0 []).ext E1001)
  exact (segTB hw C0 n 0 n a1 b1 k1 k2 f _ cs fm h1001 n0 (by omega) X1001 e1001 N1001 (by omega) SE f1004 (by omega) f1003 V1001 (by omega) (by omega) (fun j hj => absurd hj (Nat.not_lt_zero _))).imp (fun v h L k n ⟨⟨q1, q2, q3, q4⟩, q5⟩ => ⟨⟨b1, k2, q1, q2, extKp (extKp (extRefl _) k1005 all0) q3 (allS (by omega) all0), by omega, Nat.lt_of_lt_of_le lt_b1 q3.1, q4⟩, q5⟩)
theorem d9_0 : decode jdk_52_method_16_code 0 = .ok (.iload_n 2, 1) := by decide +kernel
theorem d9_1 : decode jdk_52_method_16_code 1 = .ok (.newarray .byte, 2) := by decide +kernel
theorem d9_3 : decode jdk_52_method_16_code 3 = .ok (.astore_n 3, 1) := by decide +kernel
theorem d9_4 : decode jdk_52_method_16_code 4 = .ok (.aload_n 0, 1) := by decide +kernel
theorem d9_5 : decode jdk_52_method_16_code 5 = .ok (.iload_n 1, 1) := by decide +kernel
theorem d9_6 : decode jdk_52_method_16_code 6 = .ok (.aload_n 3, 1) := by decide +kernel
theorem d9_7 : decode jdk_52_method_16_code 7 = .ok (.iconst 0, 1) := by decide +kernel
theorem d9_8 : decode jdk_52_method_16_code 8 = .ok (.iload_n 2, 1) := by decide +kernel
theorem d9_9 : decode jdk_52_method_16_code 9 = .ok (.invokestatic 115, 3) := by decide +kernel
theorem pd_10 : parseMethodDescriptor "([CI[BII)I" = some ⟨[(.array .char), .int, (.array .byte), .int, .int], some .int⟩ := by decide +kernel
theorem d9_12 : decode jdk_52_method_16_code 12 = .ok (.istore 4, 2) := by decide +kernel
theorem d9_14 : decode jdk_52_method_16_code 14 = .ok (.iload 4, 2) := by decide +kernel
theorem d9_16 : decode jdk_52_method_16_code 16 = .ok (.iload_n 2, 1) := by decide +kernel
theorem d9_17 : decode jdk_52_method_16_code 17 = .ok (.if_icmp .eq 40, 3) := by decide +kernel
theorem d9_57 : decode jdk_52_method_16_code 57 = .ok (.aload_n 3, 1) := by decide +kernel
theorem d9_58 : decode jdk_52_method_16_code 58 = .ok (.areturn, 1) := by decide +kernel
theorem d9_20 : decode jdk_52_method_16_code 20 = .ok (.aload_n 0, 1) := by decide +kernel
theorem d9_21 : decode jdk_52_method_16_code 21 = .ok (.iload_n 1, 1) := by decide +kernel
theorem d9_22 : decode jdk_52_method_16_code 22 = .ok (.iload_n 2, 1) := by decide +kernel
theorem d9_23 : decode jdk_52_method_16_code 23 = .ok (.invokestatic 119, 3) := by decide +kernel
theorem pd_11 : parseMethodDescriptor "([CII)[B" = some ⟨[(.array .char), .int, .int], some (.array .byte)⟩ := by decide +kernel
theorem d9_26 : decode jdk_52_method_16_code 26 = .ok (.astore 5, 2) := by decide +kernel
theorem d9_28 : decode jdk_52_method_16_code 28 = .ok (.aload 5, 2) := by decide +kernel
theorem d9_30 : decode jdk_52_method_16_code 30 = .ok (.iload 4, 2) := by decide +kernel
theorem d9_32 : decode jdk_52_method_16_code 32 = .ok (.invokestatic 71, 3) := by decide +kernel
theorem d9_35 : decode jdk_52_method_16_code 35 = .ok (.sipush 255, 3) := by decide +kernel
theorem d9_38 : decode jdk_52_method_16_code 38 = .ok (.if_icmp .gt 16, 3) := by decide +kernel
theorem d9_54 : decode jdk_52_method_16_code 54 = .ok (.aload 5, 2) := by decide +kernel
theorem d9_56 : decode jdk_52_method_16_code 56 = .ok (.areturn, 1) := by decide +kernel
theorem ef_9 (m : MethodId) (x0 : Nat) (x2 : Int32) : entryFrame m #[(.ref x0), (.int (0 : Int32)), (.int x2)] 6 = mkF m 0 #[.val (.ref x0), .val (.int (0 : Int32)), .val (.int x2), .unset, .unset, .unset] [] := by first | (simp [entryFrame, mkF, argsToLocals, Value.category]; done) | rfl
set_option maxRecDepth 65536 in
set_option maxHeartbeats 40000000 in
theorem rmC3 (l : Launch) (Z : State) (a0 : Array Value) (hw : ∀ d ∈ tables_1, d.before a0 Z = true) (n : Nat) (a1 : Nat) (k1 : ClassId) (f : Nat → Int32) (cs : Int32) (fm : Value) (h0 : Heap) (n0 : Nat) (Z0 : n0 ≤ h0.size) (SE : SEnv Z cs fm) (O0 : Old Z n0 h0) (hn : n ≤ 4) (hc : ∀ j, j < n → 0 ≤ (f j).toInt ∧ (f j).toInt ≤ 65535) (A1 : Arf Z h0 a1 k1 .char n f) (lt1 : a1 < h0.size) :
    Met l (⟨"java/lang/StringUTF16", "compress", "([CII)[B"⟩ : MethodName) jdk_52_method_16_code 6 (some (.array .byte)) [] ({ frames := 3, cells := 2, slots := 12, locals := 40 } : Room) Z #[(.ref a1), (.int (0 : Int32)), (.int (Int32.ofNat n))] h0 (fun v h L => ∃ (b : Nat) (k : ClassId), v = some (.ref b) ∧ Fr n0 L ∧ Ext h0 h ∧ h0.size ≤ b ∧ b < h.size ∧ (((∀ j, j < n → (f j).toInt ≤ 255) ∧ Arf Z h b k .byte n (lat f)) ∨ (0 < n ∧ Arf Z h b k .byte (2 * n) (utf f)))) := by
  refine of_goal (plainFor_of_name (by first | (simp [plainName, overriddenIn]; done) | decide +kernel)) ?_
  intro p e s m below meth c s₁ C X0 e0
  have C0 := C
  obtain ⟨hx, hZ, hby, hml, hret, hown, hnm⟩ := C
  have hown : s.vm.findClass "java/lang/StringUTF16" = some m.cls := hown
  have hret : meth.sig.returnType = (some (.array .byte)) := hret
  have N0 := Fr.nil n0
  rw [ef_9]
  refine Goal.step (T' := s₁) (g' := (mkF m 1 #[.val (.ref a1), .val (.int (0 : Int32)), .val (.int (Int32.ofNat n)), .unset, .unset, .unset] [(.int (Int32.ofNat n))])) ?_ (fun t k => XS.iloadN X0.here hx rfl (hb hby d9_0) rfl k)
  obtain ⟨T1001, h1001, k1001, X1001, e1001, E1001, A1001, st1001⟩ := newP X0 hx hZ (hw _ (List.mem_of_getElem? (i := 24) rfl)) e0 (g := (mkF m 1 #[.val (.ref a1), .val (.int (0 : Int32)), .val (.int (Int32.ofNat n)), .unset, .unset, .unset] [(.int (Int32.ofNat n))])) rfl (hb hby d9_1) rfl (nat_nn (by omega)) (cap := 4) (by rw [nat_clamp (by omega)]; omega) (by decide) (by decide) (by decide)
  obtain ⟨b1001, g1001⟩ : ∃ z, z = h0.size := ⟨_, rfl⟩
  rw [← g1001] at A1001 st1001
  refine Goal.step (T' := T1001) (g' := (mkF m 3 #[.val (.ref a1), .val (.int (0 : Int32)), .val (.int (Int32.ofNat n)), .unset, .unset, .unset] [(.ref b1001)])) ?_ st1001
  have sz1002 : h0.size ≤ h1001.size := E1001.1
  have lt_b1001 : b1001 < h1001.size := A1001.lt
  have V1001 : Arf Z h1001 b1001 k1001 .byte n (fun _ => 0) := Arf.new A1001 rfl (nat_clamp (by omega))
  refine Goal.step (T' := T1001) (g' := (mkF m 4 #[.val (.ref a1), .val (.int (0 : Int32)), .val (.int (Int32.ofNat n)), .val (.ref b1001), .unset, .unset] [])) ?_ (fun t k => XS.astoreN X1001.here hx rfl (hb hby d9_3) rfl rfl (l' := #[.val (.ref a1), .val (.int (0 : Int32)), .val (.int (Int32.ofNat n)), .val (.ref b1001), .unset, .unset]) rfl k)
  refine Goal.step (T' := T1001) (g' := (mkF m 5 #[.val (.ref a1), .val (.int (0 : Int32)), .val (.int (Int32.ofNat n)), .val (.ref b1001), .unset, .unset] [(.ref a1)])) ?_ (fun t k => XS.aloadN X1001.here hx rfl (hb hby d9_4) rfl rfl k)
  refine Goal.step (T' := T1001) (g' := (mkF m 6 #[.val (.ref a1), .val (.int (0 : Int32)), .val (.int (Int32.ofNat n)), .val (.ref b1001), .unset, .unset] [(.int (0 : Int32)), (.ref a1)])) ?_ (fun t k => XS.iloadN X1001.here hx rfl (hb hby d9_5) rfl k)
  refine Goal.step (T' := T1001) (g' := (mkF m 7 #[.val (.ref a1), .val (.int (0 : Int32)), .val (.int (Int32.ofNat n)), .val (.ref b1001), .unset, .unset] [(.ref b1001), (.int (0 : Int32)), (.ref a1)])) ?_ (fun t k => XS.aloadN X1001.here hx rfl (hb hby d9_6) rfl rfl k)
  refine Goal.step (T' := T1001) (g' := (mkF m 8 #[.val (.ref a1), .val (.int (0 : Int32)), .val (.int (Int32.ofNat n)), .val (.ref b1001), .unset, .unset] [(.int (0 : Int32)), (.ref b1001), (.int (0 : Int32)), (.ref a1)])) ?_ (fun t k => XS.iconst X1001.here hx rfl (hb hby d9_7) k)
  refine Goal.step (T' := T1001) (g' := (mkF m 9 #[.val (.ref a1), .val (.int (0 : Int32)), .val (.int (Int32.ofNat n)), .val (.ref b1001), .unset, .unset] [(.int (Int32.ofNat n)), (.int (0 : Int32)), (.ref b1001), (.int (0 : Int32)), (.ref a1)])) ?_ (fun t k => XS.iloadN X1001.here hx rfl (hb hby d9_8) rfl k)
  have f1004 : Arf Z h1001 a1 k1 .char n f := (A1.ext E1001)
  obtain ⟨v1003, T1003, h1003, L1003, X1003, e1003, hQ1003, st1003⟩ := callStatic X1001 hx hZ hown (hw _ (List.mem_of_getElem? (i := 50) rfl)) (hw _ (List.mem_of_getElem? (i := 51) rfl)) (hw _ (List.mem_of_getElem? (i := 48) rfl)) (hw _ (List.mem_of_getElem? (i := 52) rfl)) (by decide) (rmCP l Z a0 hw n a1 b1001 k1 k1001 f _ h1001 n0 (by omega) (by omega) hc f1004 V1001 (by omega) (by omega)) e1001 (W := 0) (by decide) (by decide) (by decide) (by decide) (g := (mkF m 9 #[.val (.ref a1), .val (.int (0 : Int32)), .val (.int (Int32.ofNat n)), .val (.ref b1001), .unset, .unset] [(.int (Int32.ofNat n)), (.int (0 : Int32)), (.ref b1001), (.int (0 : Int32)), (.ref a1)])) rfl (by rw [hml]; rfl) (argsL := [(.ref a1), (.int (0 : Int32)), (.ref b1001), (.int (0 : Int32)), (.int (Int32.ofNat n))]) (rest := []) (lenOf pd_10 rfl) rfl (by show 2 * 0 + _ ≤ _; exact Nat.le_of_eq rfl) (hb hby d9_9) rfl
  obtain ⟨M1003, K1003, hr1003⟩ := hQ1003
  have N1003 := Fr.app N0 M1003
  rcases hr1003 with ⟨rfl, hlat, AL⟩ | ⟨j, hj, rfl, hbig⟩
  · refine Goal.step (T' := T1003) (g' := (mkF m 12 #[.val (.ref a1), .val (.int (0 : Int32)), .val (.int (Int32.ofNat n)), .val (.ref b1001), .unset, .unset] [(.int (Int32.ofNat n))])) ?_ st1003
    have sz1005 : h1001.size ≤ h1003.size := K1003.1
    refine Goal.step (T' := T1003) (g' := (mkF m 14 #[.val (.ref a1), .val (.int (0 : Int32)), .val (.int (Int32.ofNat n)), .val (.ref b1001), .val (.int (Int32.ofNat n)), .unset] [])) ?_ (fun t k => XS.istore X1003.here hx rfl (hb hby d9_12) rfl (l' := #[.val (.ref a1), .val (.int (0 : Int32)), .val (.int (Int32.ofNat n)), .val (.ref b1001), .val (.int (Int32.ofNat n)), .unset]) rfl k)
    refine Goal.step (T' := T1003) (g' := (mkF m 16 #[.val (.ref a1), .val (.int (0 : Int32)), .val (.int (Int32.ofNat n)), .val (.ref b1001), .val (.int (Int32.ofNat n)), .unset] [(.int (Int32.ofNat n))])) ?_ (fun t k => XS.iload X1003.here hx rfl (hb hby d9_14) rfl k)
    refine Goal.step (T' := T1003) (g' := (mkF m 17 #[.val (.ref a1), .val (.int (0 : Int32)), .val (.int (Int32.ofNat n)), .val (.ref b1001), .val (.int (Int32.ofNat n)), .unset] [(.int (Int32.ofNat n)), (.int (Int32.ofNat n))])) ?_ (fun t k => XS.iloadN X1003.here hx rfl (hb hby d9_16) rfl k)
    refine Goal.step (T' := T1003) (g' := (mkF m 57 #[.val (.ref a1), .val (.int (0 : Int32)), .val (.int (Int32.ofNat n)), .val (.ref b1001), .val (.int (Int32.ofNat n)), .unset] [])) ?_ (fun t k => XS.icmpYes X1003.here hx rfl (pc0 := 17) (pc' := 57) rfl (hb hby d9_17) rfl (teq rfl).1 (by decide) (by decide) k)
    refine Goal.step (T' := T1003) (g' := (mkF m 58 #[.val (.ref a1), .val (.int (0 : Int32)), .val (.int (Int32.ofNat n)), .val (.ref b1001), .val (.int (Int32.ofNat n)), .unset] [(.ref b1001)])) ?_ (fun t k => XS.aloadN X1003.here hx rfl (hb hby d9_57) rfl rfl k)
    refine Goal.retA X1003 hx hret rfl rfl rfl (hb hby d9_58) ?_
    have k1006 : Keep h0 h1003 [] := (((Keep.refl h0 []).ext E1001).trans K1003 (allS (Or.inr (by omega)) all0))
    refine ⟨?_, by decide, by decide⟩
    rw [e1003]
    exact ⟨b1001, _, rfl, N1003, extKp (extRefl _) k1006 all0, by omega, by omega, Or.inl ⟨hlat, AL⟩⟩
  · refine Goal.step (T' := T1003) (g' := (mkF m 12 #[.val (.ref a1), .val (.int (0 : Int32)), .val (.int (Int32.ofNat n)), .val (.ref b1001), .unset, .unset] [(.int (Int32.ofNat j))])) ?_ st1003
    have sz1007 : h1001.size ≤ h1003.size := K1003.1
    refine Goal.step (T' := T1003) (g' := (mkF m 14 #[.val (.ref a1), .val (.int (0 : Int32)), .val (.int (Int32.ofNat n)), .val (.ref b1001), .val (.int (Int32.ofNat j)), .unset] [])) ?_ (fun t k => XS.istore X1003.here hx rfl (hb hby d9_12) rfl (l' := #[.val (.ref a1), .val (.int (0 : Int32)), .val (.int (Int32.ofNat n)), .val (.ref b1001), .val (.int (Int32.ofNat j)), .unset]) rfl k)
    refine Goal.step (T' := T1003) (g' := (mkF m 16 #[.val (.ref a1), .val (.int (0 : Int32)), .val (.int (Int32.ofNat n)), .val (.ref b1001), .val (.int (Int32.ofNat j)), .unset] [(.int (Int32.ofNat j))])) ?_ (fun t k => XS.iload X1003.here hx rfl (hb hby d9_14) rfl k)
    refine Goal.step (T' := T1003) (g' := (mkF m 17 #[.val (.ref a1), .val (.int (0 : Int32)), .val (.int (Int32.ofNat n)), .val (.ref b1001), .val (.int (Int32.ofNat j)), .unset] [(.int (Int32.ofNat n)), (.int (Int32.ofNat j))])) ?_ (fun t k => XS.iloadN X1003.here hx rfl (hb hby d9_16) rfl k)
    refine Goal.step (T' := T1003) (g' := (mkF m 20 #[.val (.ref a1), .val (.int (0 : Int32)), .val (.int (Int32.ofNat n)), .val (.ref b1001), .val (.int (Int32.ofNat j)), .unset] [])) ?_ (fun t k => XS.icmpNo X1003.here hx rfl (hb hby d9_17) rfl (feq (nat_ne hj (by omega))).1 k)
    refine Goal.step (T' := T1003) (g' := (mkF m 21 #[.val (.ref a1), .val (.int (0 : Int32)), .val (.int (Int32.ofNat n)), .val (.ref b1001), .val (.int (Int32.ofNat j)), .unset] [(.ref a1)])) ?_ (fun t k => XS.aloadN X1003.here hx rfl (hb hby d9_20) rfl rfl k)
    refine Goal.step (T' := T1003) (g' := (mkF m 22 #[.val (.ref a1), .val (.int (0 : Int32)), .val (.int (Int32.ofNat n)), .val (.ref b1001), .val (.int (Int32.ofNat j)), .unset] [(.int (0 : Int32)), (.ref a1)])) ?_ (fun t k => XS.iloadN X1003.here hx rfl (hb hby d9_21) rfl k)
    refine Goal.step (T' := T1003) (g' := (mkF m 23 #[.val (.ref a1), .val (.int (0 : Int32)), .val (.int (Int32.ofNat n)), .val (.ref b1001), .val (.int (Int32.ofNat j)), .unset] [(.int (Int32.ofNat n)), (.int (0 : Int32)), (.ref a1)])) ?_ (fun t k => XS.iloadN X1003.here hx rfl (hb hby d9_22) rfl k)
    have f1009 : Old Z n0 h1003 := ((O0.ext E1001).keep K1003 (allS (by omega) all0))
    have f1010 : Arf Z h1003 a1 k1 .char n f := (f1004.keep K1003 (ninS (nne (by omega)) nin0))
    obtain ⟨v1008, T1008, h1008, L1008, X1008, e1008, hQ1008, st1008⟩ := callStatic X1003 hx hZ hown (hw _ (List.mem_of_getElem? (i := 56) rfl)) (hw _ (List.mem_of_getElem? (i := 57) rfl)) (hw _ (List.mem_of_getElem? (i := 48) rfl)) (hw _ (List.mem_of_getElem? (i := 58) rfl)) (by decide) (rmTB l Z a0 hw n a1 k1 f cs fm h1003 n0 (by omega) SE f1009 hn f1010 (by omega)) e1003 (W := 0) (by decide) (by decide) (by decide) (by decide) (g := (mkF m 23 #[.val (.ref a1), .val (.int (0 : Int32)), .val (.int (Int32.ofNat n)), .val (.ref b1001), .val (.int (Int32.ofNat j)), .unset] [(.int (Int32.ofNat n)), (.int (0 : Int32)), (.ref a1)])) rfl (by rw [hml]; rfl) (argsL := [(.ref a1), (.int (0 : Int32)), (.int (Int32.ofNat n))]) (rest := []) (lenOf pd_11 rfl) rfl (by show 2 * 0 + _ ≤ _; exact Nat.le_of_eq rfl) (hb hby d9_23) rfl
    obtain ⟨b2, k2, rfl, M1008, E1008, lo1008, lt_b2, V1008⟩ := hQ1008
    have N1008 := Fr.app N1003 M1008
    refine Goal.step (T' := T1008) (g' := (mkF m 26 #[.val (.ref a1), .val (.int (0 : Int32)), .val (.int (Int32.ofNat n)), .val (.ref b1001), .val (.int (Int32.ofNat j)), .unset] [(.ref b2)])) ?_ st1008
    have sz1011 : h1003.size ≤ h1008.size := E1008.1
    refine Goal.step (T' := T1008) (g' := (mkF m 28 #[.val (.ref a1), .val (.int (0 : Int32)), .val (.int (Int32.ofNat n)), .val (.ref b1001), .val (.int (Int32.ofNat j)), .val (.ref b2)] [])) ?_ (fun t k => XS.astore X1008.here hx rfl (hb hby d9_26) rfl rfl (l' := #[.val (.ref a1), .val (.int (0 : Int32)), .val (.int (Int32.ofNat n)), .val (.ref b1001), .val (.int (Int32.ofNat j)), .val (.ref b2)]) rfl k)
    refine Goal.step (T' := T1008) (g' := (mkF m 30 #[.val (.ref a1), .val (.int (0 : Int32)), .val (.int (Int32.ofNat n)), .val (.ref b1001), .val (.int (Int32.ofNat j)), .val (.ref b2)] [(.ref b2)])) ?_ (fun t k => XS.aload X1008.here hx rfl (hb hby d9_28) rfl rfl k)
    refine Goal.step (T' := T1008) (g' := (mkF m 32 #[.val (.ref a1), .val (.int (0 : Int32)), .val (.int (Int32.ofNat n)), .val (.ref b1001), .val (.int (Int32.ofNat j)), .val (.ref b2)] [(.int (Int32.ofNat j)), (.ref b2)])) ?_ (fun t k => XS.iload X1008.here hx rfl (hb hby d9_30) rfl k)
    have f1013 : Old Z n0 h1008 := (f1009.ext E1008)
    obtain ⟨v1012, T1012, h1012, L1012, X1012, e1012, hQ1012, st1012⟩ := callStatic X1008 hx hZ hown (hw _ (List.mem_of_getElem? (i := 72) rfl)) (hw _ (List.mem_of_getElem? (i := 73) rfl)) (hw _ (List.mem_of_getElem? (i := 48) rfl)) (hw _ (List.mem_of_getElem? (i := 74) rfl)) (by decide) (rmUGC l Z a0 hw b2 j k2 n f cs fm h1008 n0 (by omega) SE f1013 V1008 hj (by omega) (hc j hj)) e1008 (W := 0) (by decide) (by decide) (by decide) (by decide) (g := (mkF m 32 #[.val (.ref a1), .val (.int (0 : Int32)), .val (.int (Int32.ofNat n)), .val (.ref b1001), .val (.int (Int32.ofNat j)), .val (.ref b2)] [(.int (Int32.ofNat j)), (.ref b2)])) rfl (by rw [hml]; rfl) (argsL := [(.ref b2), (.int (Int32.ofNat j))]) (rest := []) (lenOf pd_4 rfl) rfl (by show 2 * 0 + _ ≤ _; exact Nat.le_of_eq rfl) (hb hby d9_32) rfl
    obtain ⟨rfl, M1012, q1012⟩ := hQ1012
    rw [q1012] at e1012
    have N1012 := Fr.app N1008 M1012
    refine Goal.step (T' := T1012) (g' := (mkF m 35 #[.val (.ref a1), .val (.int (0 : Int32)), .val (.int (Int32.ofNat n)), .val (.ref b1001), .val (.int (Int32.ofNat j)), .val (.ref b2)] [(.int (f j))])) ?_ st1012
    refine Goal.step (T' := T1012) (g' := (mkF m 38 #[.val (.ref a1), .val (.int (0 : Int32)), .val (.int (Int32.ofNat n)), .val (.ref b1001), .val (.int (Int32.ofNat j)), .val (.ref b2)] [(.int (255 : Int32)), (.int (f j))])) ?_ (fun t k => XS.sipush X1012.here hx rfl (hb hby d9_35) k)
    refine Goal.step (T' := T1012) (g' := (mkF m 54 #[.val (.ref a1), .val (.int (0 : Int32)), .val (.int (Int32.ofNat n)), .val (.ref b1001), .val (.int (Int32.ofNat j)), .val (.ref b2)] [])) ?_ (fun t k => XS.icmpYes X1012.here hx rfl (pc0 := 38) (pc' := 54) rfl (hb hby d9_38) rfl (tlt ((own_255 _).mpr hbig)).2.2.1 (by decide) (by decide) k)
    refine Goal.step (T' := T1012) (g' := (mkF m 56 #[.val (.ref a1), .val (.int (0 : Int32)), .val (.int (Int32.ofNat n)), .val (.ref b1001), .val (.int (Int32.ofNat j)), .val (.ref b2)] [(.ref b2)])) ?_ (fun t k => XS.aload X1012.here hx rfl (hb hby d9_54) rfl rfl k)
    refine Goal.retA X1012 hx hret rfl rfl rfl (hb hby d9_56) ?_
    have k1014 : Keep h0 h1008 [] := ((((Keep.refl h0 []).ext E1001).trans K1003 (allS (Or.inr (by omega)) all0)).ext E1008)
    refine ⟨?_, by decide, by decide⟩
    rw [e1012]
    exact ⟨b2, _, rfl, N1012, extKp (extRefl _) k1014 all0, by omega, by omega, Or.inr ⟨by omega, V1008⟩⟩
theorem d11_0 : decode jdk_52_method_15_code 0 = .ok (.iload_n 1, 1) := by decide +kernel
theorem d11_1 : decode jdk_52_method_15_code 1 = .ok (.aload_n 0, 1) := by decide +kernel
theorem d11_2 : decode jdk_52_method_15_code 2 = .ok (.arraylength, 1) := by decide +kernel
theorem d11_3 : decode jdk_52_method_15_code 3 = .ok (.isub, 1) := by decide +kernel
theorem d11_4 : decode jdk_52_method_15_code 4 = .ok (.bipush 31, 2) := by decide +kernel
theorem d11_6 : decode jdk_52_method_15_code 6 = .ok (.iushr, 1) := by decide +kernel
theorem d11_7 : decode jdk_52_method_15_code 7 = .ok (.i2b, 1) := by decide +kernel
theorem d11_8 : decode jdk_52_method_15_code 8 = .ok (.ireturn, 1) := by decide +kernel
theorem ef_11 (m : MethodId) (x0 : Nat) (x1 : Int32) : entryFrame m #[(.ref x0), (.int x1)] 2 = mkF m 0 #[.val (.ref x0), .val (.int x1)] [] := by first | (simp [entryFrame, mkF, argsToLocals, Value.category]; done) | rfl
set_option maxRecDepth 65536 in
set_option maxHeartbeats 40000000 in
theorem rmCF0 (l : Launch) (Z : State) (a0 : Array Value) (hw : ∀ d ∈ tables_1, d.before a0 Z = true) (a1 : Nat) (n : Nat) (k1 : ClassId) (f : Nat → Int32) (h0 : Heap) (n0 : Nat) (Z0 : n0 ≤ h0.size) (A1 : Arf Z h0 a1 k1 .byte n f) (hn : n ≤ 4) :
    Met l (⟨"java/lang/StringUTF16", "coderFromArrayLen", "([BI)B"⟩ : MethodName) jdk_52_method_15_code 2 (some .byte) [] ({ frames := 0, cells := 0, slots := 0, locals := 0 } : Room) Z #[(.ref a1), (.int (Int32.ofNat n))] h0 (fun v h L => v = some (.int (0 : Int32)) ∧ Fr n0 L ∧ h = h0) := by
  refine of_goal (plainFor_of_name (by first | (simp [plainName, overriddenIn]; done) | decide +kernel)) ?_
  intro p e s m below meth c s₁ C X0 e0
  have C0 := C
  obtain ⟨hx, hZ, hby, hml, hret, hown, hnm⟩ := C
  have hown : s.vm.findClass "java/lang/StringUTF16" = some m.cls := hown
  have hret : meth.sig.returnType = (some .byte) := hret
  have N0 := Fr.nil n0
  rw [ef_11]
  refine Goal.step (T' := s₁) (g' := (mkF m 1 #[.val (.ref a1), .val (.int (Int32.ofNat n))] [(.int (Int32.ofNat n))])) ?_ (fun t k => XS.iloadN X0.here hx rfl (hb hby d11_0) rfl k)
  refine Goal.step (T' := s₁) (g' := (mkF m 2 #[.val (.ref a1), .val (.int (Int32.ofNat n))] [(.ref a1), (.int (Int32.ofNat n))])) ?_ (fun t k => XS.aloadN X0.here hx rfl (hb hby d11_1) rfl rfl k)
  obtain ⟨cl1001, Ar1001, q1001, S1001, H1001⟩ := (id A1)
  refine Goal.step (T' := s₁) (g' := (mkF m 3 #[.val (.ref a1), .val (.int (Int32.ofNat n))] [(.int (Int32.ofNat n)), (.int (Int32.ofNat n))])) ?_ (fun t k => X0.arraylength hx (by rw [e0]; exact Ar1001.1) (State.isArrayOf_alike hZ.alike Ar1001.2.1) (g := (mkF m 2 #[.val (.ref a1), .val (.int (Int32.ofNat n))] [(.ref a1), (.int (Int32.ofNat n))])) rfl rfl (hb hby d11_2) _ (by rw [S1001]; exact k))
  refine Goal.step (T' := s₁) (g' := (mkF m 4 #[.val (.ref a1), .val (.int (Int32.ofNat n))] [(.int ((Int32.ofNat n) - (Int32.ofNat n)))])) ?_ (fun t k => XS.isub X0.here hx rfl (hb hby d11_3) rfl k)
  refine Goal.step (T' := s₁) (g' := (mkF m 6 #[.val (.ref a1), .val (.int (Int32.ofNat n))] [(.int (31 : Int32)), (.int ((Int32.ofNat n) - (Int32.ofNat n)))])) ?_ (fun t k => XS.bipush X0.here hx rfl (hb hby d11_4) k)
  refine Goal.step (T' := s₁) (g' := (mkF m 7 #[.val (.ref a1), .val (.int (Int32.ofNat n))] [(.int ((((Int32.ofNat n) - (Int32.ofNat n)).toUInt32 >>> ((31 : Int32) &&& 31).toUInt32).toInt32))])) ?_ (fun t k => XS.iushr X0.here hx rfl (hb hby d11_6) rfl k)
  refine Goal.step (T' := s₁) (g' := (mkF m 8 #[.val (.ref a1), .val (.int (Int32.ofNat n))] [(.int (((((Int32.ofNat n) - (Int32.ofNat n)).toUInt32 >>> ((31 : Int32) &&& 31).toUInt32).toInt32).toInt8.toInt32))])) ?_ (fun t k => XS.i2b X0.here hx rfl (hb hby d11_7) rfl k)
  refine Goal.retN (t := .byte) X0 hx hret (by simp) (hb hby d11_8) ?_
  refine ⟨?_, by decide, by decide⟩
  rw [e0]
  exact ⟨congrArg (fun z => some (Value.int z)) (own_coder0 n), N0, rfl⟩
set_option maxRecDepth 65536 in
set_option maxHeartbeats 40000000 in
theorem rmCF1 (l : Launch) (Z : State) (a0 : Array Value) (hw : ∀ d ∈ tables_1, d.before a0 Z = true) (a1 : Nat) (n : Nat) (k1 : ClassId) (f : Nat → Int32) (h0 : Heap) (n0 : Nat) (Z0 : n0 ≤ h0.size) (A1 : Arf Z h0 a1 k1 .byte (2 * n) f) (hn : n ≤ 4) (h0n : 0 < n) :
    Met l (⟨"java/lang/StringUTF16", "coderFromArrayLen", "([BI)B"⟩ : MethodName) jdk_52_method_15_code 2 (some .byte) [] ({ frames := 0, cells := 0, slots := 0, locals := 0 } : Room) Z #[(.ref a1), (.int (Int32.ofNat n))] h0 (fun v h L => v = some (.int (1 : Int32)) ∧ Fr n0 L ∧ h = h0) := by
  refine of_goal (plainFor_of_name (by first | (simp [plainName, overriddenIn]; done) | decide +kernel)) ?_
  intro p e s m below meth c s₁ C X0 e0
  have C0 := C
  obtain ⟨hx, hZ, hby, hml, hret, hown, hnm⟩ := C
  have hown : s.vm.findClass "java/lang/StringUTF16" = some m.cls := hown
  have hret : meth.sig.returnType = (some .byte) := hret
  have N0 := Fr.nil n0
  rw [ef_11]
  refine Goal.step (T' := s₁) (g' := (mkF m 1 #[.val (.ref a1), .val (.int (Int32.ofNat n))] [(.int (Int32.ofNat n))])) ?_ (fun t k => XS.iloadN X0.here hx rfl (hb hby d11_0) rfl k)
  refine Goal.step (T' := s₁) (g' := (mkF m 2 #[.val (.ref a1), .val (.int (Int32.ofNat n))] [(.ref a1), (.int (Int32.ofNat n))])) ?_ (fun t k => XS.aloadN X0.here hx rfl (hb hby d11_1) rfl rfl k)
  obtain ⟨cl1001, Ar1001, q1001, S1001, H1001⟩ := (id A1)
  refine Goal.step (T' := s₁) (g' := (mkF m 3 #[.val (.ref a1), .val (.int (Int32.ofNat n))] [(.int (Int32.ofNat (2 * n))), (.int (Int32.ofNat n))])) ?_ (fun t k => X0.arraylength hx (by rw [e0]; exact Ar1001.1) (State.isArrayOf_alike hZ.alike Ar1001.2.1) (g := (mkF m 2 #[.val (.ref a1), .val (.int (Int32.ofNat n))] [(.ref a1), (.int (Int32.ofNat n))])) rfl rfl (hb hby d11_2) _ (by rw [S1001]; exact k))
  refine Goal.step (T' := s₁) (g' := (mkF m 4 #[.val (.ref a1), .val (.int (Int32.ofNat n))] [(.int ((Int32.ofNat n) - (Int32.ofNat (2 * n))))])) ?_ (fun t k => XS.isub X0.here hx rfl (hb hby d11_3) rfl k)
  refine Goal.step (T' := s₁) (g' := (mkF m 6 #[.val (.ref a1), .val (.int (Int32.ofNat n))] [(.int (31 : Int32)), (.int ((Int32.ofNat n) - (Int32.ofNat (2 * n))))])) ?_ (fun t k => XS.bipush X0.here hx rfl (hb hby d11_4) k)
  refine Goal.step (T' := s₁) (g' := (mkF m 7 #[.val (.ref a1), .val (.int (Int32.ofNat n))] [(.int ((((Int32.ofNat n) - (Int32.ofNat (2 * n))).toUInt32 >>> ((31 : Int32) &&& 31).toUInt32).toInt32))])) ?_ (fun t k => XS.iushr X0.here hx rfl (hb hby d11_6) rfl k)
  refine Goal.step (T' := s₁) (g' := (mkF m 8 #[.val (.ref a1), .val (.int (Int32.ofNat n))] [(.int (((((Int32.ofNat n) - (Int32.ofNat (2 * n))).toUInt32 >>> ((31 : Int32) &&& 31).toUInt32).toInt32).toInt8.toInt32))])) ?_ (fun t k => XS.i2b X0.here hx rfl (hb hby d11_7) rfl k)
  refine Goal.retN (t := .byte) X0 hx hret (by simp) (hb hby d11_8) ?_
  refine ⟨?_, by decide, by decide⟩
  rw [e0]
  exact ⟨congrArg (fun z => some (Value.int z)) (own_coder1 h0n (by omega)), N0, rfl⟩
theorem d4_0 : decode jdk_42_method_149_code 0 = .ok (.aload_n 0, 1) := by decide +kernel
theorem d4_1 : decode jdk_42_method_149_code 1 = .ok (.invokespecial 1, 3) := by decide +kernel
theorem d4_4 : decode jdk_42_method_149_code 4 = .ok (.iload_n 3, 1) := by decide +kernel
theorem d4_5 : decode jdk_42_method_149_code 5 = .ok (.ifCond .ne 22, 3) := by decide +kernel
theorem d4_8 : decode jdk_42_method_149_code 8 = .ok (.aload_n 0, 1) := by decide +kernel
theorem d4_9 : decode jdk_42_method_149_code 9 = .ok (.ldc 7, 2) := by decide +kernel
theorem d4_11 : decode jdk_42_method_149_code 11 = .ok (.getfield 9, 3) := by decide +kernel
theorem d4_14 : decode jdk_42_method_149_code 14 = .ok (.putfield 9, 3) := by decide +kernel
theorem d4_17 : decode jdk_42_method_149_code 17 = .ok (.aload_n 0, 1) := by decide +kernel
theorem d4_18 : decode jdk_42_method_149_code 18 = .ok (.ldc 7, 2) := by decide +kernel
theorem d4_20 : decode jdk_42_method_149_code 20 = .ok (.getfield 15, 3) := by decide +kernel
theorem d4_23 : decode jdk_42_method_149_code 23 = .ok (.putfield 15, 3) := by decide +kernel
theorem d4_26 : decode jdk_42_method_149_code 26 = .ok (.return_, 1) := by decide +kernel
theorem d4_27 : decode jdk_42_method_149_code 27 = .ok (.getstatic 38, 3) := by decide +kernel
theorem d4_30 : decode jdk_42_method_149_code 30 = .ok (.ifCond .eq 28, 3) := by decide +kernel
theorem d4_33 : decode jdk_42_method_149_code 33 = .ok (.aload_n 1, 1) := by decide +kernel
theorem d4_34 : decode jdk_42_method_149_code 34 = .ok (.iload_n 2, 1) := by decide +kernel
theorem d4_35 : decode jdk_42_method_149_code 35 = .ok (.iload_n 3, 1) := by decide +kernel
theorem d4_36 : decode jdk_42_method_149_code 36 = .ok (.invokestatic 177, 3) := by decide +kernel
theorem d4_39 : decode jdk_42_method_149_code 39 = .ok (.astore 5, 2) := by decide +kernel
theorem d4_41 : decode jdk_42_method_149_code 41 = .ok (.aload_n 0, 1) := by decide +kernel
theorem d4_42 : decode jdk_42_method_149_code 42 = .ok (.aload 5, 2) := by decide +kernel
theorem d4_44 : decode jdk_42_method_149_code 44 = .ok (.iload_n 3, 1) := by decide +kernel
theorem d4_45 : decode jdk_42_method_149_code 45 = .ok (.invokestatic 47, 3) := by decide +kernel
theorem pd_12 : parseMethodDescriptor "([BI)B" = some ⟨[(.array .byte), .int], some .byte⟩ := by decide +kernel
theorem d4_48 : decode jdk_42_method_149_code 48 = .ok (.putfield 15, 3) := by decide +kernel
theorem d4_51 : decode jdk_42_method_149_code 51 = .ok (.aload_n 0, 1) := by decide +kernel
theorem d4_52 : decode jdk_42_method_149_code 52 = .ok (.aload 5, 2) := by decide +kernel
theorem d4_54 : decode jdk_42_method_149_code 54 = .ok (.putfield 9, 3) := by decide +kernel
theorem d4_57 : decode jdk_42_method_149_code 57 = .ok (.return_, 1) := by decide +kernel
theorem ef_4 (m : MethodId) (x0 : Nat) (x1 : Nat) (x3 : Int32) : entryFrame m #[(.ref x0), (.ref x1), (.int (0 : Int32)), (.int x3), .null] 6 = mkF m 0 #[.val (.ref x0), .val (.ref x1), .val (.int (0 : Int32)), .val (.int x3), .val .null, .unset] [] := by first | (simp [entryFrame, mkF, argsToLocals, Value.category]; done) | rfl
set_option maxRecDepth 65536 in
set_option maxHeartbeats 40000000 in
theorem rmI4 (l : Launch) (Z : State) (a0 : Array Value) (hw : ∀ d ∈ tables_1, d.before a0 Z = true) (n : Nat) (a1 a2 : Nat) (k1 : ClassId) (f : Nat → Int32) (u1 u2 : Value) (cs : Int32) (fm : Value) (h0 : Heap) (n0 : Nat) (Z0 : n0 ≤ h0.size) (SE : SEnv Z cs fm) (O0 : Old Z n0 h0) (E1 : Exa Z h0 a1 "java/lang/String") (Fv : Fld Z h0 a1 "java/lang/String" "value" "[B" u1) (Fc : Fld Z h0 a1 "java/lang/String" "coder" "B" u2) (hn : n ≤ 4) (hc : ∀ j, j < n → 0 ≤ (f j).toInt ∧ (f j).toInt ≤ 65535) (A2 : Arf Z h0 a2 k1 .char n f) (lt2 : a2 < h0.size) (lt1 : a1 < h0.size) (g1 : n0 ≤ a1) (ne12 : a1 ≠ a2) :
    MetH l (⟨"java/lang/String", "<init>", "([CIILjava/lang/Void;)V"⟩ : MethodName) jdk_42_method_149_code 6 none [] ({ frames := 4, cells := 4, slots := 12, locals := 57 } : Room) Z consts_1 [a1] #[(.ref a1), (.ref a2), (.int (0 : Int32)), (.int (Int32.ofNat n)), .null] h0 (fun v h L => v = none ∧ Fr n0 L ∧ Keep h0 h [a1] ∧ Str Z h a1 n f) := by
  refine of_goalH (plainFor_of_name (by first | (simp [plainName, overriddenIn]; done) | decide +kernel)) ?_
  intro p e s m below meth c s₁ C X0 hS e0 hCH hSf
  have C0 := C
  obtain ⟨hx, hZ, hby, hml, hret, hown, hnm⟩ := C
  have hown : s.vm.findClass "java/lang/String" = some m.cls := hown
  have hret : meth.sig.returnType = none := hret
  have CH0 := CHr.refl hCH
  have N0 := Fr.nil n0
  rw [ef_4]
  rcases Nat.eq_zero_or_pos n with hz | hpos
  · refine GoalH.step (T' := s₁) (g' := (mkF m 1 #[.val (.ref a1), .val (.ref a2), .val (.int (0 : Int32)), .val (.int (Int32.ofNat n)), .val .null, .unset] [(.ref a1)])) ?_ (fun t k => XS.aloadN X0.here hx rfl (hb hby d4_0) rfl rfl k)
    obtain ⟨T1001, X1001, e1001, st1001⟩ := initO X0 hx hZ hown (hw _ (List.mem_of_getElem? (i := 20) rfl)) (hw _ (List.mem_of_getElem? (i := 21) rfl)) (hw _ (List.mem_of_getElem? (i := 22) rfl)) e0 (g := (mkF m 1 #[.val (.ref a1), .val (.ref a2), .val (.int (0 : Int32)), .val (.int (Int32.ofNat n)), .val .null, .unset] [(.ref a1)])) rfl (by rw [hml]; rfl) rfl (hb hby d4_1) (by decide) (W := 0) (by show 2 * 0 + _ ≤ _; exact Nat.le_of_eq rfl) (by decide)
    refine GoalH.step (T' := T1001) (g' := (mkF m 4 #[.val (.ref a1), .val (.ref a2), .val (.int (0 : Int32)), .val (.int (Int32.ofNat n)), .val .null, .unset] [])) ?_ st1001
    refine GoalH.step (T' := T1001) (g' := (mkF m 5 #[.val (.ref a1), .val (.ref a2), .val (.int (0 : Int32)), .val (.int (Int32.ofNat n)), .val .null, .unset] [(.int (Int32.ofNat n))])) ?_ (fun t k => XS.iloadN X1001.here hx rfl (hb hby d4_4) rfl k)
    refine GoalH.step (T' := T1001) (g' := (mkF m 8 #[.val (.ref a1), .val (.ref a2), .val (.int (0 : Int32)), .val (.int (Int32.ofNat n)), .val .null, .unset] [])) ?_ (fun t k => XS.ifNo X1001.here hx rfl (hb hby d4_5) rfl ((if0 _ _).trans (teq (by rw [hz]; rfl)).2) k)
    refine GoalH.step (T' := T1001) (g' := (mkF m 9 #[.val (.ref a1), .val (.ref a2), .val (.int (0 : Int32)), .val (.int (Int32.ofNat n)), .val .null, .unset] [(.ref a1)])) ?_ (fun t k => XS.aloadN X1001.here hx rfl (hb hby d4_8) rfl rfl k)
    obtain ⟨b1002, T1002, h1002, k1002, bv1002, kv1002, X1002, e1002, E1002, hS, hk1002, hZ, hown, Ex1002, Fc1002, Fv1002, Av1002, lt_b1002, lt_bv1002, C1002, -, ne1002, st1002⟩ := ldcCH X1001 hx hZ hown (hw _ (List.mem_of_getElem? (i := 23) rfl)) (own_atoms hw) e1001 hS (by omega) (own_EW hw) (by simp [consts_1]) CH0.1 (vs := []) (z := 0) ⟨by simp, rfl⟩ (by decide) rfl (g := (mkF m 9 #[.val (.ref a1), .val (.ref a2), .val (.int (0 : Int32)), .val (.int (Int32.ofNat n)), .val .null, .unset] [(.ref a1)])) rfl (hb hby d4_9) (n := 0) (by decide) (by decide) (by decide) (by decide)
    refine GoalH.step (T' := T1002) (g' := (mkF m 11 #[.val (.ref a1), .val (.ref a2), .val (.int (0 : Int32)), .val (.int (Int32.ofNat n)), .val .null, .unset] [(.ref b1002), (.ref a1)])) ?_ st1002
    have sz1003 : h0.size ≤ h1002.size := E1002.1
    have CH1002 := CHr.trans CH0 C1002
    have Sf1002_a1 := C1002.safe (show (a1 : Nat) < h0.size by omega) (hSf a1 (by simp)).2
    have nb1002_a1 : ¬ (a1 : Nat) = b1002 := (ne1002 a1 Sf1002_a1).1
    have nv1002_a1 : ¬ (a1 : Nat) = bv1002 := (ne1002 a1 Sf1002_a1).2
    have Af1002 : Arf Z h1002 bv1002 kv1002 .byte 0 (fun _ => 0) := own_empty Av1002
    obtain ⟨T1004, X1004, e1004, st1004⟩ := getF X1002 hx hZ hown (host := "") (Or.inl (hw _ (List.mem_of_getElem? (i := 29) rfl))) Via.refl e1002 Fv1002 (g := (mkF m 11 #[.val (.ref a1), .val (.ref a2), .val (.int (0 : Int32)), .val (.int (Int32.ofNat n)), .val .null, .unset] [(.ref b1002), (.ref a1)])) rfl rfl (hb hby d4_11)
    refine GoalH.step (T' := T1004) (g' := (mkF m 14 #[.val (.ref a1), .val (.ref a2), .val (.int (0 : Int32)), .val (.int (Int32.ofNat n)), .val .null, .unset] [(.ref bv1002), (.ref a1)])) ?_ st1004
    have f1005 : Fld Z h1002 a1 "java/lang/String" "value" "[B" u1 := (Fv.ext E1002)
    have f1006 : Exa Z h1002 a1 "java/lang/String" := (E1.ext E1002)
    obtain ⟨T1007, h1007, X1007, e1007, W1007, st1007⟩ := putF X1004 hx hZ hown (host := "") (Or.inl (hw _ (List.mem_of_getElem? (i := 29) rfl))) Via.refl e1004 f1005 f1006 (Or.inr ⟨(hw _ (List.mem_of_getElem? (i := 25) rfl)), rfl, hnm⟩) (hw _ (List.mem_of_getElem? (i := 11) rfl)) (ty := (.array .byte)) (by decide) rfl rfl (g := (mkF m 14 #[.val (.ref a1), .val (.ref a2), .val (.int (0 : Int32)), .val (.int (Int32.ofNat n)), .val .null, .unset] [(.ref bv1002), (.ref a1)])) rfl rfl (hb hby d4_14)
    refine GoalH.step (T' := T1007) (g' := (mkF m 17 #[.val (.ref a1), .val (.ref a2), .val (.int (0 : Int32)), .val (.int (Int32.ofNat n)), .val .null, .unset] [])) ?_ st1007
    have sz1008 : h1002.size ≤ h1007.size := Nat.le_of_eq W1007.size.symm
    have F1007 := Fld.same W1007 f1005
    have N1007 := Fr.snoc X1007 N0 (by omega : n0 ≤ a1)
    refine GoalH.step (T' := T1007) (g' := (mkF m 18 #[.val (.ref a1), .val (.ref a2), .val (.int (0 : Int32)), .val (.int (Int32.ofNat n)), .val .null, .unset] [(.ref a1)])) ?_ (fun t k => XS.aloadN X1007.here hx rfl (hb hby d4_17) rfl rfl k)
    have kk1009 : Keep h1002 h1007 [a1] := ((Keep.refl h1002 [a1]).wr W1007 (Or.inl (by simp)))
    have CH1010 := CHr.trans CH1002 (CHr.keep kk1009 (allS Sf1002_a1 all0) CH1002.1)
    have Sf1010_a1 := Safe.keep kk1009 (allS Sf1002_a1 all0) CH1002.1 Sf1002_a1
    obtain ⟨b1011, T1011, h1011, k1011, bv1011, kv1011, X1011, e1011, E1011, hS, hk1011, hZ, hown, Ex1011, Fc1011, Fv1011, Av1011, lt_b1011, lt_bv1011, C1011, -, ne1011, st1011⟩ := ldcCH X1007 hx hZ hown (hw _ (List.mem_of_getElem? (i := 23) rfl)) (own_atoms hw) e1007 hS (by omega) (own_EW hw) (by simp [consts_1]) CH1010.1 (vs := []) (z := 0) ⟨by simp, rfl⟩ (by decide) rfl (g := (mkF m 18 #[.val (.ref a1), .val (.ref a2), .val (.int (0 : Int32)), .val (.int (Int32.ofNat n)), .val .null, .unset] [(.ref a1)])) rfl (hb hby d4_18) (n := 0) (by decide) (by decide) (by decide) (by decide)
    refine GoalH.step (T' := T1011) (g' := (mkF m 20 #[.val (.ref a1), .val (.ref a2), .val (.int (0 : Int32)), .val (.int (Int32.ofNat n)), .val .null, .unset] [(.ref b1011), (.ref a1)])) ?_ st1011
    have sz1012 : h1007.size ≤ h1011.size := E1011.1
    have CH1011 := CHr.trans CH1010 C1011
    have Sf1011_a1 := C1011.safe (show (a1 : Nat) < h1007.size by omega) Sf1010_a1
    have nb1011_a1 : ¬ (a1 : Nat) = b1011 := (ne1011 a1 Sf1011_a1).1
    have nv1011_a1 : ¬ (a1 : Nat) = bv1011 := (ne1011 a1 Sf1011_a1).2
    have Af1011 : Arf Z h1011 bv1011 kv1011 .byte 0 (fun _ => 0) := own_empty Av1011
    obtain ⟨T1013, X1013, e1013, st1013⟩ := getF X1011 hx hZ hown (host := "") (Or.inl (hw _ (List.mem_of_getElem? (i := 30) rfl))) Via.refl e1011 Fc1011 (g := (mkF m 20 #[.val (.ref a1), .val (.ref a2), .val (.int (0 : Int32)), .val (.int (Int32.ofNat n)), .val .null, .unset] [(.ref b1011), (.ref a1)])) rfl rfl (hb hby d4_20)
    refine GoalH.step (T' := T1013) (g' := (mkF m 23 #[.val (.ref a1), .val (.ref a2), .val (.int (0 : Int32)), .val (.int (Int32.ofNat n)), .val .null, .unset] [(.int (0 : Int32)), (.ref a1)])) ?_ st1013
    have f1014 : Fld Z h1011 a1 "java/lang/String" "coder" "B" u2 := ((Fld.other W1007 (Fc.ext E1002) (Or.inr (slot_ne (Or.inr (hw _ (List.mem_of_getElem? (i := 26) rfl))) (Or.inr (hw _ (List.mem_of_getElem? (i := 25) rfl))) (by decide) (t := .byte) (t' := (.array .byte)) (by decide) (by decide)))).ext E1011)
    have f1015 : Exa Z h1011 a1 "java/lang/String" := ((Exa.wr W1007 f1006).ext E1011)
    obtain ⟨T1016, h1016, X1016, e1016, W1016, st1016⟩ := putFN X1013 hx hZ hown (hw _ (List.mem_of_getElem? (i := 30) rfl)) Via.refl e1013 f1014 f1015 (Or.inr ⟨(hw _ (List.mem_of_getElem? (i := 26) rfl)), rfl, hnm⟩) (hw _ (List.mem_of_getElem? (i := 11) rfl)) (ty := .byte) (v' := .int (nar .byte (0 : Int32))) (by decide) rfl (fits_nar_byte _) (g := (mkF m 23 #[.val (.ref a1), .val (.ref a2), .val (.int (0 : Int32)), .val (.int (Int32.ofNat n)), .val .null, .unset] [(.int (0 : Int32)), (.ref a1)])) rfl rfl (hb hby d4_23)
    refine GoalH.step (T' := T1016) (g' := (mkF m 26 #[.val (.ref a1), .val (.ref a2), .val (.int (0 : Int32)), .val (.int (Int32.ofNat n)), .val .null, .unset] [])) ?_ st1016
    have sz1017 : h1011.size ≤ h1016.size := Nat.le_of_eq W1016.size.symm
    have F1016 := Fld.same W1016 f1014
    have N1016 := Fr.snoc X1016 N1007 (by omega : n0 ≤ a1)
    have kk1018 : Keep h1011 h1016 [a1] := ((Keep.refl h1011 [a1]).wr W1016 (Or.inl (by simp)))
    have CH1019 := CHr.trans CH1011 (CHr.keep kk1018 (allS Sf1011_a1 all0) CH1011.1)
    have Sf1019_a1 := Safe.keep kk1018 (allS Sf1011_a1 all0) CH1011.1 Sf1011_a1
    refine GoalH.retV X1016 hS (by rw [e1016]; omega) hZ (own_EW hw) (by rw [e1016]; exact CH1019) hx hret (hb hby d4_26) ?_
    have k1020 : Keep h0 h1016 [a1] := (((((Keep.refl h0 [a1]).ext E1002).wr W1007 (Or.inl (by simp))).ext E1011).wr W1016 (Or.inl (by simp)))
    have f1021 : Arf Z h1016 bv1002 kv1002 .byte 0 (fun _ => 0) := (((Af1002.other W1007 (nne (by omega))).ext E1011).other W1016 (nne (by omega)))
    have f1022 : Exa Z h1016 a1 "java/lang/String" := (Exa.wr W1016 f1015)
    have f1023 : Fld Z h1016 a1 "java/lang/String" "value" "[B" (.ref bv1002) := (Fld.other W1016 (F1007.ext E1011) (Or.inr (slot_ne (Or.inr (hw _ (List.mem_of_getElem? (i := 25) rfl))) (Or.inr (hw _ (List.mem_of_getElem? (i := 26) rfl))) (by decide) (t := (.array .byte)) (t' := .byte) (by decide) (by decide))))
    refine ⟨?_, by decide, by decide⟩
    rw [e1016]
    exact ⟨rfl, N1016, k1020, ⟨by omega, hc⟩, f1022, _, _, f1023, Or.inl ⟨F1016, fun i hi => by omega, by rw [hz]; exact Arf.congr f1021 (fun i hi => absurd hi (Nat.not_lt_zero _))⟩⟩
  · refine GoalH.step (T' := s₁) (g' := (mkF m 1 #[.val (.ref a1), .val (.ref a2), .val (.int (0 : Int32)), .val (.int (Int32.ofNat n)), .val .null, .unset] [(.ref a1)])) ?_ (fun t k => XS.aloadN X0.here hx rfl (hb hby d4_0) rfl rfl k)
    obtain ⟨T1024, X1024, e1024, st1024⟩ := initO X0 hx hZ hown (hw _ (List.mem_of_getElem? (i := 20) rfl)) (hw _ (List.mem_of_getElem? (i := 21) rfl)) (hw _ (List.mem_of_getElem? (i := 22) rfl)) e0 (g := (mkF m 1 #[.val (.ref a1), .val (.ref a2), .val (.int (0 : Int32)), .val (.int (Int32.ofNat n)), .val .null, .unset] [(.ref a1)])) rfl (by rw [hml]; rfl) rfl (hb hby d4_1) (by decide) (W := 0) (by show 2 * 0 + _ ≤ _; exact Nat.le_of_eq rfl) (by decide)
    refine GoalH.step (T' := T1024) (g' := (mkF m 4 #[.val (.ref a1), .val (.ref a2), .val (.int (0 : Int32)), .val (.int (Int32.ofNat n)), .val .null, .unset] [])) ?_ st1024
    refine GoalH.step (T' := T1024) (g' := (mkF m 5 #[.val (.ref a1), .val (.ref a2), .val (.int (0 : Int32)), .val (.int (Int32.ofNat n)), .val .null, .unset] [(.int (Int32.ofNat n))])) ?_ (fun t k => XS.iloadN X1024.here hx rfl (hb hby d4_4) rfl k)
    refine GoalH.step (T' := T1024) (g' := (mkF m 27 #[.val (.ref a1), .val (.ref a2), .val (.int (0 : Int32)), .val (.int (Int32.ofNat n)), .val .null, .unset] [])) ?_ (fun t k => XS.ifYes X1024.here hx rfl (pc0 := 5) (pc' := 27) rfl (hb hby d4_5) rfl ((if0 _ _).trans (feq (nat_pos hpos (by omega))).2) (by decide) (by decide) k)
    have S1025 : Sta Z h0 "java/lang/String" "COMPACT_STRINGS" "Z" (.int cs) := Sta.ext O0.2 SE.1
    obtain ⟨T1026, X1026, e1026, st1026⟩ := getS2 X1024 hx hZ hown (host := "") (Or.inl (hw _ (List.mem_of_getElem? (i := 45) rfl))) Via.refl e1024 S1025 (g := (mkF m 27 #[.val (.ref a1), .val (.ref a2), .val (.int (0 : Int32)), .val (.int (Int32.ofNat n)), .val .null, .unset] [])) rfl (hb hby d4_27)
    refine GoalH.step (T' := T1026) (g' := (mkF m 30 #[.val (.ref a1), .val (.ref a2), .val (.int (0 : Int32)), .val (.int (Int32.ofNat n)), .val .null, .unset] [(.int cs)])) ?_ st1026
    refine GoalH.step (T' := T1026) (g' := (mkF m 33 #[.val (.ref a1), .val (.ref a2), .val (.int (0 : Int32)), .val (.int (Int32.ofNat n)), .val .null, .unset] [])) ?_ (fun t k => XS.ifNo X1026.here hx rfl (hb hby d4_30) rfl ((if0 _ _).trans (feq SE.2.1).1) k)
    refine GoalH.step (T' := T1026) (g' := (mkF m 34 #[.val (.ref a1), .val (.ref a2), .val (.int (0 : Int32)), .val (.int (Int32.ofNat n)), .val .null, .unset] [(.ref a2)])) ?_ (fun t k => XS.aloadN X1026.here hx rfl (hb hby d4_33) rfl rfl k)
    refine GoalH.step (T' := T1026) (g' := (mkF m 35 #[.val (.ref a1), .val (.ref a2), .val (.int (0 : Int32)), .val (.int (Int32.ofNat n)), .val .null, .unset] [(.int (0 : Int32)), (.ref a2)])) ?_ (fun t k => XS.iloadN X1026.here hx rfl (hb hby d4_34) rfl k)
    refine GoalH.step (T' := T1026) (g' := (mkF m 36 #[.val (.ref a1), .val (.ref a2), .val (.int (0 : Int32)), .val (.int (Int32.ofNat n)), .val .null, .unset] [(.int (Int32.ofNat n)), (.int (0 : Int32)), (.ref a2)])) ?_ (fun t k => XS.iloadN X1026.here hx rfl (hb hby d4_35) rfl k)
    obtain ⟨v1027, T1027, h1027, L1027, X1027, e1027, hQ1027, st1027⟩ := callStatic X1026 hx hZ hown (hw _ (List.mem_of_getElem? (i := 46) rfl)) (hw _ (List.mem_of_getElem? (i := 47) rfl)) (hw _ (List.mem_of_getElem? (i := 48) rfl)) (hw _ (List.mem_of_getElem? (i := 49) rfl)) (by decide) (rmC3 l Z a0 hw n a2 k1 f cs fm h0 n0 (by omega) SE O0 hn hc A2 (by omega)) e1026 (W := 0) (by decide) (by decide) (by decide) (by decide) (g := (mkF m 36 #[.val (.ref a1), .val (.ref a2), .val (.int (0 : Int32)), .val (.int (Int32.ofNat n)), .val .null, .unset] [(.int (Int32.ofNat n)), (.int (0 : Int32)), (.ref a2)])) rfl (by rw [hml]; rfl) (argsL := [(.ref a2), (.int (0 : Int32)), (.int (Int32.ofNat n))]) (rest := []) (lenOf pd_11 rfl) rfl (by show 2 * 0 + _ ≤ _; exact Nat.le_of_eq rfl) (hb hby d4_36) rfl
    obtain ⟨b1, k2, rfl, M1027, E1027, lo1027, lt_b1, hr1027⟩ := hQ1027
    have N1027 := Fr.app N0 M1027
    rcases hr1027 with ⟨hlat, V1027⟩ | ⟨-, V1027⟩
    · refine GoalH.step (T' := T1027) (g' := (mkF m 39 #[.val (.ref a1), .val (.ref a2), .val (.int (0 : Int32)), .val (.int (Int32.ofNat n)), .val .null, .unset] [(.ref b1)])) ?_ st1027
      have sz1028 : h0.size ≤ h1027.size := E1027.1
      refine GoalH.step (T' := T1027) (g' := (mkF m 41 #[.val (.ref a1), .val (.ref a2), .val (.int (0 : Int32)), .val (.int (Int32.ofNat n)), .val .null, .val (.ref b1)] [])) ?_ (fun t k => XS.astore X1027.here hx rfl (hb hby d4_39) rfl rfl (l' := #[.val (.ref a1), .val (.ref a2), .val (.int (0 : Int32)), .val (.int (Int32.ofNat n)), .val .null, .val (.ref b1)]) rfl k)
      refine GoalH.step (T' := T1027) (g' := (mkF m 42 #[.val (.ref a1), .val (.ref a2), .val (.int (0 : Int32)), .val (.int (Int32.ofNat n)), .val .null, .val (.ref b1)] [(.ref a1)])) ?_ (fun t k => XS.aloadN X1027.here hx rfl (hb hby d4_41) rfl rfl k)
      refine GoalH.step (T' := T1027) (g' := (mkF m 44 #[.val (.ref a1), .val (.ref a2), .val (.int (0 : Int32)), .val (.int (Int32.ofNat n)), .val .null, .val (.ref b1)] [(.ref b1), (.ref a1)])) ?_ (fun t k => XS.aload X1027.here hx rfl (hb hby d4_42) rfl rfl k)
      refine GoalH.step (T' := T1027) (g' := (mkF m 45 #[.val (.ref a1), .val (.ref a2), .val (.int (0 : Int32)), .val (.int (Int32.ofNat n)), .val .null, .val (.ref b1)] [(.int (Int32.ofNat n)), (.ref b1), (.ref a1)])) ?_ (fun t k => XS.iloadN X1027.here hx rfl (hb hby d4_44) rfl k)
      obtain ⟨v1029, T1029, h1029, L1029, X1029, e1029, hQ1029, st1029⟩ := callStatic X1027 hx hZ hown (hw _ (List.mem_of_getElem? (i := 53) rfl)) (hw _ (List.mem_of_getElem? (i := 54) rfl)) (hw _ (List.mem_of_getElem? (i := 48) rfl)) (hw _ (List.mem_of_getElem? (i := 55) rfl)) (by decide) (rmCF0 l Z a0 hw b1 n k2 (lat f) h1027 n0 (by omega) V1027 hn) e1027 (W := 1) (by decide) (by decide) (by decide) (by decide) (g := (mkF m 45 #[.val (.ref a1), .val (.ref a2), .val (.int (0 : Int32)), .val (.int (Int32.ofNat n)), .val .null, .val (.ref b1)] [(.int (Int32.ofNat n)), (.ref b1), (.ref a1)])) rfl (by rw [hml]; rfl) (argsL := [(.ref b1), (.int (Int32.ofNat n))]) (rest := [(.ref a1)]) (lenOf pd_12 rfl) rfl (by show 2 * 0 + _ ≤ _; exact Nat.le_of_eq rfl) (hb hby d4_45) rfl
      obtain ⟨rfl, M1029, q1029⟩ := hQ1029
      rw [q1029] at e1029
      have N1029 := Fr.app N1027 M1029
      refine GoalH.step (T' := T1029) (g' := (mkF m 48 #[.val (.ref a1), .val (.ref a2), .val (.int (0 : Int32)), .val (.int (Int32.ofNat n)), .val .null, .val (.ref b1)] [(.int (0 : Int32)), (.ref a1)])) ?_ st1029
      have f1030 : Fld Z h1027 a1 "java/lang/String" "coder" "B" u2 := (Fc.ext E1027)
      have f1031 : Exa Z h1027 a1 "java/lang/String" := (E1.ext E1027)
      obtain ⟨T1032, h1032, X1032, e1032, W1032, st1032⟩ := putFN X1029 hx hZ hown (hw _ (List.mem_of_getElem? (i := 30) rfl)) Via.refl e1029 f1030 f1031 (Or.inr ⟨(hw _ (List.mem_of_getElem? (i := 26) rfl)), rfl, hnm⟩) (hw _ (List.mem_of_getElem? (i := 11) rfl)) (ty := .byte) (v' := .int (nar .byte (0 : Int32))) (by decide) rfl (fits_nar_byte _) (g := (mkF m 48 #[.val (.ref a1), .val (.ref a2), .val (.int (0 : Int32)), .val (.int (Int32.ofNat n)), .val .null, .val (.ref b1)] [(.int (0 : Int32)), (.ref a1)])) rfl rfl (hb hby d4_48)
      refine GoalH.step (T' := T1032) (g' := (mkF m 51 #[.val (.ref a1), .val (.ref a2), .val (.int (0 : Int32)), .val (.int (Int32.ofNat n)), .val .null, .val (.ref b1)] [])) ?_ st1032
      have sz1033 : h1027.size ≤ h1032.size := Nat.le_of_eq W1032.size.symm
      have F1032 := Fld.same W1032 f1030
      have N1032 := Fr.snoc X1032 N1029 (by omega : n0 ≤ a1)
      refine GoalH.step (T' := T1032) (g' := (mkF m 52 #[.val (.ref a1), .val (.ref a2), .val (.int (0 : Int32)), .val (.int (Int32.ofNat n)), .val .null, .val (.ref b1)] [(.ref a1)])) ?_ (fun t k => XS.aloadN X1032.here hx rfl (hb hby d4_51) rfl rfl k)
      refine GoalH.step (T' := T1032) (g' := (mkF m 54 #[.val (.ref a1), .val (.ref a2), .val (.int (0 : Int32)), .val (.int (Int32.ofNat n)), .val .null, .val (.ref b1)] [(.ref b1), (.ref a1)])) ?_ (fun t k => XS.aload X1032.here hx rfl (hb hby d4_52) rfl rfl k)
      have f1034 : Fld Z h1032 a1 "java/lang/String" "value" "[B" u1 := (Fld.other W1032 (Fv.ext E1027) (Or.inr (slot_ne (Or.inr (hw _ (List.mem_of_getElem? (i := 25) rfl))) (Or.inr (hw _ (List.mem_of_getElem? (i := 26) rfl))) (by decide) (t := (.array .byte)) (t' := .byte) (by decide) (by decide))))
      have f1035 : Exa Z h1032 a1 "java/lang/String" := (Exa.wr W1032 f1031)
      obtain ⟨T1036, h1036, X1036, e1036, W1036, st1036⟩ := putF X1032 hx hZ hown (host := "") (Or.inl (hw _ (List.mem_of_getElem? (i := 29) rfl))) Via.refl e1032 f1034 f1035 (Or.inr ⟨(hw _ (List.mem_of_getElem? (i := 25) rfl)), rfl, hnm⟩) (hw _ (List.mem_of_getElem? (i := 11) rfl)) (ty := (.array .byte)) (by decide) rfl rfl (g := (mkF m 54 #[.val (.ref a1), .val (.ref a2), .val (.int (0 : Int32)), .val (.int (Int32.ofNat n)), .val .null, .val (.ref b1)] [(.ref b1), (.ref a1)])) rfl rfl (hb hby d4_54)
      refine GoalH.step (T' := T1036) (g' := (mkF m 57 #[.val (.ref a1), .val (.ref a2), .val (.int (0 : Int32)), .val (.int (Int32.ofNat n)), .val .null, .val (.ref b1)] [])) ?_ st1036
      have sz1037 : h1032.size ≤ h1036.size := Nat.le_of_eq W1036.size.symm
      have F1036 := Fld.same W1036 f1034
      have N1036 := Fr.snoc X1036 N1032 (by omega : n0 ≤ a1)
      have kk1038 : Keep h0 h1036 [a1] := ((((Keep.refl h0 [a1]).ext E1027).wr W1032 (Or.inl (by simp))).wr W1036 (Or.inl (by simp)))
      have CH1039 := CHr.trans CH0 (CHr.keep kk1038 (allS (hSf a1 (by simp)).2 all0) CH0.1)
      have Sf1039_a1 := Safe.keep kk1038 (allS (hSf a1 (by simp)).2 all0) CH0.1 (hSf a1 (by simp)).2
      refine GoalH.retV X1036 hS (by rw [e1036]; omega) hZ (own_EW hw) (by rw [e1036]; exact CH1039) hx hret (hb hby d4_57) ?_
      have k1040 : Keep h0 h1036 [a1] := ((((Keep.refl h0 [a1]).ext E1027).wr W1032 (Or.inl (by simp))).wr W1036 (Or.inl (by simp)))
      have f1041 : Arf Z h1036 b1 k2 .byte n (lat f) := ((V1027.other W1032 (nne (by omega))).other W1036 (nne (by omega)))
      have f1042 : Exa Z h1036 a1 "java/lang/String" := (Exa.wr W1036 f1035)
      have f1043 : Fld Z h1036 a1 "java/lang/String" "coder" "B" (.int (nar .byte (0 : Int32))) := (Fld.other W1036 F1032 (Or.inr (slot_ne (Or.inr (hw _ (List.mem_of_getElem? (i := 26) rfl))) (Or.inr (hw _ (List.mem_of_getElem? (i := 25) rfl))) (by decide) (t := .byte) (t' := (.array .byte)) (by decide) (by decide))))
      refine ⟨?_, by decide, by decide⟩
      rw [e1036]
      exact ⟨rfl, N1036, k1040, ⟨by omega, hc⟩, f1042, _, _, F1036, Or.inl ⟨f1043, hlat, f1041⟩⟩
    · refine GoalH.step (T' := T1027) (g' := (mkF m 39 #[.val (.ref a1), .val (.ref a2), .val (.int (0 : Int32)), .val (.int (Int32.ofNat n)), .val .null, .unset] [(.ref b1)])) ?_ st1027
      have sz1044 : h0.size ≤ h1027.size := E1027.1
      refine GoalH.step (T' := T1027) (g' := (mkF m 41 #[.val (.ref a1), .val (.ref a2), .val (.int (0 : Int32)), .val (.int (Int32.ofNat n)), .val .null, .val (.ref b1)] [])) ?_ (fun t k => XS.astore X1027.here hx rfl (hb hby d4_39) rfl rfl (l' := #[.val (.ref a1), .val (.ref a2), .val (.int (0 : Int32)), .val (.int (Int32.ofNat n)), .val .null, .val (.ref b1)]) rfl k)
      refine GoalH.step (T' := T1027) (g' := (mkF m 42 #[.val (.ref a1), .val (.ref a2), .val (.int (0 : Int32)), .val (.int (Int32.ofNat n)), .val .null, .val (.ref b1)] [(.ref a1)])) ?_ (fun t k => XS.aloadN X1027.here hx rfl (hb hby d4_41) rfl rfl k)
      refine GoalH.step (T' := T1027) (g' := (mkF m 44 #[.val (.ref a1), .val (.ref a2), .val (.int (0 : Int32)), .val (.int (Int32.ofNat n)), .val .null, .val (.ref b1)] [(.ref b1), (.ref a1)])) ?_ (fun t k => XS.aload X1027.here hx rfl (hb hby d4_42) rfl rfl k)
      refine GoalH.step (T' := T1027) (g' := (mkF m 45 #[.val (.ref a1), .val (.ref a2), .val (.int (0 : Int32)), .val (.int (Int32.ofNat n)), .val .null, .val (.ref b1)] [(.int (Int32.ofNat n)), (.ref b1), (.ref a1)])) ?_ (fun t k => XS.iloadN X1027.here hx rfl (hb hby d4_44) rfl k)
      obtain ⟨v1045, T1045, h1045, L1045, X1045, e1045, hQ1045, st1045⟩ := callStatic X1027 hx hZ hown (hw _ (List.mem_of_getElem? (i := 53) rfl)) (hw _ (List.mem_of_getElem? (i := 54) rfl)) (hw _ (List.mem_of_getElem? (i := 48) rfl)) (hw _ (List.mem_of_getElem? (i := 55) rfl)) (by decide) (rmCF1 l Z a0 hw b1 n k2 (utf f) h1027 n0 (by omega) V1027 hn hpos) e1027 (W := 1) (by decide) (by decide) (by decide) (by decide) (g := (mkF m 45 #[.val (.ref a1), .val (.ref a2), .val (.int (0 : Int32)), .val (.int (Int32.ofNat n)), .val .null, .val (.ref b1)] [(.int (Int32.ofNat n)), (.ref b1), (.ref a1)])) rfl (by rw [hml]; rfl) (argsL := [(.ref b1), (.int (Int32.ofNat n))]) (rest := [(.ref a1)]) (lenOf pd_12 rfl) rfl (by show 2 * 0 + _ ≤ _; exact Nat.le_of_eq rfl) (hb hby d4_45) rfl
      obtain ⟨rfl, M1045, q1045⟩ := hQ1045
      rw [q1045] at e1045
      have N1045 := Fr.app N1027 M1045
      refine GoalH.step (T' := T1045) (g' := (mkF m 48 #[.val (.ref a1), .val (.ref a2), .val (.int (0 : Int32)), .val (.int (Int32.ofNat n)), .val .null, .val (.ref b1)] [(.int (1 : Int32)), (.ref a1)])) ?_ st1045
      have f1046 : Fld Z h1027 a1 "java/lang/String" "coder" "B" u2 := (Fc.ext E1027)
      have f1047 : Exa Z h1027 a1 "java/lang/String" := (E1.ext E1027)
      obtain ⟨T1048, h1048, X1048, e1048, W1048, st1048⟩ := putFN X1045 hx hZ hown (hw _ (List.mem_of_getElem? (i := 30) rfl)) Via.refl e1045 f1046 f1047 (Or.inr ⟨(hw _ (List.mem_of_getElem? (i := 26) rfl)), rfl, hnm⟩) (hw _ (List.mem_of_getElem? (i := 11) rfl)) (ty := .byte) (v' := .int (nar .byte (1 : Int32))) (by decide) rfl (fits_nar_byte _) (g := (mkF m 48 #[.val (.ref a1), .val (.ref a2), .val (.int (0 : Int32)), .val (.int (Int32.ofNat n)), .val .null, .val (.ref b1)] [(.int (1 : Int32)), (.ref a1)])) rfl rfl (hb hby d4_48)
      refine GoalH.step (T' := T1048) (g' := (mkF m 51 #[.val (.ref a1), .val (.ref a2), .val (.int (0 : Int32)), .val (.int (Int32.ofNat n)), .val .null, .val (.ref b1)] [])) ?_ st1048
      have sz1049 : h1027.size ≤ h1048.size := Nat.le_of_eq W1048.size.symm
      have F1048 := Fld.same W1048 f1046
      have N1048 := Fr.snoc X1048 N1045 (by omega : n0 ≤ a1)
      refine GoalH.step (T' := T1048) (g' := (mkF m 52 #[.val (.ref a1), .val (.ref a2), .val (.int (0 : Int32)), .val (.int (Int32.ofNat n)), .val .null, .val (.ref b1)] [(.ref a1)])) ?_ (fun t k => XS.aloadN X1048.here hx rfl (hb hby d4_51) rfl rfl k)
      refine GoalH.step (T' := T1048) (g' := (mkF m 54 #[.val (.ref a1), .val (.ref a2), .val (.int (0 : Int32)), .val (.int (Int32.ofNat n)), .val .null, .val (.ref b1)] [(.ref b1), (.ref a1)])) ?_ (fun t k => XS.aload X1048.here hx rfl (hb hby d4_52) rfl rfl k)
      have f1050 : Fld Z h1048 a1 "java/lang/String" "value" "[B" u1 := (Fld.other W1048 (Fv.ext E1027) (Or.inr (slot_ne (Or.inr (hw _ (List.mem_of_getElem? (i := 25) rfl))) (Or.inr (hw _ (List.mem_of_getElem? (i := 26) rfl))) (by decide) (t := (.array .byte)) (t' := .byte) (by decide) (by decide))))
      have f1051 : Exa Z h1048 a1 "java/lang/String" := (Exa.wr W1048 f1047)
      obtain ⟨T1052, h1052, X1052, e1052, W1052, st1052⟩ := putF X1048 hx hZ hown (host := "") (Or.inl (hw _ (List.mem_of_getElem? (i := 29) rfl))) Via.refl e1048 f1050 f1051 (Or.inr ⟨(hw _ (List.mem_of_getElem? (i := 25) rfl)), rfl, hnm⟩) (hw _ (List.mem_of_getElem? (i := 11) rfl)) (ty := (.array .byte)) (by decide) rfl rfl (g := (mkF m 54 #[.val (.ref a1), .val (.ref a2), .val (.int (0 : Int32)), .val (.int (Int32.ofNat n)), .val .null, .val (.ref b1)] [(.ref b1), (.ref a1)])) rfl rfl (hb hby d4_54)
      refine GoalH.step (T' := T1052) (g' := (mkF m 57 #[.val (.ref a1), .val (.ref a2), .val (.int (0 : Int32)), .val (.int (Int32.ofNat n)), .val .null, .val (.ref b1)] [])) ?_ st1052
      have sz1053 : h1048.size ≤ h1052.size := Nat.le_of_eq W1052.size.symm
      have F1052 := Fld.same W1052 f1050
      have N1052 := Fr.snoc X1052 N1048 (by omega : n0 ≤ a1)
      have kk1054 : Keep h0 h1052 [a1] := ((((Keep.refl h0 [a1]).ext E1027).wr W1048 (Or.inl (by simp))).wr W1052 (Or.inl (by simp)))
      have CH1055 := CHr.trans CH0 (CHr.keep kk1054 (allS (hSf a1 (by simp)).2 all0) CH0.1)
      have Sf1055_a1 := Safe.keep kk1054 (allS (hSf a1 (by simp)).2 all0) CH0.1 (hSf a1 (by simp)).2
      refine GoalH.retV X1052 hS (by rw [e1052]; omega) hZ (own_EW hw) (by rw [e1052]; exact CH1055) hx hret (hb hby d4_57) ?_
      have k1056 : Keep h0 h1052 [a1] := ((((Keep.refl h0 [a1]).ext E1027).wr W1048 (Or.inl (by simp))).wr W1052 (Or.inl (by simp)))
      have f1057 : Arf Z h1052 b1 k2 .byte (2 * n) (utf f) := ((V1027.other W1048 (nne (by omega))).other W1052 (nne (by omega)))
      have f1058 : Exa Z h1052 a1 "java/lang/String" := (Exa.wr W1052 f1051)
      have f1059 : Fld Z h1052 a1 "java/lang/String" "coder" "B" (.int (nar .byte (1 : Int32))) := (Fld.other W1052 F1048 (Or.inr (slot_ne (Or.inr (hw _ (List.mem_of_getElem? (i := 26) rfl))) (Or.inr (hw _ (List.mem_of_getElem? (i := 25) rfl))) (by decide) (t := .byte) (t' := (.array .byte)) (by decide) (by decide))))
      refine ⟨?_, by decide, by decide⟩
      rw [e1052]
      exact ⟨rfl, N1052, k1056, ⟨by omega, hc⟩, f1058, _, _, F1052, Or.inr ⟨f1059, f1057⟩⟩
theorem d3_0 : decode jdk_42_method_3_code 0 = .ok (.aload_n 0, 1) := by decide +kernel
theorem d3_1 : decode jdk_42_method_3_code 1 = .ok (.aload_n 1, 1) := by decide +kernel
theorem d3_2 : decode jdk_42_method_3_code 2 = .ok (.iconst 0, 1) := by decide +kernel
theorem d3_3 : decode jdk_42_method_3_code 3 = .ok (.aload_n 1, 1) := by decide +kernel
theorem d3_4 : decode jdk_42_method_3_code 4 = .ok (.arraylength, 1) := by decide +kernel
theorem d3_5 : decode jdk_42_method_3_code 5 = .ok (.aconst_null, 1) := by decide +kernel
theorem d3_6 : decode jdk_42_method_3_code 6 = .ok (.invokespecial 27, 3) := by decide +kernel
theorem pd_13 : parseMethodDescriptor "([CIILjava/lang/Void;)V" = some ⟨[(.array .char), .int, .int, (.object "java/lang/Void")], none⟩ := by decide +kernel
theorem d3_9 : decode jdk_42_method_3_code 9 = .ok (.return_, 1) := by decide +kernel
theorem ef_3 (m : MethodId) (x0 : Nat) (x1 : Nat) : entryFrame m #[(.ref x0), (.ref x1)] 2 = mkF m 0 #[.val (.ref x0), .val (.ref x1)] [] := by first | (simp [entryFrame, mkF, argsToLocals, Value.category]; done) | rfl
set_option maxRecDepth 65536 in
set_option maxHeartbeats 40000000 in
theorem rmI1 (l : Launch) (Z : State) (a0 : Array Value) (hw : ∀ d ∈ tables_1, d.before a0 Z = true) (n : Nat) (a1 a2 : Nat) (k1 : ClassId) (f : Nat → Int32) (u1 u2 : Value) (cs : Int32) (fm : Value) (h0 : Heap) (n0 : Nat) (Z0 : n0 ≤ h0.size) (SE : SEnv Z cs fm) (O0 : Old Z n0 h0) (E1 : Exa Z h0 a1 "java/lang/String") (Fv : Fld Z h0 a1 "java/lang/String" "value" "[B" u1) (Fc : Fld Z h0 a1 "java/lang/String" "coder" "B" u2) (hn : n ≤ 4) (hc : ∀ j, j < n → 0 ≤ (f j).toInt ∧ (f j).toInt ≤ 65535) (A2 : Arf Z h0 a2 k1 .char n f) (lt2 : a2 < h0.size) (lt1 : a1 < h0.size) (g1 : n0 ≤ a1) (ne12 : a1 ≠ a2) :
    MetH l (⟨"java/lang/String", "<init>", "([C)V"⟩ : MethodName) jdk_42_method_3_code 2 none [] ({ frames := 5, cells := 4, slots := 12, locals := 74 } : Room) Z consts_1 [a1] #[(.ref a1), (.ref a2)] h0 (fun v h L => v = none ∧ Fr n0 L ∧ Keep h0 h [a1] ∧ Str Z h a1 n f) := by
  refine of_goalH (plainFor_of_name (by first | (simp [plainName, overriddenIn]; done) | decide +kernel)) ?_
  intro p e s m below meth c s₁ C X0 hS e0 hCH hSf
  have C0 := C
  obtain ⟨hx, hZ, hby, hml, hret, hown, hnm⟩ := C
  have hown : s.vm.findClass "java/lang/String" = some m.cls := hown
  have hret : meth.sig.returnType = none := hret
  have CH0 := CHr.refl hCH
  have N0 := Fr.nil n0
  rw [ef_3]
  refine GoalH.step (T' := s₁) (g' := (mkF m 1 #[.val (.ref a1), .val (.ref a2)] [(.ref a1)])) ?_ (fun t k => XS.aloadN X0.here hx rfl (hb hby d3_0) rfl rfl k)
  refine GoalH.step (T' := s₁) (g' := (mkF m 2 #[.val (.ref a1), .val (.ref a2)] [(.ref a2), (.ref a1)])) ?_ (fun t k => XS.aloadN X0.here hx rfl (hb hby d3_1) rfl rfl k)
  refine GoalH.step (T' := s₁) (g' := (mkF m 3 #[.val (.ref a1), .val (.ref a2)] [(.int (0 : Int32)), (.ref a2), (.ref a1)])) ?_ (fun t k => XS.iconst X0.here hx rfl (hb hby d3_2) k)
  refine GoalH.step (T' := s₁) (g' := (mkF m 4 #[.val (.ref a1), .val (.ref a2)] [(.ref a2), (.int (0 : Int32)), (.ref a2), (.ref a1)])) ?_ (fun t k => XS.aloadN X0.here hx rfl (hb hby d3_3) rfl rfl k)
  obtain ⟨cl1001, Ar1001, q1001, S1001, H1001⟩ := (id A2)
  refine GoalH.step (T' := s₁) (g' := (mkF m 5 #[.val (.ref a1), .val (.ref a2)] [(.int (Int32.ofNat n)), (.int (0 : Int32)), (.ref a2), (.ref a1)])) ?_ (fun t k => X0.arraylength hx (by rw [e0]; exact Ar1001.1) (State.isArrayOf_alike hZ.alike Ar1001.2.1) (g := (mkF m 4 #[.val (.ref a1), .val (.ref a2)] [(.ref a2), (.int (0 : Int32)), (.ref a2), (.ref a1)])) rfl rfl (hb hby d3_4) _ (by rw [S1001]; exact k))
  refine GoalH.step (T' := s₁) (g' := (mkF m 6 #[.val (.ref a1), .val (.ref a2)] [.null, (.int (Int32.ofNat n)), (.int (0 : Int32)), (.ref a2), (.ref a1)])) ?_ (fun t k => XS.aconstNull X0.here hx rfl (hb hby d3_5) k)
  obtain ⟨v1002, T1002, h1002, L1002, k1002, X1002, e1002, hQ1002, hS, hk1002, hsz1002, C1002, hZ, hown, st1002⟩ := callInitH X0 hx hZ hown hS (by omega) (own_EW hw) CH0.1 (allS ⟨show (a1 : Nat) < h0.size by omega, (hSf a1 (by simp)).2⟩ all0) rfl (hw _ (List.mem_of_getElem? (i := 16) rfl)) (hw _ (List.mem_of_getElem? (i := 17) rfl)) (hw _ (List.mem_of_getElem? (i := 12) rfl)) (hw _ (List.mem_of_getElem? (i := 19) rfl)) (by decide) (rmI4 l Z a0 hw n a1 a2 k1 f u1 u2 cs fm h0 n0 (by omega) SE O0 E1 Fv Fc hn hc A2 (by omega) (by omega) (by omega) (by omega)) e0 (W := 0) (by decide) (by decide) (by decide) (by decide) (g := (mkF m 6 #[.val (.ref a1), .val (.ref a2)] [.null, (.int (Int32.ofNat n)), (.int (0 : Int32)), (.ref a2), (.ref a1)])) rfl (by rw [hml]; rfl) (a := a1) (argsL := [(.ref a2), (.int (0 : Int32)), (.int (Int32.ofNat n)), .null]) (rest := []) (lenOf pd_13 rfl) rfl (by show 2 * 0 + _ ≤ _; exact Nat.le_of_eq rfl) (hb hby d3_6) rfl
  obtain ⟨rfl, M1002, K1002, Z1002⟩ := hQ1002
  have N1002 := Fr.app N0 M1002
  refine GoalH.step (T' := T1002) (g' := (mkF m 9 #[.val (.ref a1), .val (.ref a2)] [])) ?_ st1002
  have sz1003 : h0.size ≤ h1002.size := K1002.1
  have CH1002 := CHr.trans CH0 C1002
  have Sf1002_a1 := C1002.safe (show (a1 : Nat) < h0.size by omega) (hSf a1 (by simp)).2
  refine GoalH.retV X1002 hS (by rw [e1002]; omega) hZ (own_EW hw) (by rw [e1002]; exact CH1002) hx hret (hb hby d3_9) ?_
  have k1004 : Keep h0 h1002 [a1] := ((Keep.refl h0 [a1]).trans K1002 (allS (Or.inl (by simp)) all0))
  refine ⟨?_, by decide, by decide⟩
  rw [e1002]
  exact ⟨rfl, N1002, k1004, Z1002⟩
theorem d25_0 : decode prog_7_method_4_code 0 = .ok (.iload_n 0, 1) := by decide +kernel
theorem d25_1 : decode prog_7_method_4_code 1 = .ok (.bipush 65, 2) := by decide +kernel
theorem d25_3 : decode prog_7_method_4_code 3 = .ok (.if_icmp .lt 17, 3) := by decide +kernel
theorem d25_20 : decode prog_7_method_4_code 20 = .ok (.iload_n 0, 1) := by decide +kernel
theorem d25_21 : decode prog_7_method_4_code 21 = .ok (.ireturn, 1) := by decide +kernel
theorem d25_6 : decode prog_7_method_4_code 6 = .ok (.iload_n 0, 1) := by decide +kernel
theorem d25_7 : decode prog_7_method_4_code 7 = .ok (.bipush 90, 2) := by decide +kernel
theorem d25_9 : decode prog_7_method_4_code 9 = .ok (.if_icmp .gt 11, 3) := by decide +kernel
theorem d25_12 : decode prog_7_method_4_code 12 = .ok (.iload_n 0, 1) := by decide +kernel
theorem d25_13 : decode prog_7_method_4_code 13 = .ok (.bipush 32, 2) := by decide +kernel
theorem d25_15 : decode prog_7_method_4_code 15 = .ok (.iadd, 1) := by decide +kernel
theorem d25_16 : decode prog_7_method_4_code 16 = .ok (.i2c, 1) := by decide +kernel
theorem d25_17 : decode prog_7_method_4_code 17 = .ok (.goto 4, 3) := by decide +kernel
theorem ef_25 (m : MethodId) (x0 : Int32) : entryFrame m #[(.int x0)] 1 = mkF m 0 #[.val (.int x0)] [] := by first | (simp [entryFrame, mkF, argsToLocals, Value.category]; done) | rfl
set_option maxRecDepth 65536 in
set_option maxHeartbeats 40000000 in
theorem rmTL (l : Launch) (Z : State) (a0 : Array Value) (hw : ∀ d ∈ tables_1, d.before a0 Z = true) (p1 : Int32) (h0 : Heap) (n0 : Nat) (Z0 : n0 ≤ h0.size) (hr : rng p1) :
    Met l (⟨"com/example/gids/gids/Ascii", "toLowerCase", "(C)C"⟩ : MethodName) prog_7_method_4_code 1 (some .char) [] ({ frames := 0, cells := 0, slots := 0, locals := 0 } : Room) Z #[(.int p1)] h0 (fun v h L => v = some (.int (low p1)) ∧ Fr n0 L ∧ h = h0) := by
  refine of_goal (plainFor_of_name (by first | (simp [plainName, overriddenIn]; done) | decide +kernel)) ?_
  intro p e s m below meth c s₁ C X0 e0
  have C0 := C
  obtain ⟨hx, hZ, hby, hml, hret, hown, hnm⟩ := C
  have hown : s.vm.findClass "com/example/gids/gids/Ascii" = some m.cls := hown
  have hret : meth.sig.returnType = (some .char) := hret
  have N0 := Fr.nil n0
  rw [ef_25]
  refine Goal.step (T' := s₁) (g' := (mkF m 1 #[.val (.int p1)] [(.int p1)])) ?_ (fun t k => XS.iloadN X0.here hx rfl (hb hby d25_0) rfl k)
  refine Goal.step (T' := s₁) (g' := (mkF m 3 #[.val (.int p1)] [(.int (65 : Int32)), (.int p1)])) ?_ (fun t k => XS.bipush X0.here hx rfl (hb hby d25_1) k)
  by_cases c1001 : p1 < (65 : Int32)
  · refine Goal.step (T' := s₁) (g' := (mkF m 20 #[.val (.int p1)] [])) ?_ (fun t k => XS.icmpYes X0.here hx rfl (pc0 := 3) (pc' := 20) rfl (hb hby d25_3) rfl (tlt c1001).1 (by decide) (by decide) k)
    refine Goal.step (T' := s₁) (g' := (mkF m 21 #[.val (.int p1)] [(.int p1)])) ?_ (fun t k => XS.iloadN X0.here hx rfl (hb hby d25_20) rfl k)
    refine Goal.retN (t := .char) X0 hx hret (by simp) (hb hby d25_21) ?_
    refine ⟨?_, by decide, by decide⟩
    rw [e0]
    exact ⟨congrArg (fun z => some (Value.int z)) (by rw [low, if_pos c1001]; exact own_i2c _ hr.1 hr.2), N0, rfl⟩
  · refine Goal.step (T' := s₁) (g' := (mkF m 6 #[.val (.int p1)] [])) ?_ (fun t k => XS.icmpNo X0.here hx rfl (hb hby d25_3) rfl (flt c1001).1 k)
    refine Goal.step (T' := s₁) (g' := (mkF m 7 #[.val (.int p1)] [(.int p1)])) ?_ (fun t k => XS.iloadN X0.here hx rfl (hb hby d25_6) rfl k)
    refine Goal.step (T' := s₁) (g' := (mkF m 9 #[.val (.int p1)] [(.int (90 : Int32)), (.int p1)])) ?_ (fun t k => XS.bipush X0.here hx rfl (hb hby d25_7) k)
    by_cases c1002 : (90 : Int32) < p1
    · refine Goal.step (T' := s₁) (g' := (mkF m 20 #[.val (.int p1)] [])) ?_ (fun t k => XS.icmpYes X0.here hx rfl (pc0 := 9) (pc' := 20) rfl (hb hby d25_9) rfl (tlt c1002).2.2.1 (by decide) (by decide) k)
      refine Goal.step (T' := s₁) (g' := (mkF m 21 #[.val (.int p1)] [(.int p1)])) ?_ (fun t k => XS.iloadN X0.here hx rfl (hb hby d25_20) rfl k)
      refine Goal.retN (t := .char) X0 hx hret (by simp) (hb hby d25_21) ?_
      refine ⟨?_, by decide, by decide⟩
      rw [e0]
      exact ⟨congrArg (fun z => some (Value.int z)) (by rw [low, if_neg c1001, if_pos c1002]; exact own_i2c _ hr.1 hr.2), N0, rfl⟩
    · refine Goal.step (T' := s₁) (g' := (mkF m 12 #[.val (.int p1)] [])) ?_ (fun t k => XS.icmpNo X0.here hx rfl (hb hby d25_9) rfl (flt c1002).2.2.1 k)
      refine Goal.step (T' := s₁) (g' := (mkF m 13 #[.val (.int p1)] [(.int p1)])) ?_ (fun t k => XS.iloadN X0.here hx rfl (hb hby d25_12) rfl k)
      refine Goal.step (T' := s₁) (g' := (mkF m 15 #[.val (.int p1)] [(.int (32 : Int32)), (.int p1)])) ?_ (fun t k => XS.bipush X0.here hx rfl (hb hby d25_13) k)
      refine Goal.step (T' := s₁) (g' := (mkF m 16 #[.val (.int p1)] [(.int (p1 + (32 : Int32)))])) ?_ (fun t k => XS.iadd X0.here hx rfl (hb hby d25_15) rfl k)
      refine Goal.step (T' := s₁) (g' := (mkF m 17 #[.val (.int p1)] [(.int ((p1 + (32 : Int32)).toUInt32.toUInt16.toUInt32.toInt32))])) ?_ (fun t k => XS.i2c X0.here hx rfl (hb hby d25_16) rfl k)
      refine Goal.step (T' := s₁) (g' := (mkF m 21 #[.val (.int p1)] [(.int ((p1 + (32 : Int32)).toUInt32.toUInt16.toUInt32.toInt32))])) ?_ (fun t k => XS.goto X0.here hx rfl (pc0 := 17) (pc' := 21) rfl (hb hby d25_17) (by decide) (by decide) k)
      refine Goal.retN (t := .char) X0 hx hret (by simp) (hb hby d25_21) ?_
      refine ⟨?_, by decide, by decide⟩
      rw [e0]
      exact ⟨congrArg (fun z => some (Value.int z)) (by rw [low, if_neg c1001, if_neg c1002]; exact (own_low c1001 c1002).1), N0, rfl⟩
theorem d6_15 : decode prog_7_method_2_code 15 = .ok (.iload_n 2, 1) := by decide +kernel
theorem d6_16 : decode prog_7_method_2_code 16 = .ok (.aload_n 1, 1) := by decide +kernel
theorem d6_17 : decode prog_7_method_2_code 17 = .ok (.invokevirtual 7, 3) := by decide +kernel
theorem pd_14 : parseMethodDescriptor "()I" = some ⟨[], some .int⟩ := by decide +kernel
theorem d6_20 : decode prog_7_method_2_code 20 = .ok (.if_icmp .ge 27, 3) := by decide +kernel
theorem d6_23 : decode prog_7_method_2_code 23 = .ok (.aload_n 0, 1) := by decide +kernel
theorem d6_24 : decode prog_7_method_2_code 24 = .ok (.iload_n 2, 1) := by decide +kernel
theorem d6_25 : decode prog_7_method_2_code 25 = .ok (.invokevirtual 13, 3) := by decide +kernel
theorem pd_15 : parseMethodDescriptor "(I)C" = some ⟨[.int], some .char⟩ := by decide +kernel
theorem d6_28 : decode prog_7_method_2_code 28 = .ok (.invokestatic 17, 3) := by decide +kernel
theorem pd_16 : parseMethodDescriptor "(C)C" = some ⟨[.char], some .char⟩ := by decide +kernel
theorem d6_31 : decode prog_7_method_2_code 31 = .ok (.aload_n 1, 1) := by decide +kernel
theorem d6_32 : decode prog_7_method_2_code 32 = .ok (.iload_n 2, 1) := by decide +kernel
theorem d6_33 : decode prog_7_method_2_code 33 = .ok (.invokevirtual 13, 3) := by decide +kernel
theorem d6_36 : decode prog_7_method_2_code 36 = .ok (.if_icmp .eq 5, 3) := by decide +kernel
theorem d6_41 : decode prog_7_method_2_code 41 = .ok (.iinc 2 1, 3) := by decide +kernel
theorem d6_44 : decode prog_7_method_2_code 44 = .ok (.goto (-29), 3) := by decide +kernel
theorem d6_39 : decode prog_7_method_2_code 39 = .ok (.iconst 0, 1) := by decide +kernel
theorem d6_40 : decode prog_7_method_2_code 40 = .ok (.ireturn, 1) := by decide +kernel
theorem d6_47 : decode prog_7_method_2_code 47 = .ok (.iconst 1, 1) := by decide +kernel
theorem d6_48 : decode prog_7_method_2_code 48 = .ok (.ireturn, 1) := by decide +kernel
set_option maxRecDepth 65536 in
set_option maxHeartbeats 40000000 in
theorem segSW {p : Program} {l : Launch} {e : Env} {s : State} {m : MethodId} {args : Array Value} {below : List Frame} {meth : Method} {c : Code} {Z : State} {a0 : Array Value} {T0 : State} {locs : List Loc} (hw : ∀ d ∈ tables_1, d.before a0 Z = true) (C0 : Ctx p s m meth c Z prog_7_method_2_code 3 (some .boolean) "com/example/gids/gids/Ascii" "startsWithIgnoringCase") (d i : Nat) (a1 a2 : Nat) (n1 n2 : Nat) (f1 f2 : Nat → Int32) (cs : Int32) (fm : Value) (h0 : Heap) (n0 : Nat) (Z0 : n0 ≤ h0.size) (X0 : Stand p l e ({ frames := 5, cells := 0, slots := 0, locals := 76 } : Room) s m args below meth c T0 locs 0 0) (e0 : T0.heap = h0) (N0 : Fr n0 locs) (hd : i + d = n2) (SE : SEnv Z cs fm) (O0 : Old Z n0 h0) (S1 : Str Z h0 a1 n1 f1) (S2 : Str Z h0 a2 n2 f2) (hle : n2 ≤ n1) (hg : ∀ j, j < i → low (f1 j) = f2 j) :
    Goal p l e ({ frames := 5, cells := 0, slots := 0, locals := 76 } : Room) s m args below meth c (In ({ frames := 5, cells := 0, slots := 0, locals := 76 } : Room) (fun v h L => ((n2 ≤ n1 ∧ ∀ j, j < n2 → low (f1 j) = f2 j) ∧ v = some (.int 1) ∧ Fr n0 L ∧ h = h0) ∨ (¬ (n2 ≤ n1 ∧ ∀ j, j < n2 → low (f1 j) = f2 j) ∧ v = some (.int 0) ∧ Fr n0 L ∧ h = h0))) T0 (mkF m 15 #[.val (.ref a1), .val (.ref a2), .val (.int (Int32.ofNat i))] []) := by
  have C := C0
  obtain ⟨hx, hZ, hby, hml, hret, hown, hnm⟩ := C
  have hown : s.vm.findClass "com/example/gids/gids/Ascii" = some m.cls := hown
  have hret : meth.sig.returnType = (some .boolean) := hret
  have hb1 := S1.1.1
  have hb2 := S2.1.1
  refine Goal.step (T' := T0) (g' := (mkF m 16 #[.val (.ref a1), .val (.ref a2), .val (.int (Int32.ofNat i))] [(.int (Int32.ofNat i))])) ?_ (fun t k => XS.iloadN X0.here hx rfl (hb hby d6_15) rfl k)
  refine Goal.step (T' := T0) (g' := (mkF m 17 #[.val (.ref a1), .val (.ref a2), .val (.int (Int32.ofNat i))] [(.ref a2), (.int (Int32.ofNat i))])) ?_ (fun t k => XS.aloadN X0.here hx rfl (hb hby d6_16) rfl rfl k)
  obtain ⟨v1001, T1001, h1001, L1001, X1001, e1001, hQ1001, st1001⟩ := callVirt X0 hx hZ hown (hw _ (List.mem_of_getElem? (i := 35) rfl)) (hw _ (List.mem_of_getElem? (i := 36) rfl)) (notFace_of_selects (args := #[]) (mvT hZ (hw _ (List.mem_of_getElem? (i := 38) rfl)))) (hw _ (List.mem_of_getElem? (i := 38) rfl)) (hw _ (List.mem_of_getElem? (i := 37) rfl)) (hw _ (List.mem_of_getElem? (i := 12) rfl)) (hw _ (List.mem_of_getElem? (i := 39) rfl)) (by decide) (rmLEN l Z a0 hw a2 n2 f2 cs fm h0 n0 (by omega) SE O0 S2) e0 S2.2.1 (W := 1) (by decide) (by decide) (by decide) (by decide) (g := (mkF m 17 #[.val (.ref a1), .val (.ref a2), .val (.int (Int32.ofNat i))] [(.ref a2), (.int (Int32.ofNat i))])) rfl (by rw [hml]; rfl) (argsL := []) (rest := [(.int (Int32.ofNat i))]) (lenOf pd_14 rfl) rfl (by show 2 * 0 + _ ≤ _; exact Nat.le_of_eq rfl) (hb hby d6_17) rfl
  obtain ⟨rfl, M1001, q1001⟩ := hQ1001
  rw [q1001] at e1001
  have N1001 := Fr.app N0 M1001
  refine Goal.step (T' := T1001) (g' := (mkF m 20 #[.val (.ref a1), .val (.ref a2), .val (.int (Int32.ofNat i))] [(.int (Int32.ofNat n2)), (.int (Int32.ofNat i))])) ?_ st1001
  by_cases c1002 : (Int32.ofNat i) < (Int32.ofNat n2)
  · refine Goal.step (T' := T1001) (g' := (mkF m 23 #[.val (.ref a1), .val (.ref a2), .val (.int (Int32.ofNat i))] [])) ?_ (fun t k => XS.icmpNo X1001.here hx rfl (hb hby d6_20) rfl (tlt c1002).2.1 k)
    have hin : i < n2 := (nat_lt (by omega) (by omega)).mp c1002
    refine Goal.step (T' := T1001) (g' := (mkF m 24 #[.val (.ref a1), .val (.ref a2), .val (.int (Int32.ofNat i))] [(.ref a1)])) ?_ (fun t k => XS.aloadN X1001.here hx rfl (hb hby d6_23) rfl rfl k)
    refine Goal.step (T' := T1001) (g' := (mkF m 25 #[.val (.ref a1), .val (.ref a2), .val (.int (Int32.ofNat i))] [(.int (Int32.ofNat i)), (.ref a1)])) ?_ (fun t k => XS.iloadN X1001.here hx rfl (hb hby d6_24) rfl k)
    obtain ⟨v1003, T1003, h1003, L1003, X1003, e1003, hQ1003, st1003⟩ := callVirt X1001 hx hZ hown (hw _ (List.mem_of_getElem? (i := 78) rfl)) (hw _ (List.mem_of_getElem? (i := 79) rfl)) (notFace_of_selects (args := #[]) (mvT hZ (hw _ (List.mem_of_getElem? (i := 81) rfl)))) (hw _ (List.mem_of_getElem? (i := 81) rfl)) (hw _ (List.mem_of_getElem? (i := 80) rfl)) (hw _ (List.mem_of_getElem? (i := 12) rfl)) (hw _ (List.mem_of_getElem? (i := 82) rfl)) (by decide) (rmCHA l Z a0 hw a1 i n1 f1 cs fm h0 n0 (by omega) SE O0 S1 (by omega)) e1001 S1.2.1 (W := 0) (by decide) (by decide) (by decide) (by decide) (g := (mkF m 25 #[.val (.ref a1), .val (.ref a2), .val (.int (Int32.ofNat i))] [(.int (Int32.ofNat i)), (.ref a1)])) rfl (by rw [hml]; rfl) (argsL := [(.int (Int32.ofNat i))]) (rest := []) (lenOf pd_15 rfl) rfl (by show 2 * 0 + _ ≤ _; exact Nat.le_of_eq rfl) (hb hby d6_25) rfl
    obtain ⟨rfl, M1003, q1003⟩ := hQ1003
    rw [q1003] at e1003
    have N1003 := Fr.app N1001 M1003
    refine Goal.step (T' := T1003) (g' := (mkF m 28 #[.val (.ref a1), .val (.ref a2), .val (.int (Int32.ofNat i))] [(.int (f1 i))])) ?_ st1003
    obtain ⟨v1004, T1004, h1004, L1004, X1004, e1004, hQ1004, st1004⟩ := callStatic X1003 hx hZ hown (hw _ (List.mem_of_getElem? (i := 105) rfl)) (hw _ (List.mem_of_getElem? (i := 106) rfl)) (hw _ (List.mem_of_getElem? (i := 33) rfl)) (hw _ (List.mem_of_getElem? (i := 107) rfl)) (by decide) (rmTL l Z a0 hw (f1 i) h0 n0 (by omega) (S1.1.2 i (by omega))) e1003 (W := 0) (by decide) (by decide) (by decide) (by decide) (g := (mkF m 28 #[.val (.ref a1), .val (.ref a2), .val (.int (Int32.ofNat i))] [(.int (f1 i))])) rfl (by rw [hml]; rfl) (argsL := [(.int (f1 i))]) (rest := []) (lenOf pd_16 rfl) rfl (by show 2 * 0 + _ ≤ _; exact Nat.le_of_eq rfl) (hb hby d6_28) rfl
    obtain ⟨rfl, M1004, q1004⟩ := hQ1004
    rw [q1004] at e1004
    have N1004 := Fr.app N1003 M1004
    refine Goal.step (T' := T1004) (g' := (mkF m 31 #[.val (.ref a1), .val (.ref a2), .val (.int (Int32.ofNat i))] [(.int (low (f1 i)))])) ?_ st1004
    refine Goal.step (T' := T1004) (g' := (mkF m 32 #[.val (.ref a1), .val (.ref a2), .val (.int (Int32.ofNat i))] [(.ref a2), (.int (low (f1 i)))])) ?_ (fun t k => XS.aloadN X1004.here hx rfl (hb hby d6_31) rfl rfl k)
    refine Goal.step (T' := T1004) (g' := (mkF m 33 #[.val (.ref a1), .val (.ref a2), .val (.int (Int32.ofNat i))] [(.int (Int32.ofNat i)), (.ref a2), (.int (low (f1 i)))])) ?_ (fun t k => XS.iloadN X1004.here hx rfl (hb hby d6_32) rfl k)
    obtain ⟨v1005, T1005, h1005, L1005, X1005, e1005, hQ1005, st1005⟩ := callVirt X1004 hx hZ hown (hw _ (List.mem_of_getElem? (i := 78) rfl)) (hw _ (List.mem_of_getElem? (i := 79) rfl)) (notFace_of_selects (args := #[]) (mvT hZ (hw _ (List.mem_of_getElem? (i := 81) rfl)))) (hw _ (List.mem_of_getElem? (i := 81) rfl)) (hw _ (List.mem_of_getElem? (i := 80) rfl)) (hw _ (List.mem_of_getElem? (i := 12) rfl)) (hw _ (List.mem_of_getElem? (i := 82) rfl)) (by decide) (rmCHA l Z a0 hw a2 i n2 f2 cs fm h0 n0 (by omega) SE O0 S2 (by omega)) e1004 S2.2.1 (W := 1) (by decide) (by decide) (by decide) (by decide) (g := (mkF m 33 #[.val (.ref a1), .val (.ref a2), .val (.int (Int32.ofNat i))] [(.int (Int32.ofNat i)), (.ref a2), (.int (low (f1 i)))])) rfl (by rw [hml]; rfl) (argsL := [(.int (Int32.ofNat i))]) (rest := [(.int (low (f1 i)))]) (lenOf pd_15 rfl) rfl (by show 2 * 0 + _ ≤ _; exact Nat.le_of_eq rfl) (hb hby d6_33) rfl
    obtain ⟨rfl, M1005, q1005⟩ := hQ1005
    rw [q1005] at e1005
    have N1005 := Fr.app N1004 M1005
    refine Goal.step (T' := T1005) (g' := (mkF m 36 #[.val (.ref a1), .val (.ref a2), .val (.int (Int32.ofNat i))] [(.int (f2 i)), (.int (low (f1 i)))])) ?_ st1005
    by_cases c1006 : (low (f1 i)) = (f2 i)
    · refine Goal.step (T' := T1005) (g' := (mkF m 41 #[.val (.ref a1), .val (.ref a2), .val (.int (Int32.ofNat i))] [])) ?_ (fun t k => XS.icmpYes X1005.here hx rfl (pc0 := 36) (pc' := 41) rfl (hb hby d6_36) rfl (teq c1006).1 (by decide) (by decide) k)
      refine Goal.step (T' := T1005) (g' := (mkF m 44 #[.val (.ref a1), .val (.ref a2), .val (.int ((Int32.ofNat i) + (1 : Int32)))] [])) ?_ (fun t k => XS.iinc X1005.here hx rfl (hb hby d6_41) rfl (l' := #[.val (.ref a1), .val (.ref a2), .val (.int ((Int32.ofNat i) + (1 : Int32)))]) rfl k)
      refine Goal.step (T' := T1005) (g' := (mkF m 15 #[.val (.ref a1), .val (.ref a2), .val (.int ((Int32.ofNat i) + (1 : Int32)))] [])) ?_ (fun t k => XS.goto X1005.here hx rfl (pc0 := 44) (pc' := 15) rfl (hb hby d6_44) (by decide) (by decide) k)
      rw [nat_one]
      exact segSW hw C0 (d - 1) (i + 1) a1 a2 n1 n2 f1 f2 cs fm h0 n0 Z0 X1005 e1005 N1005 (by omega) SE O0 S1 S2 hle (own_step (P := fun j => low (f1 j) = f2 j) hg c1006)
    · refine Goal.step (T' := T1005) (g' := (mkF m 39 #[.val (.ref a1), .val (.ref a2), .val (.int (Int32.ofNat i))] [])) ?_ (fun t k => XS.icmpNo X1005.here hx rfl (hb hby d6_36) rfl (feq c1006).1 k)
      refine Goal.step (T' := T1005) (g' := (mkF m 40 #[.val (.ref a1), .val (.ref a2), .val (.int (Int32.ofNat i))] [(.int (0 : Int32))])) ?_ (fun t k => XS.iconst X1005.here hx rfl (hb hby d6_39) k)
      refine Goal.retN (t := .boolean) X1005 hx hret (by simp) (hb hby d6_40) ?_
      refine ⟨?_, by decide, by decide⟩
      rw [e1005]
      exact Or.inr ⟨fun q => c1006 (q.2 i hin), rfl, N1005, rfl⟩
  · refine Goal.step (T' := T1001) (g' := (mkF m 47 #[.val (.ref a1), .val (.ref a2), .val (.int (Int32.ofNat i))] [])) ?_ (fun t k => XS.icmpYes X1001.here hx rfl (pc0 := 20) (pc' := 47) rfl (hb hby d6_20) rfl (flt c1002).2.1 (by decide) (by decide) k)
    have hin : ¬ i < n2 := fun q => c1002 ((nat_lt (by omega) (by omega)).mpr q)
    refine Goal.step (T' := T1001) (g' := (mkF m 48 #[.val (.ref a1), .val (.ref a2), .val (.int (Int32.ofNat i))] [(.int (1 : Int32))])) ?_ (fun t k => XS.iconst X1001.here hx rfl (hb hby d6_47) k)
    refine Goal.retN (t := .boolean) X1001 hx hret (by simp) (hb hby d6_48) ?_
    refine ⟨?_, by decide, by decide⟩
    rw [e1001]
    exact Or.inl ⟨⟨hle, fun j hj => hg j (by omega)⟩, rfl, N1001, rfl⟩
termination_by d
decreasing_by all_goals omega
theorem d6_0 : decode prog_7_method_2_code 0 = .ok (.aload_n 0, 1) := by decide +kernel
theorem d6_1 : decode prog_7_method_2_code 1 = .ok (.invokevirtual 7, 3) := by decide +kernel
theorem d6_4 : decode prog_7_method_2_code 4 = .ok (.aload_n 1, 1) := by decide +kernel
theorem d6_5 : decode prog_7_method_2_code 5 = .ok (.invokevirtual 7, 3) := by decide +kernel
theorem d6_8 : decode prog_7_method_2_code 8 = .ok (.if_icmp .ge 5, 3) := by decide +kernel
theorem d6_11 : decode prog_7_method_2_code 11 = .ok (.iconst 0, 1) := by decide +kernel
theorem d6_12 : decode prog_7_method_2_code 12 = .ok (.ireturn, 1) := by decide +kernel
theorem d6_13 : decode prog_7_method_2_code 13 = .ok (.iconst 0, 1) := by decide +kernel
theorem d6_14 : decode prog_7_method_2_code 14 = .ok (.istore_n 2, 1) := by decide +kernel
theorem ef_6 (m : MethodId) (x0 : Nat) (x1 : Nat) : entryFrame m #[(.ref x0), (.ref x1)] 3 = mkF m 0 #[.val (.ref x0), .val (.ref x1), .unset] [] := by first | (simp [entryFrame, mkF, argsToLocals, Value.category]; done) | rfl
set_option maxRecDepth 65536 in
set_option maxHeartbeats 40000000 in
theorem rmSW (l : Launch) (Z : State) (a0 : Array Value) (hw : ∀ d ∈ tables_1, d.before a0 Z = true) (a1 a2 : Nat) (n1 n2 : Nat) (f1 f2 : Nat → Int32) (cs : Int32) (fm : Value) (h0 : Heap) (n0 : Nat) (Z0 : n0 ≤ h0.size) (SE : SEnv Z cs fm) (O0 : Old Z n0 h0) (S1 : Str Z h0 a1 n1 f1) (S2 : Str Z h0 a2 n2 f2) :
    Met l (⟨"com/example/gids/gids/Ascii", "startsWithIgnoringCase", "(Ljava/lang/String;Ljava/lang/String;)Z"⟩ : MethodName) prog_7_method_2_code 3 (some .boolean) [] ({ frames := 5, cells := 0, slots := 0, locals := 76 } : Room) Z #[(.ref a1), (.ref a2)] h0 (fun v h L => ((n2 ≤ n1 ∧ ∀ j, j < n2 → low (f1 j) = f2 j) ∧ v = some (.int 1) ∧ Fr n0 L ∧ h = h0) ∨ (¬ (n2 ≤ n1 ∧ ∀ j, j < n2 → low (f1 j) = f2 j) ∧ v = some (.int 0) ∧ Fr n0 L ∧ h = h0)) := by
  refine of_goal (plainFor_of_name (by first | (simp [plainName, overriddenIn]; done) | decide +kernel)) ?_
  intro p e s m below meth c s₁ C X0 e0
  have C0 := C
  obtain ⟨hx, hZ, hby, hml, hret, hown, hnm⟩ := C
  have hown : s.vm.findClass "com/example/gids/gids/Ascii" = some m.cls := hown
  have hret : meth.sig.returnType = (some .boolean) := hret
  have N0 := Fr.nil n0
  rw [ef_6]
  have hb1 := S1.1.1
  have hb2 := S2.1.1
  refine Goal.step (T' := s₁) (g' := (mkF m 1 #[.val (.ref a1), .val (.ref a2), .unset] [(.ref a1)])) ?_ (fun t k => XS.aloadN X0.here hx rfl (hb hby d6_0) rfl rfl k)
  obtain ⟨v1001, T1001, h1001, L1001, X1001, e1001, hQ1001, st1001⟩ := callVirt X0 hx hZ hown (hw _ (List.mem_of_getElem? (i := 35) rfl)) (hw _ (List.mem_of_getElem? (i := 36) rfl)) (notFace_of_selects (args := #[]) (mvT hZ (hw _ (List.mem_of_getElem? (i := 38) rfl)))) (hw _ (List.mem_of_getElem? (i := 38) rfl)) (hw _ (List.mem_of_getElem? (i := 37) rfl)) (hw _ (List.mem_of_getElem? (i := 12) rfl)) (hw _ (List.mem_of_getElem? (i := 39) rfl)) (by decide) (rmLEN l Z a0 hw a1 n1 f1 cs fm h0 n0 (by omega) SE O0 S1) e0 S1.2.1 (W := 0) (by decide) (by decide) (by decide) (by decide) (g := (mkF m 1 #[.val (.ref a1), .val (.ref a2), .unset] [(.ref a1)])) rfl (by rw [hml]; rfl) (argsL := []) (rest := []) (lenOf pd_14 rfl) rfl (by show 2 * 0 + _ ≤ _; exact Nat.le_of_eq rfl) (hb hby d6_1) rfl
  obtain ⟨rfl, M1001, q1001⟩ := hQ1001
  rw [q1001] at e1001
  have N1001 := Fr.app N0 M1001
  refine Goal.step (T' := T1001) (g' := (mkF m 4 #[.val (.ref a1), .val (.ref a2), .unset] [(.int (Int32.ofNat n1))])) ?_ st1001
  refine Goal.step (T' := T1001) (g' := (mkF m 5 #[.val (.ref a1), .val (.ref a2), .unset] [(.ref a2), (.int (Int32.ofNat n1))])) ?_ (fun t k => XS.aloadN X1001.here hx rfl (hb hby d6_4) rfl rfl k)
  obtain ⟨v1002, T1002, h1002, L1002, X1002, e1002, hQ1002, st1002⟩ := callVirt X1001 hx hZ hown (hw _ (List.mem_of_getElem? (i := 35) rfl)) (hw _ (List.mem_of_getElem? (i := 36) rfl)) (notFace_of_selects (args := #[]) (mvT hZ (hw _ (List.mem_of_getElem? (i := 38) rfl)))) (hw _ (List.mem_of_getElem? (i := 38) rfl)) (hw _ (List.mem_of_getElem? (i := 37) rfl)) (hw _ (List.mem_of_getElem? (i := 12) rfl)) (hw _ (List.mem_of_getElem? (i := 39) rfl)) (by decide) (rmLEN l Z a0 hw a2 n2 f2 cs fm h0 n0 (by omega) SE O0 S2) e1001 S2.2.1 (W := 1) (by decide) (by decide) (by decide) (by decide) (g := (mkF m 5 #[.val (.ref a1), .val (.ref a2), .unset] [(.ref a2), (.int (Int32.ofNat n1))])) rfl (by rw [hml]; rfl) (argsL := []) (rest := [(.int (Int32.ofNat n1))]) (lenOf pd_14 rfl) rfl (by show 2 * 0 + _ ≤ _; exact Nat.le_of_eq rfl) (hb hby d6_5) rfl
  obtain ⟨rfl, M1002, q1002⟩ := hQ1002
  rw [q1002] at e1002
  have N1002 := Fr.app N1001 M1002
  refine Goal.step (T' := T1002) (g' := (mkF m 8 #[.val (.ref a1), .val (.ref a2), .unset] [(.int (Int32.ofNat n2)), (.int (Int32.ofNat n1))])) ?_ st1002
  by_cases c1003 : (Int32.ofNat n1) < (Int32.ofNat n2)
  · refine Goal.step (T' := T1002) (g' := (mkF m 11 #[.val (.ref a1), .val (.ref a2), .unset] [])) ?_ (fun t k => XS.icmpNo X1002.here hx rfl (hb hby d6_8) rfl (tlt c1003).2.1 k)
    refine Goal.step (T' := T1002) (g' := (mkF m 12 #[.val (.ref a1), .val (.ref a2), .unset] [(.int (0 : Int32))])) ?_ (fun t k => XS.iconst X1002.here hx rfl (hb hby d6_11) k)
    refine Goal.retN (t := .boolean) X1002 hx hret (by simp) (hb hby d6_12) ?_
    refine ⟨?_, by decide, by decide⟩
    rw [e1002]
    exact Or.inr ⟨fun q => absurd ((nat_lt (by omega) (by omega)).mp c1003) (by omega), rfl, N1002, rfl⟩
  · refine Goal.step (T' := T1002) (g' := (mkF m 13 #[.val (.ref a1), .val (.ref a2), .unset] [])) ?_ (fun t k => XS.icmpYes X1002.here hx rfl (pc0 := 8) (pc' := 13) rfl (hb hby d6_8) rfl (flt c1003).2.1 (by decide) (by decide) k)
    refine Goal.step (T' := T1002) (g' := (mkF m 14 #[.val (.ref a1), .val (.ref a2), .unset] [(.int (0 : Int32))])) ?_ (fun t k => XS.iconst X1002.here hx rfl (hb hby d6_13) k)
    refine Goal.step (T' := T1002) (g' := (mkF m 15 #[.val (.ref a1), .val (.ref a2), .val (.int (0 : Int32))] [])) ?_ (fun t k => XS.istoreN X1002.here hx rfl (hb hby d6_14) rfl (l' := #[.val (.ref a1), .val (.ref a2), .val (.int (0 : Int32))]) rfl k)
    have hle : n2 ≤ n1 := Nat.le_of_not_lt (fun q => c1003 ((nat_lt (by omega) (by omega)).mpr q))
    exact segSW hw C0 n2 0 a1 a2 n1 n2 f1 f2 cs fm h0 n0 Z0 X1002 e1002 N1002 (by omega) SE O0 S1 S2 hle (fun j hj => absurd hj (Nat.not_lt_zero _))
theorem d1_0 : decode method_3_code 0 = .ok (.iload_n 0, 1) := by decide +kernel
theorem d1_1 : decode method_3_code 1 = .ok (.ldc 18, 2) := by decide +kernel
theorem d1_3 : decode method_3_code 3 = .ok (.iand, 1) := by decide +kernel
theorem d1_4 : decode method_3_code 4 = .ok (.i2c, 1) := by decide +kernel
theorem d1_5 : decode method_3_code 5 = .ok (.istore_n 1, 1) := by decide +kernel
theorem d1_6 : decode method_3_code 6 = .ok (.iload_n 1, 1) := by decide +kernel
theorem d1_7 : decode method_3_code 7 = .ok (.bipush 65, 2) := by decide +kernel
theorem d1_9 : decode method_3_code 9 = .ok (.if_icmp .lt 15, 3) := by decide +kernel
theorem d1_24 : decode method_3_code 24 = .ok (.iload_n 1, 1) := by decide +kernel
theorem d1_25 : decode method_3_code 25 = .ok (.ireturn, 1) := by decide +kernel
theorem d1_12 : decode method_3_code 12 = .ok (.iload_n 1, 1) := by decide +kernel
theorem d1_13 : decode method_3_code 13 = .ok (.bipush 90, 2) := by decide +kernel
theorem d1_15 : decode method_3_code 15 = .ok (.if_icmp .gt 9, 3) := by decide +kernel
theorem d1_18 : decode method_3_code 18 = .ok (.iload_n 1, 1) := by decide +kernel
theorem d1_19 : decode method_3_code 19 = .ok (.bipush 32, 2) := by decide +kernel
theorem d1_21 : decode method_3_code 21 = .ok (.iadd, 1) := by decide +kernel
theorem d1_22 : decode method_3_code 22 = .ok (.i2c, 1) := by decide +kernel
theorem d1_23 : decode method_3_code 23 = .ok (.ireturn, 1) := by decide +kernel
theorem ef_1 (m : MethodId) (x0 : Int32) : entryFrame m #[(.int x0)] 2 = mkF m 0 #[.val (.int x0), .unset] [] := by first | (simp [entryFrame, mkF, argsToLocals, Value.category]; done) | rfl
set_option maxRecDepth 65536 in
set_option maxHeartbeats 40000000 in
theorem rmLO (l : Launch) (Z : State) (a0 : Array Value) (hw : ∀ d ∈ tables_1, d.before a0 Z = true) (p1 : Int32) (h0 : Heap) (n0 : Nat) (Z0 : n0 ≤ h0.size) :
    Met l (⟨"com/example/gids/gids/AsciiStartsWithIgnoringCasePinLaw", "lower", "(I)C"⟩ : MethodName) method_3_code 2 (some .char) [] ({ frames := 0, cells := 0, slots := 0, locals := 0 } : Room) Z #[(.int p1)] h0 (fun v h L => ∃ z : Int32, v = some (.int z) ∧ rng z ∧ noCap z ∧ Fr n0 L ∧ h = h0) := by
  refine of_goal (plainFor_of_name (by first | (simp [plainName, overriddenIn]; done) | decide +kernel)) ?_
  intro p e s m below meth c s₁ C X0 e0
  have C0 := C
  obtain ⟨hx, hZ, hby, hml, hret, hown, hnm⟩ := C
  have hown : s.vm.findClass "com/example/gids/gids/AsciiStartsWithIgnoringCasePinLaw" = some m.cls := hown
  have hret : meth.sig.returnType = (some .char) := hret
  have N0 := Fr.nil n0
  rw [ef_1]
  refine Goal.step (T' := s₁) (g' := (mkF m 1 #[.val (.int p1), .unset] [(.int p1)])) ?_ (fun t k => XS.iloadN X0.here hx rfl (hb hby d1_0) rfl k)
  refine Goal.step (T' := s₁) (g' := (mkF m 3 #[.val (.int p1), .unset] [(.int (65535 : Int32)), (.int p1)])) ?_ (fun t k => X0.ldcInt hx hown (mvT hZ (hw _ (List.mem_of_getElem? (i := 5) rfl))) (g := (mkF m 1 #[.val (.int p1), .unset] [(.int p1)])) rfl (hb hby d1_1) _ k)
  refine Goal.step (T' := s₁) (g' := (mkF m 4 #[.val (.int p1), .unset] [(.int (p1 &&& (65535 : Int32)))])) ?_ (fun t k => XS.iand X0.here hx rfl (hb hby d1_3) rfl k)
  refine Goal.step (T' := s₁) (g' := (mkF m 5 #[.val (.int p1), .unset] [(.int ((p1 &&& (65535 : Int32)).toUInt32.toUInt16.toUInt32.toInt32))])) ?_ (fun t k => XS.i2c X0.here hx rfl (hb hby d1_4) rfl k)
  obtain ⟨c5, hc5⟩ : ∃ z, z = ((p1 &&& (65535 : Int32)).toUInt32.toUInt16.toUInt32.toInt32) := ⟨_, rfl⟩
  rw [← hc5]
  have hr : rng c5 := by rw [hc5]; exact own_i2cr _
  refine Goal.step (T' := s₁) (g' := (mkF m 6 #[.val (.int p1), .val (.int c5)] [])) ?_ (fun t k => XS.istoreN X0.here hx rfl (hb hby d1_5) rfl (l' := #[.val (.int p1), .val (.int c5)]) rfl k)
  refine Goal.step (T' := s₁) (g' := (mkF m 7 #[.val (.int p1), .val (.int c5)] [(.int c5)])) ?_ (fun t k => XS.iloadN X0.here hx rfl (hb hby d1_6) rfl k)
  refine Goal.step (T' := s₁) (g' := (mkF m 9 #[.val (.int p1), .val (.int c5)] [(.int (65 : Int32)), (.int c5)])) ?_ (fun t k => XS.bipush X0.here hx rfl (hb hby d1_7) k)
  by_cases c1001 : c5 < (65 : Int32)
  · refine Goal.step (T' := s₁) (g' := (mkF m 24 #[.val (.int p1), .val (.int c5)] [])) ?_ (fun t k => XS.icmpYes X0.here hx rfl (pc0 := 9) (pc' := 24) rfl (hb hby d1_9) rfl (tlt c1001).1 (by decide) (by decide) k)
    refine Goal.step (T' := s₁) (g' := (mkF m 25 #[.val (.int p1), .val (.int c5)] [(.int c5)])) ?_ (fun t k => XS.iloadN X0.here hx rfl (hb hby d1_24) rfl k)
    refine Goal.retN (t := .char) X0 hx hret (by simp) (hb hby d1_25) ?_
    refine ⟨?_, by decide, by decide⟩
    rw [e0]
    exact ⟨c5, congrArg (fun z => some (Value.int z)) (own_i2c _ hr.1 hr.2), hr, Or.inl c1001, N0, rfl⟩
  · refine Goal.step (T' := s₁) (g' := (mkF m 12 #[.val (.int p1), .val (.int c5)] [])) ?_ (fun t k => XS.icmpNo X0.here hx rfl (hb hby d1_9) rfl (flt c1001).1 k)
    refine Goal.step (T' := s₁) (g' := (mkF m 13 #[.val (.int p1), .val (.int c5)] [(.int c5)])) ?_ (fun t k => XS.iloadN X0.here hx rfl (hb hby d1_12) rfl k)
    refine Goal.step (T' := s₁) (g' := (mkF m 15 #[.val (.int p1), .val (.int c5)] [(.int (90 : Int32)), (.int c5)])) ?_ (fun t k => XS.bipush X0.here hx rfl (hb hby d1_13) k)
    by_cases c1002 : (90 : Int32) < c5
    · refine Goal.step (T' := s₁) (g' := (mkF m 24 #[.val (.int p1), .val (.int c5)] [])) ?_ (fun t k => XS.icmpYes X0.here hx rfl (pc0 := 15) (pc' := 24) rfl (hb hby d1_15) rfl (tlt c1002).2.2.1 (by decide) (by decide) k)
      refine Goal.step (T' := s₁) (g' := (mkF m 25 #[.val (.int p1), .val (.int c5)] [(.int c5)])) ?_ (fun t k => XS.iloadN X0.here hx rfl (hb hby d1_24) rfl k)
      refine Goal.retN (t := .char) X0 hx hret (by simp) (hb hby d1_25) ?_
      refine ⟨?_, by decide, by decide⟩
      rw [e0]
      exact ⟨c5, congrArg (fun z => some (Value.int z)) (own_i2c _ hr.1 hr.2), hr, Or.inr c1002, N0, rfl⟩
    · refine Goal.step (T' := s₁) (g' := (mkF m 18 #[.val (.int p1), .val (.int c5)] [])) ?_ (fun t k => XS.icmpNo X0.here hx rfl (hb hby d1_15) rfl (flt c1002).2.2.1 k)
      refine Goal.step (T' := s₁) (g' := (mkF m 19 #[.val (.int p1), .val (.int c5)] [(.int c5)])) ?_ (fun t k => XS.iloadN X0.here hx rfl (hb hby d1_18) rfl k)
      refine Goal.step (T' := s₁) (g' := (mkF m 21 #[.val (.int p1), .val (.int c5)] [(.int (32 : Int32)), (.int c5)])) ?_ (fun t k => XS.bipush X0.here hx rfl (hb hby d1_19) k)
      refine Goal.step (T' := s₁) (g' := (mkF m 22 #[.val (.int p1), .val (.int c5)] [(.int (c5 + (32 : Int32)))])) ?_ (fun t k => XS.iadd X0.here hx rfl (hb hby d1_21) rfl k)
      refine Goal.step (T' := s₁) (g' := (mkF m 23 #[.val (.int p1), .val (.int c5)] [(.int ((c5 + (32 : Int32)).toUInt32.toUInt16.toUInt32.toInt32))])) ?_ (fun t k => XS.i2c X0.here hx rfl (hb hby d1_22) rfl k)
      refine Goal.retN (t := .char) X0 hx hret (by simp) (hb hby d1_23) ?_
      refine ⟨?_, by decide, by decide⟩
      rw [e0]
      exact ⟨c5 + 32, congrArg (fun z => some (Value.int z)) (own_low c1001 c1002).1, ⟨(own_low c1001 c1002).2.2.1, (own_low c1001 c1002).2.2.2.1⟩, Or.inr (Int32.lt_iff_toInt_lt.mpr (show (90 : Int32).toInt < (c5 + 32).toInt from (own_low c1001 c1002).2.2.2.2)), N0, rfl⟩
theorem d2_0 : decode method_4_code 0 = .ok (.iload_n 0, 1) := by decide +kernel
theorem d2_1 : decode method_4_code 1 = .ok (.iconst 3, 1) := by decide +kernel
theorem d2_2 : decode method_4_code 2 = .ok (.iand, 1) := by decide +kernel
theorem d2_3 : decode method_4_code 3 = .ok (.istore_n 2, 1) := by decide +kernel
theorem d2_4 : decode method_4_code 4 = .ok (.iload_n 2, 1) := by decide +kernel
theorem d2_5 : decode method_4_code 5 = .ok (.ifCond .ne 5, 3) := by decide +kernel
theorem d2_8 : decode method_4_code 8 = .ok (.iload_n 1, 1) := by decide +kernel
theorem d2_9 : decode method_4_code 9 = .ok (.ireturn, 1) := by decide +kernel
theorem d2_10 : decode method_4_code 10 = .ok (.iload_n 2, 1) := by decide +kernel
theorem d2_11 : decode method_4_code 11 = .ok (.iconst 1, 1) := by decide +kernel
theorem d2_12 : decode method_4_code 12 = .ok (.if_icmp .ne 12, 3) := by decide +kernel
theorem d2_15 : decode method_4_code 15 = .ok (.iload_n 1, 1) := by decide +kernel
theorem d2_16 : decode method_4_code 16 = .ok (.bipush 32, 2) := by decide +kernel
theorem d2_18 : decode method_4_code 18 = .ok (.isub, 1) := by decide +kernel
theorem d2_19 : decode method_4_code 19 = .ok (.ldc 18, 2) := by decide +kernel
theorem d2_21 : decode method_4_code 21 = .ok (.iand, 1) := by decide +kernel
theorem d2_22 : decode method_4_code 22 = .ok (.i2c, 1) := by decide +kernel
theorem d2_23 : decode method_4_code 23 = .ok (.ireturn, 1) := by decide +kernel
theorem d2_24 : decode method_4_code 24 = .ok (.iload_n 2, 1) := by decide +kernel
theorem d2_25 : decode method_4_code 25 = .ok (.iconst 2, 1) := by decide +kernel
theorem d2_26 : decode method_4_code 26 = .ok (.if_icmp .ne 12, 3) := by decide +kernel
theorem d2_29 : decode method_4_code 29 = .ok (.iload_n 1, 1) := by decide +kernel
theorem d2_30 : decode method_4_code 30 = .ok (.bipush 32, 2) := by decide +kernel
theorem d2_32 : decode method_4_code 32 = .ok (.iadd, 1) := by decide +kernel
theorem d2_33 : decode method_4_code 33 = .ok (.ldc 18, 2) := by decide +kernel
theorem d2_35 : decode method_4_code 35 = .ok (.iand, 1) := by decide +kernel
theorem d2_36 : decode method_4_code 36 = .ok (.i2c, 1) := by decide +kernel
theorem d2_37 : decode method_4_code 37 = .ok (.ireturn, 1) := by decide +kernel
theorem d2_38 : decode method_4_code 38 = .ok (.iload_n 0, 1) := by decide +kernel
theorem d2_39 : decode method_4_code 39 = .ok (.iconst 2, 1) := by decide +kernel
theorem d2_40 : decode method_4_code 40 = .ok (.iushr, 1) := by decide +kernel
theorem d2_41 : decode method_4_code 41 = .ok (.ldc 18, 2) := by decide +kernel
theorem d2_43 : decode method_4_code 43 = .ok (.iand, 1) := by decide +kernel
theorem d2_44 : decode method_4_code 44 = .ok (.i2c, 1) := by decide +kernel
theorem d2_45 : decode method_4_code 45 = .ok (.ireturn, 1) := by decide +kernel
theorem ef_2 (m : MethodId) (x0 : Int32) (x1 : Int32) : entryFrame m #[(.int x0), (.int x1)] 3 = mkF m 0 #[.val (.int x0), .val (.int x1), .unset] [] := by first | (simp [entryFrame, mkF, argsToLocals, Value.category]; done) | rfl
set_option maxRecDepth 65536 in
set_option maxHeartbeats 40000000 in
theorem rmTC (l : Launch) (Z : State) (a0 : Array Value) (hw : ∀ d ∈ tables_1, d.before a0 Z = true) (p1 c2 : Int32) (h0 : Heap) (n0 : Nat) (Z0 : n0 ≤ h0.size) :
    Met l (⟨"com/example/gids/gids/AsciiStartsWithIgnoringCasePinLaw", "textChar", "(IC)C"⟩ : MethodName) method_4_code 3 (some .char) [] ({ frames := 0, cells := 0, slots := 0, locals := 0 } : Room) Z #[(.int p1), (.int c2)] h0 (fun v h L => ∃ z : Int32, v = some (.int z) ∧ rng z ∧ Fr n0 L ∧ h = h0) := by
  refine of_goal (plainFor_of_name (by first | (simp [plainName, overriddenIn]; done) | decide +kernel)) ?_
  intro p e s m below meth c s₁ C X0 e0
  have C0 := C
  obtain ⟨hx, hZ, hby, hml, hret, hown, hnm⟩ := C
  have hown : s.vm.findClass "com/example/gids/gids/AsciiStartsWithIgnoringCasePinLaw" = some m.cls := hown
  have hret : meth.sig.returnType = (some .char) := hret
  have N0 := Fr.nil n0
  rw [ef_2]
  refine Goal.step (T' := s₁) (g' := (mkF m 1 #[.val (.int p1), .val (.int c2), .unset] [(.int p1)])) ?_ (fun t k => XS.iloadN X0.here hx rfl (hb hby d2_0) rfl k)
  refine Goal.step (T' := s₁) (g' := (mkF m 2 #[.val (.int p1), .val (.int c2), .unset] [(.int (3 : Int32)), (.int p1)])) ?_ (fun t k => XS.iconst X0.here hx rfl (hb hby d2_1) k)
  refine Goal.step (T' := s₁) (g' := (mkF m 3 #[.val (.int p1), .val (.int c2), .unset] [(.int (p1 &&& (3 : Int32)))])) ?_ (fun t k => XS.iand X0.here hx rfl (hb hby d2_2) rfl k)
  refine Goal.step (T' := s₁) (g' := (mkF m 4 #[.val (.int p1), .val (.int c2), .val (.int (p1 &&& (3 : Int32)))] [])) ?_ (fun t k => XS.istoreN X0.here hx rfl (hb hby d2_3) rfl (l' := #[.val (.int p1), .val (.int c2), .val (.int (p1 &&& (3 : Int32)))]) rfl k)
  refine Goal.step (T' := s₁) (g' := (mkF m 5 #[.val (.int p1), .val (.int c2), .val (.int (p1 &&& (3 : Int32)))] [(.int (p1 &&& (3 : Int32)))])) ?_ (fun t k => XS.iloadN X0.here hx rfl (hb hby d2_4) rfl k)
  by_cases c1001 : (p1 &&& (3 : Int32)) = (0 : Int32)
  · refine Goal.step (T' := s₁) (g' := (mkF m 8 #[.val (.int p1), .val (.int c2), .val (.int (p1 &&& (3 : Int32)))] [])) ?_ (fun t k => XS.ifNo X0.here hx rfl (hb hby d2_5) rfl ((if0 _ _).trans (teq c1001).2) k)
    refine Goal.step (T' := s₁) (g' := (mkF m 9 #[.val (.int p1), .val (.int c2), .val (.int (p1 &&& (3 : Int32)))] [(.int c2)])) ?_ (fun t k => XS.iloadN X0.here hx rfl (hb hby d2_8) rfl k)
    refine Goal.retN (t := .char) X0 hx hret (by simp) (hb hby d2_9) ?_
    refine ⟨?_, by decide, by decide⟩
    rw [e0]
    exact ⟨_, rfl, own_i2cr _, N0, rfl⟩
  · refine Goal.step (T' := s₁) (g' := (mkF m 10 #[.val (.int p1), .val (.int c2), .val (.int (p1 &&& (3 : Int32)))] [])) ?_ (fun t k => XS.ifYes X0.here hx rfl (pc0 := 5) (pc' := 10) rfl (hb hby d2_5) rfl ((if0 _ _).trans (feq c1001).2) (by decide) (by decide) k)
    refine Goal.step (T' := s₁) (g' := (mkF m 11 #[.val (.int p1), .val (.int c2), .val (.int (p1 &&& (3 : Int32)))] [(.int (p1 &&& (3 : Int32)))])) ?_ (fun t k => XS.iloadN X0.here hx rfl (hb hby d2_10) rfl k)
    refine Goal.step (T' := s₁) (g' := (mkF m 12 #[.val (.int p1), .val (.int c2), .val (.int (p1 &&& (3 : Int32)))] [(.int (1 : Int32)), (.int (p1 &&& (3 : Int32)))])) ?_ (fun t k => XS.iconst X0.here hx rfl (hb hby d2_11) k)
    by_cases c1002 : (p1 &&& (3 : Int32)) = (1 : Int32)
    · refine Goal.step (T' := s₁) (g' := (mkF m 15 #[.val (.int p1), .val (.int c2), .val (.int (p1 &&& (3 : Int32)))] [])) ?_ (fun t k => XS.icmpNo X0.here hx rfl (hb hby d2_12) rfl (teq c1002).2 k)
      refine Goal.step (T' := s₁) (g' := (mkF m 16 #[.val (.int p1), .val (.int c2), .val (.int (p1 &&& (3 : Int32)))] [(.int c2)])) ?_ (fun t k => XS.iloadN X0.here hx rfl (hb hby d2_15) rfl k)
      refine Goal.step (T' := s₁) (g' := (mkF m 18 #[.val (.int p1), .val (.int c2), .val (.int (p1 &&& (3 : Int32)))] [(.int (32 : Int32)), (.int c2)])) ?_ (fun t k => XS.bipush X0.here hx rfl (hb hby d2_16) k)
      refine Goal.step (T' := s₁) (g' := (mkF m 19 #[.val (.int p1), .val (.int c2), .val (.int (p1 &&& (3 : Int32)))] [(.int (c2 - (32 : Int32)))])) ?_ (fun t k => XS.isub X0.here hx rfl (hb hby d2_18) rfl k)
      refine Goal.step (T' := s₁) (g' := (mkF m 21 #[.val (.int p1), .val (.int c2), .val (.int (p1 &&& (3 : Int32)))] [(.int (65535 : Int32)), (.int (c2 - (32 : Int32)))])) ?_ (fun t k => X0.ldcInt hx hown (mvT hZ (hw _ (List.mem_of_getElem? (i := 5) rfl))) (g := (mkF m 19 #[.val (.int p1), .val (.int c2), .val (.int (p1 &&& (3 : Int32)))] [(.int (c2 - (32 : Int32)))])) rfl (hb hby d2_19) _ k)
      refine Goal.step (T' := s₁) (g' := (mkF m 22 #[.val (.int p1), .val (.int c2), .val (.int (p1 &&& (3 : Int32)))] [(.int ((c2 - (32 : Int32)) &&& (65535 : Int32)))])) ?_ (fun t k => XS.iand X0.here hx rfl (hb hby d2_21) rfl k)
      refine Goal.step (T' := s₁) (g' := (mkF m 23 #[.val (.int p1), .val (.int c2), .val (.int (p1 &&& (3 : Int32)))] [(.int (((c2 - (32 : Int32)) &&& (65535 : Int32)).toUInt32.toUInt16.toUInt32.toInt32))])) ?_ (fun t k => XS.i2c X0.here hx rfl (hb hby d2_22) rfl k)
      refine Goal.retN (t := .char) X0 hx hret (by simp) (hb hby d2_23) ?_
      refine ⟨?_, by decide, by decide⟩
      rw [e0]
      exact ⟨_, rfl, own_i2cr _, N0, rfl⟩
    · refine Goal.step (T' := s₁) (g' := (mkF m 24 #[.val (.int p1), .val (.int c2), .val (.int (p1 &&& (3 : Int32)))] [])) ?_ (fun t k => XS.icmpYes X0.here hx rfl (pc0 := 12) (pc' := 24) rfl (hb hby d2_12) rfl (feq c1002).2 (by decide) (by decide) k)
      refine Goal.step (T' := s₁) (g' := (mkF m 25 #[.val (.int p1), .val (.int c2), .val (.int (p1 &&& (3 : Int32)))] [(.int (p1 &&& (3 : Int32)))])) ?_ (fun t k => XS.iloadN X0.here hx rfl (hb hby d2_24) rfl k)
      refine Goal.step (T' := s₁) (g' := (mkF m 26 #[.val (.int p1), .val (.int c2), .val (.int (p1 &&& (3 : Int32)))] [(.int (2 : Int32)), (.int (p1 &&& (3 : Int32)))])) ?_ (fun t k => XS.iconst X0.here hx rfl (hb hby d2_25) k)
      by_cases c1003 : (p1 &&& (3 : Int32)) = (2 : Int32)
      · refine Goal.step (T' := s₁) (g' := (mkF m 29 #[.val (.int p1), .val (.int c2), .val (.int (p1 &&& (3 : Int32)))] [])) ?_ (fun t k => XS.icmpNo X0.here hx rfl (hb hby d2_26) rfl (teq c1003).2 k)
        refine Goal.step (T' := s₁) (g' := (mkF m 30 #[.val (.int p1), .val (.int c2), .val (.int (p1 &&& (3 : Int32)))] [(.int c2)])) ?_ (fun t k => XS.iloadN X0.here hx rfl (hb hby d2_29) rfl k)
        refine Goal.step (T' := s₁) (g' := (mkF m 32 #[.val (.int p1), .val (.int c2), .val (.int (p1 &&& (3 : Int32)))] [(.int (32 : Int32)), (.int c2)])) ?_ (fun t k => XS.bipush X0.here hx rfl (hb hby d2_30) k)
        refine Goal.step (T' := s₁) (g' := (mkF m 33 #[.val (.int p1), .val (.int c2), .val (.int (p1 &&& (3 : Int32)))] [(.int (c2 + (32 : Int32)))])) ?_ (fun t k => XS.iadd X0.here hx rfl (hb hby d2_32) rfl k)
        refine Goal.step (T' := s₁) (g' := (mkF m 35 #[.val (.int p1), .val (.int c2), .val (.int (p1 &&& (3 : Int32)))] [(.int (65535 : Int32)), (.int (c2 + (32 : Int32)))])) ?_ (fun t k => X0.ldcInt hx hown (mvT hZ (hw _ (List.mem_of_getElem? (i := 5) rfl))) (g := (mkF m 33 #[.val (.int p1), .val (.int c2), .val (.int (p1 &&& (3 : Int32)))] [(.int (c2 + (32 : Int32)))])) rfl (hb hby d2_33) _ k)
        refine Goal.step (T' := s₁) (g' := (mkF m 36 #[.val (.int p1), .val (.int c2), .val (.int (p1 &&& (3 : Int32)))] [(.int ((c2 + (32 : Int32)) &&& (65535 : Int32)))])) ?_ (fun t k => XS.iand X0.here hx rfl (hb hby d2_35) rfl k)
        refine Goal.step (T' := s₁) (g' := (mkF m 37 #[.val (.int p1), .val (.int c2), .val (.int (p1 &&& (3 : Int32)))] [(.int (((c2 + (32 : Int32)) &&& (65535 : Int32)).toUInt32.toUInt16.toUInt32.toInt32))])) ?_ (fun t k => XS.i2c X0.here hx rfl (hb hby d2_36) rfl k)
        refine Goal.retN (t := .char) X0 hx hret (by simp) (hb hby d2_37) ?_
        refine ⟨?_, by decide, by decide⟩
        rw [e0]
        exact ⟨_, rfl, own_i2cr _, N0, rfl⟩
      · refine Goal.step (T' := s₁) (g' := (mkF m 38 #[.val (.int p1), .val (.int c2), .val (.int (p1 &&& (3 : Int32)))] [])) ?_ (fun t k => XS.icmpYes X0.here hx rfl (pc0 := 26) (pc' := 38) rfl (hb hby d2_26) rfl (feq c1003).2 (by decide) (by decide) k)
        refine Goal.step (T' := s₁) (g' := (mkF m 39 #[.val (.int p1), .val (.int c2), .val (.int (p1 &&& (3 : Int32)))] [(.int p1)])) ?_ (fun t k => XS.iloadN X0.here hx rfl (hb hby d2_38) rfl k)
        refine Goal.step (T' := s₁) (g' := (mkF m 40 #[.val (.int p1), .val (.int c2), .val (.int (p1 &&& (3 : Int32)))] [(.int (2 : Int32)), (.int p1)])) ?_ (fun t k => XS.iconst X0.here hx rfl (hb hby d2_39) k)
        refine Goal.step (T' := s₁) (g' := (mkF m 41 #[.val (.int p1), .val (.int c2), .val (.int (p1 &&& (3 : Int32)))] [(.int ((p1.toUInt32 >>> ((2 : Int32) &&& 31).toUInt32).toInt32))])) ?_ (fun t k => XS.iushr X0.here hx rfl (hb hby d2_40) rfl k)
        refine Goal.step (T' := s₁) (g' := (mkF m 43 #[.val (.int p1), .val (.int c2), .val (.int (p1 &&& (3 : Int32)))] [(.int (65535 : Int32)), (.int ((p1.toUInt32 >>> ((2 : Int32) &&& 31).toUInt32).toInt32))])) ?_ (fun t k => X0.ldcInt hx hown (mvT hZ (hw _ (List.mem_of_getElem? (i := 5) rfl))) (g := (mkF m 41 #[.val (.int p1), .val (.int c2), .val (.int (p1 &&& (3 : Int32)))] [(.int ((p1.toUInt32 >>> ((2 : Int32) &&& 31).toUInt32).toInt32))])) rfl (hb hby d2_41) _ k)
        refine Goal.step (T' := s₁) (g' := (mkF m 44 #[.val (.int p1), .val (.int c2), .val (.int (p1 &&& (3 : Int32)))] [(.int (((p1.toUInt32 >>> ((2 : Int32) &&& 31).toUInt32).toInt32) &&& (65535 : Int32)))])) ?_ (fun t k => XS.iand X0.here hx rfl (hb hby d2_43) rfl k)
        refine Goal.step (T' := s₁) (g' := (mkF m 45 #[.val (.int p1), .val (.int c2), .val (.int (p1 &&& (3 : Int32)))] [(.int ((((p1.toUInt32 >>> ((2 : Int32) &&& 31).toUInt32).toInt32) &&& (65535 : Int32)).toUInt32.toUInt16.toUInt32.toInt32))])) ?_ (fun t k => XS.i2c X0.here hx rfl (hb hby d2_44) rfl k)
        refine Goal.retN (t := .char) X0 hx hret (by simp) (hb hby d2_45) ?_
        refine ⟨?_, by decide, by decide⟩
        rw [e0]
        exact ⟨_, rfl, own_i2cr _, N0, rfl⟩
theorem d17_0 : decode method_5_code 0 = .ok (.iload_n 0, 1) := by decide +kernel
theorem d17_1 : decode method_5_code 1 = .ok (.iload_n 1, 1) := by decide +kernel
theorem d17_2 : decode method_5_code 2 = .ok (.if_icmp .ne 5, 3) := by decide +kernel
theorem d17_5 : decode method_5_code 5 = .ok (.iconst 1, 1) := by decide +kernel
theorem d17_6 : decode method_5_code 6 = .ok (.ireturn, 1) := by decide +kernel
theorem d17_7 : decode method_5_code 7 = .ok (.iload_n 0, 1) := by decide +kernel
theorem d17_8 : decode method_5_code 8 = .ok (.bipush 65, 2) := by decide +kernel
theorem d17_10 : decode method_5_code 10 = .ok (.if_icmp .lt 22, 3) := by decide +kernel
theorem d17_32 : decode method_5_code 32 = .ok (.iconst 0, 1) := by decide +kernel
theorem d17_33 : decode method_5_code 33 = .ok (.ireturn, 1) := by decide +kernel
theorem d17_13 : decode method_5_code 13 = .ok (.iload_n 0, 1) := by decide +kernel
theorem d17_14 : decode method_5_code 14 = .ok (.bipush 90, 2) := by decide +kernel
theorem d17_16 : decode method_5_code 16 = .ok (.if_icmp .gt 16, 3) := by decide +kernel
theorem d17_19 : decode method_5_code 19 = .ok (.iload_n 0, 1) := by decide +kernel
theorem d17_20 : decode method_5_code 20 = .ok (.bipush 32, 2) := by decide +kernel
theorem d17_22 : decode method_5_code 22 = .ok (.iadd, 1) := by decide +kernel
theorem d17_23 : decode method_5_code 23 = .ok (.i2c, 1) := by decide +kernel
theorem d17_24 : decode method_5_code 24 = .ok (.iload_n 1, 1) := by decide +kernel
theorem d17_25 : decode method_5_code 25 = .ok (.if_icmp .ne 7, 3) := by decide +kernel
theorem d17_28 : decode method_5_code 28 = .ok (.iconst 1, 1) := by decide +kernel
theorem d17_29 : decode method_5_code 29 = .ok (.goto 4, 3) := by decide +kernel
theorem ef_17 (m : MethodId) (x0 : Int32) (x1 : Int32) : entryFrame m #[(.int x0), (.int x1)] 2 = mkF m 0 #[.val (.int x0), .val (.int x1)] [] := by first | (simp [entryFrame, mkF, argsToLocals, Value.category]; done) | rfl
set_option maxRecDepth 65536 in
set_option maxHeartbeats 40000000 in
theorem rmSM (l : Launch) (Z : State) (a0 : Array Value) (hw : ∀ d ∈ tables_1, d.before a0 Z = true) (p1 p2' : Int32) (h0 : Heap) (n0 : Nat) (Z0 : n0 ≤ h0.size) (hp : noCap p2') :
    Met l (⟨"com/example/gids/gids/AsciiStartsWithIgnoringCasePinLaw", "same", "(CC)Z"⟩ : MethodName) method_5_code 2 (some .boolean) [] ({ frames := 0, cells := 0, slots := 0, locals := 0 } : Room) Z #[(.int p1), (.int p2')] h0 (fun v h L => (low p1 = p2' ∧ v = some (.int 1) ∧ Fr n0 L ∧ h = h0) ∨ (¬ low p1 = p2' ∧ v = some (.int 0) ∧ Fr n0 L ∧ h = h0)) := by
  refine of_goal (plainFor_of_name (by first | (simp [plainName, overriddenIn]; done) | decide +kernel)) ?_
  intro p e s m below meth c s₁ C X0 e0
  have C0 := C
  obtain ⟨hx, hZ, hby, hml, hret, hown, hnm⟩ := C
  have hown : s.vm.findClass "com/example/gids/gids/AsciiStartsWithIgnoringCasePinLaw" = some m.cls := hown
  have hret : meth.sig.returnType = (some .boolean) := hret
  have N0 := Fr.nil n0
  rw [ef_17]
  refine Goal.step (T' := s₁) (g' := (mkF m 1 #[.val (.int p1), .val (.int p2')] [(.int p1)])) ?_ (fun t k => XS.iloadN X0.here hx rfl (hb hby d17_0) rfl k)
  refine Goal.step (T' := s₁) (g' := (mkF m 2 #[.val (.int p1), .val (.int p2')] [(.int p2'), (.int p1)])) ?_ (fun t k => XS.iloadN X0.here hx rfl (hb hby d17_1) rfl k)
  by_cases c1001 : p1 = p2'
  · refine Goal.step (T' := s₁) (g' := (mkF m 5 #[.val (.int p1), .val (.int p2')] [])) ?_ (fun t k => XS.icmpNo X0.here hx rfl (hb hby d17_2) rfl (teq c1001).2 k)
    refine Goal.step (T' := s₁) (g' := (mkF m 6 #[.val (.int p1), .val (.int p2')] [(.int (1 : Int32))])) ?_ (fun t k => XS.iconst X0.here hx rfl (hb hby d17_5) k)
    refine Goal.retN (t := .boolean) X0 hx hret (by simp) (hb hby d17_6) ?_
    refine ⟨?_, by decide, by decide⟩
    rw [e0]
    exact Or.inl ⟨(own_same hp).mpr (Or.inl c1001), rfl, N0, rfl⟩
  · refine Goal.step (T' := s₁) (g' := (mkF m 7 #[.val (.int p1), .val (.int p2')] [])) ?_ (fun t k => XS.icmpYes X0.here hx rfl (pc0 := 2) (pc' := 7) rfl (hb hby d17_2) rfl (feq c1001).2 (by decide) (by decide) k)
    refine Goal.step (T' := s₁) (g' := (mkF m 8 #[.val (.int p1), .val (.int p2')] [(.int p1)])) ?_ (fun t k => XS.iloadN X0.here hx rfl (hb hby d17_7) rfl k)
    refine Goal.step (T' := s₁) (g' := (mkF m 10 #[.val (.int p1), .val (.int p2')] [(.int (65 : Int32)), (.int p1)])) ?_ (fun t k => XS.bipush X0.here hx rfl (hb hby d17_8) k)
    by_cases c1002 : p1 < (65 : Int32)
    · refine Goal.step (T' := s₁) (g' := (mkF m 32 #[.val (.int p1), .val (.int p2')] [])) ?_ (fun t k => XS.icmpYes X0.here hx rfl (pc0 := 10) (pc' := 32) rfl (hb hby d17_10) rfl (tlt c1002).1 (by decide) (by decide) k)
      refine Goal.step (T' := s₁) (g' := (mkF m 33 #[.val (.int p1), .val (.int p2')] [(.int (0 : Int32))])) ?_ (fun t k => XS.iconst X0.here hx rfl (hb hby d17_32) k)
      refine Goal.retN (t := .boolean) X0 hx hret (by simp) (hb hby d17_33) ?_
      refine ⟨?_, by decide, by decide⟩
      rw [e0]
      exact Or.inr ⟨fun q => ((own_same hp).mp q).elim c1001 (fun z => z.1 c1002), rfl, N0, rfl⟩
    · refine Goal.step (T' := s₁) (g' := (mkF m 13 #[.val (.int p1), .val (.int p2')] [])) ?_ (fun t k => XS.icmpNo X0.here hx rfl (hb hby d17_10) rfl (flt c1002).1 k)
      refine Goal.step (T' := s₁) (g' := (mkF m 14 #[.val (.int p1), .val (.int p2')] [(.int p1)])) ?_ (fun t k => XS.iloadN X0.here hx rfl (hb hby d17_13) rfl k)
      refine Goal.step (T' := s₁) (g' := (mkF m 16 #[.val (.int p1), .val (.int p2')] [(.int (90 : Int32)), (.int p1)])) ?_ (fun t k => XS.bipush X0.here hx rfl (hb hby d17_14) k)
      by_cases c1003 : (90 : Int32) < p1
      · refine Goal.step (T' := s₁) (g' := (mkF m 32 #[.val (.int p1), .val (.int p2')] [])) ?_ (fun t k => XS.icmpYes X0.here hx rfl (pc0 := 16) (pc' := 32) rfl (hb hby d17_16) rfl (tlt c1003).2.2.1 (by decide) (by decide) k)
        refine Goal.step (T' := s₁) (g' := (mkF m 33 #[.val (.int p1), .val (.int p2')] [(.int (0 : Int32))])) ?_ (fun t k => XS.iconst X0.here hx rfl (hb hby d17_32) k)
        refine Goal.retN (t := .boolean) X0 hx hret (by simp) (hb hby d17_33) ?_
        refine ⟨?_, by decide, by decide⟩
        rw [e0]
        exact Or.inr ⟨fun q => ((own_same hp).mp q).elim c1001 (fun z => z.2.1 c1003), rfl, N0, rfl⟩
      · refine Goal.step (T' := s₁) (g' := (mkF m 19 #[.val (.int p1), .val (.int p2')] [])) ?_ (fun t k => XS.icmpNo X0.here hx rfl (hb hby d17_16) rfl (flt c1003).2.2.1 k)
        refine Goal.step (T' := s₁) (g' := (mkF m 20 #[.val (.int p1), .val (.int p2')] [(.int p1)])) ?_ (fun t k => XS.iloadN X0.here hx rfl (hb hby d17_19) rfl k)
        refine Goal.step (T' := s₁) (g' := (mkF m 22 #[.val (.int p1), .val (.int p2')] [(.int (32 : Int32)), (.int p1)])) ?_ (fun t k => XS.bipush X0.here hx rfl (hb hby d17_20) k)
        refine Goal.step (T' := s₁) (g' := (mkF m 23 #[.val (.int p1), .val (.int p2')] [(.int (p1 + (32 : Int32)))])) ?_ (fun t k => XS.iadd X0.here hx rfl (hb hby d17_22) rfl k)
        refine Goal.step (T' := s₁) (g' := (mkF m 24 #[.val (.int p1), .val (.int p2')] [(.int ((p1 + (32 : Int32)).toUInt32.toUInt16.toUInt32.toInt32))])) ?_ (fun t k => XS.i2c X0.here hx rfl (hb hby d17_23) rfl k)
        refine Goal.step (T' := s₁) (g' := (mkF m 25 #[.val (.int p1), .val (.int p2')] [(.int p2'), (.int ((p1 + (32 : Int32)).toUInt32.toUInt16.toUInt32.toInt32))])) ?_ (fun t k => XS.iloadN X0.here hx rfl (hb hby d17_24) rfl k)
        by_cases c1004 : ((p1 + (32 : Int32)).toUInt32.toUInt16.toUInt32.toInt32) = p2'
        · refine Goal.step (T' := s₁) (g' := (mkF m 28 #[.val (.int p1), .val (.int p2')] [])) ?_ (fun t k => XS.icmpNo X0.here hx rfl (hb hby d17_25) rfl (teq c1004).2 k)
          refine Goal.step (T' := s₁) (g' := (mkF m 29 #[.val (.int p1), .val (.int p2')] [(.int (1 : Int32))])) ?_ (fun t k => XS.iconst X0.here hx rfl (hb hby d17_28) k)
          refine Goal.step (T' := s₁) (g' := (mkF m 33 #[.val (.int p1), .val (.int p2')] [(.int (1 : Int32))])) ?_ (fun t k => XS.goto X0.here hx rfl (pc0 := 29) (pc' := 33) rfl (hb hby d17_29) (by decide) (by decide) k)
          refine Goal.retN (t := .boolean) X0 hx hret (by simp) (hb hby d17_33) ?_
          refine ⟨?_, by decide, by decide⟩
          rw [e0]
          exact Or.inl ⟨(own_same hp).mpr (Or.inr ⟨c1002, c1003, c1004⟩), rfl, N0, rfl⟩
        · refine Goal.step (T' := s₁) (g' := (mkF m 32 #[.val (.int p1), .val (.int p2')] [])) ?_ (fun t k => XS.icmpYes X0.here hx rfl (pc0 := 25) (pc' := 32) rfl (hb hby d17_25) rfl (feq c1004).2 (by decide) (by decide) k)
          refine Goal.step (T' := s₁) (g' := (mkF m 33 #[.val (.int p1), .val (.int p2')] [(.int (0 : Int32))])) ?_ (fun t k => XS.iconst X0.here hx rfl (hb hby d17_32) k)
          refine Goal.retN (t := .boolean) X0 hx hret (by simp) (hb hby d17_33) ?_
          refine ⟨?_, by decide, by decide⟩
          rw [e0]
          exact Or.inr ⟨fun q => ((own_same hp).mp q).elim c1001 (fun z => c1004 z.2.2), rfl, N0, rfl⟩
theorem pd_17 : parseMethodDescriptor "([C)V" = some ⟨[(.array .char)], none⟩ := by decide +kernel
theorem pd_18 : parseMethodDescriptor "(Ljava/lang/String;Ljava/lang/String;)Z" = some ⟨[(.object "java/lang/String"), (.object "java/lang/String")], some .boolean⟩ := by decide +kernel
theorem pd_19 : parseMethodDescriptor "(CC)Z" = some ⟨[.char, .char], some .boolean⟩ := by decide +kernel
set_option maxRecDepth 65536 in
set_option maxHeartbeats 40000000 in
theorem seg125 {p : Program} {l : Launch} {e : Env} {s : State} {m : MethodId} {args : Array Value} {below : List Frame} {meth : Method} {c : Code} {Z : State} {a0 : Array Value} {T0 : State} {locs : List Loc} {vm0 : Vm} {k0 : Nat} (hw : ∀ d ∈ tables_1, d.before a0 Z = true) (C0 : Ctx p s m meth c Z code maxLocals ret x.cls x.name) (p1 p2 p3 p4 p5 p6 : Int32) (m6 n7 : Nat) (c8 c9 c10 c11 c12 : Int32) (b13 b14 : Nat) (k13 k14 : ClassId) (hB : Heap) (cs : Int32) (fm : Value) (h0 : Heap) (n0 : Nat) (Z0 : n0 ≤ h0.size) (X0 : Stand p l e room_1 (s.setVm vm0) m args below meth c T0 locs 2 5) (hS : s.Since vm0 k0) (hk : k0 ≤ h0.size) (hZ : Z.Warmed39 vm0) (hown : vm0.findClass "com/example/gids/gids/AsciiStartsWithIgnoringCasePinLaw" = some m.cls) (e0 : T0.heap = h0) (N0 : Fr n0 locs) (CH0 : CHr Z consts_1 s.vm hB vm0 h0) (SE : SEnv Z cs fm) (O0 : Old Z n0 h0) (hm : m6 ≤ 2) (hn7 : n7 ≤ 3) (r8 : rng c8) (n8 : noCap c8) (r9 : rng c9) (n9 : noCap c9) (r10 : rng c10) (r11 : rng c11) (r12 : rng c12) (A13 : Arf Z h0 b13 k13 .char m6 (pre2 c8 c9)) (A14 : Arf Z h0 b14 k14 .char n7 (t3 c10 c11 c12)) (lt13 : b13 < h0.size) (lt14 : b14 < h0.size) :
    GoalH Z consts_1 hB p l e room_1 s m args below meth c (In room_1 (fun v h L => v = some (.int 1) ∧ Fr n0 L)) T0 (mkF m 125 #[.val (.int p1), .val (.int p2), .val (.int p3), .val (.int p4), .val (.int p5), .val (.int p6), .val (.int (Int32.ofNat m6)), .val (.int (Int32.ofNat n7)), .val (.int c8), .val (.int c9), .val (.int c10), .val (.int c11), .val (.int c12), .val (.ref b13), .val (.ref b14), .unset, .unset, .unset] []) := by
  have C := C0
  obtain ⟨hx, -, hby, hml, hret, -, hnm⟩ := C
  have hret : meth.sig.returnType = (some .boolean) := hret
  obtain ⟨T1001, h1001, X1001, e1001, E1001, A1001, D1001, -, st1001⟩ := newO X0 hx hZ hown (hw _ (List.mem_of_getElem? (i := 10) rfl)) (hw _ (List.mem_of_getElem? (i := 11) rfl)) (hw _ (List.mem_of_getElem? (i := 12) rfl)) e0 (g := (mkF m 125 #[.val (.int p1), .val (.int p2), .val (.int p3), .val (.int p4), .val (.int p5), .val (.int p6), .val (.int (Int32.ofNat m6)), .val (.int (Int32.ofNat n7)), .val (.int c8), .val (.int c9), .val (.int c10), .val (.int c11), .val (.int c12), .val (.ref b13), .val (.ref b14), .unset, .unset, .unset] [])) rfl (hb hby at_125) (by decide) (by decide)
  obtain ⟨b1001, g1001⟩ : ∃ z, z = h0.size := ⟨_, rfl⟩
  rw [← g1001] at A1001 D1001 st1001
  refine GoalH.step (T' := T1001) (g' := (mkF m 128 #[.val (.int p1), .val (.int p2), .val (.int p3), .val (.int p4), .val (.int p5), .val (.int p6), .val (.int (Int32.ofNat m6)), .val (.int (Int32.ofNat n7)), .val (.int c8), .val (.int c9), .val (.int c10), .val (.int c11), .val (.int c12), .val (.ref b13), .val (.ref b14), .unset, .unset, .unset] [(.ref b1001)])) ?_ st1001
  have sz1002 : h0.size ≤ h1001.size := E1001.1
  have lt_b1001 : b1001 < h1001.size := A1001.lt
  refine GoalH.step (T' := T1001) (g' := (mkF m 129 #[.val (.int p1), .val (.int p2), .val (.int p3), .val (.int p4), .val (.int p5), .val (.int p6), .val (.int (Int32.ofNat m6)), .val (.int (Int32.ofNat n7)), .val (.int c8), .val (.int c9), .val (.int c10), .val (.int c11), .val (.int c12), .val (.ref b13), .val (.ref b14), .unset, .unset, .unset] [(.ref b1001), (.ref b1001)])) ?_ (fun t k => XS.dup X1001.here hx rfl (hb hby at_128) rfl rfl k)
  refine GoalH.step (T' := T1001) (g' := (mkF m 131 #[.val (.int p1), .val (.int p2), .val (.int p3), .val (.int p4), .val (.int p5), .val (.int p6), .val (.int (Int32.ofNat m6)), .val (.int (Int32.ofNat n7)), .val (.int c8), .val (.int c9), .val (.int c10), .val (.int c11), .val (.int c12), .val (.ref b13), .val (.ref b14), .unset, .unset, .unset] [(.ref b14), (.ref b1001), (.ref b1001)])) ?_ (fun t k => XS.aload X1001.here hx rfl (hb hby at_129) rfl rfl k)
  have f1004 : Old Z n0 h1001 := (O0.ext E1001)
  have f1005 : Arf Z h1001 b14 k14 .char n7 (t3 c10 c11 c12) := (A14.ext E1001)
  have kk1006 : Keep h0 h1001 [] := ((Keep.refl h0 []).ext E1001)
  have CH1007 := CHr.trans CH0 (CHr.keep kk1006 all0 CH0.1)
  have kk1008 : Keep h0 h1001 [] := ((Keep.refl h0 []).ext E1001)
  have Sf1009 := safeFresh (EL := consts_1) kk1008 CH0.1 (show h0.size ≤ b1001 by omega)
  obtain ⟨v1003, T1003, h1003, L1003, k1003, X1003, e1003, hQ1003, hS, hk1003, hsz1003, C1003, hZ, hown, st1003⟩ := callInitH X1001 hx hZ hown hS (by omega) (own_EW hw) CH1007.1 (allS ⟨show (b1001 : Nat) < h1001.size by omega, Sf1009⟩ all0) rfl (hw _ (List.mem_of_getElem? (i := 13) rfl)) (hw _ (List.mem_of_getElem? (i := 14) rfl)) (hw _ (List.mem_of_getElem? (i := 12) rfl)) (hw _ (List.mem_of_getElem? (i := 15) rfl)) (by decide) (rmI1 l Z a0 hw n7 b1001 b14 k14 (t3 c10 c11 c12) .null (.int (0 : Int32)) cs fm h1001 n0 (by omega) SE f1004 A1001 (D1001 (Or.inr (hw _ (List.mem_of_getElem? (i := 25) rfl))) (ty := (.array .byte)) (by decide)) (D1001 (Or.inr (hw _ (List.mem_of_getElem? (i := 26) rfl))) (ty := .byte) (by decide)) (by omega) (fun j _ => own_t3 r10 r11 r12 j) f1005 (by omega) (by omega) (by omega) (by omega)) e1001 (W := 1) (by decide) (by decide) (by decide) (by decide) (g := (mkF m 131 #[.val (.int p1), .val (.int p2), .val (.int p3), .val (.int p4), .val (.int p5), .val (.int p6), .val (.int (Int32.ofNat m6)), .val (.int (Int32.ofNat n7)), .val (.int c8), .val (.int c9), .val (.int c10), .val (.int c11), .val (.int c12), .val (.ref b13), .val (.ref b14), .unset, .unset, .unset] [(.ref b14), (.ref b1001), (.ref b1001)])) rfl (by rw [hml]; rfl) (a := b1001) (argsL := [(.ref b14)]) (rest := [(.ref b1001)]) (lenOf pd_17 rfl) rfl (by show 2 * 0 + _ ≤ _; exact Nat.le_of_eq rfl) (hb hby at_131) rfl
  obtain ⟨rfl, M1003, K1003, Z1003⟩ := hQ1003
  have N1003 := Fr.app N0 M1003
  refine GoalH.step (T' := T1003) (g' := (mkF m 134 #[.val (.int p1), .val (.int p2), .val (.int p3), .val (.int p4), .val (.int p5), .val (.int p6), .val (.int (Int32.ofNat m6)), .val (.int (Int32.ofNat n7)), .val (.int c8), .val (.int c9), .val (.int c10), .val (.int c11), .val (.int c12), .val (.ref b13), .val (.ref b14), .unset, .unset, .unset] [(.ref b1001)])) ?_ st1003
  have sz1010 : h1001.size ≤ h1003.size := K1003.1
  have CH1003 := CHr.trans CH1007 C1003
  have Sf1003_b1001 := C1003.safe (show (b1001 : Nat) < h1001.size by omega) Sf1009
  refine GoalH.step (T' := T1003) (g' := (mkF m 136 #[.val (.int p1), .val (.int p2), .val (.int p3), .val (.int p4), .val (.int p5), .val (.int p6), .val (.int (Int32.ofNat m6)), .val (.int (Int32.ofNat n7)), .val (.int c8), .val (.int c9), .val (.int c10), .val (.int c11), .val (.int c12), .val (.ref b13), .val (.ref b14), .val (.ref b1001), .unset, .unset] [])) ?_ (fun t k => XS.astore X1003.here hx rfl (hb hby at_134) rfl rfl (l' := #[.val (.int p1), .val (.int p2), .val (.int p3), .val (.int p4), .val (.int p5), .val (.int p6), .val (.int (Int32.ofNat m6)), .val (.int (Int32.ofNat n7)), .val (.int c8), .val (.int c9), .val (.int c10), .val (.int c11), .val (.int c12), .val (.ref b13), .val (.ref b14), .val (.ref b1001), .unset, .unset]) rfl k)
  obtain ⟨T1011, h1011, X1011, e1011, E1011, A1011, D1011, -, st1011⟩ := newO X1003 hx hZ hown (hw _ (List.mem_of_getElem? (i := 10) rfl)) (hw _ (List.mem_of_getElem? (i := 11) rfl)) (hw _ (List.mem_of_getElem? (i := 12) rfl)) e1003 (g := (mkF m 136 #[.val (.int p1), .val (.int p2), .val (.int p3), .val (.int p4), .val (.int p5), .val (.int p6), .val (.int (Int32.ofNat m6)), .val (.int (Int32.ofNat n7)), .val (.int c8), .val (.int c9), .val (.int c10), .val (.int c11), .val (.int c12), .val (.ref b13), .val (.ref b14), .val (.ref b1001), .unset, .unset] [])) rfl (hb hby at_136) (by decide) (by decide)
  obtain ⟨b1011, g1011⟩ : ∃ z, z = h1003.size := ⟨_, rfl⟩
  rw [← g1011] at A1011 D1011 st1011
  refine GoalH.step (T' := T1011) (g' := (mkF m 139 #[.val (.int p1), .val (.int p2), .val (.int p3), .val (.int p4), .val (.int p5), .val (.int p6), .val (.int (Int32.ofNat m6)), .val (.int (Int32.ofNat n7)), .val (.int c8), .val (.int c9), .val (.int c10), .val (.int c11), .val (.int c12), .val (.ref b13), .val (.ref b14), .val (.ref b1001), .unset, .unset] [(.ref b1011)])) ?_ st1011
  have sz1012 : h1003.size ≤ h1011.size := E1011.1
  have lt_b1011 : b1011 < h1011.size := A1011.lt
  refine GoalH.step (T' := T1011) (g' := (mkF m 140 #[.val (.int p1), .val (.int p2), .val (.int p3), .val (.int p4), .val (.int p5), .val (.int p6), .val (.int (Int32.ofNat m6)), .val (.int (Int32.ofNat n7)), .val (.int c8), .val (.int c9), .val (.int c10), .val (.int c11), .val (.int c12), .val (.ref b13), .val (.ref b14), .val (.ref b1001), .unset, .unset] [(.ref b1011), (.ref b1011)])) ?_ (fun t k => XS.dup X1011.here hx rfl (hb hby at_139) rfl rfl k)
  refine GoalH.step (T' := T1011) (g' := (mkF m 142 #[.val (.int p1), .val (.int p2), .val (.int p3), .val (.int p4), .val (.int p5), .val (.int p6), .val (.int (Int32.ofNat m6)), .val (.int (Int32.ofNat n7)), .val (.int c8), .val (.int c9), .val (.int c10), .val (.int c11), .val (.int c12), .val (.ref b13), .val (.ref b14), .val (.ref b1001), .unset, .unset] [(.ref b13), (.ref b1011), (.ref b1011)])) ?_ (fun t k => XS.aload X1011.here hx rfl (hb hby at_140) rfl rfl k)
  have f1014 : Old Z n0 h1011 := ((f1004.keep K1003 (allS (by omega) all0)).ext E1011)
  have f1015 : Arf Z h1011 b13 k13 .char m6 (pre2 c8 c9) := (((A13.ext E1001).keep K1003 (ninS (nne (by omega)) nin0)).ext E1011)
  have kk1016 : Keep h1003 h1011 [] := ((Keep.refl h1003 []).ext E1011)
  have CH1017 := CHr.trans CH1003 (CHr.keep kk1016 all0 CH1003.1)
  have Sf1017_b1001 := Safe.keep kk1016 all0 CH1003.1 Sf1003_b1001
  have kk1018 : Keep h1003 h1011 [] := ((Keep.refl h1003 []).ext E1011)
  have Sf1019 := safeFresh (EL := consts_1) kk1018 CH1003.1 (show h1003.size ≤ b1011 by omega)
  obtain ⟨v1013, T1013, h1013, L1013, k1013, X1013, e1013, hQ1013, hS, hk1013, hsz1013, C1013, hZ, hown, st1013⟩ := callInitH X1011 hx hZ hown hS (by omega) (own_EW hw) CH1017.1 (allS ⟨show (b1011 : Nat) < h1011.size by omega, Sf1019⟩ all0) rfl (hw _ (List.mem_of_getElem? (i := 13) rfl)) (hw _ (List.mem_of_getElem? (i := 14) rfl)) (hw _ (List.mem_of_getElem? (i := 12) rfl)) (hw _ (List.mem_of_getElem? (i := 15) rfl)) (by decide) (rmI1 l Z a0 hw m6 b1011 b13 k13 (pre2 c8 c9) .null (.int (0 : Int32)) cs fm h1011 n0 (by omega) SE f1014 A1011 (D1011 (Or.inr (hw _ (List.mem_of_getElem? (i := 25) rfl))) (ty := (.array .byte)) (by decide)) (D1011 (Or.inr (hw _ (List.mem_of_getElem? (i := 26) rfl))) (ty := .byte) (by decide)) (by omega) (fun j _ => own_p2 r8 r9 j) f1015 (by omega) (by omega) (by omega) (by omega)) e1011 (W := 1) (by decide) (by decide) (by decide) (by decide) (g := (mkF m 142 #[.val (.int p1), .val (.int p2), .val (.int p3), .val (.int p4), .val (.int p5), .val (.int p6), .val (.int (Int32.ofNat m6)), .val (.int (Int32.ofNat n7)), .val (.int c8), .val (.int c9), .val (.int c10), .val (.int c11), .val (.int c12), .val (.ref b13), .val (.ref b14), .val (.ref b1001), .unset, .unset] [(.ref b13), (.ref b1011), (.ref b1011)])) rfl (by rw [hml]; rfl) (a := b1011) (argsL := [(.ref b13)]) (rest := [(.ref b1011)]) (lenOf pd_17 rfl) rfl (by show 2 * 0 + _ ≤ _; exact Nat.le_of_eq rfl) (hb hby at_142) rfl
  obtain ⟨rfl, M1013, K1013, Z1013⟩ := hQ1013
  have N1013 := Fr.app N1003 M1013
  refine GoalH.step (T' := T1013) (g' := (mkF m 145 #[.val (.int p1), .val (.int p2), .val (.int p3), .val (.int p4), .val (.int p5), .val (.int p6), .val (.int (Int32.ofNat m6)), .val (.int (Int32.ofNat n7)), .val (.int c8), .val (.int c9), .val (.int c10), .val (.int c11), .val (.int c12), .val (.ref b13), .val (.ref b14), .val (.ref b1001), .unset, .unset] [(.ref b1011)])) ?_ st1013
  have sz1020 : h1011.size ≤ h1013.size := K1013.1
  have CH1013 := CHr.trans CH1017 C1013
  have Sf1013_b1001 := C1013.safe (show (b1001 : Nat) < h1011.size by omega) Sf1017_b1001
  have Sf1013_b1011 := C1013.safe (show (b1011 : Nat) < h1011.size by omega) Sf1019
  refine GoalH.step (T' := T1013) (g' := (mkF m 147 #[.val (.int p1), .val (.int p2), .val (.int p3), .val (.int p4), .val (.int p5), .val (.int p6), .val (.int (Int32.ofNat m6)), .val (.int (Int32.ofNat n7)), .val (.int c8), .val (.int c9), .val (.int c10), .val (.int c11), .val (.int c12), .val (.ref b13), .val (.ref b14), .val (.ref b1001), .val (.ref b1011), .unset] [])) ?_ (fun t k => XS.astore X1013.here hx rfl (hb hby at_145) rfl rfl (l' := #[.val (.int p1), .val (.int p2), .val (.int p3), .val (.int p4), .val (.int p5), .val (.int p6), .val (.int (Int32.ofNat m6)), .val (.int (Int32.ofNat n7)), .val (.int c8), .val (.int c9), .val (.int c10), .val (.int c11), .val (.int c12), .val (.ref b13), .val (.ref b14), .val (.ref b1001), .val (.ref b1011), .unset]) rfl k)
  refine GoalH.step (T' := T1013) (g' := (mkF m 149 #[.val (.int p1), .val (.int p2), .val (.int p3), .val (.int p4), .val (.int p5), .val (.int p6), .val (.int (Int32.ofNat m6)), .val (.int (Int32.ofNat n7)), .val (.int c8), .val (.int c9), .val (.int c10), .val (.int c11), .val (.int c12), .val (.ref b13), .val (.ref b14), .val (.ref b1001), .val (.ref b1011), .unset] [(.int (Int32.ofNat n7))])) ?_ (fun t k => XS.iload X1013.here hx rfl (hb hby at_147) rfl k)
  refine GoalH.step (T' := T1013) (g' := (mkF m 151 #[.val (.int p1), .val (.int p2), .val (.int p3), .val (.int p4), .val (.int p5), .val (.int p6), .val (.int (Int32.ofNat m6)), .val (.int (Int32.ofNat n7)), .val (.int c8), .val (.int c9), .val (.int c10), .val (.int c11), .val (.int c12), .val (.ref b13), .val (.ref b14), .val (.ref b1001), .val (.ref b1011), .unset] [(.int (Int32.ofNat m6)), (.int (Int32.ofNat n7))])) ?_ (fun t k => XS.iload X1013.here hx rfl (hb hby at_149) rfl k)
  by_cases c1021 : (Int32.ofNat n7) < (Int32.ofNat m6)
  · refine GoalH.step (T' := T1013) (g' := (mkF m 154 #[.val (.int p1), .val (.int p2), .val (.int p3), .val (.int p4), .val (.int p5), .val (.int p6), .val (.int (Int32.ofNat m6)), .val (.int (Int32.ofNat n7)), .val (.int c8), .val (.int c9), .val (.int c10), .val (.int c11), .val (.int c12), .val (.ref b13), .val (.ref b14), .val (.ref b1001), .val (.ref b1011), .unset] [])) ?_ (fun t k => XS.icmpNo X1013.here hx rfl (hb hby at_151) rfl (tlt c1021).2.1 k)
    have h7 : n7 < m6 := (nat_lt (by omega) (by omega)).mp c1021
    refine GoalH.step (T' := T1013) (g' := (mkF m 155 #[.val (.int p1), .val (.int p2), .val (.int p3), .val (.int p4), .val (.int p5), .val (.int p6), .val (.int (Int32.ofNat m6)), .val (.int (Int32.ofNat n7)), .val (.int c8), .val (.int c9), .val (.int c10), .val (.int c11), .val (.int c12), .val (.ref b13), .val (.ref b14), .val (.ref b1001), .val (.ref b1011), .unset] [(.int (0 : Int32))])) ?_ (fun t k => XS.iconst X1013.here hx rfl (hb hby at_154) k)
    refine GoalH.step (T' := T1013) (g' := (mkF m 157 #[.val (.int p1), .val (.int p2), .val (.int p3), .val (.int p4), .val (.int p5), .val (.int p6), .val (.int (Int32.ofNat m6)), .val (.int (Int32.ofNat n7)), .val (.int c8), .val (.int c9), .val (.int c10), .val (.int c11), .val (.int c12), .val (.ref b13), .val (.ref b14), .val (.ref b1001), .val (.ref b1011), .val (.int (0 : Int32))] [])) ?_ (fun t k => XS.istore X1013.here hx rfl (hb hby at_155) rfl (l' := #[.val (.int p1), .val (.int p2), .val (.int p3), .val (.int p4), .val (.int p5), .val (.int p6), .val (.int (Int32.ofNat m6)), .val (.int (Int32.ofNat n7)), .val (.int c8), .val (.int c9), .val (.int c10), .val (.int c11), .val (.int c12), .val (.ref b13), .val (.ref b14), .val (.ref b1001), .val (.ref b1011), .val (.int (0 : Int32))]) rfl k)
    refine GoalH.step (T' := T1013) (g' := (mkF m 199 #[.val (.int p1), .val (.int p2), .val (.int p3), .val (.int p4), .val (.int p5), .val (.int p6), .val (.int (Int32.ofNat m6)), .val (.int (Int32.ofNat n7)), .val (.int c8), .val (.int c9), .val (.int c10), .val (.int c11), .val (.int c12), .val (.ref b13), .val (.ref b14), .val (.ref b1001), .val (.ref b1011), .val (.int (0 : Int32))] [])) ?_ (fun t k => XS.goto X1013.here hx rfl (pc0 := 157) (pc' := 199) rfl (hb hby at_157) (by decide) (by decide) k)
    refine GoalH.step (T' := T1013) (g' := (mkF m 201 #[.val (.int p1), .val (.int p2), .val (.int p3), .val (.int p4), .val (.int p5), .val (.int p6), .val (.int (Int32.ofNat m6)), .val (.int (Int32.ofNat n7)), .val (.int c8), .val (.int c9), .val (.int c10), .val (.int c11), .val (.int c12), .val (.ref b13), .val (.ref b14), .val (.ref b1001), .val (.ref b1011), .val (.int (0 : Int32))] [(.ref b1001)])) ?_ (fun t k => XS.aload X1013.here hx rfl (hb hby at_199) rfl rfl k)
    refine GoalH.step (T' := T1013) (g' := (mkF m 203 #[.val (.int p1), .val (.int p2), .val (.int p3), .val (.int p4), .val (.int p5), .val (.int p6), .val (.int (Int32.ofNat m6)), .val (.int (Int32.ofNat n7)), .val (.int c8), .val (.int c9), .val (.int c10), .val (.int c11), .val (.int c12), .val (.ref b13), .val (.ref b14), .val (.ref b1001), .val (.ref b1011), .val (.int (0 : Int32))] [(.ref b1011), (.ref b1001)])) ?_ (fun t k => XS.aload X1013.here hx rfl (hb hby at_201) rfl rfl k)
    have f1023 : Old Z n0 h1013 := (f1014.keep K1013 (allS (by omega) all0))
    have kk1024 : Keep h1003 h1013 [] := (((Keep.refl h1003 []).ext E1011).trans K1013 (allS (Or.inr (by omega)) all0))
    have f1025 : Str Z h1013 b1001 n7 (t3 c10 c11 c12) := Z1003.ext (extKp (extRefl _) kk1024 all0)
    have hP : ¬ (m6 ≤ n7 ∧ ∀ j, j < m6 → low (t3 c10 c11 c12 j) = pre2 c8 c9 j) := fun q => absurd q.1 (by omega)
    obtain ⟨v1022, T1022, h1022, L1022, X1022, e1022, hQ1022, st1022⟩ := callStatic X1013 hx hZ hown (hw _ (List.mem_of_getElem? (i := 31) rfl)) (hw _ (List.mem_of_getElem? (i := 32) rfl)) (hw _ (List.mem_of_getElem? (i := 33) rfl)) (hw _ (List.mem_of_getElem? (i := 34) rfl)) (by decide) (rmSW l Z a0 hw b1001 b1011 n7 m6 (t3 c10 c11 c12) (pre2 c8 c9) cs fm h1013 n0 (by omega) SE f1023 f1025 Z1013) e1013 (W := 0) (by decide) (by decide) (by decide) (by decide) (g := (mkF m 203 #[.val (.int p1), .val (.int p2), .val (.int p3), .val (.int p4), .val (.int p5), .val (.int p6), .val (.int (Int32.ofNat m6)), .val (.int (Int32.ofNat n7)), .val (.int c8), .val (.int c9), .val (.int c10), .val (.int c11), .val (.int c12), .val (.ref b13), .val (.ref b14), .val (.ref b1001), .val (.ref b1011), .val (.int (0 : Int32))] [(.ref b1011), (.ref b1001)])) rfl (by rw [hml]; rfl) (argsL := [(.ref b1001), (.ref b1011)]) (rest := []) (lenOf pd_18 rfl) rfl (by show 2 * 0 + _ ≤ _; exact Nat.le_of_eq rfl) (hb hby at_203) rfl
    obtain ⟨rfl, M1022, q1022⟩ := hQ1022.elim (fun x => absurd x.1 hP) (fun x => x.2)
    rw [q1022] at e1022
    have N1022 := Fr.app N1013 M1022
    refine GoalH.step (T' := T1022) (g' := (mkF m 206 #[.val (.int p1), .val (.int p2), .val (.int p3), .val (.int p4), .val (.int p5), .val (.int p6), .val (.int (Int32.ofNat m6)), .val (.int (Int32.ofNat n7)), .val (.int c8), .val (.int c9), .val (.int c10), .val (.int c11), .val (.int c12), .val (.ref b13), .val (.ref b14), .val (.ref b1001), .val (.ref b1011), .val (.int (0 : Int32))] [(.int (0 : Int32))])) ?_ st1022
    refine GoalH.step (T' := T1022) (g' := (mkF m 208 #[.val (.int p1), .val (.int p2), .val (.int p3), .val (.int p4), .val (.int p5), .val (.int p6), .val (.int (Int32.ofNat m6)), .val (.int (Int32.ofNat n7)), .val (.int c8), .val (.int c9), .val (.int c10), .val (.int c11), .val (.int c12), .val (.ref b13), .val (.ref b14), .val (.ref b1001), .val (.ref b1011), .val (.int (0 : Int32))] [(.int (0 : Int32)), (.int (0 : Int32))])) ?_ (fun t k => XS.iload X1022.here hx rfl (hb hby at_206) rfl k)
    refine GoalH.step (T' := T1022) (g' := (mkF m 211 #[.val (.int p1), .val (.int p2), .val (.int p3), .val (.int p4), .val (.int p5), .val (.int p6), .val (.int (Int32.ofNat m6)), .val (.int (Int32.ofNat n7)), .val (.int c8), .val (.int c9), .val (.int c10), .val (.int c11), .val (.int c12), .val (.ref b13), .val (.ref b14), .val (.ref b1001), .val (.ref b1011), .val (.int (0 : Int32))] [])) ?_ (fun t k => XS.icmpNo X1022.here hx rfl (hb hby at_208) rfl (teq (by decide)).2 k)
    refine GoalH.step (T' := T1022) (g' := (mkF m 212 #[.val (.int p1), .val (.int p2), .val (.int p3), .val (.int p4), .val (.int p5), .val (.int p6), .val (.int (Int32.ofNat m6)), .val (.int (Int32.ofNat n7)), .val (.int c8), .val (.int c9), .val (.int c10), .val (.int c11), .val (.int c12), .val (.ref b13), .val (.ref b14), .val (.ref b1001), .val (.ref b1011), .val (.int (0 : Int32))] [(.int (1 : Int32))])) ?_ (fun t k => XS.iconst X1022.here hx rfl (hb hby at_211) k)
    refine GoalH.step (T' := T1022) (g' := (mkF m 216 #[.val (.int p1), .val (.int p2), .val (.int p3), .val (.int p4), .val (.int p5), .val (.int p6), .val (.int (Int32.ofNat m6)), .val (.int (Int32.ofNat n7)), .val (.int c8), .val (.int c9), .val (.int c10), .val (.int c11), .val (.int c12), .val (.ref b13), .val (.ref b14), .val (.ref b1001), .val (.ref b1011), .val (.int (0 : Int32))] [(.int (1 : Int32))])) ?_ (fun t k => XS.goto X1022.here hx rfl (pc0 := 212) (pc' := 216) rfl (hb hby at_212) (by decide) (by decide) k)
    refine GoalH.retN (t := .boolean) X1022 hS (by rw [e1022]; omega) hZ (own_EW hw) (by rw [e1022]; exact CH1013) hx hret (by simp) (hb hby at_216) ?_
    exact ⟨⟨rfl, N1022⟩, by decide, by decide⟩
  · refine GoalH.step (T' := T1013) (g' := (mkF m 160 #[.val (.int p1), .val (.int p2), .val (.int p3), .val (.int p4), .val (.int p5), .val (.int p6), .val (.int (Int32.ofNat m6)), .val (.int (Int32.ofNat n7)), .val (.int c8), .val (.int c9), .val (.int c10), .val (.int c11), .val (.int c12), .val (.ref b13), .val (.ref b14), .val (.ref b1001), .val (.ref b1011), .unset] [])) ?_ (fun t k => XS.icmpYes X1013.here hx rfl (pc0 := 151) (pc' := 160) rfl (hb hby at_151) rfl (flt c1021).2.1 (by decide) (by decide) k)
    have h7 : m6 ≤ n7 := Nat.le_of_not_lt (fun q => c1021 ((nat_lt (by omega) (by omega)).mpr q))
    refine GoalH.step (T' := T1013) (g' := (mkF m 162 #[.val (.int p1), .val (.int p2), .val (.int p3), .val (.int p4), .val (.int p5), .val (.int p6), .val (.int (Int32.ofNat m6)), .val (.int (Int32.ofNat n7)), .val (.int c8), .val (.int c9), .val (.int c10), .val (.int c11), .val (.int c12), .val (.ref b13), .val (.ref b14), .val (.ref b1001), .val (.ref b1011), .unset] [(.int (Int32.ofNat m6))])) ?_ (fun t k => XS.iload X1013.here hx rfl (hb hby at_160) rfl k)
    refine GoalH.step (T' := T1013) (g' := (mkF m 163 #[.val (.int p1), .val (.int p2), .val (.int p3), .val (.int p4), .val (.int p5), .val (.int p6), .val (.int (Int32.ofNat m6)), .val (.int (Int32.ofNat n7)), .val (.int c8), .val (.int c9), .val (.int c10), .val (.int c11), .val (.int c12), .val (.ref b13), .val (.ref b14), .val (.ref b1001), .val (.ref b1011), .unset] [(.int (1 : Int32)), (.int (Int32.ofNat m6))])) ?_ (fun t k => XS.iconst X1013.here hx rfl (hb hby at_162) k)
    by_cases c1026 : (Int32.ofNat m6) < (1 : Int32)
    · refine GoalH.step (T' := T1013) (g' := (mkF m 176 #[.val (.int p1), .val (.int p2), .val (.int p3), .val (.int p4), .val (.int p5), .val (.int p6), .val (.int (Int32.ofNat m6)), .val (.int (Int32.ofNat n7)), .val (.int c8), .val (.int c9), .val (.int c10), .val (.int c11), .val (.int c12), .val (.ref b13), .val (.ref b14), .val (.ref b1001), .val (.ref b1011), .unset] [])) ?_ (fun t k => XS.icmpYes X1013.here hx rfl (pc0 := 163) (pc' := 176) rfl (hb hby at_163) rfl (tlt c1026).1 (by decide) (by decide) k)
      have h1' : m6 < 1 := (nat_lt (n := 1) (by omega) (by omega)).mp c1026
      refine GoalH.step (T' := T1013) (g' := (mkF m 178 #[.val (.int p1), .val (.int p2), .val (.int p3), .val (.int p4), .val (.int p5), .val (.int p6), .val (.int (Int32.ofNat m6)), .val (.int (Int32.ofNat n7)), .val (.int c8), .val (.int c9), .val (.int c10), .val (.int c11), .val (.int c12), .val (.ref b13), .val (.ref b14), .val (.ref b1001), .val (.ref b1011), .unset] [(.int (Int32.ofNat m6))])) ?_ (fun t k => XS.iload X1013.here hx rfl (hb hby at_176) rfl k)
      refine GoalH.step (T' := T1013) (g' := (mkF m 179 #[.val (.int p1), .val (.int p2), .val (.int p3), .val (.int p4), .val (.int p5), .val (.int p6), .val (.int (Int32.ofNat m6)), .val (.int (Int32.ofNat n7)), .val (.int c8), .val (.int c9), .val (.int c10), .val (.int c11), .val (.int c12), .val (.ref b13), .val (.ref b14), .val (.ref b1001), .val (.ref b1011), .unset] [(.int (2 : Int32)), (.int (Int32.ofNat m6))])) ?_ (fun t k => XS.iconst X1013.here hx rfl (hb hby at_178) k)
      refine GoalH.step (T' := T1013) (g' := (mkF m 192 #[.val (.int p1), .val (.int p2), .val (.int p3), .val (.int p4), .val (.int p5), .val (.int p6), .val (.int (Int32.ofNat m6)), .val (.int (Int32.ofNat n7)), .val (.int c8), .val (.int c9), .val (.int c10), .val (.int c11), .val (.int c12), .val (.ref b13), .val (.ref b14), .val (.ref b1001), .val (.ref b1011), .unset] [])) ?_ (fun t k => XS.icmpYes X1013.here hx rfl (pc0 := 179) (pc' := 192) rfl (hb hby at_179) rfl (tlt (Int32.lt_iff_toInt_lt.mpr (by rw [nat_toInt (by omega)]; show (m6 : Int) < 2; omega))).1 (by decide) (by decide) k)
      refine GoalH.step (T' := T1013) (g' := (mkF m 193 #[.val (.int p1), .val (.int p2), .val (.int p3), .val (.int p4), .val (.int p5), .val (.int p6), .val (.int (Int32.ofNat m6)), .val (.int (Int32.ofNat n7)), .val (.int c8), .val (.int c9), .val (.int c10), .val (.int c11), .val (.int c12), .val (.ref b13), .val (.ref b14), .val (.ref b1001), .val (.ref b1011), .unset] [(.int (1 : Int32))])) ?_ (fun t k => XS.iconst X1013.here hx rfl (hb hby at_192) k)
      refine GoalH.step (T' := T1013) (g' := (mkF m 197 #[.val (.int p1), .val (.int p2), .val (.int p3), .val (.int p4), .val (.int p5), .val (.int p6), .val (.int (Int32.ofNat m6)), .val (.int (Int32.ofNat n7)), .val (.int c8), .val (.int c9), .val (.int c10), .val (.int c11), .val (.int c12), .val (.ref b13), .val (.ref b14), .val (.ref b1001), .val (.ref b1011), .unset] [(.int (1 : Int32))])) ?_ (fun t k => XS.goto X1013.here hx rfl (pc0 := 193) (pc' := 197) rfl (hb hby at_193) (by decide) (by decide) k)
      refine GoalH.step (T' := T1013) (g' := (mkF m 199 #[.val (.int p1), .val (.int p2), .val (.int p3), .val (.int p4), .val (.int p5), .val (.int p6), .val (.int (Int32.ofNat m6)), .val (.int (Int32.ofNat n7)), .val (.int c8), .val (.int c9), .val (.int c10), .val (.int c11), .val (.int c12), .val (.ref b13), .val (.ref b14), .val (.ref b1001), .val (.ref b1011), .val (.int (1 : Int32))] [])) ?_ (fun t k => XS.istore X1013.here hx rfl (hb hby at_197) rfl (l' := #[.val (.int p1), .val (.int p2), .val (.int p3), .val (.int p4), .val (.int p5), .val (.int p6), .val (.int (Int32.ofNat m6)), .val (.int (Int32.ofNat n7)), .val (.int c8), .val (.int c9), .val (.int c10), .val (.int c11), .val (.int c12), .val (.ref b13), .val (.ref b14), .val (.ref b1001), .val (.ref b1011), .val (.int (1 : Int32))]) rfl k)
      refine GoalH.step (T' := T1013) (g' := (mkF m 201 #[.val (.int p1), .val (.int p2), .val (.int p3), .val (.int p4), .val (.int p5), .val (.int p6), .val (.int (Int32.ofNat m6)), .val (.int (Int32.ofNat n7)), .val (.int c8), .val (.int c9), .val (.int c10), .val (.int c11), .val (.int c12), .val (.ref b13), .val (.ref b14), .val (.ref b1001), .val (.ref b1011), .val (.int (1 : Int32))] [(.ref b1001)])) ?_ (fun t k => XS.aload X1013.here hx rfl (hb hby at_199) rfl rfl k)
      refine GoalH.step (T' := T1013) (g' := (mkF m 203 #[.val (.int p1), .val (.int p2), .val (.int p3), .val (.int p4), .val (.int p5), .val (.int p6), .val (.int (Int32.ofNat m6)), .val (.int (Int32.ofNat n7)), .val (.int c8), .val (.int c9), .val (.int c10), .val (.int c11), .val (.int c12), .val (.ref b13), .val (.ref b14), .val (.ref b1001), .val (.ref b1011), .val (.int (1 : Int32))] [(.ref b1011), (.ref b1001)])) ?_ (fun t k => XS.aload X1013.here hx rfl (hb hby at_201) rfl rfl k)
      have f1028 : Old Z n0 h1013 := (f1014.keep K1013 (allS (by omega) all0))
      have kk1029 : Keep h1003 h1013 [] := (((Keep.refl h1003 []).ext E1011).trans K1013 (allS (Or.inr (by omega)) all0))
      have f1030 : Str Z h1013 b1001 n7 (t3 c10 c11 c12) := Z1003.ext (extKp (extRefl _) kk1029 all0)
      have hP : (m6 ≤ n7 ∧ ∀ j, j < m6 → low (t3 c10 c11 c12 j) = pre2 c8 c9 j) := ⟨by omega, fun j hj => absurd hj (by omega)⟩
      obtain ⟨v1027, T1027, h1027, L1027, X1027, e1027, hQ1027, st1027⟩ := callStatic X1013 hx hZ hown (hw _ (List.mem_of_getElem? (i := 31) rfl)) (hw _ (List.mem_of_getElem? (i := 32) rfl)) (hw _ (List.mem_of_getElem? (i := 33) rfl)) (hw _ (List.mem_of_getElem? (i := 34) rfl)) (by decide) (rmSW l Z a0 hw b1001 b1011 n7 m6 (t3 c10 c11 c12) (pre2 c8 c9) cs fm h1013 n0 (by omega) SE f1028 f1030 Z1013) e1013 (W := 0) (by decide) (by decide) (by decide) (by decide) (g := (mkF m 203 #[.val (.int p1), .val (.int p2), .val (.int p3), .val (.int p4), .val (.int p5), .val (.int p6), .val (.int (Int32.ofNat m6)), .val (.int (Int32.ofNat n7)), .val (.int c8), .val (.int c9), .val (.int c10), .val (.int c11), .val (.int c12), .val (.ref b13), .val (.ref b14), .val (.ref b1001), .val (.ref b1011), .val (.int (1 : Int32))] [(.ref b1011), (.ref b1001)])) rfl (by rw [hml]; rfl) (argsL := [(.ref b1001), (.ref b1011)]) (rest := []) (lenOf pd_18 rfl) rfl (by show 2 * 0 + _ ≤ _; exact Nat.le_of_eq rfl) (hb hby at_203) rfl
      obtain ⟨rfl, M1027, q1027⟩ := hQ1027.elim (fun x => x.2) (fun x => absurd hP x.1)
      rw [q1027] at e1027
      have N1027 := Fr.app N1013 M1027
      refine GoalH.step (T' := T1027) (g' := (mkF m 206 #[.val (.int p1), .val (.int p2), .val (.int p3), .val (.int p4), .val (.int p5), .val (.int p6), .val (.int (Int32.ofNat m6)), .val (.int (Int32.ofNat n7)), .val (.int c8), .val (.int c9), .val (.int c10), .val (.int c11), .val (.int c12), .val (.ref b13), .val (.ref b14), .val (.ref b1001), .val (.ref b1011), .val (.int (1 : Int32))] [(.int (1 : Int32))])) ?_ st1027
      refine GoalH.step (T' := T1027) (g' := (mkF m 208 #[.val (.int p1), .val (.int p2), .val (.int p3), .val (.int p4), .val (.int p5), .val (.int p6), .val (.int (Int32.ofNat m6)), .val (.int (Int32.ofNat n7)), .val (.int c8), .val (.int c9), .val (.int c10), .val (.int c11), .val (.int c12), .val (.ref b13), .val (.ref b14), .val (.ref b1001), .val (.ref b1011), .val (.int (1 : Int32))] [(.int (1 : Int32)), (.int (1 : Int32))])) ?_ (fun t k => XS.iload X1027.here hx rfl (hb hby at_206) rfl k)
      refine GoalH.step (T' := T1027) (g' := (mkF m 211 #[.val (.int p1), .val (.int p2), .val (.int p3), .val (.int p4), .val (.int p5), .val (.int p6), .val (.int (Int32.ofNat m6)), .val (.int (Int32.ofNat n7)), .val (.int c8), .val (.int c9), .val (.int c10), .val (.int c11), .val (.int c12), .val (.ref b13), .val (.ref b14), .val (.ref b1001), .val (.ref b1011), .val (.int (1 : Int32))] [])) ?_ (fun t k => XS.icmpNo X1027.here hx rfl (hb hby at_208) rfl (teq (by decide)).2 k)
      refine GoalH.step (T' := T1027) (g' := (mkF m 212 #[.val (.int p1), .val (.int p2), .val (.int p3), .val (.int p4), .val (.int p5), .val (.int p6), .val (.int (Int32.ofNat m6)), .val (.int (Int32.ofNat n7)), .val (.int c8), .val (.int c9), .val (.int c10), .val (.int c11), .val (.int c12), .val (.ref b13), .val (.ref b14), .val (.ref b1001), .val (.ref b1011), .val (.int (1 : Int32))] [(.int (1 : Int32))])) ?_ (fun t k => XS.iconst X1027.here hx rfl (hb hby at_211) k)
      refine GoalH.step (T' := T1027) (g' := (mkF m 216 #[.val (.int p1), .val (.int p2), .val (.int p3), .val (.int p4), .val (.int p5), .val (.int p6), .val (.int (Int32.ofNat m6)), .val (.int (Int32.ofNat n7)), .val (.int c8), .val (.int c9), .val (.int c10), .val (.int c11), .val (.int c12), .val (.ref b13), .val (.ref b14), .val (.ref b1001), .val (.ref b1011), .val (.int (1 : Int32))] [(.int (1 : Int32))])) ?_ (fun t k => XS.goto X1027.here hx rfl (pc0 := 212) (pc' := 216) rfl (hb hby at_212) (by decide) (by decide) k)
      refine GoalH.retN (t := .boolean) X1027 hS (by rw [e1027]; omega) hZ (own_EW hw) (by rw [e1027]; exact CH1013) hx hret (by simp) (hb hby at_216) ?_
      exact ⟨⟨rfl, N1027⟩, by decide, by decide⟩
    · refine GoalH.step (T' := T1013) (g' := (mkF m 166 #[.val (.int p1), .val (.int p2), .val (.int p3), .val (.int p4), .val (.int p5), .val (.int p6), .val (.int (Int32.ofNat m6)), .val (.int (Int32.ofNat n7)), .val (.int c8), .val (.int c9), .val (.int c10), .val (.int c11), .val (.int c12), .val (.ref b13), .val (.ref b14), .val (.ref b1001), .val (.ref b1011), .unset] [])) ?_ (fun t k => XS.icmpNo X1013.here hx rfl (hb hby at_163) rfl (flt c1026).1 k)
      have h1 : 1 ≤ m6 := Nat.le_of_not_lt (fun q => c1026 ((nat_lt (n := 1) (by omega) (by omega)).mpr q))
      refine GoalH.step (T' := T1013) (g' := (mkF m 168 #[.val (.int p1), .val (.int p2), .val (.int p3), .val (.int p4), .val (.int p5), .val (.int p6), .val (.int (Int32.ofNat m6)), .val (.int (Int32.ofNat n7)), .val (.int c8), .val (.int c9), .val (.int c10), .val (.int c11), .val (.int c12), .val (.ref b13), .val (.ref b14), .val (.ref b1001), .val (.ref b1011), .unset] [(.int c10)])) ?_ (fun t k => XS.iload X1013.here hx rfl (hb hby at_166) rfl k)
      refine GoalH.step (T' := T1013) (g' := (mkF m 170 #[.val (.int p1), .val (.int p2), .val (.int p3), .val (.int p4), .val (.int p5), .val (.int p6), .val (.int (Int32.ofNat m6)), .val (.int (Int32.ofNat n7)), .val (.int c8), .val (.int c9), .val (.int c10), .val (.int c11), .val (.int c12), .val (.ref b13), .val (.ref b14), .val (.ref b1001), .val (.ref b1011), .unset] [(.int c8), (.int c10)])) ?_ (fun t k => XS.iload X1013.here hx rfl (hb hby at_168) rfl k)
      by_cases hs0 : low c10 = c8
      · obtain ⟨v1031, T1031, h1031, L1031, X1031, e1031, hQ1031, st1031⟩ := callStatic X1013 hx hZ hown (hw _ (List.mem_of_getElem? (i := 75) rfl)) (hw _ (List.mem_of_getElem? (i := 76) rfl)) (hw _ (List.mem_of_getElem? (i := 3) rfl)) (hw _ (List.mem_of_getElem? (i := 77) rfl)) (by decide) (rmSM l Z a0 hw c10 c8 h1013 n0 (by omega) n8) e1013 (W := 0) (by decide) (by decide) (by decide) (by decide) (g := (mkF m 170 #[.val (.int p1), .val (.int p2), .val (.int p3), .val (.int p4), .val (.int p5), .val (.int p6), .val (.int (Int32.ofNat m6)), .val (.int (Int32.ofNat n7)), .val (.int c8), .val (.int c9), .val (.int c10), .val (.int c11), .val (.int c12), .val (.ref b13), .val (.ref b14), .val (.ref b1001), .val (.ref b1011), .unset] [(.int c8), (.int c10)])) rfl (by rw [hml]; rfl) (argsL := [(.int c10), (.int c8)]) (rest := []) (lenOf pd_19 rfl) rfl (by show 2 * 0 + _ ≤ _; exact Nat.le_of_eq rfl) (hb hby at_170) rfl
        obtain ⟨rfl, M1031, q1031⟩ := hQ1031.elim (fun x => x.2) (fun x => absurd x.1 (fun z => z hs0))
        rw [q1031] at e1031
        have N1031 := Fr.app N1013 M1031
        refine GoalH.step (T' := T1031) (g' := (mkF m 173 #[.val (.int p1), .val (.int p2), .val (.int p3), .val (.int p4), .val (.int p5), .val (.int p6), .val (.int (Int32.ofNat m6)), .val (.int (Int32.ofNat n7)), .val (.int c8), .val (.int c9), .val (.int c10), .val (.int c11), .val (.int c12), .val (.ref b13), .val (.ref b14), .val (.ref b1001), .val (.ref b1011), .unset] [(.int (1 : Int32))])) ?_ st1031
        refine GoalH.step (T' := T1031) (g' := (mkF m 176 #[.val (.int p1), .val (.int p2), .val (.int p3), .val (.int p4), .val (.int p5), .val (.int p6), .val (.int (Int32.ofNat m6)), .val (.int (Int32.ofNat n7)), .val (.int c8), .val (.int c9), .val (.int c10), .val (.int c11), .val (.int c12), .val (.ref b13), .val (.ref b14), .val (.ref b1001), .val (.ref b1011), .unset] [])) ?_ (fun t k => XS.ifNo X1031.here hx rfl (hb hby at_173) rfl ((if0 _ _).trans (feq (by decide)).1) k)
        have h1' : 1 ≤ m6 := Nat.le_of_not_lt (fun q => c1026 ((nat_lt (n := 1) (by omega) (by omega)).mpr q))
        refine GoalH.step (T' := T1031) (g' := (mkF m 178 #[.val (.int p1), .val (.int p2), .val (.int p3), .val (.int p4), .val (.int p5), .val (.int p6), .val (.int (Int32.ofNat m6)), .val (.int (Int32.ofNat n7)), .val (.int c8), .val (.int c9), .val (.int c10), .val (.int c11), .val (.int c12), .val (.ref b13), .val (.ref b14), .val (.ref b1001), .val (.ref b1011), .unset] [(.int (Int32.ofNat m6))])) ?_ (fun t k => XS.iload X1031.here hx rfl (hb hby at_176) rfl k)
        refine GoalH.step (T' := T1031) (g' := (mkF m 179 #[.val (.int p1), .val (.int p2), .val (.int p3), .val (.int p4), .val (.int p5), .val (.int p6), .val (.int (Int32.ofNat m6)), .val (.int (Int32.ofNat n7)), .val (.int c8), .val (.int c9), .val (.int c10), .val (.int c11), .val (.int c12), .val (.ref b13), .val (.ref b14), .val (.ref b1001), .val (.ref b1011), .unset] [(.int (2 : Int32)), (.int (Int32.ofNat m6))])) ?_ (fun t k => XS.iconst X1031.here hx rfl (hb hby at_178) k)
        by_cases c1032 : (Int32.ofNat m6) < (2 : Int32)
        · refine GoalH.step (T' := T1031) (g' := (mkF m 192 #[.val (.int p1), .val (.int p2), .val (.int p3), .val (.int p4), .val (.int p5), .val (.int p6), .val (.int (Int32.ofNat m6)), .val (.int (Int32.ofNat n7)), .val (.int c8), .val (.int c9), .val (.int c10), .val (.int c11), .val (.int c12), .val (.ref b13), .val (.ref b14), .val (.ref b1001), .val (.ref b1011), .unset] [])) ?_ (fun t k => XS.icmpYes X1031.here hx rfl (pc0 := 179) (pc' := 192) rfl (hb hby at_179) rfl (tlt c1032).1 (by decide) (by decide) k)
          have h2' : m6 < 2 := (nat_lt (n := 2) (by omega) (by omega)).mp c1032
          refine GoalH.step (T' := T1031) (g' := (mkF m 193 #[.val (.int p1), .val (.int p2), .val (.int p3), .val (.int p4), .val (.int p5), .val (.int p6), .val (.int (Int32.ofNat m6)), .val (.int (Int32.ofNat n7)), .val (.int c8), .val (.int c9), .val (.int c10), .val (.int c11), .val (.int c12), .val (.ref b13), .val (.ref b14), .val (.ref b1001), .val (.ref b1011), .unset] [(.int (1 : Int32))])) ?_ (fun t k => XS.iconst X1031.here hx rfl (hb hby at_192) k)
          refine GoalH.step (T' := T1031) (g' := (mkF m 197 #[.val (.int p1), .val (.int p2), .val (.int p3), .val (.int p4), .val (.int p5), .val (.int p6), .val (.int (Int32.ofNat m6)), .val (.int (Int32.ofNat n7)), .val (.int c8), .val (.int c9), .val (.int c10), .val (.int c11), .val (.int c12), .val (.ref b13), .val (.ref b14), .val (.ref b1001), .val (.ref b1011), .unset] [(.int (1 : Int32))])) ?_ (fun t k => XS.goto X1031.here hx rfl (pc0 := 193) (pc' := 197) rfl (hb hby at_193) (by decide) (by decide) k)
          refine GoalH.step (T' := T1031) (g' := (mkF m 199 #[.val (.int p1), .val (.int p2), .val (.int p3), .val (.int p4), .val (.int p5), .val (.int p6), .val (.int (Int32.ofNat m6)), .val (.int (Int32.ofNat n7)), .val (.int c8), .val (.int c9), .val (.int c10), .val (.int c11), .val (.int c12), .val (.ref b13), .val (.ref b14), .val (.ref b1001), .val (.ref b1011), .val (.int (1 : Int32))] [])) ?_ (fun t k => XS.istore X1031.here hx rfl (hb hby at_197) rfl (l' := #[.val (.int p1), .val (.int p2), .val (.int p3), .val (.int p4), .val (.int p5), .val (.int p6), .val (.int (Int32.ofNat m6)), .val (.int (Int32.ofNat n7)), .val (.int c8), .val (.int c9), .val (.int c10), .val (.int c11), .val (.int c12), .val (.ref b13), .val (.ref b14), .val (.ref b1001), .val (.ref b1011), .val (.int (1 : Int32))]) rfl k)
          refine GoalH.step (T' := T1031) (g' := (mkF m 201 #[.val (.int p1), .val (.int p2), .val (.int p3), .val (.int p4), .val (.int p5), .val (.int p6), .val (.int (Int32.ofNat m6)), .val (.int (Int32.ofNat n7)), .val (.int c8), .val (.int c9), .val (.int c10), .val (.int c11), .val (.int c12), .val (.ref b13), .val (.ref b14), .val (.ref b1001), .val (.ref b1011), .val (.int (1 : Int32))] [(.ref b1001)])) ?_ (fun t k => XS.aload X1031.here hx rfl (hb hby at_199) rfl rfl k)
          refine GoalH.step (T' := T1031) (g' := (mkF m 203 #[.val (.int p1), .val (.int p2), .val (.int p3), .val (.int p4), .val (.int p5), .val (.int p6), .val (.int (Int32.ofNat m6)), .val (.int (Int32.ofNat n7)), .val (.int c8), .val (.int c9), .val (.int c10), .val (.int c11), .val (.int c12), .val (.ref b13), .val (.ref b14), .val (.ref b1001), .val (.ref b1011), .val (.int (1 : Int32))] [(.ref b1011), (.ref b1001)])) ?_ (fun t k => XS.aload X1031.here hx rfl (hb hby at_201) rfl rfl k)
          have f1034 : Old Z n0 h1013 := (f1014.keep K1013 (allS (by omega) all0))
          have kk1035 : Keep h1003 h1013 [] := (((Keep.refl h1003 []).ext E1011).trans K1013 (allS (Or.inr (by omega)) all0))
          have f1036 : Str Z h1013 b1001 n7 (t3 c10 c11 c12) := Z1003.ext (extKp (extRefl _) kk1035 all0)
          have hP : (m6 ≤ n7 ∧ ∀ j, j < m6 → low (t3 c10 c11 c12 j) = pre2 c8 c9 j) := ⟨by omega, fun j hj => by obtain rfl : j = 0 := (by omega); exact hs0⟩
          obtain ⟨v1033, T1033, h1033, L1033, X1033, e1033, hQ1033, st1033⟩ := callStatic X1031 hx hZ hown (hw _ (List.mem_of_getElem? (i := 31) rfl)) (hw _ (List.mem_of_getElem? (i := 32) rfl)) (hw _ (List.mem_of_getElem? (i := 33) rfl)) (hw _ (List.mem_of_getElem? (i := 34) rfl)) (by decide) (rmSW l Z a0 hw b1001 b1011 n7 m6 (t3 c10 c11 c12) (pre2 c8 c9) cs fm h1013 n0 (by omega) SE f1034 f1036 Z1013) e1031 (W := 0) (by decide) (by decide) (by decide) (by decide) (g := (mkF m 203 #[.val (.int p1), .val (.int p2), .val (.int p3), .val (.int p4), .val (.int p5), .val (.int p6), .val (.int (Int32.ofNat m6)), .val (.int (Int32.ofNat n7)), .val (.int c8), .val (.int c9), .val (.int c10), .val (.int c11), .val (.int c12), .val (.ref b13), .val (.ref b14), .val (.ref b1001), .val (.ref b1011), .val (.int (1 : Int32))] [(.ref b1011), (.ref b1001)])) rfl (by rw [hml]; rfl) (argsL := [(.ref b1001), (.ref b1011)]) (rest := []) (lenOf pd_18 rfl) rfl (by show 2 * 0 + _ ≤ _; exact Nat.le_of_eq rfl) (hb hby at_203) rfl
          obtain ⟨rfl, M1033, q1033⟩ := hQ1033.elim (fun x => x.2) (fun x => absurd hP x.1)
          rw [q1033] at e1033
          have N1033 := Fr.app N1031 M1033
          refine GoalH.step (T' := T1033) (g' := (mkF m 206 #[.val (.int p1), .val (.int p2), .val (.int p3), .val (.int p4), .val (.int p5), .val (.int p6), .val (.int (Int32.ofNat m6)), .val (.int (Int32.ofNat n7)), .val (.int c8), .val (.int c9), .val (.int c10), .val (.int c11), .val (.int c12), .val (.ref b13), .val (.ref b14), .val (.ref b1001), .val (.ref b1011), .val (.int (1 : Int32))] [(.int (1 : Int32))])) ?_ st1033
          refine GoalH.step (T' := T1033) (g' := (mkF m 208 #[.val (.int p1), .val (.int p2), .val (.int p3), .val (.int p4), .val (.int p5), .val (.int p6), .val (.int (Int32.ofNat m6)), .val (.int (Int32.ofNat n7)), .val (.int c8), .val (.int c9), .val (.int c10), .val (.int c11), .val (.int c12), .val (.ref b13), .val (.ref b14), .val (.ref b1001), .val (.ref b1011), .val (.int (1 : Int32))] [(.int (1 : Int32)), (.int (1 : Int32))])) ?_ (fun t k => XS.iload X1033.here hx rfl (hb hby at_206) rfl k)
          refine GoalH.step (T' := T1033) (g' := (mkF m 211 #[.val (.int p1), .val (.int p2), .val (.int p3), .val (.int p4), .val (.int p5), .val (.int p6), .val (.int (Int32.ofNat m6)), .val (.int (Int32.ofNat n7)), .val (.int c8), .val (.int c9), .val (.int c10), .val (.int c11), .val (.int c12), .val (.ref b13), .val (.ref b14), .val (.ref b1001), .val (.ref b1011), .val (.int (1 : Int32))] [])) ?_ (fun t k => XS.icmpNo X1033.here hx rfl (hb hby at_208) rfl (teq (by decide)).2 k)
          refine GoalH.step (T' := T1033) (g' := (mkF m 212 #[.val (.int p1), .val (.int p2), .val (.int p3), .val (.int p4), .val (.int p5), .val (.int p6), .val (.int (Int32.ofNat m6)), .val (.int (Int32.ofNat n7)), .val (.int c8), .val (.int c9), .val (.int c10), .val (.int c11), .val (.int c12), .val (.ref b13), .val (.ref b14), .val (.ref b1001), .val (.ref b1011), .val (.int (1 : Int32))] [(.int (1 : Int32))])) ?_ (fun t k => XS.iconst X1033.here hx rfl (hb hby at_211) k)
          refine GoalH.step (T' := T1033) (g' := (mkF m 216 #[.val (.int p1), .val (.int p2), .val (.int p3), .val (.int p4), .val (.int p5), .val (.int p6), .val (.int (Int32.ofNat m6)), .val (.int (Int32.ofNat n7)), .val (.int c8), .val (.int c9), .val (.int c10), .val (.int c11), .val (.int c12), .val (.ref b13), .val (.ref b14), .val (.ref b1001), .val (.ref b1011), .val (.int (1 : Int32))] [(.int (1 : Int32))])) ?_ (fun t k => XS.goto X1033.here hx rfl (pc0 := 212) (pc' := 216) rfl (hb hby at_212) (by decide) (by decide) k)
          refine GoalH.retN (t := .boolean) X1033 hS (by rw [e1033]; omega) hZ (own_EW hw) (by rw [e1033]; exact CH1013) hx hret (by simp) (hb hby at_216) ?_
          exact ⟨⟨rfl, N1033⟩, by decide, by decide⟩
        · refine GoalH.step (T' := T1031) (g' := (mkF m 182 #[.val (.int p1), .val (.int p2), .val (.int p3), .val (.int p4), .val (.int p5), .val (.int p6), .val (.int (Int32.ofNat m6)), .val (.int (Int32.ofNat n7)), .val (.int c8), .val (.int c9), .val (.int c10), .val (.int c11), .val (.int c12), .val (.ref b13), .val (.ref b14), .val (.ref b1001), .val (.ref b1011), .unset] [])) ?_ (fun t k => XS.icmpNo X1031.here hx rfl (hb hby at_179) rfl (flt c1032).1 k)
          have h2 : 2 ≤ m6 := Nat.le_of_not_lt (fun q => c1032 ((nat_lt (n := 2) (by omega) (by omega)).mpr q))
          refine GoalH.step (T' := T1031) (g' := (mkF m 184 #[.val (.int p1), .val (.int p2), .val (.int p3), .val (.int p4), .val (.int p5), .val (.int p6), .val (.int (Int32.ofNat m6)), .val (.int (Int32.ofNat n7)), .val (.int c8), .val (.int c9), .val (.int c10), .val (.int c11), .val (.int c12), .val (.ref b13), .val (.ref b14), .val (.ref b1001), .val (.ref b1011), .unset] [(.int c11)])) ?_ (fun t k => XS.iload X1031.here hx rfl (hb hby at_182) rfl k)
          refine GoalH.step (T' := T1031) (g' := (mkF m 186 #[.val (.int p1), .val (.int p2), .val (.int p3), .val (.int p4), .val (.int p5), .val (.int p6), .val (.int (Int32.ofNat m6)), .val (.int (Int32.ofNat n7)), .val (.int c8), .val (.int c9), .val (.int c10), .val (.int c11), .val (.int c12), .val (.ref b13), .val (.ref b14), .val (.ref b1001), .val (.ref b1011), .unset] [(.int c9), (.int c11)])) ?_ (fun t k => XS.iload X1031.here hx rfl (hb hby at_184) rfl k)
          by_cases hs1 : low c11 = c9
          · obtain ⟨v1037, T1037, h1037, L1037, X1037, e1037, hQ1037, st1037⟩ := callStatic X1031 hx hZ hown (hw _ (List.mem_of_getElem? (i := 75) rfl)) (hw _ (List.mem_of_getElem? (i := 76) rfl)) (hw _ (List.mem_of_getElem? (i := 3) rfl)) (hw _ (List.mem_of_getElem? (i := 77) rfl)) (by decide) (rmSM l Z a0 hw c11 c9 h1013 n0 (by omega) n9) e1031 (W := 0) (by decide) (by decide) (by decide) (by decide) (g := (mkF m 186 #[.val (.int p1), .val (.int p2), .val (.int p3), .val (.int p4), .val (.int p5), .val (.int p6), .val (.int (Int32.ofNat m6)), .val (.int (Int32.ofNat n7)), .val (.int c8), .val (.int c9), .val (.int c10), .val (.int c11), .val (.int c12), .val (.ref b13), .val (.ref b14), .val (.ref b1001), .val (.ref b1011), .unset] [(.int c9), (.int c11)])) rfl (by rw [hml]; rfl) (argsL := [(.int c11), (.int c9)]) (rest := []) (lenOf pd_19 rfl) rfl (by show 2 * 0 + _ ≤ _; exact Nat.le_of_eq rfl) (hb hby at_186) rfl
            obtain ⟨rfl, M1037, q1037⟩ := hQ1037.elim (fun x => x.2) (fun x => absurd x.1 (fun z => z hs1))
            rw [q1037] at e1037
            have N1037 := Fr.app N1031 M1037
            refine GoalH.step (T' := T1037) (g' := (mkF m 189 #[.val (.int p1), .val (.int p2), .val (.int p3), .val (.int p4), .val (.int p5), .val (.int p6), .val (.int (Int32.ofNat m6)), .val (.int (Int32.ofNat n7)), .val (.int c8), .val (.int c9), .val (.int c10), .val (.int c11), .val (.int c12), .val (.ref b13), .val (.ref b14), .val (.ref b1001), .val (.ref b1011), .unset] [(.int (1 : Int32))])) ?_ st1037
            refine GoalH.step (T' := T1037) (g' := (mkF m 192 #[.val (.int p1), .val (.int p2), .val (.int p3), .val (.int p4), .val (.int p5), .val (.int p6), .val (.int (Int32.ofNat m6)), .val (.int (Int32.ofNat n7)), .val (.int c8), .val (.int c9), .val (.int c10), .val (.int c11), .val (.int c12), .val (.ref b13), .val (.ref b14), .val (.ref b1001), .val (.ref b1011), .unset] [])) ?_ (fun t k => XS.ifNo X1037.here hx rfl (hb hby at_189) rfl ((if0 _ _).trans (feq (by decide)).1) k)
            have h2' : 2 ≤ m6 := Nat.le_of_not_lt (fun q => c1032 ((nat_lt (n := 2) (by omega) (by omega)).mpr q))
            refine GoalH.step (T' := T1037) (g' := (mkF m 193 #[.val (.int p1), .val (.int p2), .val (.int p3), .val (.int p4), .val (.int p5), .val (.int p6), .val (.int (Int32.ofNat m6)), .val (.int (Int32.ofNat n7)), .val (.int c8), .val (.int c9), .val (.int c10), .val (.int c11), .val (.int c12), .val (.ref b13), .val (.ref b14), .val (.ref b1001), .val (.ref b1011), .unset] [(.int (1 : Int32))])) ?_ (fun t k => XS.iconst X1037.here hx rfl (hb hby at_192) k)
            refine GoalH.step (T' := T1037) (g' := (mkF m 197 #[.val (.int p1), .val (.int p2), .val (.int p3), .val (.int p4), .val (.int p5), .val (.int p6), .val (.int (Int32.ofNat m6)), .val (.int (Int32.ofNat n7)), .val (.int c8), .val (.int c9), .val (.int c10), .val (.int c11), .val (.int c12), .val (.ref b13), .val (.ref b14), .val (.ref b1001), .val (.ref b1011), .unset] [(.int (1 : Int32))])) ?_ (fun t k => XS.goto X1037.here hx rfl (pc0 := 193) (pc' := 197) rfl (hb hby at_193) (by decide) (by decide) k)
            refine GoalH.step (T' := T1037) (g' := (mkF m 199 #[.val (.int p1), .val (.int p2), .val (.int p3), .val (.int p4), .val (.int p5), .val (.int p6), .val (.int (Int32.ofNat m6)), .val (.int (Int32.ofNat n7)), .val (.int c8), .val (.int c9), .val (.int c10), .val (.int c11), .val (.int c12), .val (.ref b13), .val (.ref b14), .val (.ref b1001), .val (.ref b1011), .val (.int (1 : Int32))] [])) ?_ (fun t k => XS.istore X1037.here hx rfl (hb hby at_197) rfl (l' := #[.val (.int p1), .val (.int p2), .val (.int p3), .val (.int p4), .val (.int p5), .val (.int p6), .val (.int (Int32.ofNat m6)), .val (.int (Int32.ofNat n7)), .val (.int c8), .val (.int c9), .val (.int c10), .val (.int c11), .val (.int c12), .val (.ref b13), .val (.ref b14), .val (.ref b1001), .val (.ref b1011), .val (.int (1 : Int32))]) rfl k)
            refine GoalH.step (T' := T1037) (g' := (mkF m 201 #[.val (.int p1), .val (.int p2), .val (.int p3), .val (.int p4), .val (.int p5), .val (.int p6), .val (.int (Int32.ofNat m6)), .val (.int (Int32.ofNat n7)), .val (.int c8), .val (.int c9), .val (.int c10), .val (.int c11), .val (.int c12), .val (.ref b13), .val (.ref b14), .val (.ref b1001), .val (.ref b1011), .val (.int (1 : Int32))] [(.ref b1001)])) ?_ (fun t k => XS.aload X1037.here hx rfl (hb hby at_199) rfl rfl k)
            refine GoalH.step (T' := T1037) (g' := (mkF m 203 #[.val (.int p1), .val (.int p2), .val (.int p3), .val (.int p4), .val (.int p5), .val (.int p6), .val (.int (Int32.ofNat m6)), .val (.int (Int32.ofNat n7)), .val (.int c8), .val (.int c9), .val (.int c10), .val (.int c11), .val (.int c12), .val (.ref b13), .val (.ref b14), .val (.ref b1001), .val (.ref b1011), .val (.int (1 : Int32))] [(.ref b1011), (.ref b1001)])) ?_ (fun t k => XS.aload X1037.here hx rfl (hb hby at_201) rfl rfl k)
            have f1039 : Old Z n0 h1013 := (f1014.keep K1013 (allS (by omega) all0))
            have kk1040 : Keep h1003 h1013 [] := (((Keep.refl h1003 []).ext E1011).trans K1013 (allS (Or.inr (by omega)) all0))
            have f1041 : Str Z h1013 b1001 n7 (t3 c10 c11 c12) := Z1003.ext (extKp (extRefl _) kk1040 all0)
            have hP : (m6 ≤ n7 ∧ ∀ j, j < m6 → low (t3 c10 c11 c12 j) = pre2 c8 c9 j) := ⟨by omega, fun j hj => own_step (P := fun j => low (t3 c10 c11 c12 j) = pre2 c8 c9 j) (i := 1) (own_step (i := 0) (fun j hj => absurd hj (Nat.not_lt_zero _)) hs0) hs1 j (by omega)⟩
            obtain ⟨v1038, T1038, h1038, L1038, X1038, e1038, hQ1038, st1038⟩ := callStatic X1037 hx hZ hown (hw _ (List.mem_of_getElem? (i := 31) rfl)) (hw _ (List.mem_of_getElem? (i := 32) rfl)) (hw _ (List.mem_of_getElem? (i := 33) rfl)) (hw _ (List.mem_of_getElem? (i := 34) rfl)) (by decide) (rmSW l Z a0 hw b1001 b1011 n7 m6 (t3 c10 c11 c12) (pre2 c8 c9) cs fm h1013 n0 (by omega) SE f1039 f1041 Z1013) e1037 (W := 0) (by decide) (by decide) (by decide) (by decide) (g := (mkF m 203 #[.val (.int p1), .val (.int p2), .val (.int p3), .val (.int p4), .val (.int p5), .val (.int p6), .val (.int (Int32.ofNat m6)), .val (.int (Int32.ofNat n7)), .val (.int c8), .val (.int c9), .val (.int c10), .val (.int c11), .val (.int c12), .val (.ref b13), .val (.ref b14), .val (.ref b1001), .val (.ref b1011), .val (.int (1 : Int32))] [(.ref b1011), (.ref b1001)])) rfl (by rw [hml]; rfl) (argsL := [(.ref b1001), (.ref b1011)]) (rest := []) (lenOf pd_18 rfl) rfl (by show 2 * 0 + _ ≤ _; exact Nat.le_of_eq rfl) (hb hby at_203) rfl
            obtain ⟨rfl, M1038, q1038⟩ := hQ1038.elim (fun x => x.2) (fun x => absurd hP x.1)
            rw [q1038] at e1038
            have N1038 := Fr.app N1037 M1038
            refine GoalH.step (T' := T1038) (g' := (mkF m 206 #[.val (.int p1), .val (.int p2), .val (.int p3), .val (.int p4), .val (.int p5), .val (.int p6), .val (.int (Int32.ofNat m6)), .val (.int (Int32.ofNat n7)), .val (.int c8), .val (.int c9), .val (.int c10), .val (.int c11), .val (.int c12), .val (.ref b13), .val (.ref b14), .val (.ref b1001), .val (.ref b1011), .val (.int (1 : Int32))] [(.int (1 : Int32))])) ?_ st1038
            refine GoalH.step (T' := T1038) (g' := (mkF m 208 #[.val (.int p1), .val (.int p2), .val (.int p3), .val (.int p4), .val (.int p5), .val (.int p6), .val (.int (Int32.ofNat m6)), .val (.int (Int32.ofNat n7)), .val (.int c8), .val (.int c9), .val (.int c10), .val (.int c11), .val (.int c12), .val (.ref b13), .val (.ref b14), .val (.ref b1001), .val (.ref b1011), .val (.int (1 : Int32))] [(.int (1 : Int32)), (.int (1 : Int32))])) ?_ (fun t k => XS.iload X1038.here hx rfl (hb hby at_206) rfl k)
            refine GoalH.step (T' := T1038) (g' := (mkF m 211 #[.val (.int p1), .val (.int p2), .val (.int p3), .val (.int p4), .val (.int p5), .val (.int p6), .val (.int (Int32.ofNat m6)), .val (.int (Int32.ofNat n7)), .val (.int c8), .val (.int c9), .val (.int c10), .val (.int c11), .val (.int c12), .val (.ref b13), .val (.ref b14), .val (.ref b1001), .val (.ref b1011), .val (.int (1 : Int32))] [])) ?_ (fun t k => XS.icmpNo X1038.here hx rfl (hb hby at_208) rfl (teq (by decide)).2 k)
            refine GoalH.step (T' := T1038) (g' := (mkF m 212 #[.val (.int p1), .val (.int p2), .val (.int p3), .val (.int p4), .val (.int p5), .val (.int p6), .val (.int (Int32.ofNat m6)), .val (.int (Int32.ofNat n7)), .val (.int c8), .val (.int c9), .val (.int c10), .val (.int c11), .val (.int c12), .val (.ref b13), .val (.ref b14), .val (.ref b1001), .val (.ref b1011), .val (.int (1 : Int32))] [(.int (1 : Int32))])) ?_ (fun t k => XS.iconst X1038.here hx rfl (hb hby at_211) k)
            refine GoalH.step (T' := T1038) (g' := (mkF m 216 #[.val (.int p1), .val (.int p2), .val (.int p3), .val (.int p4), .val (.int p5), .val (.int p6), .val (.int (Int32.ofNat m6)), .val (.int (Int32.ofNat n7)), .val (.int c8), .val (.int c9), .val (.int c10), .val (.int c11), .val (.int c12), .val (.ref b13), .val (.ref b14), .val (.ref b1001), .val (.ref b1011), .val (.int (1 : Int32))] [(.int (1 : Int32))])) ?_ (fun t k => XS.goto X1038.here hx rfl (pc0 := 212) (pc' := 216) rfl (hb hby at_212) (by decide) (by decide) k)
            refine GoalH.retN (t := .boolean) X1038 hS (by rw [e1038]; omega) hZ (own_EW hw) (by rw [e1038]; exact CH1013) hx hret (by simp) (hb hby at_216) ?_
            exact ⟨⟨rfl, N1038⟩, by decide, by decide⟩
          · obtain ⟨v1042, T1042, h1042, L1042, X1042, e1042, hQ1042, st1042⟩ := callStatic X1031 hx hZ hown (hw _ (List.mem_of_getElem? (i := 75) rfl)) (hw _ (List.mem_of_getElem? (i := 76) rfl)) (hw _ (List.mem_of_getElem? (i := 3) rfl)) (hw _ (List.mem_of_getElem? (i := 77) rfl)) (by decide) (rmSM l Z a0 hw c11 c9 h1013 n0 (by omega) n9) e1031 (W := 0) (by decide) (by decide) (by decide) (by decide) (g := (mkF m 186 #[.val (.int p1), .val (.int p2), .val (.int p3), .val (.int p4), .val (.int p5), .val (.int p6), .val (.int (Int32.ofNat m6)), .val (.int (Int32.ofNat n7)), .val (.int c8), .val (.int c9), .val (.int c10), .val (.int c11), .val (.int c12), .val (.ref b13), .val (.ref b14), .val (.ref b1001), .val (.ref b1011), .unset] [(.int c9), (.int c11)])) rfl (by rw [hml]; rfl) (argsL := [(.int c11), (.int c9)]) (rest := []) (lenOf pd_19 rfl) rfl (by show 2 * 0 + _ ≤ _; exact Nat.le_of_eq rfl) (hb hby at_186) rfl
            obtain ⟨rfl, M1042, q1042⟩ := hQ1042.elim (fun x => absurd x.1 hs1) (fun x => x.2)
            rw [q1042] at e1042
            have N1042 := Fr.app N1031 M1042
            refine GoalH.step (T' := T1042) (g' := (mkF m 189 #[.val (.int p1), .val (.int p2), .val (.int p3), .val (.int p4), .val (.int p5), .val (.int p6), .val (.int (Int32.ofNat m6)), .val (.int (Int32.ofNat n7)), .val (.int c8), .val (.int c9), .val (.int c10), .val (.int c11), .val (.int c12), .val (.ref b13), .val (.ref b14), .val (.ref b1001), .val (.ref b1011), .unset] [(.int (0 : Int32))])) ?_ st1042
            refine GoalH.step (T' := T1042) (g' := (mkF m 196 #[.val (.int p1), .val (.int p2), .val (.int p3), .val (.int p4), .val (.int p5), .val (.int p6), .val (.int (Int32.ofNat m6)), .val (.int (Int32.ofNat n7)), .val (.int c8), .val (.int c9), .val (.int c10), .val (.int c11), .val (.int c12), .val (.ref b13), .val (.ref b14), .val (.ref b1001), .val (.ref b1011), .unset] [])) ?_ (fun t k => XS.ifYes X1042.here hx rfl (pc0 := 189) (pc' := 196) rfl (hb hby at_189) rfl ((if0 _ _).trans (teq (by decide)).1) (by decide) (by decide) k)
            refine GoalH.step (T' := T1042) (g' := (mkF m 197 #[.val (.int p1), .val (.int p2), .val (.int p3), .val (.int p4), .val (.int p5), .val (.int p6), .val (.int (Int32.ofNat m6)), .val (.int (Int32.ofNat n7)), .val (.int c8), .val (.int c9), .val (.int c10), .val (.int c11), .val (.int c12), .val (.ref b13), .val (.ref b14), .val (.ref b1001), .val (.ref b1011), .unset] [(.int (0 : Int32))])) ?_ (fun t k => XS.iconst X1042.here hx rfl (hb hby at_196) k)
            refine GoalH.step (T' := T1042) (g' := (mkF m 199 #[.val (.int p1), .val (.int p2), .val (.int p3), .val (.int p4), .val (.int p5), .val (.int p6), .val (.int (Int32.ofNat m6)), .val (.int (Int32.ofNat n7)), .val (.int c8), .val (.int c9), .val (.int c10), .val (.int c11), .val (.int c12), .val (.ref b13), .val (.ref b14), .val (.ref b1001), .val (.ref b1011), .val (.int (0 : Int32))] [])) ?_ (fun t k => XS.istore X1042.here hx rfl (hb hby at_197) rfl (l' := #[.val (.int p1), .val (.int p2), .val (.int p3), .val (.int p4), .val (.int p5), .val (.int p6), .val (.int (Int32.ofNat m6)), .val (.int (Int32.ofNat n7)), .val (.int c8), .val (.int c9), .val (.int c10), .val (.int c11), .val (.int c12), .val (.ref b13), .val (.ref b14), .val (.ref b1001), .val (.ref b1011), .val (.int (0 : Int32))]) rfl k)
            refine GoalH.step (T' := T1042) (g' := (mkF m 201 #[.val (.int p1), .val (.int p2), .val (.int p3), .val (.int p4), .val (.int p5), .val (.int p6), .val (.int (Int32.ofNat m6)), .val (.int (Int32.ofNat n7)), .val (.int c8), .val (.int c9), .val (.int c10), .val (.int c11), .val (.int c12), .val (.ref b13), .val (.ref b14), .val (.ref b1001), .val (.ref b1011), .val (.int (0 : Int32))] [(.ref b1001)])) ?_ (fun t k => XS.aload X1042.here hx rfl (hb hby at_199) rfl rfl k)
            refine GoalH.step (T' := T1042) (g' := (mkF m 203 #[.val (.int p1), .val (.int p2), .val (.int p3), .val (.int p4), .val (.int p5), .val (.int p6), .val (.int (Int32.ofNat m6)), .val (.int (Int32.ofNat n7)), .val (.int c8), .val (.int c9), .val (.int c10), .val (.int c11), .val (.int c12), .val (.ref b13), .val (.ref b14), .val (.ref b1001), .val (.ref b1011), .val (.int (0 : Int32))] [(.ref b1011), (.ref b1001)])) ?_ (fun t k => XS.aload X1042.here hx rfl (hb hby at_201) rfl rfl k)
            have f1044 : Old Z n0 h1013 := (f1014.keep K1013 (allS (by omega) all0))
            have kk1045 : Keep h1003 h1013 [] := (((Keep.refl h1003 []).ext E1011).trans K1013 (allS (Or.inr (by omega)) all0))
            have f1046 : Str Z h1013 b1001 n7 (t3 c10 c11 c12) := Z1003.ext (extKp (extRefl _) kk1045 all0)
            have hP : ¬ (m6 ≤ n7 ∧ ∀ j, j < m6 → low (t3 c10 c11 c12 j) = pre2 c8 c9 j) := fun q => hs1 (q.2 1 (by omega))
            obtain ⟨v1043, T1043, h1043, L1043, X1043, e1043, hQ1043, st1043⟩ := callStatic X1042 hx hZ hown (hw _ (List.mem_of_getElem? (i := 31) rfl)) (hw _ (List.mem_of_getElem? (i := 32) rfl)) (hw _ (List.mem_of_getElem? (i := 33) rfl)) (hw _ (List.mem_of_getElem? (i := 34) rfl)) (by decide) (rmSW l Z a0 hw b1001 b1011 n7 m6 (t3 c10 c11 c12) (pre2 c8 c9) cs fm h1013 n0 (by omega) SE f1044 f1046 Z1013) e1042 (W := 0) (by decide) (by decide) (by decide) (by decide) (g := (mkF m 203 #[.val (.int p1), .val (.int p2), .val (.int p3), .val (.int p4), .val (.int p5), .val (.int p6), .val (.int (Int32.ofNat m6)), .val (.int (Int32.ofNat n7)), .val (.int c8), .val (.int c9), .val (.int c10), .val (.int c11), .val (.int c12), .val (.ref b13), .val (.ref b14), .val (.ref b1001), .val (.ref b1011), .val (.int (0 : Int32))] [(.ref b1011), (.ref b1001)])) rfl (by rw [hml]; rfl) (argsL := [(.ref b1001), (.ref b1011)]) (rest := []) (lenOf pd_18 rfl) rfl (by show 2 * 0 + _ ≤ _; exact Nat.le_of_eq rfl) (hb hby at_203) rfl
            obtain ⟨rfl, M1043, q1043⟩ := hQ1043.elim (fun x => absurd x.1 hP) (fun x => x.2)
            rw [q1043] at e1043
            have N1043 := Fr.app N1042 M1043
            refine GoalH.step (T' := T1043) (g' := (mkF m 206 #[.val (.int p1), .val (.int p2), .val (.int p3), .val (.int p4), .val (.int p5), .val (.int p6), .val (.int (Int32.ofNat m6)), .val (.int (Int32.ofNat n7)), .val (.int c8), .val (.int c9), .val (.int c10), .val (.int c11), .val (.int c12), .val (.ref b13), .val (.ref b14), .val (.ref b1001), .val (.ref b1011), .val (.int (0 : Int32))] [(.int (0 : Int32))])) ?_ st1043
            refine GoalH.step (T' := T1043) (g' := (mkF m 208 #[.val (.int p1), .val (.int p2), .val (.int p3), .val (.int p4), .val (.int p5), .val (.int p6), .val (.int (Int32.ofNat m6)), .val (.int (Int32.ofNat n7)), .val (.int c8), .val (.int c9), .val (.int c10), .val (.int c11), .val (.int c12), .val (.ref b13), .val (.ref b14), .val (.ref b1001), .val (.ref b1011), .val (.int (0 : Int32))] [(.int (0 : Int32)), (.int (0 : Int32))])) ?_ (fun t k => XS.iload X1043.here hx rfl (hb hby at_206) rfl k)
            refine GoalH.step (T' := T1043) (g' := (mkF m 211 #[.val (.int p1), .val (.int p2), .val (.int p3), .val (.int p4), .val (.int p5), .val (.int p6), .val (.int (Int32.ofNat m6)), .val (.int (Int32.ofNat n7)), .val (.int c8), .val (.int c9), .val (.int c10), .val (.int c11), .val (.int c12), .val (.ref b13), .val (.ref b14), .val (.ref b1001), .val (.ref b1011), .val (.int (0 : Int32))] [])) ?_ (fun t k => XS.icmpNo X1043.here hx rfl (hb hby at_208) rfl (teq (by decide)).2 k)
            refine GoalH.step (T' := T1043) (g' := (mkF m 212 #[.val (.int p1), .val (.int p2), .val (.int p3), .val (.int p4), .val (.int p5), .val (.int p6), .val (.int (Int32.ofNat m6)), .val (.int (Int32.ofNat n7)), .val (.int c8), .val (.int c9), .val (.int c10), .val (.int c11), .val (.int c12), .val (.ref b13), .val (.ref b14), .val (.ref b1001), .val (.ref b1011), .val (.int (0 : Int32))] [(.int (1 : Int32))])) ?_ (fun t k => XS.iconst X1043.here hx rfl (hb hby at_211) k)
            refine GoalH.step (T' := T1043) (g' := (mkF m 216 #[.val (.int p1), .val (.int p2), .val (.int p3), .val (.int p4), .val (.int p5), .val (.int p6), .val (.int (Int32.ofNat m6)), .val (.int (Int32.ofNat n7)), .val (.int c8), .val (.int c9), .val (.int c10), .val (.int c11), .val (.int c12), .val (.ref b13), .val (.ref b14), .val (.ref b1001), .val (.ref b1011), .val (.int (0 : Int32))] [(.int (1 : Int32))])) ?_ (fun t k => XS.goto X1043.here hx rfl (pc0 := 212) (pc' := 216) rfl (hb hby at_212) (by decide) (by decide) k)
            refine GoalH.retN (t := .boolean) X1043 hS (by rw [e1043]; omega) hZ (own_EW hw) (by rw [e1043]; exact CH1013) hx hret (by simp) (hb hby at_216) ?_
            exact ⟨⟨rfl, N1043⟩, by decide, by decide⟩
      · obtain ⟨v1047, T1047, h1047, L1047, X1047, e1047, hQ1047, st1047⟩ := callStatic X1013 hx hZ hown (hw _ (List.mem_of_getElem? (i := 75) rfl)) (hw _ (List.mem_of_getElem? (i := 76) rfl)) (hw _ (List.mem_of_getElem? (i := 3) rfl)) (hw _ (List.mem_of_getElem? (i := 77) rfl)) (by decide) (rmSM l Z a0 hw c10 c8 h1013 n0 (by omega) n8) e1013 (W := 0) (by decide) (by decide) (by decide) (by decide) (g := (mkF m 170 #[.val (.int p1), .val (.int p2), .val (.int p3), .val (.int p4), .val (.int p5), .val (.int p6), .val (.int (Int32.ofNat m6)), .val (.int (Int32.ofNat n7)), .val (.int c8), .val (.int c9), .val (.int c10), .val (.int c11), .val (.int c12), .val (.ref b13), .val (.ref b14), .val (.ref b1001), .val (.ref b1011), .unset] [(.int c8), (.int c10)])) rfl (by rw [hml]; rfl) (argsL := [(.int c10), (.int c8)]) (rest := []) (lenOf pd_19 rfl) rfl (by show 2 * 0 + _ ≤ _; exact Nat.le_of_eq rfl) (hb hby at_170) rfl
        obtain ⟨rfl, M1047, q1047⟩ := hQ1047.elim (fun x => absurd x.1 hs0) (fun x => x.2)
        rw [q1047] at e1047
        have N1047 := Fr.app N1013 M1047
        refine GoalH.step (T' := T1047) (g' := (mkF m 173 #[.val (.int p1), .val (.int p2), .val (.int p3), .val (.int p4), .val (.int p5), .val (.int p6), .val (.int (Int32.ofNat m6)), .val (.int (Int32.ofNat n7)), .val (.int c8), .val (.int c9), .val (.int c10), .val (.int c11), .val (.int c12), .val (.ref b13), .val (.ref b14), .val (.ref b1001), .val (.ref b1011), .unset] [(.int (0 : Int32))])) ?_ st1047
        refine GoalH.step (T' := T1047) (g' := (mkF m 196 #[.val (.int p1), .val (.int p2), .val (.int p3), .val (.int p4), .val (.int p5), .val (.int p6), .val (.int (Int32.ofNat m6)), .val (.int (Int32.ofNat n7)), .val (.int c8), .val (.int c9), .val (.int c10), .val (.int c11), .val (.int c12), .val (.ref b13), .val (.ref b14), .val (.ref b1001), .val (.ref b1011), .unset] [])) ?_ (fun t k => XS.ifYes X1047.here hx rfl (pc0 := 173) (pc' := 196) rfl (hb hby at_173) rfl ((if0 _ _).trans (teq (by decide)).1) (by decide) (by decide) k)
        refine GoalH.step (T' := T1047) (g' := (mkF m 197 #[.val (.int p1), .val (.int p2), .val (.int p3), .val (.int p4), .val (.int p5), .val (.int p6), .val (.int (Int32.ofNat m6)), .val (.int (Int32.ofNat n7)), .val (.int c8), .val (.int c9), .val (.int c10), .val (.int c11), .val (.int c12), .val (.ref b13), .val (.ref b14), .val (.ref b1001), .val (.ref b1011), .unset] [(.int (0 : Int32))])) ?_ (fun t k => XS.iconst X1047.here hx rfl (hb hby at_196) k)
        refine GoalH.step (T' := T1047) (g' := (mkF m 199 #[.val (.int p1), .val (.int p2), .val (.int p3), .val (.int p4), .val (.int p5), .val (.int p6), .val (.int (Int32.ofNat m6)), .val (.int (Int32.ofNat n7)), .val (.int c8), .val (.int c9), .val (.int c10), .val (.int c11), .val (.int c12), .val (.ref b13), .val (.ref b14), .val (.ref b1001), .val (.ref b1011), .val (.int (0 : Int32))] [])) ?_ (fun t k => XS.istore X1047.here hx rfl (hb hby at_197) rfl (l' := #[.val (.int p1), .val (.int p2), .val (.int p3), .val (.int p4), .val (.int p5), .val (.int p6), .val (.int (Int32.ofNat m6)), .val (.int (Int32.ofNat n7)), .val (.int c8), .val (.int c9), .val (.int c10), .val (.int c11), .val (.int c12), .val (.ref b13), .val (.ref b14), .val (.ref b1001), .val (.ref b1011), .val (.int (0 : Int32))]) rfl k)
        refine GoalH.step (T' := T1047) (g' := (mkF m 201 #[.val (.int p1), .val (.int p2), .val (.int p3), .val (.int p4), .val (.int p5), .val (.int p6), .val (.int (Int32.ofNat m6)), .val (.int (Int32.ofNat n7)), .val (.int c8), .val (.int c9), .val (.int c10), .val (.int c11), .val (.int c12), .val (.ref b13), .val (.ref b14), .val (.ref b1001), .val (.ref b1011), .val (.int (0 : Int32))] [(.ref b1001)])) ?_ (fun t k => XS.aload X1047.here hx rfl (hb hby at_199) rfl rfl k)
        refine GoalH.step (T' := T1047) (g' := (mkF m 203 #[.val (.int p1), .val (.int p2), .val (.int p3), .val (.int p4), .val (.int p5), .val (.int p6), .val (.int (Int32.ofNat m6)), .val (.int (Int32.ofNat n7)), .val (.int c8), .val (.int c9), .val (.int c10), .val (.int c11), .val (.int c12), .val (.ref b13), .val (.ref b14), .val (.ref b1001), .val (.ref b1011), .val (.int (0 : Int32))] [(.ref b1011), (.ref b1001)])) ?_ (fun t k => XS.aload X1047.here hx rfl (hb hby at_201) rfl rfl k)
        have f1049 : Old Z n0 h1013 := (f1014.keep K1013 (allS (by omega) all0))
        have kk1050 : Keep h1003 h1013 [] := (((Keep.refl h1003 []).ext E1011).trans K1013 (allS (Or.inr (by omega)) all0))
        have f1051 : Str Z h1013 b1001 n7 (t3 c10 c11 c12) := Z1003.ext (extKp (extRefl _) kk1050 all0)
        have hP : ¬ (m6 ≤ n7 ∧ ∀ j, j < m6 → low (t3 c10 c11 c12 j) = pre2 c8 c9 j) := fun q => hs0 (q.2 0 (by omega))
        obtain ⟨v1048, T1048, h1048, L1048, X1048, e1048, hQ1048, st1048⟩ := callStatic X1047 hx hZ hown (hw _ (List.mem_of_getElem? (i := 31) rfl)) (hw _ (List.mem_of_getElem? (i := 32) rfl)) (hw _ (List.mem_of_getElem? (i := 33) rfl)) (hw _ (List.mem_of_getElem? (i := 34) rfl)) (by decide) (rmSW l Z a0 hw b1001 b1011 n7 m6 (t3 c10 c11 c12) (pre2 c8 c9) cs fm h1013 n0 (by omega) SE f1049 f1051 Z1013) e1047 (W := 0) (by decide) (by decide) (by decide) (by decide) (g := (mkF m 203 #[.val (.int p1), .val (.int p2), .val (.int p3), .val (.int p4), .val (.int p5), .val (.int p6), .val (.int (Int32.ofNat m6)), .val (.int (Int32.ofNat n7)), .val (.int c8), .val (.int c9), .val (.int c10), .val (.int c11), .val (.int c12), .val (.ref b13), .val (.ref b14), .val (.ref b1001), .val (.ref b1011), .val (.int (0 : Int32))] [(.ref b1011), (.ref b1001)])) rfl (by rw [hml]; rfl) (argsL := [(.ref b1001), (.ref b1011)]) (rest := []) (lenOf pd_18 rfl) rfl (by show 2 * 0 + _ ≤ _; exact Nat.le_of_eq rfl) (hb hby at_203) rfl
        obtain ⟨rfl, M1048, q1048⟩ := hQ1048.elim (fun x => absurd x.1 hP) (fun x => x.2)
        rw [q1048] at e1048
        have N1048 := Fr.app N1047 M1048
        refine GoalH.step (T' := T1048) (g' := (mkF m 206 #[.val (.int p1), .val (.int p2), .val (.int p3), .val (.int p4), .val (.int p5), .val (.int p6), .val (.int (Int32.ofNat m6)), .val (.int (Int32.ofNat n7)), .val (.int c8), .val (.int c9), .val (.int c10), .val (.int c11), .val (.int c12), .val (.ref b13), .val (.ref b14), .val (.ref b1001), .val (.ref b1011), .val (.int (0 : Int32))] [(.int (0 : Int32))])) ?_ st1048
        refine GoalH.step (T' := T1048) (g' := (mkF m 208 #[.val (.int p1), .val (.int p2), .val (.int p3), .val (.int p4), .val (.int p5), .val (.int p6), .val (.int (Int32.ofNat m6)), .val (.int (Int32.ofNat n7)), .val (.int c8), .val (.int c9), .val (.int c10), .val (.int c11), .val (.int c12), .val (.ref b13), .val (.ref b14), .val (.ref b1001), .val (.ref b1011), .val (.int (0 : Int32))] [(.int (0 : Int32)), (.int (0 : Int32))])) ?_ (fun t k => XS.iload X1048.here hx rfl (hb hby at_206) rfl k)
        refine GoalH.step (T' := T1048) (g' := (mkF m 211 #[.val (.int p1), .val (.int p2), .val (.int p3), .val (.int p4), .val (.int p5), .val (.int p6), .val (.int (Int32.ofNat m6)), .val (.int (Int32.ofNat n7)), .val (.int c8), .val (.int c9), .val (.int c10), .val (.int c11), .val (.int c12), .val (.ref b13), .val (.ref b14), .val (.ref b1001), .val (.ref b1011), .val (.int (0 : Int32))] [])) ?_ (fun t k => XS.icmpNo X1048.here hx rfl (hb hby at_208) rfl (teq (by decide)).2 k)
        refine GoalH.step (T' := T1048) (g' := (mkF m 212 #[.val (.int p1), .val (.int p2), .val (.int p3), .val (.int p4), .val (.int p5), .val (.int p6), .val (.int (Int32.ofNat m6)), .val (.int (Int32.ofNat n7)), .val (.int c8), .val (.int c9), .val (.int c10), .val (.int c11), .val (.int c12), .val (.ref b13), .val (.ref b14), .val (.ref b1001), .val (.ref b1011), .val (.int (0 : Int32))] [(.int (1 : Int32))])) ?_ (fun t k => XS.iconst X1048.here hx rfl (hb hby at_211) k)
        refine GoalH.step (T' := T1048) (g' := (mkF m 216 #[.val (.int p1), .val (.int p2), .val (.int p3), .val (.int p4), .val (.int p5), .val (.int p6), .val (.int (Int32.ofNat m6)), .val (.int (Int32.ofNat n7)), .val (.int c8), .val (.int c9), .val (.int c10), .val (.int c11), .val (.int c12), .val (.ref b13), .val (.ref b14), .val (.ref b1001), .val (.ref b1011), .val (.int (0 : Int32))] [(.int (1 : Int32))])) ?_ (fun t k => XS.goto X1048.here hx rfl (pc0 := 212) (pc' := 216) rfl (hb hby at_212) (by decide) (by decide) k)
        refine GoalH.retN (t := .boolean) X1048 hS (by rw [e1048]; omega) hZ (own_EW hw) (by rw [e1048]; exact CH1013) hx hret (by simp) (hb hby at_216) ?_
        exact ⟨⟨rfl, N1048⟩, by decide, by decide⟩
set_option maxRecDepth 65536 in
set_option maxHeartbeats 40000000 in
theorem seg84 {p : Program} {l : Launch} {e : Env} {s : State} {m : MethodId} {args : Array Value} {below : List Frame} {meth : Method} {c : Code} {Z : State} {a0 : Array Value} {T0 : State} {locs : List Loc} {vm0 : Vm} {k0 : Nat} (hw : ∀ d ∈ tables_1, d.before a0 Z = true) (C0 : Ctx p s m meth c Z code maxLocals ret x.cls x.name) (p1 p2 p3 p4 p5 p6 : Int32) (m6 n7 : Nat) (c8 c9 c10 c11 c12 : Int32) (b13 : Nat) (k13 : ClassId) (hB : Heap) (cs : Int32) (fm : Value) (h0 : Heap) (n0 : Nat) (Z0 : n0 ≤ h0.size) (X0 : Stand p l e room_1 (s.setVm vm0) m args below meth c T0 locs 1 2) (hS : s.Since vm0 k0) (hk : k0 ≤ h0.size) (hZ : Z.Warmed39 vm0) (hown : vm0.findClass "com/example/gids/gids/AsciiStartsWithIgnoringCasePinLaw" = some m.cls) (e0 : T0.heap = h0) (N0 : Fr n0 locs) (CH0 : CHr Z consts_1 s.vm hB vm0 h0) (SE : SEnv Z cs fm) (O0 : Old Z n0 h0) (hm : m6 ≤ 2) (hn7 : n7 ≤ 3) (r8 : rng c8) (n8 : noCap c8) (r9 : rng c9) (n9 : noCap c9) (r10 : rng c10) (r11 : rng c11) (r12 : rng c12) (A13 : Arf Z h0 b13 k13 .char m6 (pre2 c8 c9)) (lt13 : b13 < h0.size) :
    GoalH Z consts_1 hB p l e room_1 s m args below meth c (In room_1 (fun v h L => v = some (.int 1) ∧ Fr n0 L)) T0 (mkF m 84 #[.val (.int p1), .val (.int p2), .val (.int p3), .val (.int p4), .val (.int p5), .val (.int p6), .val (.int (Int32.ofNat m6)), .val (.int (Int32.ofNat n7)), .val (.int c8), .val (.int c9), .val (.int c10), .val (.int c11), .val (.int c12), .val (.ref b13), .unset, .unset, .unset, .unset] []) := by
  have C := C0
  obtain ⟨hx, -, hby, hml, hret, -, hnm⟩ := C
  have hret : meth.sig.returnType = (some .boolean) := hret
  have e8 : nar .char c8 = c8 := own_i2c _ r8.1 r8.2
  have e9 : nar .char c9 = c9 := own_i2c _ r9.1 r9.2
  have e10 : nar .char c10 = c10 := own_i2c _ r10.1 r10.2
  have e11 : nar .char c11 = c11 := own_i2c _ r11.1 r11.2
  have e12 : nar .char c12 = c12 := own_i2c _ r12.1 r12.2
  refine GoalH.step (T' := T0) (g' := (mkF m 86 #[.val (.int p1), .val (.int p2), .val (.int p3), .val (.int p4), .val (.int p5), .val (.int p6), .val (.int (Int32.ofNat m6)), .val (.int (Int32.ofNat n7)), .val (.int c8), .val (.int c9), .val (.int c10), .val (.int c11), .val (.int c12), .val (.ref b13), .unset, .unset, .unset, .unset] [(.int (Int32.ofNat n7))])) ?_ (fun t k => XS.iload X0.here hx rfl (hb hby at_84) rfl k)
  obtain ⟨T1001, h1001, k1001, X1001, e1001, E1001, A1001, st1001⟩ := newP X0 hx hZ (hw _ (List.mem_of_getElem? (i := 9) rfl)) e0 (g := (mkF m 86 #[.val (.int p1), .val (.int p2), .val (.int p3), .val (.int p4), .val (.int p5), .val (.int p6), .val (.int (Int32.ofNat m6)), .val (.int (Int32.ofNat n7)), .val (.int c8), .val (.int c9), .val (.int c10), .val (.int c11), .val (.int c12), .val (.ref b13), .unset, .unset, .unset, .unset] [(.int (Int32.ofNat n7))])) rfl (hb hby at_86) rfl (nat_nn (by omega)) (cap := 3) (by rw [nat_clamp (by omega)]; omega) (by decide) (by decide) (by decide)
  obtain ⟨b1001, g1001⟩ : ∃ z, z = h0.size := ⟨_, rfl⟩
  rw [← g1001] at A1001 st1001
  refine GoalH.step (T' := T1001) (g' := (mkF m 88 #[.val (.int p1), .val (.int p2), .val (.int p3), .val (.int p4), .val (.int p5), .val (.int p6), .val (.int (Int32.ofNat m6)), .val (.int (Int32.ofNat n7)), .val (.int c8), .val (.int c9), .val (.int c10), .val (.int c11), .val (.int c12), .val (.ref b13), .unset, .unset, .unset, .unset] [(.ref b1001)])) ?_ st1001
  have sz1002 : h0.size ≤ h1001.size := E1001.1
  have lt_b1001 : b1001 < h1001.size := A1001.lt
  have V1001 : Arf Z h1001 b1001 k1001 .char n7 (fun _ => 0) := Arf.new A1001 rfl (nat_clamp (by omega))
  refine GoalH.step (T' := T1001) (g' := (mkF m 90 #[.val (.int p1), .val (.int p2), .val (.int p3), .val (.int p4), .val (.int p5), .val (.int p6), .val (.int (Int32.ofNat m6)), .val (.int (Int32.ofNat n7)), .val (.int c8), .val (.int c9), .val (.int c10), .val (.int c11), .val (.int c12), .val (.ref b13), .val (.ref b1001), .unset, .unset, .unset] [])) ?_ (fun t k => XS.astore X1001.here hx rfl (hb hby at_88) rfl rfl (l' := #[.val (.int p1), .val (.int p2), .val (.int p3), .val (.int p4), .val (.int p5), .val (.int p6), .val (.int (Int32.ofNat m6)), .val (.int (Int32.ofNat n7)), .val (.int c8), .val (.int c9), .val (.int c10), .val (.int c11), .val (.int c12), .val (.ref b13), .val (.ref b1001), .unset, .unset, .unset]) rfl k)
  refine GoalH.step (T' := T1001) (g' := (mkF m 92 #[.val (.int p1), .val (.int p2), .val (.int p3), .val (.int p4), .val (.int p5), .val (.int p6), .val (.int (Int32.ofNat m6)), .val (.int (Int32.ofNat n7)), .val (.int c8), .val (.int c9), .val (.int c10), .val (.int c11), .val (.int c12), .val (.ref b13), .val (.ref b1001), .unset, .unset, .unset] [(.int (Int32.ofNat n7))])) ?_ (fun t k => XS.iload X1001.here hx rfl (hb hby at_90) rfl k)
  by_cases c1003 : (0 : Int32) < (Int32.ofNat n7)
  · refine GoalH.step (T' := T1001) (g' := (mkF m 95 #[.val (.int p1), .val (.int p2), .val (.int p3), .val (.int p4), .val (.int p5), .val (.int p6), .val (.int (Int32.ofNat m6)), .val (.int (Int32.ofNat n7)), .val (.int c8), .val (.int c9), .val (.int c10), .val (.int c11), .val (.int c12), .val (.ref b13), .val (.ref b1001), .unset, .unset, .unset] [])) ?_ (fun t k => XS.ifNo X1001.here hx rfl (hb hby at_92) rfl ((if0 _ _).trans (tlt c1003).2.2.2) k)
    have z0 : 0 < n7 := (nat_lt (i := 0) (by omega) (by omega)).mp c1003
    refine GoalH.step (T' := T1001) (g' := (mkF m 97 #[.val (.int p1), .val (.int p2), .val (.int p3), .val (.int p4), .val (.int p5), .val (.int p6), .val (.int (Int32.ofNat m6)), .val (.int (Int32.ofNat n7)), .val (.int c8), .val (.int c9), .val (.int c10), .val (.int c11), .val (.int c12), .val (.ref b13), .val (.ref b1001), .unset, .unset, .unset] [(.ref b1001)])) ?_ (fun t k => XS.aload X1001.here hx rfl (hb hby at_95) rfl rfl k)
    refine GoalH.step (T' := T1001) (g' := (mkF m 98 #[.val (.int p1), .val (.int p2), .val (.int p3), .val (.int p4), .val (.int p5), .val (.int p6), .val (.int (Int32.ofNat m6)), .val (.int (Int32.ofNat n7)), .val (.int c8), .val (.int c9), .val (.int c10), .val (.int c11), .val (.int c12), .val (.ref b13), .val (.ref b1001), .unset, .unset, .unset] [(.int (0 : Int32)), (.ref b1001)])) ?_ (fun t k => XS.iconst X1001.here hx rfl (hb hby at_97) k)
    refine GoalH.step (T' := T1001) (g' := (mkF m 100 #[.val (.int p1), .val (.int p2), .val (.int p3), .val (.int p4), .val (.int p5), .val (.int p6), .val (.int (Int32.ofNat m6)), .val (.int (Int32.ofNat n7)), .val (.int c8), .val (.int c9), .val (.int c10), .val (.int c11), .val (.int c12), .val (.ref b13), .val (.ref b1001), .unset, .unset, .unset] [(.int c10), (.int (Int32.ofNat 0)), (.ref b1001)])) ?_ (fun t k => XS.iload X1001.here hx rfl (hb hby at_98) rfl k)
    obtain ⟨cl1004, Ar1004, q1004, S1004, H1004⟩ := (id V1001)
    have hlt1004 : 0 < n7 := by omega
    have hn1004 : n7 < 2 ^ 31 := by omega
    have hin1004 : ¬ ((Int32.ofNat 0) < 0 ∨ cl1004.slots.size ≤ ((Int32.ofNat 0)).toNatClampNeg) := nat_inb S1004 hlt1004 hn1004
    obtain ⟨T1004, h1004, X1004, e1004, W1004, st1004⟩ := stC X1001 hx hZ e1001 Ar1004 (j := (Int32.ofNat 0)) hin1004 (g := (mkF m 100 #[.val (.int p1), .val (.int p2), .val (.int p3), .val (.int p4), .val (.int p5), .val (.int p6), .val (.int (Int32.ofNat m6)), .val (.int (Int32.ofNat n7)), .val (.int c8), .val (.int c9), .val (.int c10), .val (.int c11), .val (.int c12), .val (.ref b13), .val (.ref b1001), .unset, .unset, .unset] [(.int c10), (.int (Int32.ofNat 0)), (.ref b1001)])) rfl rfl (hb hby at_100)
    rw [nat_clamp (show 0 < 2 ^ 31 by omega)] at W1004 X1004
    refine GoalH.step (T' := T1004) (g' := (mkF m 101 #[.val (.int p1), .val (.int p2), .val (.int p3), .val (.int p4), .val (.int p5), .val (.int p6), .val (.int (Int32.ofNat m6)), .val (.int (Int32.ofNat n7)), .val (.int c8), .val (.int c9), .val (.int c10), .val (.int c11), .val (.int c12), .val (.ref b13), .val (.ref b1001), .unset, .unset, .unset] [])) ?_ st1004
    have sz1005 : h1001.size ≤ h1004.size := Nat.le_of_eq W1004.size.symm
    have V1004 : Arf Z h1004 b1001 k1001 .char n7 (fun z => if z = 0 then (nar .char c10) else ((fun _ => 0)) z) := Arf.set Ar1004 q1004 S1004 H1004 W1004
    have N1004 := Fr.snoc X1004 N0 (by omega : n0 ≤ b1001)
    have z0 : 0 < n7 := (nat_lt (i := 0) (by omega) (by omega)).mp c1003
    refine GoalH.step (T' := T1004) (g' := (mkF m 103 #[.val (.int p1), .val (.int p2), .val (.int p3), .val (.int p4), .val (.int p5), .val (.int p6), .val (.int (Int32.ofNat m6)), .val (.int (Int32.ofNat n7)), .val (.int c8), .val (.int c9), .val (.int c10), .val (.int c11), .val (.int c12), .val (.ref b13), .val (.ref b1001), .unset, .unset, .unset] [(.int (Int32.ofNat n7))])) ?_ (fun t k => XS.iload X1004.here hx rfl (hb hby at_101) rfl k)
    refine GoalH.step (T' := T1004) (g' := (mkF m 104 #[.val (.int p1), .val (.int p2), .val (.int p3), .val (.int p4), .val (.int p5), .val (.int p6), .val (.int (Int32.ofNat m6)), .val (.int (Int32.ofNat n7)), .val (.int c8), .val (.int c9), .val (.int c10), .val (.int c11), .val (.int c12), .val (.ref b13), .val (.ref b1001), .unset, .unset, .unset] [(.int (1 : Int32)), (.int (Int32.ofNat n7))])) ?_ (fun t k => XS.iconst X1004.here hx rfl (hb hby at_103) k)
    by_cases c1006 : (1 : Int32) < (Int32.ofNat n7)
    · refine GoalH.step (T' := T1004) (g' := (mkF m 107 #[.val (.int p1), .val (.int p2), .val (.int p3), .val (.int p4), .val (.int p5), .val (.int p6), .val (.int (Int32.ofNat m6)), .val (.int (Int32.ofNat n7)), .val (.int c8), .val (.int c9), .val (.int c10), .val (.int c11), .val (.int c12), .val (.ref b13), .val (.ref b1001), .unset, .unset, .unset] [])) ?_ (fun t k => XS.icmpNo X1004.here hx rfl (hb hby at_104) rfl (tlt c1006).2.2.2 k)
      have z1 : 1 < n7 := (nat_lt (i := 1) (by omega) (by omega)).mp c1006
      refine GoalH.step (T' := T1004) (g' := (mkF m 109 #[.val (.int p1), .val (.int p2), .val (.int p3), .val (.int p4), .val (.int p5), .val (.int p6), .val (.int (Int32.ofNat m6)), .val (.int (Int32.ofNat n7)), .val (.int c8), .val (.int c9), .val (.int c10), .val (.int c11), .val (.int c12), .val (.ref b13), .val (.ref b1001), .unset, .unset, .unset] [(.ref b1001)])) ?_ (fun t k => XS.aload X1004.here hx rfl (hb hby at_107) rfl rfl k)
      refine GoalH.step (T' := T1004) (g' := (mkF m 110 #[.val (.int p1), .val (.int p2), .val (.int p3), .val (.int p4), .val (.int p5), .val (.int p6), .val (.int (Int32.ofNat m6)), .val (.int (Int32.ofNat n7)), .val (.int c8), .val (.int c9), .val (.int c10), .val (.int c11), .val (.int c12), .val (.ref b13), .val (.ref b1001), .unset, .unset, .unset] [(.int (1 : Int32)), (.ref b1001)])) ?_ (fun t k => XS.iconst X1004.here hx rfl (hb hby at_109) k)
      refine GoalH.step (T' := T1004) (g' := (mkF m 112 #[.val (.int p1), .val (.int p2), .val (.int p3), .val (.int p4), .val (.int p5), .val (.int p6), .val (.int (Int32.ofNat m6)), .val (.int (Int32.ofNat n7)), .val (.int c8), .val (.int c9), .val (.int c10), .val (.int c11), .val (.int c12), .val (.ref b13), .val (.ref b1001), .unset, .unset, .unset] [(.int c11), (.int (Int32.ofNat 1)), (.ref b1001)])) ?_ (fun t k => XS.iload X1004.here hx rfl (hb hby at_110) rfl k)
      obtain ⟨cl1007, Ar1007, q1007, S1007, H1007⟩ := (id V1004)
      have hlt1007 : 1 < n7 := by omega
      have hn1007 : n7 < 2 ^ 31 := by omega
      have hin1007 : ¬ ((Int32.ofNat 1) < 0 ∨ cl1007.slots.size ≤ ((Int32.ofNat 1)).toNatClampNeg) := nat_inb S1007 hlt1007 hn1007
      obtain ⟨T1007, h1007, X1007, e1007, W1007, st1007⟩ := stC X1004 hx hZ e1004 Ar1007 (j := (Int32.ofNat 1)) hin1007 (g := (mkF m 112 #[.val (.int p1), .val (.int p2), .val (.int p3), .val (.int p4), .val (.int p5), .val (.int p6), .val (.int (Int32.ofNat m6)), .val (.int (Int32.ofNat n7)), .val (.int c8), .val (.int c9), .val (.int c10), .val (.int c11), .val (.int c12), .val (.ref b13), .val (.ref b1001), .unset, .unset, .unset] [(.int c11), (.int (Int32.ofNat 1)), (.ref b1001)])) rfl rfl (hb hby at_112)
      rw [nat_clamp (show 1 < 2 ^ 31 by omega)] at W1007 X1007
      refine GoalH.step (T' := T1007) (g' := (mkF m 113 #[.val (.int p1), .val (.int p2), .val (.int p3), .val (.int p4), .val (.int p5), .val (.int p6), .val (.int (Int32.ofNat m6)), .val (.int (Int32.ofNat n7)), .val (.int c8), .val (.int c9), .val (.int c10), .val (.int c11), .val (.int c12), .val (.ref b13), .val (.ref b1001), .unset, .unset, .unset] [])) ?_ st1007
      have sz1008 : h1004.size ≤ h1007.size := Nat.le_of_eq W1007.size.symm
      have V1007 : Arf Z h1007 b1001 k1001 .char n7 (fun z => if z = 1 then (nar .char c11) else ((fun z => if z = 0 then (nar .char c10) else ((fun _ => 0)) z)) z) := Arf.set Ar1007 q1007 S1007 H1007 W1007
      have N1007 := Fr.snoc X1007 N1004 (by omega : n0 ≤ b1001)
      have z1 : 1 < n7 := (nat_lt (i := 1) (by omega) (by omega)).mp c1006
      refine GoalH.step (T' := T1007) (g' := (mkF m 115 #[.val (.int p1), .val (.int p2), .val (.int p3), .val (.int p4), .val (.int p5), .val (.int p6), .val (.int (Int32.ofNat m6)), .val (.int (Int32.ofNat n7)), .val (.int c8), .val (.int c9), .val (.int c10), .val (.int c11), .val (.int c12), .val (.ref b13), .val (.ref b1001), .unset, .unset, .unset] [(.int (Int32.ofNat n7))])) ?_ (fun t k => XS.iload X1007.here hx rfl (hb hby at_113) rfl k)
      refine GoalH.step (T' := T1007) (g' := (mkF m 116 #[.val (.int p1), .val (.int p2), .val (.int p3), .val (.int p4), .val (.int p5), .val (.int p6), .val (.int (Int32.ofNat m6)), .val (.int (Int32.ofNat n7)), .val (.int c8), .val (.int c9), .val (.int c10), .val (.int c11), .val (.int c12), .val (.ref b13), .val (.ref b1001), .unset, .unset, .unset] [(.int (2 : Int32)), (.int (Int32.ofNat n7))])) ?_ (fun t k => XS.iconst X1007.here hx rfl (hb hby at_115) k)
      by_cases c1009 : (2 : Int32) < (Int32.ofNat n7)
      · refine GoalH.step (T' := T1007) (g' := (mkF m 119 #[.val (.int p1), .val (.int p2), .val (.int p3), .val (.int p4), .val (.int p5), .val (.int p6), .val (.int (Int32.ofNat m6)), .val (.int (Int32.ofNat n7)), .val (.int c8), .val (.int c9), .val (.int c10), .val (.int c11), .val (.int c12), .val (.ref b13), .val (.ref b1001), .unset, .unset, .unset] [])) ?_ (fun t k => XS.icmpNo X1007.here hx rfl (hb hby at_116) rfl (tlt c1009).2.2.2 k)
        have z2 : 2 < n7 := (nat_lt (i := 2) (by omega) (by omega)).mp c1009
        refine GoalH.step (T' := T1007) (g' := (mkF m 121 #[.val (.int p1), .val (.int p2), .val (.int p3), .val (.int p4), .val (.int p5), .val (.int p6), .val (.int (Int32.ofNat m6)), .val (.int (Int32.ofNat n7)), .val (.int c8), .val (.int c9), .val (.int c10), .val (.int c11), .val (.int c12), .val (.ref b13), .val (.ref b1001), .unset, .unset, .unset] [(.ref b1001)])) ?_ (fun t k => XS.aload X1007.here hx rfl (hb hby at_119) rfl rfl k)
        refine GoalH.step (T' := T1007) (g' := (mkF m 122 #[.val (.int p1), .val (.int p2), .val (.int p3), .val (.int p4), .val (.int p5), .val (.int p6), .val (.int (Int32.ofNat m6)), .val (.int (Int32.ofNat n7)), .val (.int c8), .val (.int c9), .val (.int c10), .val (.int c11), .val (.int c12), .val (.ref b13), .val (.ref b1001), .unset, .unset, .unset] [(.int (2 : Int32)), (.ref b1001)])) ?_ (fun t k => XS.iconst X1007.here hx rfl (hb hby at_121) k)
        refine GoalH.step (T' := T1007) (g' := (mkF m 124 #[.val (.int p1), .val (.int p2), .val (.int p3), .val (.int p4), .val (.int p5), .val (.int p6), .val (.int (Int32.ofNat m6)), .val (.int (Int32.ofNat n7)), .val (.int c8), .val (.int c9), .val (.int c10), .val (.int c11), .val (.int c12), .val (.ref b13), .val (.ref b1001), .unset, .unset, .unset] [(.int c12), (.int (Int32.ofNat 2)), (.ref b1001)])) ?_ (fun t k => XS.iload X1007.here hx rfl (hb hby at_122) rfl k)
        obtain ⟨cl1010, Ar1010, q1010, S1010, H1010⟩ := (id V1007)
        have hlt1010 : 2 < n7 := by omega
        have hn1010 : n7 < 2 ^ 31 := by omega
        have hin1010 : ¬ ((Int32.ofNat 2) < 0 ∨ cl1010.slots.size ≤ ((Int32.ofNat 2)).toNatClampNeg) := nat_inb S1010 hlt1010 hn1010
        obtain ⟨T1010, h1010, X1010, e1010, W1010, st1010⟩ := stC X1007 hx hZ e1007 Ar1010 (j := (Int32.ofNat 2)) hin1010 (g := (mkF m 124 #[.val (.int p1), .val (.int p2), .val (.int p3), .val (.int p4), .val (.int p5), .val (.int p6), .val (.int (Int32.ofNat m6)), .val (.int (Int32.ofNat n7)), .val (.int c8), .val (.int c9), .val (.int c10), .val (.int c11), .val (.int c12), .val (.ref b13), .val (.ref b1001), .unset, .unset, .unset] [(.int c12), (.int (Int32.ofNat 2)), (.ref b1001)])) rfl rfl (hb hby at_124)
        rw [nat_clamp (show 2 < 2 ^ 31 by omega)] at W1010 X1010
        refine GoalH.step (T' := T1010) (g' := (mkF m 125 #[.val (.int p1), .val (.int p2), .val (.int p3), .val (.int p4), .val (.int p5), .val (.int p6), .val (.int (Int32.ofNat m6)), .val (.int (Int32.ofNat n7)), .val (.int c8), .val (.int c9), .val (.int c10), .val (.int c11), .val (.int c12), .val (.ref b13), .val (.ref b1001), .unset, .unset, .unset] [])) ?_ st1010
        have sz1011 : h1007.size ≤ h1010.size := Nat.le_of_eq W1010.size.symm
        have V1010 : Arf Z h1010 b1001 k1001 .char n7 (fun z => if z = 2 then (nar .char c12) else ((fun z => if z = 1 then (nar .char c11) else ((fun z => if z = 0 then (nar .char c10) else ((fun _ => 0)) z)) z)) z) := Arf.set Ar1010 q1010 S1010 H1010 W1010
        have N1010 := Fr.snoc X1010 N1007 (by omega : n0 ≤ b1001)
        have z2 : 2 < n7 := (nat_lt (i := 2) (by omega) (by omega)).mp c1009
        have kk1012 : Keep h0 h1010 [] := (((((Keep.refl h0 []).ext E1001).wr W1004 (Or.inr (by omega))).wr W1007 (Or.inr (by omega))).wr W1010 (Or.inr (by omega)))
        have CH1013 := CHr.trans CH0 (CHr.keep kk1012 all0 CH0.1)
        have f1014 : Old Z n0 h1010 := ((((O0.ext E1001).wr W1004 (by omega)).wr W1007 (by omega)).wr W1010 (by omega))
        have f1015 : Arf Z h1010 b13 k13 .char m6 (pre2 c8 c9) := ((((A13.ext E1001).other W1004 (nne (by omega))).other W1007 (nne (by omega))).other W1010 (nne (by omega)))
        have A14 : Arf Z h1010 b1001 k1001 .char n7 (t3 c10 c11 c12) := Arf.congr V1010 (fun j hj => by have hj3 : j = 0 ∨ j = 1 ∨ j = 2 := (by omega); rcases hj3 with rfl | rfl | rfl <;> first | (simp [t3, e10, e11, e12]; done) | omega)
        exact seg125 hw C0 p1 p2 p3 p4 p5 p6 m6 n7 c8 c9 c10 c11 c12 b13 b1001 k13 k1001 hB cs fm h1010 n0 (by omega) X1010 hS (by omega) hZ hown e1010 N1010 CH1013 SE f1014 hm hn7 r8 n8 r9 n9 r10 r11 r12 f1015 A14 (by omega) (by omega)
      · refine GoalH.step (T' := T1007) (g' := (mkF m 125 #[.val (.int p1), .val (.int p2), .val (.int p3), .val (.int p4), .val (.int p5), .val (.int p6), .val (.int (Int32.ofNat m6)), .val (.int (Int32.ofNat n7)), .val (.int c8), .val (.int c9), .val (.int c10), .val (.int c11), .val (.int c12), .val (.ref b13), .val (.ref b1001), .unset, .unset, .unset] [])) ?_ (fun t k => XS.icmpYes X1007.here hx rfl (pc0 := 116) (pc' := 125) rfl (hb hby at_116) rfl (flt c1009).2.2.2 (by decide) (by decide) k)
        have z2 : n7 ≤ 2 := Nat.le_of_not_lt (fun q => c1009 ((nat_lt (i := 2) (by omega) (by omega)).mpr q))
        have kk1016 : Keep h0 h1007 [] := ((((Keep.refl h0 []).ext E1001).wr W1004 (Or.inr (by omega))).wr W1007 (Or.inr (by omega)))
        have CH1017 := CHr.trans CH0 (CHr.keep kk1016 all0 CH0.1)
        have f1018 : Old Z n0 h1007 := (((O0.ext E1001).wr W1004 (by omega)).wr W1007 (by omega))
        have f1019 : Arf Z h1007 b13 k13 .char m6 (pre2 c8 c9) := (((A13.ext E1001).other W1004 (nne (by omega))).other W1007 (nne (by omega)))
        have A14 : Arf Z h1007 b1001 k1001 .char n7 (t3 c10 c11 c12) := Arf.congr V1007 (fun j hj => by have hj3 : j = 0 ∨ j = 1 ∨ j = 2 := (by omega); rcases hj3 with rfl | rfl | rfl <;> first | (simp [t3, e10, e11, e12]; done) | omega)
        exact seg125 hw C0 p1 p2 p3 p4 p5 p6 m6 n7 c8 c9 c10 c11 c12 b13 b1001 k13 k1001 hB cs fm h1007 n0 (by omega) X1007 hS (by omega) hZ hown e1007 N1007 CH1017 SE f1018 hm hn7 r8 n8 r9 n9 r10 r11 r12 f1019 A14 (by omega) (by omega)
    · refine GoalH.step (T' := T1004) (g' := (mkF m 113 #[.val (.int p1), .val (.int p2), .val (.int p3), .val (.int p4), .val (.int p5), .val (.int p6), .val (.int (Int32.ofNat m6)), .val (.int (Int32.ofNat n7)), .val (.int c8), .val (.int c9), .val (.int c10), .val (.int c11), .val (.int c12), .val (.ref b13), .val (.ref b1001), .unset, .unset, .unset] [])) ?_ (fun t k => XS.icmpYes X1004.here hx rfl (pc0 := 104) (pc' := 113) rfl (hb hby at_104) rfl (flt c1006).2.2.2 (by decide) (by decide) k)
      have z1 : n7 ≤ 1 := Nat.le_of_not_lt (fun q => c1006 ((nat_lt (i := 1) (by omega) (by omega)).mpr q))
      refine GoalH.step (T' := T1004) (g' := (mkF m 115 #[.val (.int p1), .val (.int p2), .val (.int p3), .val (.int p4), .val (.int p5), .val (.int p6), .val (.int (Int32.ofNat m6)), .val (.int (Int32.ofNat n7)), .val (.int c8), .val (.int c9), .val (.int c10), .val (.int c11), .val (.int c12), .val (.ref b13), .val (.ref b1001), .unset, .unset, .unset] [(.int (Int32.ofNat n7))])) ?_ (fun t k => XS.iload X1004.here hx rfl (hb hby at_113) rfl k)
      refine GoalH.step (T' := T1004) (g' := (mkF m 116 #[.val (.int p1), .val (.int p2), .val (.int p3), .val (.int p4), .val (.int p5), .val (.int p6), .val (.int (Int32.ofNat m6)), .val (.int (Int32.ofNat n7)), .val (.int c8), .val (.int c9), .val (.int c10), .val (.int c11), .val (.int c12), .val (.ref b13), .val (.ref b1001), .unset, .unset, .unset] [(.int (2 : Int32)), (.int (Int32.ofNat n7))])) ?_ (fun t k => XS.iconst X1004.here hx rfl (hb hby at_115) k)
      by_cases c1020 : (2 : Int32) < (Int32.ofNat n7)
      · refine GoalH.step (T' := T1004) (g' := (mkF m 119 #[.val (.int p1), .val (.int p2), .val (.int p3), .val (.int p4), .val (.int p5), .val (.int p6), .val (.int (Int32.ofNat m6)), .val (.int (Int32.ofNat n7)), .val (.int c8), .val (.int c9), .val (.int c10), .val (.int c11), .val (.int c12), .val (.ref b13), .val (.ref b1001), .unset, .unset, .unset] [])) ?_ (fun t k => XS.icmpNo X1004.here hx rfl (hb hby at_116) rfl (tlt c1020).2.2.2 k)
        have z2 : 2 < n7 := (nat_lt (i := 2) (by omega) (by omega)).mp c1020
        refine GoalH.step (T' := T1004) (g' := (mkF m 121 #[.val (.int p1), .val (.int p2), .val (.int p3), .val (.int p4), .val (.int p5), .val (.int p6), .val (.int (Int32.ofNat m6)), .val (.int (Int32.ofNat n7)), .val (.int c8), .val (.int c9), .val (.int c10), .val (.int c11), .val (.int c12), .val (.ref b13), .val (.ref b1001), .unset, .unset, .unset] [(.ref b1001)])) ?_ (fun t k => XS.aload X1004.here hx rfl (hb hby at_119) rfl rfl k)
        refine GoalH.step (T' := T1004) (g' := (mkF m 122 #[.val (.int p1), .val (.int p2), .val (.int p3), .val (.int p4), .val (.int p5), .val (.int p6), .val (.int (Int32.ofNat m6)), .val (.int (Int32.ofNat n7)), .val (.int c8), .val (.int c9), .val (.int c10), .val (.int c11), .val (.int c12), .val (.ref b13), .val (.ref b1001), .unset, .unset, .unset] [(.int (2 : Int32)), (.ref b1001)])) ?_ (fun t k => XS.iconst X1004.here hx rfl (hb hby at_121) k)
        refine GoalH.step (T' := T1004) (g' := (mkF m 124 #[.val (.int p1), .val (.int p2), .val (.int p3), .val (.int p4), .val (.int p5), .val (.int p6), .val (.int (Int32.ofNat m6)), .val (.int (Int32.ofNat n7)), .val (.int c8), .val (.int c9), .val (.int c10), .val (.int c11), .val (.int c12), .val (.ref b13), .val (.ref b1001), .unset, .unset, .unset] [(.int c12), (.int (Int32.ofNat 2)), (.ref b1001)])) ?_ (fun t k => XS.iload X1004.here hx rfl (hb hby at_122) rfl k)
        obtain ⟨cl1021, Ar1021, q1021, S1021, H1021⟩ := (id V1004)
        have hlt1021 : 2 < n7 := by omega
        have hn1021 : n7 < 2 ^ 31 := by omega
        have hin1021 : ¬ ((Int32.ofNat 2) < 0 ∨ cl1021.slots.size ≤ ((Int32.ofNat 2)).toNatClampNeg) := nat_inb S1021 hlt1021 hn1021
        obtain ⟨T1021, h1021, X1021, e1021, W1021, st1021⟩ := stC X1004 hx hZ e1004 Ar1021 (j := (Int32.ofNat 2)) hin1021 (g := (mkF m 124 #[.val (.int p1), .val (.int p2), .val (.int p3), .val (.int p4), .val (.int p5), .val (.int p6), .val (.int (Int32.ofNat m6)), .val (.int (Int32.ofNat n7)), .val (.int c8), .val (.int c9), .val (.int c10), .val (.int c11), .val (.int c12), .val (.ref b13), .val (.ref b1001), .unset, .unset, .unset] [(.int c12), (.int (Int32.ofNat 2)), (.ref b1001)])) rfl rfl (hb hby at_124)
        rw [nat_clamp (show 2 < 2 ^ 31 by omega)] at W1021 X1021
        refine GoalH.step (T' := T1021) (g' := (mkF m 125 #[.val (.int p1), .val (.int p2), .val (.int p3), .val (.int p4), .val (.int p5), .val (.int p6), .val (.int (Int32.ofNat m6)), .val (.int (Int32.ofNat n7)), .val (.int c8), .val (.int c9), .val (.int c10), .val (.int c11), .val (.int c12), .val (.ref b13), .val (.ref b1001), .unset, .unset, .unset] [])) ?_ st1021
        have sz1022 : h1004.size ≤ h1021.size := Nat.le_of_eq W1021.size.symm
        have V1021 : Arf Z h1021 b1001 k1001 .char n7 (fun z => if z = 2 then (nar .char c12) else ((fun z => if z = 0 then (nar .char c10) else ((fun _ => 0)) z)) z) := Arf.set Ar1021 q1021 S1021 H1021 W1021
        have N1021 := Fr.snoc X1021 N1004 (by omega : n0 ≤ b1001)
        have z2 : 2 < n7 := (nat_lt (i := 2) (by omega) (by omega)).mp c1020
        have kk1023 : Keep h0 h1021 [] := ((((Keep.refl h0 []).ext E1001).wr W1004 (Or.inr (by omega))).wr W1021 (Or.inr (by omega)))
        have CH1024 := CHr.trans CH0 (CHr.keep kk1023 all0 CH0.1)
        have f1025 : Old Z n0 h1021 := (((O0.ext E1001).wr W1004 (by omega)).wr W1021 (by omega))
        have f1026 : Arf Z h1021 b13 k13 .char m6 (pre2 c8 c9) := (((A13.ext E1001).other W1004 (nne (by omega))).other W1021 (nne (by omega)))
        have A14 : Arf Z h1021 b1001 k1001 .char n7 (t3 c10 c11 c12) := Arf.congr V1021 (fun j hj => by have hj3 : j = 0 ∨ j = 1 ∨ j = 2 := (by omega); rcases hj3 with rfl | rfl | rfl <;> first | (simp [t3, e10, e11, e12]; done) | omega)
        exact seg125 hw C0 p1 p2 p3 p4 p5 p6 m6 n7 c8 c9 c10 c11 c12 b13 b1001 k13 k1001 hB cs fm h1021 n0 (by omega) X1021 hS (by omega) hZ hown e1021 N1021 CH1024 SE f1025 hm hn7 r8 n8 r9 n9 r10 r11 r12 f1026 A14 (by omega) (by omega)
      · refine GoalH.step (T' := T1004) (g' := (mkF m 125 #[.val (.int p1), .val (.int p2), .val (.int p3), .val (.int p4), .val (.int p5), .val (.int p6), .val (.int (Int32.ofNat m6)), .val (.int (Int32.ofNat n7)), .val (.int c8), .val (.int c9), .val (.int c10), .val (.int c11), .val (.int c12), .val (.ref b13), .val (.ref b1001), .unset, .unset, .unset] [])) ?_ (fun t k => XS.icmpYes X1004.here hx rfl (pc0 := 116) (pc' := 125) rfl (hb hby at_116) rfl (flt c1020).2.2.2 (by decide) (by decide) k)
        have z2 : n7 ≤ 2 := Nat.le_of_not_lt (fun q => c1020 ((nat_lt (i := 2) (by omega) (by omega)).mpr q))
        have kk1027 : Keep h0 h1004 [] := (((Keep.refl h0 []).ext E1001).wr W1004 (Or.inr (by omega)))
        have CH1028 := CHr.trans CH0 (CHr.keep kk1027 all0 CH0.1)
        have f1029 : Old Z n0 h1004 := ((O0.ext E1001).wr W1004 (by omega))
        have f1030 : Arf Z h1004 b13 k13 .char m6 (pre2 c8 c9) := ((A13.ext E1001).other W1004 (nne (by omega)))
        have A14 : Arf Z h1004 b1001 k1001 .char n7 (t3 c10 c11 c12) := Arf.congr V1004 (fun j hj => by have hj3 : j = 0 ∨ j = 1 ∨ j = 2 := (by omega); rcases hj3 with rfl | rfl | rfl <;> first | (simp [t3, e10, e11, e12]; done) | omega)
        exact seg125 hw C0 p1 p2 p3 p4 p5 p6 m6 n7 c8 c9 c10 c11 c12 b13 b1001 k13 k1001 hB cs fm h1004 n0 (by omega) X1004 hS (by omega) hZ hown e1004 N1004 CH1028 SE f1029 hm hn7 r8 n8 r9 n9 r10 r11 r12 f1030 A14 (by omega) (by omega)
  · refine GoalH.step (T' := T1001) (g' := (mkF m 101 #[.val (.int p1), .val (.int p2), .val (.int p3), .val (.int p4), .val (.int p5), .val (.int p6), .val (.int (Int32.ofNat m6)), .val (.int (Int32.ofNat n7)), .val (.int c8), .val (.int c9), .val (.int c10), .val (.int c11), .val (.int c12), .val (.ref b13), .val (.ref b1001), .unset, .unset, .unset] [])) ?_ (fun t k => XS.ifYes X1001.here hx rfl (pc0 := 92) (pc' := 101) rfl (hb hby at_92) rfl ((if0 _ _).trans (flt c1003).2.2.2) (by decide) (by decide) k)
    have z0 : n7 ≤ 0 := Nat.le_of_not_lt (fun q => c1003 ((nat_lt (i := 0) (by omega) (by omega)).mpr q))
    refine GoalH.step (T' := T1001) (g' := (mkF m 103 #[.val (.int p1), .val (.int p2), .val (.int p3), .val (.int p4), .val (.int p5), .val (.int p6), .val (.int (Int32.ofNat m6)), .val (.int (Int32.ofNat n7)), .val (.int c8), .val (.int c9), .val (.int c10), .val (.int c11), .val (.int c12), .val (.ref b13), .val (.ref b1001), .unset, .unset, .unset] [(.int (Int32.ofNat n7))])) ?_ (fun t k => XS.iload X1001.here hx rfl (hb hby at_101) rfl k)
    refine GoalH.step (T' := T1001) (g' := (mkF m 104 #[.val (.int p1), .val (.int p2), .val (.int p3), .val (.int p4), .val (.int p5), .val (.int p6), .val (.int (Int32.ofNat m6)), .val (.int (Int32.ofNat n7)), .val (.int c8), .val (.int c9), .val (.int c10), .val (.int c11), .val (.int c12), .val (.ref b13), .val (.ref b1001), .unset, .unset, .unset] [(.int (1 : Int32)), (.int (Int32.ofNat n7))])) ?_ (fun t k => XS.iconst X1001.here hx rfl (hb hby at_103) k)
    by_cases c1031 : (1 : Int32) < (Int32.ofNat n7)
    · refine GoalH.step (T' := T1001) (g' := (mkF m 107 #[.val (.int p1), .val (.int p2), .val (.int p3), .val (.int p4), .val (.int p5), .val (.int p6), .val (.int (Int32.ofNat m6)), .val (.int (Int32.ofNat n7)), .val (.int c8), .val (.int c9), .val (.int c10), .val (.int c11), .val (.int c12), .val (.ref b13), .val (.ref b1001), .unset, .unset, .unset] [])) ?_ (fun t k => XS.icmpNo X1001.here hx rfl (hb hby at_104) rfl (tlt c1031).2.2.2 k)
      have z1 : 1 < n7 := (nat_lt (i := 1) (by omega) (by omega)).mp c1031
      refine GoalH.step (T' := T1001) (g' := (mkF m 109 #[.val (.int p1), .val (.int p2), .val (.int p3), .val (.int p4), .val (.int p5), .val (.int p6), .val (.int (Int32.ofNat m6)), .val (.int (Int32.ofNat n7)), .val (.int c8), .val (.int c9), .val (.int c10), .val (.int c11), .val (.int c12), .val (.ref b13), .val (.ref b1001), .unset, .unset, .unset] [(.ref b1001)])) ?_ (fun t k => XS.aload X1001.here hx rfl (hb hby at_107) rfl rfl k)
      refine GoalH.step (T' := T1001) (g' := (mkF m 110 #[.val (.int p1), .val (.int p2), .val (.int p3), .val (.int p4), .val (.int p5), .val (.int p6), .val (.int (Int32.ofNat m6)), .val (.int (Int32.ofNat n7)), .val (.int c8), .val (.int c9), .val (.int c10), .val (.int c11), .val (.int c12), .val (.ref b13), .val (.ref b1001), .unset, .unset, .unset] [(.int (1 : Int32)), (.ref b1001)])) ?_ (fun t k => XS.iconst X1001.here hx rfl (hb hby at_109) k)
      refine GoalH.step (T' := T1001) (g' := (mkF m 112 #[.val (.int p1), .val (.int p2), .val (.int p3), .val (.int p4), .val (.int p5), .val (.int p6), .val (.int (Int32.ofNat m6)), .val (.int (Int32.ofNat n7)), .val (.int c8), .val (.int c9), .val (.int c10), .val (.int c11), .val (.int c12), .val (.ref b13), .val (.ref b1001), .unset, .unset, .unset] [(.int c11), (.int (Int32.ofNat 1)), (.ref b1001)])) ?_ (fun t k => XS.iload X1001.here hx rfl (hb hby at_110) rfl k)
      obtain ⟨cl1032, Ar1032, q1032, S1032, H1032⟩ := (id V1001)
      have hlt1032 : 1 < n7 := by omega
      have hn1032 : n7 < 2 ^ 31 := by omega
      have hin1032 : ¬ ((Int32.ofNat 1) < 0 ∨ cl1032.slots.size ≤ ((Int32.ofNat 1)).toNatClampNeg) := nat_inb S1032 hlt1032 hn1032
      obtain ⟨T1032, h1032, X1032, e1032, W1032, st1032⟩ := stC X1001 hx hZ e1001 Ar1032 (j := (Int32.ofNat 1)) hin1032 (g := (mkF m 112 #[.val (.int p1), .val (.int p2), .val (.int p3), .val (.int p4), .val (.int p5), .val (.int p6), .val (.int (Int32.ofNat m6)), .val (.int (Int32.ofNat n7)), .val (.int c8), .val (.int c9), .val (.int c10), .val (.int c11), .val (.int c12), .val (.ref b13), .val (.ref b1001), .unset, .unset, .unset] [(.int c11), (.int (Int32.ofNat 1)), (.ref b1001)])) rfl rfl (hb hby at_112)
      rw [nat_clamp (show 1 < 2 ^ 31 by omega)] at W1032 X1032
      refine GoalH.step (T' := T1032) (g' := (mkF m 113 #[.val (.int p1), .val (.int p2), .val (.int p3), .val (.int p4), .val (.int p5), .val (.int p6), .val (.int (Int32.ofNat m6)), .val (.int (Int32.ofNat n7)), .val (.int c8), .val (.int c9), .val (.int c10), .val (.int c11), .val (.int c12), .val (.ref b13), .val (.ref b1001), .unset, .unset, .unset] [])) ?_ st1032
      have sz1033 : h1001.size ≤ h1032.size := Nat.le_of_eq W1032.size.symm
      have V1032 : Arf Z h1032 b1001 k1001 .char n7 (fun z => if z = 1 then (nar .char c11) else ((fun _ => 0)) z) := Arf.set Ar1032 q1032 S1032 H1032 W1032
      have N1032 := Fr.snoc X1032 N0 (by omega : n0 ≤ b1001)
      have z1 : 1 < n7 := (nat_lt (i := 1) (by omega) (by omega)).mp c1031
      refine GoalH.step (T' := T1032) (g' := (mkF m 115 #[.val (.int p1), .val (.int p2), .val (.int p3), .val (.int p4), .val (.int p5), .val (.int p6), .val (.int (Int32.ofNat m6)), .val (.int (Int32.ofNat n7)), .val (.int c8), .val (.int c9), .val (.int c10), .val (.int c11), .val (.int c12), .val (.ref b13), .val (.ref b1001), .unset, .unset, .unset] [(.int (Int32.ofNat n7))])) ?_ (fun t k => XS.iload X1032.here hx rfl (hb hby at_113) rfl k)
      refine GoalH.step (T' := T1032) (g' := (mkF m 116 #[.val (.int p1), .val (.int p2), .val (.int p3), .val (.int p4), .val (.int p5), .val (.int p6), .val (.int (Int32.ofNat m6)), .val (.int (Int32.ofNat n7)), .val (.int c8), .val (.int c9), .val (.int c10), .val (.int c11), .val (.int c12), .val (.ref b13), .val (.ref b1001), .unset, .unset, .unset] [(.int (2 : Int32)), (.int (Int32.ofNat n7))])) ?_ (fun t k => XS.iconst X1032.here hx rfl (hb hby at_115) k)
      by_cases c1034 : (2 : Int32) < (Int32.ofNat n7)
      · refine GoalH.step (T' := T1032) (g' := (mkF m 119 #[.val (.int p1), .val (.int p2), .val (.int p3), .val (.int p4), .val (.int p5), .val (.int p6), .val (.int (Int32.ofNat m6)), .val (.int (Int32.ofNat n7)), .val (.int c8), .val (.int c9), .val (.int c10), .val (.int c11), .val (.int c12), .val (.ref b13), .val (.ref b1001), .unset, .unset, .unset] [])) ?_ (fun t k => XS.icmpNo X1032.here hx rfl (hb hby at_116) rfl (tlt c1034).2.2.2 k)
        have z2 : 2 < n7 := (nat_lt (i := 2) (by omega) (by omega)).mp c1034
        refine GoalH.step (T' := T1032) (g' := (mkF m 121 #[.val (.int p1), .val (.int p2), .val (.int p3), .val (.int p4), .val (.int p5), .val (.int p6), .val (.int (Int32.ofNat m6)), .val (.int (Int32.ofNat n7)), .val (.int c8), .val (.int c9), .val (.int c10), .val (.int c11), .val (.int c12), .val (.ref b13), .val (.ref b1001), .unset, .unset, .unset] [(.ref b1001)])) ?_ (fun t k => XS.aload X1032.here hx rfl (hb hby at_119) rfl rfl k)
        refine GoalH.step (T' := T1032) (g' := (mkF m 122 #[.val (.int p1), .val (.int p2), .val (.int p3), .val (.int p4), .val (.int p5), .val (.int p6), .val (.int (Int32.ofNat m6)), .val (.int (Int32.ofNat n7)), .val (.int c8), .val (.int c9), .val (.int c10), .val (.int c11), .val (.int c12), .val (.ref b13), .val (.ref b1001), .unset, .unset, .unset] [(.int (2 : Int32)), (.ref b1001)])) ?_ (fun t k => XS.iconst X1032.here hx rfl (hb hby at_121) k)
        refine GoalH.step (T' := T1032) (g' := (mkF m 124 #[.val (.int p1), .val (.int p2), .val (.int p3), .val (.int p4), .val (.int p5), .val (.int p6), .val (.int (Int32.ofNat m6)), .val (.int (Int32.ofNat n7)), .val (.int c8), .val (.int c9), .val (.int c10), .val (.int c11), .val (.int c12), .val (.ref b13), .val (.ref b1001), .unset, .unset, .unset] [(.int c12), (.int (Int32.ofNat 2)), (.ref b1001)])) ?_ (fun t k => XS.iload X1032.here hx rfl (hb hby at_122) rfl k)
        obtain ⟨cl1035, Ar1035, q1035, S1035, H1035⟩ := (id V1032)
        have hlt1035 : 2 < n7 := by omega
        have hn1035 : n7 < 2 ^ 31 := by omega
        have hin1035 : ¬ ((Int32.ofNat 2) < 0 ∨ cl1035.slots.size ≤ ((Int32.ofNat 2)).toNatClampNeg) := nat_inb S1035 hlt1035 hn1035
        obtain ⟨T1035, h1035, X1035, e1035, W1035, st1035⟩ := stC X1032 hx hZ e1032 Ar1035 (j := (Int32.ofNat 2)) hin1035 (g := (mkF m 124 #[.val (.int p1), .val (.int p2), .val (.int p3), .val (.int p4), .val (.int p5), .val (.int p6), .val (.int (Int32.ofNat m6)), .val (.int (Int32.ofNat n7)), .val (.int c8), .val (.int c9), .val (.int c10), .val (.int c11), .val (.int c12), .val (.ref b13), .val (.ref b1001), .unset, .unset, .unset] [(.int c12), (.int (Int32.ofNat 2)), (.ref b1001)])) rfl rfl (hb hby at_124)
        rw [nat_clamp (show 2 < 2 ^ 31 by omega)] at W1035 X1035
        refine GoalH.step (T' := T1035) (g' := (mkF m 125 #[.val (.int p1), .val (.int p2), .val (.int p3), .val (.int p4), .val (.int p5), .val (.int p6), .val (.int (Int32.ofNat m6)), .val (.int (Int32.ofNat n7)), .val (.int c8), .val (.int c9), .val (.int c10), .val (.int c11), .val (.int c12), .val (.ref b13), .val (.ref b1001), .unset, .unset, .unset] [])) ?_ st1035
        have sz1036 : h1032.size ≤ h1035.size := Nat.le_of_eq W1035.size.symm
        have V1035 : Arf Z h1035 b1001 k1001 .char n7 (fun z => if z = 2 then (nar .char c12) else ((fun z => if z = 1 then (nar .char c11) else ((fun _ => 0)) z)) z) := Arf.set Ar1035 q1035 S1035 H1035 W1035
        have N1035 := Fr.snoc X1035 N1032 (by omega : n0 ≤ b1001)
        have z2 : 2 < n7 := (nat_lt (i := 2) (by omega) (by omega)).mp c1034
        have kk1037 : Keep h0 h1035 [] := ((((Keep.refl h0 []).ext E1001).wr W1032 (Or.inr (by omega))).wr W1035 (Or.inr (by omega)))
        have CH1038 := CHr.trans CH0 (CHr.keep kk1037 all0 CH0.1)
        have f1039 : Old Z n0 h1035 := (((O0.ext E1001).wr W1032 (by omega)).wr W1035 (by omega))
        have f1040 : Arf Z h1035 b13 k13 .char m6 (pre2 c8 c9) := (((A13.ext E1001).other W1032 (nne (by omega))).other W1035 (nne (by omega)))
        have A14 : Arf Z h1035 b1001 k1001 .char n7 (t3 c10 c11 c12) := Arf.congr V1035 (fun j hj => by have hj3 : j = 0 ∨ j = 1 ∨ j = 2 := (by omega); rcases hj3 with rfl | rfl | rfl <;> first | (simp [t3, e10, e11, e12]; done) | omega)
        exact seg125 hw C0 p1 p2 p3 p4 p5 p6 m6 n7 c8 c9 c10 c11 c12 b13 b1001 k13 k1001 hB cs fm h1035 n0 (by omega) X1035 hS (by omega) hZ hown e1035 N1035 CH1038 SE f1039 hm hn7 r8 n8 r9 n9 r10 r11 r12 f1040 A14 (by omega) (by omega)
      · refine GoalH.step (T' := T1032) (g' := (mkF m 125 #[.val (.int p1), .val (.int p2), .val (.int p3), .val (.int p4), .val (.int p5), .val (.int p6), .val (.int (Int32.ofNat m6)), .val (.int (Int32.ofNat n7)), .val (.int c8), .val (.int c9), .val (.int c10), .val (.int c11), .val (.int c12), .val (.ref b13), .val (.ref b1001), .unset, .unset, .unset] [])) ?_ (fun t k => XS.icmpYes X1032.here hx rfl (pc0 := 116) (pc' := 125) rfl (hb hby at_116) rfl (flt c1034).2.2.2 (by decide) (by decide) k)
        have z2 : n7 ≤ 2 := Nat.le_of_not_lt (fun q => c1034 ((nat_lt (i := 2) (by omega) (by omega)).mpr q))
        have kk1041 : Keep h0 h1032 [] := (((Keep.refl h0 []).ext E1001).wr W1032 (Or.inr (by omega)))
        have CH1042 := CHr.trans CH0 (CHr.keep kk1041 all0 CH0.1)
        have f1043 : Old Z n0 h1032 := ((O0.ext E1001).wr W1032 (by omega))
        have f1044 : Arf Z h1032 b13 k13 .char m6 (pre2 c8 c9) := ((A13.ext E1001).other W1032 (nne (by omega)))
        have A14 : Arf Z h1032 b1001 k1001 .char n7 (t3 c10 c11 c12) := Arf.congr V1032 (fun j hj => by have hj3 : j = 0 ∨ j = 1 ∨ j = 2 := (by omega); rcases hj3 with rfl | rfl | rfl <;> first | (simp [t3, e10, e11, e12]; done) | omega)
        exact seg125 hw C0 p1 p2 p3 p4 p5 p6 m6 n7 c8 c9 c10 c11 c12 b13 b1001 k13 k1001 hB cs fm h1032 n0 (by omega) X1032 hS (by omega) hZ hown e1032 N1032 CH1042 SE f1043 hm hn7 r8 n8 r9 n9 r10 r11 r12 f1044 A14 (by omega) (by omega)
    · refine GoalH.step (T' := T1001) (g' := (mkF m 113 #[.val (.int p1), .val (.int p2), .val (.int p3), .val (.int p4), .val (.int p5), .val (.int p6), .val (.int (Int32.ofNat m6)), .val (.int (Int32.ofNat n7)), .val (.int c8), .val (.int c9), .val (.int c10), .val (.int c11), .val (.int c12), .val (.ref b13), .val (.ref b1001), .unset, .unset, .unset] [])) ?_ (fun t k => XS.icmpYes X1001.here hx rfl (pc0 := 104) (pc' := 113) rfl (hb hby at_104) rfl (flt c1031).2.2.2 (by decide) (by decide) k)
      have z1 : n7 ≤ 1 := Nat.le_of_not_lt (fun q => c1031 ((nat_lt (i := 1) (by omega) (by omega)).mpr q))
      refine GoalH.step (T' := T1001) (g' := (mkF m 115 #[.val (.int p1), .val (.int p2), .val (.int p3), .val (.int p4), .val (.int p5), .val (.int p6), .val (.int (Int32.ofNat m6)), .val (.int (Int32.ofNat n7)), .val (.int c8), .val (.int c9), .val (.int c10), .val (.int c11), .val (.int c12), .val (.ref b13), .val (.ref b1001), .unset, .unset, .unset] [(.int (Int32.ofNat n7))])) ?_ (fun t k => XS.iload X1001.here hx rfl (hb hby at_113) rfl k)
      refine GoalH.step (T' := T1001) (g' := (mkF m 116 #[.val (.int p1), .val (.int p2), .val (.int p3), .val (.int p4), .val (.int p5), .val (.int p6), .val (.int (Int32.ofNat m6)), .val (.int (Int32.ofNat n7)), .val (.int c8), .val (.int c9), .val (.int c10), .val (.int c11), .val (.int c12), .val (.ref b13), .val (.ref b1001), .unset, .unset, .unset] [(.int (2 : Int32)), (.int (Int32.ofNat n7))])) ?_ (fun t k => XS.iconst X1001.here hx rfl (hb hby at_115) k)
      by_cases c1045 : (2 : Int32) < (Int32.ofNat n7)
      · refine GoalH.step (T' := T1001) (g' := (mkF m 119 #[.val (.int p1), .val (.int p2), .val (.int p3), .val (.int p4), .val (.int p5), .val (.int p6), .val (.int (Int32.ofNat m6)), .val (.int (Int32.ofNat n7)), .val (.int c8), .val (.int c9), .val (.int c10), .val (.int c11), .val (.int c12), .val (.ref b13), .val (.ref b1001), .unset, .unset, .unset] [])) ?_ (fun t k => XS.icmpNo X1001.here hx rfl (hb hby at_116) rfl (tlt c1045).2.2.2 k)
        have z2 : 2 < n7 := (nat_lt (i := 2) (by omega) (by omega)).mp c1045
        refine GoalH.step (T' := T1001) (g' := (mkF m 121 #[.val (.int p1), .val (.int p2), .val (.int p3), .val (.int p4), .val (.int p5), .val (.int p6), .val (.int (Int32.ofNat m6)), .val (.int (Int32.ofNat n7)), .val (.int c8), .val (.int c9), .val (.int c10), .val (.int c11), .val (.int c12), .val (.ref b13), .val (.ref b1001), .unset, .unset, .unset] [(.ref b1001)])) ?_ (fun t k => XS.aload X1001.here hx rfl (hb hby at_119) rfl rfl k)
        refine GoalH.step (T' := T1001) (g' := (mkF m 122 #[.val (.int p1), .val (.int p2), .val (.int p3), .val (.int p4), .val (.int p5), .val (.int p6), .val (.int (Int32.ofNat m6)), .val (.int (Int32.ofNat n7)), .val (.int c8), .val (.int c9), .val (.int c10), .val (.int c11), .val (.int c12), .val (.ref b13), .val (.ref b1001), .unset, .unset, .unset] [(.int (2 : Int32)), (.ref b1001)])) ?_ (fun t k => XS.iconst X1001.here hx rfl (hb hby at_121) k)
        refine GoalH.step (T' := T1001) (g' := (mkF m 124 #[.val (.int p1), .val (.int p2), .val (.int p3), .val (.int p4), .val (.int p5), .val (.int p6), .val (.int (Int32.ofNat m6)), .val (.int (Int32.ofNat n7)), .val (.int c8), .val (.int c9), .val (.int c10), .val (.int c11), .val (.int c12), .val (.ref b13), .val (.ref b1001), .unset, .unset, .unset] [(.int c12), (.int (Int32.ofNat 2)), (.ref b1001)])) ?_ (fun t k => XS.iload X1001.here hx rfl (hb hby at_122) rfl k)
        obtain ⟨cl1046, Ar1046, q1046, S1046, H1046⟩ := (id V1001)
        have hlt1046 : 2 < n7 := by omega
        have hn1046 : n7 < 2 ^ 31 := by omega
        have hin1046 : ¬ ((Int32.ofNat 2) < 0 ∨ cl1046.slots.size ≤ ((Int32.ofNat 2)).toNatClampNeg) := nat_inb S1046 hlt1046 hn1046
        obtain ⟨T1046, h1046, X1046, e1046, W1046, st1046⟩ := stC X1001 hx hZ e1001 Ar1046 (j := (Int32.ofNat 2)) hin1046 (g := (mkF m 124 #[.val (.int p1), .val (.int p2), .val (.int p3), .val (.int p4), .val (.int p5), .val (.int p6), .val (.int (Int32.ofNat m6)), .val (.int (Int32.ofNat n7)), .val (.int c8), .val (.int c9), .val (.int c10), .val (.int c11), .val (.int c12), .val (.ref b13), .val (.ref b1001), .unset, .unset, .unset] [(.int c12), (.int (Int32.ofNat 2)), (.ref b1001)])) rfl rfl (hb hby at_124)
        rw [nat_clamp (show 2 < 2 ^ 31 by omega)] at W1046 X1046
        refine GoalH.step (T' := T1046) (g' := (mkF m 125 #[.val (.int p1), .val (.int p2), .val (.int p3), .val (.int p4), .val (.int p5), .val (.int p6), .val (.int (Int32.ofNat m6)), .val (.int (Int32.ofNat n7)), .val (.int c8), .val (.int c9), .val (.int c10), .val (.int c11), .val (.int c12), .val (.ref b13), .val (.ref b1001), .unset, .unset, .unset] [])) ?_ st1046
        have sz1047 : h1001.size ≤ h1046.size := Nat.le_of_eq W1046.size.symm
        have V1046 : Arf Z h1046 b1001 k1001 .char n7 (fun z => if z = 2 then (nar .char c12) else ((fun _ => 0)) z) := Arf.set Ar1046 q1046 S1046 H1046 W1046
        have N1046 := Fr.snoc X1046 N0 (by omega : n0 ≤ b1001)
        have z2 : 2 < n7 := (nat_lt (i := 2) (by omega) (by omega)).mp c1045
        have kk1048 : Keep h0 h1046 [] := (((Keep.refl h0 []).ext E1001).wr W1046 (Or.inr (by omega)))
        have CH1049 := CHr.trans CH0 (CHr.keep kk1048 all0 CH0.1)
        have f1050 : Old Z n0 h1046 := ((O0.ext E1001).wr W1046 (by omega))
        have f1051 : Arf Z h1046 b13 k13 .char m6 (pre2 c8 c9) := ((A13.ext E1001).other W1046 (nne (by omega)))
        have A14 : Arf Z h1046 b1001 k1001 .char n7 (t3 c10 c11 c12) := Arf.congr V1046 (fun j hj => by have hj3 : j = 0 ∨ j = 1 ∨ j = 2 := (by omega); rcases hj3 with rfl | rfl | rfl <;> first | (simp [t3, e10, e11, e12]; done) | omega)
        exact seg125 hw C0 p1 p2 p3 p4 p5 p6 m6 n7 c8 c9 c10 c11 c12 b13 b1001 k13 k1001 hB cs fm h1046 n0 (by omega) X1046 hS (by omega) hZ hown e1046 N1046 CH1049 SE f1050 hm hn7 r8 n8 r9 n9 r10 r11 r12 f1051 A14 (by omega) (by omega)
      · refine GoalH.step (T' := T1001) (g' := (mkF m 125 #[.val (.int p1), .val (.int p2), .val (.int p3), .val (.int p4), .val (.int p5), .val (.int p6), .val (.int (Int32.ofNat m6)), .val (.int (Int32.ofNat n7)), .val (.int c8), .val (.int c9), .val (.int c10), .val (.int c11), .val (.int c12), .val (.ref b13), .val (.ref b1001), .unset, .unset, .unset] [])) ?_ (fun t k => XS.icmpYes X1001.here hx rfl (pc0 := 116) (pc' := 125) rfl (hb hby at_116) rfl (flt c1045).2.2.2 (by decide) (by decide) k)
        have z2 : n7 ≤ 2 := Nat.le_of_not_lt (fun q => c1045 ((nat_lt (i := 2) (by omega) (by omega)).mpr q))
        have kk1052 : Keep h0 h1001 [] := ((Keep.refl h0 []).ext E1001)
        have CH1053 := CHr.trans CH0 (CHr.keep kk1052 all0 CH0.1)
        have f1054 : Old Z n0 h1001 := (O0.ext E1001)
        have f1055 : Arf Z h1001 b13 k13 .char m6 (pre2 c8 c9) := (A13.ext E1001)
        have A14 : Arf Z h1001 b1001 k1001 .char n7 (t3 c10 c11 c12) := Arf.congr V1001 (fun j hj => by have hj3 : j = 0 ∨ j = 1 ∨ j = 2 := (by omega); rcases hj3 with rfl | rfl | rfl <;> first | (simp [t3, e10, e11, e12]; done) | omega)
        exact seg125 hw C0 p1 p2 p3 p4 p5 p6 m6 n7 c8 c9 c10 c11 c12 b13 b1001 k13 k1001 hB cs fm h1001 n0 (by omega) X1001 hS (by omega) hZ hown e1001 N0 CH1053 SE f1054 hm hn7 r8 n8 r9 n9 r10 r11 r12 f1055 A14 (by omega) (by omega)
theorem pd_20 : parseMethodDescriptor "(IC)C" = some ⟨[.int, .char], some .char⟩ := by decide +kernel
theorem ef_0 (m : MethodId) (x0 : Int32) (x1 : Int32) (x2 : Int32) (x3 : Int32) (x4 : Int32) (x5 : Int32) : entryFrame m #[(.int x0), (.int x1), (.int x2), (.int x3), (.int x4), (.int x5)] maxLocals = mkF m 0 #[.val (.int x0), .val (.int x1), .val (.int x2), .val (.int x3), .val (.int x4), .val (.int x5), .unset, .unset, .unset, .unset, .unset, .unset, .unset, .unset, .unset, .unset, .unset, .unset] [] := by first | (simp [entryFrame, mkF, argsToLocals, Value.category, maxLocals]; done) | rfl
set_option maxRecDepth 65536 in
set_option maxHeartbeats 40000000 in
theorem rm0 (l : Launch) (Z : State) (a0 : Array Value) (hw : ∀ d ∈ tables_1, d.before a0 Z = true) (p1 p2 p3 p4 p5 p6 : Int32) (cs : Int32) (fm : Value) (h0 : Heap) (n0 : Nat) (Z0 : n0 ≤ h0.size) (SE : SEnv Z cs fm) (O0 : Old Z n0 h0) :
    MetH l x code maxLocals ret tables_1 room_1 Z consts_1 [] #[(.int p1), (.int p2), (.int p3), (.int p4), (.int p5), (.int p6)] h0 (fun v h L => v = some (.int 1) ∧ Fr n0 L) := by
  refine of_goalH (plainFor_of_name (by first | (simp [plainName, overriddenIn]; done) | decide +kernel)) ?_
  intro p e s m below meth c s₁ C X0 hS e0 hCH hSf
  have C0 := C
  obtain ⟨hx, hZ, hby, hml, hret, hown, hnm⟩ := C
  have hown : s.vm.findClass "com/example/gids/gids/AsciiStartsWithIgnoringCasePinLaw" = some m.cls := hown
  have hret : meth.sig.returnType = (some .boolean) := hret
  have CH0 := CHr.refl hCH
  have N0 := Fr.nil n0
  rw [ef_0]
  refine GoalH.step (T' := s₁) (g' := (mkF m 2 #[.val (.int p1), .val (.int p2), .val (.int p3), .val (.int p4), .val (.int p5), .val (.int p6), .unset, .unset, .unset, .unset, .unset, .unset, .unset, .unset, .unset, .unset, .unset, .unset] [(.int p6)])) ?_ (fun t k => XS.iload X0.here hx rfl (hb hby at_0) rfl k)
  refine GoalH.step (T' := s₁) (g' := (mkF m 4 #[.val (.int p1), .val (.int p2), .val (.int p3), .val (.int p4), .val (.int p5), .val (.int p6), .unset, .unset, .unset, .unset, .unset, .unset, .unset, .unset, .unset, .unset, .unset, .unset] [(.int (2147483647 : Int32)), (.int p6)])) ?_ (fun t k => X0.ldcInt hx hown (mvT hZ (hw _ (List.mem_of_getElem? (i := 0) rfl))) (g := (mkF m 2 #[.val (.int p1), .val (.int p2), .val (.int p3), .val (.int p4), .val (.int p5), .val (.int p6), .unset, .unset, .unset, .unset, .unset, .unset, .unset, .unset, .unset, .unset, .unset, .unset] [(.int p6)])) rfl (hb hby at_2) _ k)
  refine GoalH.step (T' := s₁) (g' := (mkF m 5 #[.val (.int p1), .val (.int p2), .val (.int p3), .val (.int p4), .val (.int p5), .val (.int p6), .unset, .unset, .unset, .unset, .unset, .unset, .unset, .unset, .unset, .unset, .unset, .unset] [(.int (p6 &&& (2147483647 : Int32)))])) ?_ (fun t k => XS.iand X0.here hx rfl (hb hby at_4) rfl k)
  refine GoalH.step (T' := s₁) (g' := (mkF m 6 #[.val (.int p1), .val (.int p2), .val (.int p3), .val (.int p4), .val (.int p5), .val (.int p6), .unset, .unset, .unset, .unset, .unset, .unset, .unset, .unset, .unset, .unset, .unset, .unset] [(.int (3 : Int32)), (.int (p6 &&& (2147483647 : Int32)))])) ?_ (fun t k => XS.iconst X0.here hx rfl (hb hby at_5) k)
  refine GoalH.step (T' := s₁) (g' := (mkF m 7 #[.val (.int p1), .val (.int p2), .val (.int p3), .val (.int p4), .val (.int p5), .val (.int p6), .unset, .unset, .unset, .unset, .unset, .unset, .unset, .unset, .unset, .unset, .unset, .unset] [(.int ((p6 &&& (2147483647 : Int32)) % (3 : Int32)))])) ?_ (fun t k => iremM X0 hx rfl (hb hby at_6) rfl (by decide) k)
  obtain ⟨m6, hm, em6⟩ := own_m p6
  rw [em6]
  refine GoalH.step (T' := s₁) (g' := (mkF m 9 #[.val (.int p1), .val (.int p2), .val (.int p3), .val (.int p4), .val (.int p5), .val (.int p6), .val (.int (Int32.ofNat m6)), .unset, .unset, .unset, .unset, .unset, .unset, .unset, .unset, .unset, .unset, .unset] [])) ?_ (fun t k => XS.istore X0.here hx rfl (hb hby at_7) rfl (l' := #[.val (.int p1), .val (.int p2), .val (.int p3), .val (.int p4), .val (.int p5), .val (.int p6), .val (.int (Int32.ofNat m6)), .unset, .unset, .unset, .unset, .unset, .unset, .unset, .unset, .unset, .unset, .unset]) rfl k)
  refine GoalH.step (T' := s₁) (g' := (mkF m 11 #[.val (.int p1), .val (.int p2), .val (.int p3), .val (.int p4), .val (.int p5), .val (.int p6), .val (.int (Int32.ofNat m6)), .unset, .unset, .unset, .unset, .unset, .unset, .unset, .unset, .unset, .unset, .unset] [(.int p6)])) ?_ (fun t k => XS.iload X0.here hx rfl (hb hby at_9) rfl k)
  refine GoalH.step (T' := s₁) (g' := (mkF m 12 #[.val (.int p1), .val (.int p2), .val (.int p3), .val (.int p4), .val (.int p5), .val (.int p6), .val (.int (Int32.ofNat m6)), .unset, .unset, .unset, .unset, .unset, .unset, .unset, .unset, .unset, .unset, .unset] [(.int (2 : Int32)), (.int p6)])) ?_ (fun t k => XS.iconst X0.here hx rfl (hb hby at_11) k)
  refine GoalH.step (T' := s₁) (g' := (mkF m 13 #[.val (.int p1), .val (.int p2), .val (.int p3), .val (.int p4), .val (.int p5), .val (.int p6), .val (.int (Int32.ofNat m6)), .unset, .unset, .unset, .unset, .unset, .unset, .unset, .unset, .unset, .unset, .unset] [(.int ((p6.toUInt32 >>> ((2 : Int32) &&& 31).toUInt32).toInt32))])) ?_ (fun t k => XS.iushr X0.here hx rfl (hb hby at_12) rfl k)
  refine GoalH.step (T' := s₁) (g' := (mkF m 14 #[.val (.int p1), .val (.int p2), .val (.int p3), .val (.int p4), .val (.int p5), .val (.int p6), .val (.int (Int32.ofNat m6)), .unset, .unset, .unset, .unset, .unset, .unset, .unset, .unset, .unset, .unset, .unset] [(.int (3 : Int32)), (.int ((p6.toUInt32 >>> ((2 : Int32) &&& 31).toUInt32).toInt32))])) ?_ (fun t k => XS.iconst X0.here hx rfl (hb hby at_13) k)
  refine GoalH.step (T' := s₁) (g' := (mkF m 15 #[.val (.int p1), .val (.int p2), .val (.int p3), .val (.int p4), .val (.int p5), .val (.int p6), .val (.int (Int32.ofNat m6)), .unset, .unset, .unset, .unset, .unset, .unset, .unset, .unset, .unset, .unset, .unset] [(.int (((p6.toUInt32 >>> ((2 : Int32) &&& 31).toUInt32).toInt32) &&& (3 : Int32)))])) ?_ (fun t k => XS.iand X0.here hx rfl (hb hby at_14) rfl k)
  obtain ⟨n7, hn7, en7⟩ := own_n ((p6.toUInt32 >>> ((2 : Int32) &&& 31).toUInt32).toInt32)
  rw [en7]
  refine GoalH.step (T' := s₁) (g' := (mkF m 17 #[.val (.int p1), .val (.int p2), .val (.int p3), .val (.int p4), .val (.int p5), .val (.int p6), .val (.int (Int32.ofNat m6)), .val (.int (Int32.ofNat n7)), .unset, .unset, .unset, .unset, .unset, .unset, .unset, .unset, .unset, .unset] [])) ?_ (fun t k => XS.istore X0.here hx rfl (hb hby at_15) rfl (l' := #[.val (.int p1), .val (.int p2), .val (.int p3), .val (.int p4), .val (.int p5), .val (.int p6), .val (.int (Int32.ofNat m6)), .val (.int (Int32.ofNat n7)), .unset, .unset, .unset, .unset, .unset, .unset, .unset, .unset, .unset, .unset]) rfl k)
  refine GoalH.step (T' := s₁) (g' := (mkF m 18 #[.val (.int p1), .val (.int p2), .val (.int p3), .val (.int p4), .val (.int p5), .val (.int p6), .val (.int (Int32.ofNat m6)), .val (.int (Int32.ofNat n7)), .unset, .unset, .unset, .unset, .unset, .unset, .unset, .unset, .unset, .unset] [(.int p1)])) ?_ (fun t k => XS.iloadN X0.here hx rfl (hb hby at_17) rfl k)
  obtain ⟨v1001, T1001, h1001, L1001, X1001, e1001, hQ1001, st1001⟩ := callStatic X0 hx hZ hown (hw _ (List.mem_of_getElem? (i := 1) rfl)) (hw _ (List.mem_of_getElem? (i := 2) rfl)) (hw _ (List.mem_of_getElem? (i := 3) rfl)) (hw _ (List.mem_of_getElem? (i := 4) rfl)) (by decide) (rmLO l Z a0 hw p1 h0 n0 (by omega)) e0 (W := 0) (by decide) (by decide) (by decide) (by decide) (g := (mkF m 18 #[.val (.int p1), .val (.int p2), .val (.int p3), .val (.int p4), .val (.int p5), .val (.int p6), .val (.int (Int32.ofNat m6)), .val (.int (Int32.ofNat n7)), .unset, .unset, .unset, .unset, .unset, .unset, .unset, .unset, .unset, .unset] [(.int p1)])) rfl (by rw [hml]; rfl) (argsL := [(.int p1)]) (rest := []) (lenOf pd_15 rfl) rfl (by show 2 * 0 + _ ≤ _; exact Nat.le_of_eq rfl) (hb hby at_18) rfl
  obtain ⟨c8, rfl, r8, n8, M1001, q1001⟩ := hQ1001
  rw [q1001] at e1001
  have N1001 := Fr.app N0 M1001
  refine GoalH.step (T' := T1001) (g' := (mkF m 21 #[.val (.int p1), .val (.int p2), .val (.int p3), .val (.int p4), .val (.int p5), .val (.int p6), .val (.int (Int32.ofNat m6)), .val (.int (Int32.ofNat n7)), .unset, .unset, .unset, .unset, .unset, .unset, .unset, .unset, .unset, .unset] [(.int c8)])) ?_ st1001
  refine GoalH.step (T' := T1001) (g' := (mkF m 23 #[.val (.int p1), .val (.int p2), .val (.int p3), .val (.int p4), .val (.int p5), .val (.int p6), .val (.int (Int32.ofNat m6)), .val (.int (Int32.ofNat n7)), .val (.int c8), .unset, .unset, .unset, .unset, .unset, .unset, .unset, .unset, .unset] [])) ?_ (fun t k => XS.istore X1001.here hx rfl (hb hby at_21) rfl (l' := #[.val (.int p1), .val (.int p2), .val (.int p3), .val (.int p4), .val (.int p5), .val (.int p6), .val (.int (Int32.ofNat m6)), .val (.int (Int32.ofNat n7)), .val (.int c8), .unset, .unset, .unset, .unset, .unset, .unset, .unset, .unset, .unset]) rfl k)
  refine GoalH.step (T' := T1001) (g' := (mkF m 24 #[.val (.int p1), .val (.int p2), .val (.int p3), .val (.int p4), .val (.int p5), .val (.int p6), .val (.int (Int32.ofNat m6)), .val (.int (Int32.ofNat n7)), .val (.int c8), .unset, .unset, .unset, .unset, .unset, .unset, .unset, .unset, .unset] [(.int p2)])) ?_ (fun t k => XS.iloadN X1001.here hx rfl (hb hby at_23) rfl k)
  obtain ⟨v1002, T1002, h1002, L1002, X1002, e1002, hQ1002, st1002⟩ := callStatic X1001 hx hZ hown (hw _ (List.mem_of_getElem? (i := 1) rfl)) (hw _ (List.mem_of_getElem? (i := 2) rfl)) (hw _ (List.mem_of_getElem? (i := 3) rfl)) (hw _ (List.mem_of_getElem? (i := 4) rfl)) (by decide) (rmLO l Z a0 hw p2 h0 n0 (by omega)) e1001 (W := 0) (by decide) (by decide) (by decide) (by decide) (g := (mkF m 24 #[.val (.int p1), .val (.int p2), .val (.int p3), .val (.int p4), .val (.int p5), .val (.int p6), .val (.int (Int32.ofNat m6)), .val (.int (Int32.ofNat n7)), .val (.int c8), .unset, .unset, .unset, .unset, .unset, .unset, .unset, .unset, .unset] [(.int p2)])) rfl (by rw [hml]; rfl) (argsL := [(.int p2)]) (rest := []) (lenOf pd_15 rfl) rfl (by show 2 * 0 + _ ≤ _; exact Nat.le_of_eq rfl) (hb hby at_24) rfl
  obtain ⟨c9, rfl, r9, n9, M1002, q1002⟩ := hQ1002
  rw [q1002] at e1002
  have N1002 := Fr.app N1001 M1002
  refine GoalH.step (T' := T1002) (g' := (mkF m 27 #[.val (.int p1), .val (.int p2), .val (.int p3), .val (.int p4), .val (.int p5), .val (.int p6), .val (.int (Int32.ofNat m6)), .val (.int (Int32.ofNat n7)), .val (.int c8), .unset, .unset, .unset, .unset, .unset, .unset, .unset, .unset, .unset] [(.int c9)])) ?_ st1002
  refine GoalH.step (T' := T1002) (g' := (mkF m 29 #[.val (.int p1), .val (.int p2), .val (.int p3), .val (.int p4), .val (.int p5), .val (.int p6), .val (.int (Int32.ofNat m6)), .val (.int (Int32.ofNat n7)), .val (.int c8), .val (.int c9), .unset, .unset, .unset, .unset, .unset, .unset, .unset, .unset] [])) ?_ (fun t k => XS.istore X1002.here hx rfl (hb hby at_27) rfl (l' := #[.val (.int p1), .val (.int p2), .val (.int p3), .val (.int p4), .val (.int p5), .val (.int p6), .val (.int (Int32.ofNat m6)), .val (.int (Int32.ofNat n7)), .val (.int c8), .val (.int c9), .unset, .unset, .unset, .unset, .unset, .unset, .unset, .unset]) rfl k)
  refine GoalH.step (T' := T1002) (g' := (mkF m 30 #[.val (.int p1), .val (.int p2), .val (.int p3), .val (.int p4), .val (.int p5), .val (.int p6), .val (.int (Int32.ofNat m6)), .val (.int (Int32.ofNat n7)), .val (.int c8), .val (.int c9), .unset, .unset, .unset, .unset, .unset, .unset, .unset, .unset] [(.int p3)])) ?_ (fun t k => XS.iloadN X1002.here hx rfl (hb hby at_29) rfl k)
  refine GoalH.step (T' := T1002) (g' := (mkF m 32 #[.val (.int p1), .val (.int p2), .val (.int p3), .val (.int p4), .val (.int p5), .val (.int p6), .val (.int (Int32.ofNat m6)), .val (.int (Int32.ofNat n7)), .val (.int c8), .val (.int c9), .unset, .unset, .unset, .unset, .unset, .unset, .unset, .unset] [(.int c8), (.int p3)])) ?_ (fun t k => XS.iload X1002.here hx rfl (hb hby at_30) rfl k)
  obtain ⟨v1003, T1003, h1003, L1003, X1003, e1003, hQ1003, st1003⟩ := callStatic X1002 hx hZ hown (hw _ (List.mem_of_getElem? (i := 6) rfl)) (hw _ (List.mem_of_getElem? (i := 7) rfl)) (hw _ (List.mem_of_getElem? (i := 3) rfl)) (hw _ (List.mem_of_getElem? (i := 8) rfl)) (by decide) (rmTC l Z a0 hw p3 c8 h0 n0 (by omega)) e1002 (W := 0) (by decide) (by decide) (by decide) (by decide) (g := (mkF m 32 #[.val (.int p1), .val (.int p2), .val (.int p3), .val (.int p4), .val (.int p5), .val (.int p6), .val (.int (Int32.ofNat m6)), .val (.int (Int32.ofNat n7)), .val (.int c8), .val (.int c9), .unset, .unset, .unset, .unset, .unset, .unset, .unset, .unset] [(.int c8), (.int p3)])) rfl (by rw [hml]; rfl) (argsL := [(.int p3), (.int c8)]) (rest := []) (lenOf pd_20 rfl) rfl (by show 2 * 0 + _ ≤ _; exact Nat.le_of_eq rfl) (hb hby at_32) rfl
  obtain ⟨c10, rfl, r10, M1003, q1003⟩ := hQ1003
  rw [q1003] at e1003
  have N1003 := Fr.app N1002 M1003
  refine GoalH.step (T' := T1003) (g' := (mkF m 35 #[.val (.int p1), .val (.int p2), .val (.int p3), .val (.int p4), .val (.int p5), .val (.int p6), .val (.int (Int32.ofNat m6)), .val (.int (Int32.ofNat n7)), .val (.int c8), .val (.int c9), .unset, .unset, .unset, .unset, .unset, .unset, .unset, .unset] [(.int c10)])) ?_ st1003
  refine GoalH.step (T' := T1003) (g' := (mkF m 37 #[.val (.int p1), .val (.int p2), .val (.int p3), .val (.int p4), .val (.int p5), .val (.int p6), .val (.int (Int32.ofNat m6)), .val (.int (Int32.ofNat n7)), .val (.int c8), .val (.int c9), .val (.int c10), .unset, .unset, .unset, .unset, .unset, .unset, .unset] [])) ?_ (fun t k => XS.istore X1003.here hx rfl (hb hby at_35) rfl (l' := #[.val (.int p1), .val (.int p2), .val (.int p3), .val (.int p4), .val (.int p5), .val (.int p6), .val (.int (Int32.ofNat m6)), .val (.int (Int32.ofNat n7)), .val (.int c8), .val (.int c9), .val (.int c10), .unset, .unset, .unset, .unset, .unset, .unset, .unset]) rfl k)
  refine GoalH.step (T' := T1003) (g' := (mkF m 38 #[.val (.int p1), .val (.int p2), .val (.int p3), .val (.int p4), .val (.int p5), .val (.int p6), .val (.int (Int32.ofNat m6)), .val (.int (Int32.ofNat n7)), .val (.int c8), .val (.int c9), .val (.int c10), .unset, .unset, .unset, .unset, .unset, .unset, .unset] [(.int p4)])) ?_ (fun t k => XS.iloadN X1003.here hx rfl (hb hby at_37) rfl k)
  refine GoalH.step (T' := T1003) (g' := (mkF m 40 #[.val (.int p1), .val (.int p2), .val (.int p3), .val (.int p4), .val (.int p5), .val (.int p6), .val (.int (Int32.ofNat m6)), .val (.int (Int32.ofNat n7)), .val (.int c8), .val (.int c9), .val (.int c10), .unset, .unset, .unset, .unset, .unset, .unset, .unset] [(.int c9), (.int p4)])) ?_ (fun t k => XS.iload X1003.here hx rfl (hb hby at_38) rfl k)
  obtain ⟨v1004, T1004, h1004, L1004, X1004, e1004, hQ1004, st1004⟩ := callStatic X1003 hx hZ hown (hw _ (List.mem_of_getElem? (i := 6) rfl)) (hw _ (List.mem_of_getElem? (i := 7) rfl)) (hw _ (List.mem_of_getElem? (i := 3) rfl)) (hw _ (List.mem_of_getElem? (i := 8) rfl)) (by decide) (rmTC l Z a0 hw p4 c9 h0 n0 (by omega)) e1003 (W := 0) (by decide) (by decide) (by decide) (by decide) (g := (mkF m 40 #[.val (.int p1), .val (.int p2), .val (.int p3), .val (.int p4), .val (.int p5), .val (.int p6), .val (.int (Int32.ofNat m6)), .val (.int (Int32.ofNat n7)), .val (.int c8), .val (.int c9), .val (.int c10), .unset, .unset, .unset, .unset, .unset, .unset, .unset] [(.int c9), (.int p4)])) rfl (by rw [hml]; rfl) (argsL := [(.int p4), (.int c9)]) (rest := []) (lenOf pd_20 rfl) rfl (by show 2 * 0 + _ ≤ _; exact Nat.le_of_eq rfl) (hb hby at_40) rfl
  obtain ⟨c11, rfl, r11, M1004, q1004⟩ := hQ1004
  rw [q1004] at e1004
  have N1004 := Fr.app N1003 M1004
  refine GoalH.step (T' := T1004) (g' := (mkF m 43 #[.val (.int p1), .val (.int p2), .val (.int p3), .val (.int p4), .val (.int p5), .val (.int p6), .val (.int (Int32.ofNat m6)), .val (.int (Int32.ofNat n7)), .val (.int c8), .val (.int c9), .val (.int c10), .unset, .unset, .unset, .unset, .unset, .unset, .unset] [(.int c11)])) ?_ st1004
  refine GoalH.step (T' := T1004) (g' := (mkF m 45 #[.val (.int p1), .val (.int p2), .val (.int p3), .val (.int p4), .val (.int p5), .val (.int p6), .val (.int (Int32.ofNat m6)), .val (.int (Int32.ofNat n7)), .val (.int c8), .val (.int c9), .val (.int c10), .val (.int c11), .unset, .unset, .unset, .unset, .unset, .unset] [])) ?_ (fun t k => XS.istore X1004.here hx rfl (hb hby at_43) rfl (l' := #[.val (.int p1), .val (.int p2), .val (.int p3), .val (.int p4), .val (.int p5), .val (.int p6), .val (.int (Int32.ofNat m6)), .val (.int (Int32.ofNat n7)), .val (.int c8), .val (.int c9), .val (.int c10), .val (.int c11), .unset, .unset, .unset, .unset, .unset, .unset]) rfl k)
  refine GoalH.step (T' := T1004) (g' := (mkF m 47 #[.val (.int p1), .val (.int p2), .val (.int p3), .val (.int p4), .val (.int p5), .val (.int p6), .val (.int (Int32.ofNat m6)), .val (.int (Int32.ofNat n7)), .val (.int c8), .val (.int c9), .val (.int c10), .val (.int c11), .unset, .unset, .unset, .unset, .unset, .unset] [(.int p5)])) ?_ (fun t k => XS.iload X1004.here hx rfl (hb hby at_45) rfl k)
  refine GoalH.step (T' := T1004) (g' := (mkF m 48 #[.val (.int p1), .val (.int p2), .val (.int p3), .val (.int p4), .val (.int p5), .val (.int p6), .val (.int (Int32.ofNat m6)), .val (.int (Int32.ofNat n7)), .val (.int c8), .val (.int c9), .val (.int c10), .val (.int c11), .unset, .unset, .unset, .unset, .unset, .unset] [(.int (2 : Int32)), (.int p5)])) ?_ (fun t k => XS.iconst X1004.here hx rfl (hb hby at_47) k)
  refine GoalH.step (T' := T1004) (g' := (mkF m 49 #[.val (.int p1), .val (.int p2), .val (.int p3), .val (.int p4), .val (.int p5), .val (.int p6), .val (.int (Int32.ofNat m6)), .val (.int (Int32.ofNat n7)), .val (.int c8), .val (.int c9), .val (.int c10), .val (.int c11), .unset, .unset, .unset, .unset, .unset, .unset] [(.int ((p5.toUInt32 >>> ((2 : Int32) &&& 31).toUInt32).toInt32))])) ?_ (fun t k => XS.iushr X1004.here hx rfl (hb hby at_48) rfl k)
  refine GoalH.step (T' := T1004) (g' := (mkF m 51 #[.val (.int p1), .val (.int p2), .val (.int p3), .val (.int p4), .val (.int p5), .val (.int p6), .val (.int (Int32.ofNat m6)), .val (.int (Int32.ofNat n7)), .val (.int c8), .val (.int c9), .val (.int c10), .val (.int c11), .unset, .unset, .unset, .unset, .unset, .unset] [(.int (65535 : Int32)), (.int ((p5.toUInt32 >>> ((2 : Int32) &&& 31).toUInt32).toInt32))])) ?_ (fun t k => X1004.ldcInt hx hown (mvT hZ (hw _ (List.mem_of_getElem? (i := 5) rfl))) (g := (mkF m 49 #[.val (.int p1), .val (.int p2), .val (.int p3), .val (.int p4), .val (.int p5), .val (.int p6), .val (.int (Int32.ofNat m6)), .val (.int (Int32.ofNat n7)), .val (.int c8), .val (.int c9), .val (.int c10), .val (.int c11), .unset, .unset, .unset, .unset, .unset, .unset] [(.int ((p5.toUInt32 >>> ((2 : Int32) &&& 31).toUInt32).toInt32))])) rfl (hb hby at_49) _ k)
  refine GoalH.step (T' := T1004) (g' := (mkF m 52 #[.val (.int p1), .val (.int p2), .val (.int p3), .val (.int p4), .val (.int p5), .val (.int p6), .val (.int (Int32.ofNat m6)), .val (.int (Int32.ofNat n7)), .val (.int c8), .val (.int c9), .val (.int c10), .val (.int c11), .unset, .unset, .unset, .unset, .unset, .unset] [(.int (((p5.toUInt32 >>> ((2 : Int32) &&& 31).toUInt32).toInt32) &&& (65535 : Int32)))])) ?_ (fun t k => XS.iand X1004.here hx rfl (hb hby at_51) rfl k)
  refine GoalH.step (T' := T1004) (g' := (mkF m 53 #[.val (.int p1), .val (.int p2), .val (.int p3), .val (.int p4), .val (.int p5), .val (.int p6), .val (.int (Int32.ofNat m6)), .val (.int (Int32.ofNat n7)), .val (.int c8), .val (.int c9), .val (.int c10), .val (.int c11), .unset, .unset, .unset, .unset, .unset, .unset] [(.int ((((p5.toUInt32 >>> ((2 : Int32) &&& 31).toUInt32).toInt32) &&& (65535 : Int32)).toUInt32.toUInt16.toUInt32.toInt32))])) ?_ (fun t k => XS.i2c X1004.here hx rfl (hb hby at_52) rfl k)
  obtain ⟨c12, hc12⟩ : ∃ z, z = ((((p5.toUInt32 >>> ((2 : Int32) &&& 31).toUInt32).toInt32) &&& (65535 : Int32)).toUInt32.toUInt16.toUInt32.toInt32) := ⟨_, rfl⟩
  rw [← hc12]
  have r12 : rng c12 := by rw [hc12]; exact own_i2cr _
  have e8 : nar .char c8 = c8 := own_i2c _ r8.1 r8.2
  have e9 : nar .char c9 = c9 := own_i2c _ r9.1 r9.2
  have e10 : nar .char c10 = c10 := own_i2c _ r10.1 r10.2
  have e11 : nar .char c11 = c11 := own_i2c _ r11.1 r11.2
  have e12 : nar .char c12 = c12 := own_i2c _ r12.1 r12.2
  refine GoalH.step (T' := T1004) (g' := (mkF m 55 #[.val (.int p1), .val (.int p2), .val (.int p3), .val (.int p4), .val (.int p5), .val (.int p6), .val (.int (Int32.ofNat m6)), .val (.int (Int32.ofNat n7)), .val (.int c8), .val (.int c9), .val (.int c10), .val (.int c11), .val (.int c12), .unset, .unset, .unset, .unset, .unset] [])) ?_ (fun t k => XS.istore X1004.here hx rfl (hb hby at_53) rfl (l' := #[.val (.int p1), .val (.int p2), .val (.int p3), .val (.int p4), .val (.int p5), .val (.int p6), .val (.int (Int32.ofNat m6)), .val (.int (Int32.ofNat n7)), .val (.int c8), .val (.int c9), .val (.int c10), .val (.int c11), .val (.int c12), .unset, .unset, .unset, .unset, .unset]) rfl k)
  refine GoalH.step (T' := T1004) (g' := (mkF m 57 #[.val (.int p1), .val (.int p2), .val (.int p3), .val (.int p4), .val (.int p5), .val (.int p6), .val (.int (Int32.ofNat m6)), .val (.int (Int32.ofNat n7)), .val (.int c8), .val (.int c9), .val (.int c10), .val (.int c11), .val (.int c12), .unset, .unset, .unset, .unset, .unset] [(.int (Int32.ofNat m6))])) ?_ (fun t k => XS.iload X1004.here hx rfl (hb hby at_55) rfl k)
  obtain ⟨T1005, h1005, k1005, X1005, e1005, E1005, A1005, st1005⟩ := newP X1004 hx hZ (hw _ (List.mem_of_getElem? (i := 9) rfl)) e1004 (g := (mkF m 57 #[.val (.int p1), .val (.int p2), .val (.int p3), .val (.int p4), .val (.int p5), .val (.int p6), .val (.int (Int32.ofNat m6)), .val (.int (Int32.ofNat n7)), .val (.int c8), .val (.int c9), .val (.int c10), .val (.int c11), .val (.int c12), .unset, .unset, .unset, .unset, .unset] [(.int (Int32.ofNat m6))])) rfl (hb hby at_57) rfl (nat_nn (by omega)) (cap := 2) (by rw [nat_clamp (by omega)]; omega) (by decide) (by decide) (by decide)
  obtain ⟨b1005, g1005⟩ : ∃ z, z = h0.size := ⟨_, rfl⟩
  rw [← g1005] at A1005 st1005
  refine GoalH.step (T' := T1005) (g' := (mkF m 59 #[.val (.int p1), .val (.int p2), .val (.int p3), .val (.int p4), .val (.int p5), .val (.int p6), .val (.int (Int32.ofNat m6)), .val (.int (Int32.ofNat n7)), .val (.int c8), .val (.int c9), .val (.int c10), .val (.int c11), .val (.int c12), .unset, .unset, .unset, .unset, .unset] [(.ref b1005)])) ?_ st1005
  have sz1006 : h0.size ≤ h1005.size := E1005.1
  have lt_b1005 : b1005 < h1005.size := A1005.lt
  have V1005 : Arf Z h1005 b1005 k1005 .char m6 (fun _ => 0) := Arf.new A1005 rfl (nat_clamp (by omega))
  refine GoalH.step (T' := T1005) (g' := (mkF m 61 #[.val (.int p1), .val (.int p2), .val (.int p3), .val (.int p4), .val (.int p5), .val (.int p6), .val (.int (Int32.ofNat m6)), .val (.int (Int32.ofNat n7)), .val (.int c8), .val (.int c9), .val (.int c10), .val (.int c11), .val (.int c12), .val (.ref b1005), .unset, .unset, .unset, .unset] [])) ?_ (fun t k => XS.astore X1005.here hx rfl (hb hby at_59) rfl rfl (l' := #[.val (.int p1), .val (.int p2), .val (.int p3), .val (.int p4), .val (.int p5), .val (.int p6), .val (.int (Int32.ofNat m6)), .val (.int (Int32.ofNat n7)), .val (.int c8), .val (.int c9), .val (.int c10), .val (.int c11), .val (.int c12), .val (.ref b1005), .unset, .unset, .unset, .unset]) rfl k)
  refine GoalH.step (T' := T1005) (g' := (mkF m 63 #[.val (.int p1), .val (.int p2), .val (.int p3), .val (.int p4), .val (.int p5), .val (.int p6), .val (.int (Int32.ofNat m6)), .val (.int (Int32.ofNat n7)), .val (.int c8), .val (.int c9), .val (.int c10), .val (.int c11), .val (.int c12), .val (.ref b1005), .unset, .unset, .unset, .unset] [(.int (Int32.ofNat m6))])) ?_ (fun t k => XS.iload X1005.here hx rfl (hb hby at_61) rfl k)
  by_cases c1007 : (0 : Int32) < (Int32.ofNat m6)
  · refine GoalH.step (T' := T1005) (g' := (mkF m 66 #[.val (.int p1), .val (.int p2), .val (.int p3), .val (.int p4), .val (.int p5), .val (.int p6), .val (.int (Int32.ofNat m6)), .val (.int (Int32.ofNat n7)), .val (.int c8), .val (.int c9), .val (.int c10), .val (.int c11), .val (.int c12), .val (.ref b1005), .unset, .unset, .unset, .unset] [])) ?_ (fun t k => XS.ifNo X1005.here hx rfl (hb hby at_63) rfl ((if0 _ _).trans (tlt c1007).2.2.2) k)
    have y0 : 0 < m6 := (nat_lt (i := 0) (by omega) (by omega)).mp c1007
    refine GoalH.step (T' := T1005) (g' := (mkF m 68 #[.val (.int p1), .val (.int p2), .val (.int p3), .val (.int p4), .val (.int p5), .val (.int p6), .val (.int (Int32.ofNat m6)), .val (.int (Int32.ofNat n7)), .val (.int c8), .val (.int c9), .val (.int c10), .val (.int c11), .val (.int c12), .val (.ref b1005), .unset, .unset, .unset, .unset] [(.ref b1005)])) ?_ (fun t k => XS.aload X1005.here hx rfl (hb hby at_66) rfl rfl k)
    refine GoalH.step (T' := T1005) (g' := (mkF m 69 #[.val (.int p1), .val (.int p2), .val (.int p3), .val (.int p4), .val (.int p5), .val (.int p6), .val (.int (Int32.ofNat m6)), .val (.int (Int32.ofNat n7)), .val (.int c8), .val (.int c9), .val (.int c10), .val (.int c11), .val (.int c12), .val (.ref b1005), .unset, .unset, .unset, .unset] [(.int (0 : Int32)), (.ref b1005)])) ?_ (fun t k => XS.iconst X1005.here hx rfl (hb hby at_68) k)
    refine GoalH.step (T' := T1005) (g' := (mkF m 71 #[.val (.int p1), .val (.int p2), .val (.int p3), .val (.int p4), .val (.int p5), .val (.int p6), .val (.int (Int32.ofNat m6)), .val (.int (Int32.ofNat n7)), .val (.int c8), .val (.int c9), .val (.int c10), .val (.int c11), .val (.int c12), .val (.ref b1005), .unset, .unset, .unset, .unset] [(.int c8), (.int (Int32.ofNat 0)), (.ref b1005)])) ?_ (fun t k => XS.iload X1005.here hx rfl (hb hby at_69) rfl k)
    obtain ⟨cl1008, Ar1008, q1008, S1008, H1008⟩ := (id V1005)
    have hlt1008 : 0 < m6 := by omega
    have hn1008 : m6 < 2 ^ 31 := by omega
    have hin1008 : ¬ ((Int32.ofNat 0) < 0 ∨ cl1008.slots.size ≤ ((Int32.ofNat 0)).toNatClampNeg) := nat_inb S1008 hlt1008 hn1008
    obtain ⟨T1008, h1008, X1008, e1008, W1008, st1008⟩ := stC X1005 hx hZ e1005 Ar1008 (j := (Int32.ofNat 0)) hin1008 (g := (mkF m 71 #[.val (.int p1), .val (.int p2), .val (.int p3), .val (.int p4), .val (.int p5), .val (.int p6), .val (.int (Int32.ofNat m6)), .val (.int (Int32.ofNat n7)), .val (.int c8), .val (.int c9), .val (.int c10), .val (.int c11), .val (.int c12), .val (.ref b1005), .unset, .unset, .unset, .unset] [(.int c8), (.int (Int32.ofNat 0)), (.ref b1005)])) rfl rfl (hb hby at_71)
    rw [nat_clamp (show 0 < 2 ^ 31 by omega)] at W1008 X1008
    refine GoalH.step (T' := T1008) (g' := (mkF m 72 #[.val (.int p1), .val (.int p2), .val (.int p3), .val (.int p4), .val (.int p5), .val (.int p6), .val (.int (Int32.ofNat m6)), .val (.int (Int32.ofNat n7)), .val (.int c8), .val (.int c9), .val (.int c10), .val (.int c11), .val (.int c12), .val (.ref b1005), .unset, .unset, .unset, .unset] [])) ?_ st1008
    have sz1009 : h1005.size ≤ h1008.size := Nat.le_of_eq W1008.size.symm
    have V1008 : Arf Z h1008 b1005 k1005 .char m6 (fun z => if z = 0 then (nar .char c8) else ((fun _ => 0)) z) := Arf.set Ar1008 q1008 S1008 H1008 W1008
    have N1008 := Fr.snoc X1008 N1004 (by omega : n0 ≤ b1005)
    have y0 : 0 < m6 := (nat_lt (i := 0) (by omega) (by omega)).mp c1007
    refine GoalH.step (T' := T1008) (g' := (mkF m 74 #[.val (.int p1), .val (.int p2), .val (.int p3), .val (.int p4), .val (.int p5), .val (.int p6), .val (.int (Int32.ofNat m6)), .val (.int (Int32.ofNat n7)), .val (.int c8), .val (.int c9), .val (.int c10), .val (.int c11), .val (.int c12), .val (.ref b1005), .unset, .unset, .unset, .unset] [(.int (Int32.ofNat m6))])) ?_ (fun t k => XS.iload X1008.here hx rfl (hb hby at_72) rfl k)
    refine GoalH.step (T' := T1008) (g' := (mkF m 75 #[.val (.int p1), .val (.int p2), .val (.int p3), .val (.int p4), .val (.int p5), .val (.int p6), .val (.int (Int32.ofNat m6)), .val (.int (Int32.ofNat n7)), .val (.int c8), .val (.int c9), .val (.int c10), .val (.int c11), .val (.int c12), .val (.ref b1005), .unset, .unset, .unset, .unset] [(.int (1 : Int32)), (.int (Int32.ofNat m6))])) ?_ (fun t k => XS.iconst X1008.here hx rfl (hb hby at_74) k)
    by_cases c1010 : (1 : Int32) < (Int32.ofNat m6)
    · refine GoalH.step (T' := T1008) (g' := (mkF m 78 #[.val (.int p1), .val (.int p2), .val (.int p3), .val (.int p4), .val (.int p5), .val (.int p6), .val (.int (Int32.ofNat m6)), .val (.int (Int32.ofNat n7)), .val (.int c8), .val (.int c9), .val (.int c10), .val (.int c11), .val (.int c12), .val (.ref b1005), .unset, .unset, .unset, .unset] [])) ?_ (fun t k => XS.icmpNo X1008.here hx rfl (hb hby at_75) rfl (tlt c1010).2.2.2 k)
      have y1 : 1 < m6 := (nat_lt (i := 1) (by omega) (by omega)).mp c1010
      refine GoalH.step (T' := T1008) (g' := (mkF m 80 #[.val (.int p1), .val (.int p2), .val (.int p3), .val (.int p4), .val (.int p5), .val (.int p6), .val (.int (Int32.ofNat m6)), .val (.int (Int32.ofNat n7)), .val (.int c8), .val (.int c9), .val (.int c10), .val (.int c11), .val (.int c12), .val (.ref b1005), .unset, .unset, .unset, .unset] [(.ref b1005)])) ?_ (fun t k => XS.aload X1008.here hx rfl (hb hby at_78) rfl rfl k)
      refine GoalH.step (T' := T1008) (g' := (mkF m 81 #[.val (.int p1), .val (.int p2), .val (.int p3), .val (.int p4), .val (.int p5), .val (.int p6), .val (.int (Int32.ofNat m6)), .val (.int (Int32.ofNat n7)), .val (.int c8), .val (.int c9), .val (.int c10), .val (.int c11), .val (.int c12), .val (.ref b1005), .unset, .unset, .unset, .unset] [(.int (1 : Int32)), (.ref b1005)])) ?_ (fun t k => XS.iconst X1008.here hx rfl (hb hby at_80) k)
      refine GoalH.step (T' := T1008) (g' := (mkF m 83 #[.val (.int p1), .val (.int p2), .val (.int p3), .val (.int p4), .val (.int p5), .val (.int p6), .val (.int (Int32.ofNat m6)), .val (.int (Int32.ofNat n7)), .val (.int c8), .val (.int c9), .val (.int c10), .val (.int c11), .val (.int c12), .val (.ref b1005), .unset, .unset, .unset, .unset] [(.int c9), (.int (Int32.ofNat 1)), (.ref b1005)])) ?_ (fun t k => XS.iload X1008.here hx rfl (hb hby at_81) rfl k)
      obtain ⟨cl1011, Ar1011, q1011, S1011, H1011⟩ := (id V1008)
      have hlt1011 : 1 < m6 := by omega
      have hn1011 : m6 < 2 ^ 31 := by omega
      have hin1011 : ¬ ((Int32.ofNat 1) < 0 ∨ cl1011.slots.size ≤ ((Int32.ofNat 1)).toNatClampNeg) := nat_inb S1011 hlt1011 hn1011
      obtain ⟨T1011, h1011, X1011, e1011, W1011, st1011⟩ := stC X1008 hx hZ e1008 Ar1011 (j := (Int32.ofNat 1)) hin1011 (g := (mkF m 83 #[.val (.int p1), .val (.int p2), .val (.int p3), .val (.int p4), .val (.int p5), .val (.int p6), .val (.int (Int32.ofNat m6)), .val (.int (Int32.ofNat n7)), .val (.int c8), .val (.int c9), .val (.int c10), .val (.int c11), .val (.int c12), .val (.ref b1005), .unset, .unset, .unset, .unset] [(.int c9), (.int (Int32.ofNat 1)), (.ref b1005)])) rfl rfl (hb hby at_83)
      rw [nat_clamp (show 1 < 2 ^ 31 by omega)] at W1011 X1011
      refine GoalH.step (T' := T1011) (g' := (mkF m 84 #[.val (.int p1), .val (.int p2), .val (.int p3), .val (.int p4), .val (.int p5), .val (.int p6), .val (.int (Int32.ofNat m6)), .val (.int (Int32.ofNat n7)), .val (.int c8), .val (.int c9), .val (.int c10), .val (.int c11), .val (.int c12), .val (.ref b1005), .unset, .unset, .unset, .unset] [])) ?_ st1011
      have sz1012 : h1008.size ≤ h1011.size := Nat.le_of_eq W1011.size.symm
      have V1011 : Arf Z h1011 b1005 k1005 .char m6 (fun z => if z = 1 then (nar .char c9) else ((fun z => if z = 0 then (nar .char c8) else ((fun _ => 0)) z)) z) := Arf.set Ar1011 q1011 S1011 H1011 W1011
      have N1011 := Fr.snoc X1011 N1008 (by omega : n0 ≤ b1005)
      have y1 : 1 < m6 := (nat_lt (i := 1) (by omega) (by omega)).mp c1010
      have kk1013 : Keep h0 h1011 [] := ((((Keep.refl h0 []).ext E1005).wr W1008 (Or.inr (by omega))).wr W1011 (Or.inr (by omega)))
      have CH1014 := CHr.trans CH0 (CHr.keep kk1013 all0 CH0.1)
      have f1015 : Old Z n0 h1011 := (((O0.ext E1005).wr W1008 (by omega)).wr W1011 (by omega))
      have A13 : Arf Z h1011 b1005 k1005 .char m6 (pre2 c8 c9) := Arf.congr V1011 (fun j hj => by have hj3 : j = 0 ∨ j = 1 := (by omega); rcases hj3 with rfl | rfl <;> first | (simp [pre2, e8, e9]; done) | omega)
      exact seg84 hw C0 p1 p2 p3 p4 p5 p6 m6 n7 c8 c9 c10 c11 c12 b1005 k1005 h0 cs fm h1011 n0 (by omega) X1011 hS (by omega) hZ hown e1011 N1011 CH1014 SE f1015 hm hn7 r8 n8 r9 n9 r10 r11 r12 A13 (by omega)
    · refine GoalH.step (T' := T1008) (g' := (mkF m 84 #[.val (.int p1), .val (.int p2), .val (.int p3), .val (.int p4), .val (.int p5), .val (.int p6), .val (.int (Int32.ofNat m6)), .val (.int (Int32.ofNat n7)), .val (.int c8), .val (.int c9), .val (.int c10), .val (.int c11), .val (.int c12), .val (.ref b1005), .unset, .unset, .unset, .unset] [])) ?_ (fun t k => XS.icmpYes X1008.here hx rfl (pc0 := 75) (pc' := 84) rfl (hb hby at_75) rfl (flt c1010).2.2.2 (by decide) (by decide) k)
      have y1 : m6 ≤ 1 := Nat.le_of_not_lt (fun q => c1010 ((nat_lt (i := 1) (by omega) (by omega)).mpr q))
      have kk1016 : Keep h0 h1008 [] := (((Keep.refl h0 []).ext E1005).wr W1008 (Or.inr (by omega)))
      have CH1017 := CHr.trans CH0 (CHr.keep kk1016 all0 CH0.1)
      have f1018 : Old Z n0 h1008 := ((O0.ext E1005).wr W1008 (by omega))
      have A13 : Arf Z h1008 b1005 k1005 .char m6 (pre2 c8 c9) := Arf.congr V1008 (fun j hj => by have hj3 : j = 0 ∨ j = 1 := (by omega); rcases hj3 with rfl | rfl <;> first | (simp [pre2, e8, e9]; done) | omega)
      exact seg84 hw C0 p1 p2 p3 p4 p5 p6 m6 n7 c8 c9 c10 c11 c12 b1005 k1005 h0 cs fm h1008 n0 (by omega) X1008 hS (by omega) hZ hown e1008 N1008 CH1017 SE f1018 hm hn7 r8 n8 r9 n9 r10 r11 r12 A13 (by omega)
  · refine GoalH.step (T' := T1005) (g' := (mkF m 72 #[.val (.int p1), .val (.int p2), .val (.int p3), .val (.int p4), .val (.int p5), .val (.int p6), .val (.int (Int32.ofNat m6)), .val (.int (Int32.ofNat n7)), .val (.int c8), .val (.int c9), .val (.int c10), .val (.int c11), .val (.int c12), .val (.ref b1005), .unset, .unset, .unset, .unset] [])) ?_ (fun t k => XS.ifYes X1005.here hx rfl (pc0 := 63) (pc' := 72) rfl (hb hby at_63) rfl ((if0 _ _).trans (flt c1007).2.2.2) (by decide) (by decide) k)
    have y0 : m6 ≤ 0 := Nat.le_of_not_lt (fun q => c1007 ((nat_lt (i := 0) (by omega) (by omega)).mpr q))
    refine GoalH.step (T' := T1005) (g' := (mkF m 74 #[.val (.int p1), .val (.int p2), .val (.int p3), .val (.int p4), .val (.int p5), .val (.int p6), .val (.int (Int32.ofNat m6)), .val (.int (Int32.ofNat n7)), .val (.int c8), .val (.int c9), .val (.int c10), .val (.int c11), .val (.int c12), .val (.ref b1005), .unset, .unset, .unset, .unset] [(.int (Int32.ofNat m6))])) ?_ (fun t k => XS.iload X1005.here hx rfl (hb hby at_72) rfl k)
    refine GoalH.step (T' := T1005) (g' := (mkF m 75 #[.val (.int p1), .val (.int p2), .val (.int p3), .val (.int p4), .val (.int p5), .val (.int p6), .val (.int (Int32.ofNat m6)), .val (.int (Int32.ofNat n7)), .val (.int c8), .val (.int c9), .val (.int c10), .val (.int c11), .val (.int c12), .val (.ref b1005), .unset, .unset, .unset, .unset] [(.int (1 : Int32)), (.int (Int32.ofNat m6))])) ?_ (fun t k => XS.iconst X1005.here hx rfl (hb hby at_74) k)
    by_cases c1019 : (1 : Int32) < (Int32.ofNat m6)
    · refine GoalH.step (T' := T1005) (g' := (mkF m 78 #[.val (.int p1), .val (.int p2), .val (.int p3), .val (.int p4), .val (.int p5), .val (.int p6), .val (.int (Int32.ofNat m6)), .val (.int (Int32.ofNat n7)), .val (.int c8), .val (.int c9), .val (.int c10), .val (.int c11), .val (.int c12), .val (.ref b1005), .unset, .unset, .unset, .unset] [])) ?_ (fun t k => XS.icmpNo X1005.here hx rfl (hb hby at_75) rfl (tlt c1019).2.2.2 k)
      have y1 : 1 < m6 := (nat_lt (i := 1) (by omega) (by omega)).mp c1019
      refine GoalH.step (T' := T1005) (g' := (mkF m 80 #[.val (.int p1), .val (.int p2), .val (.int p3), .val (.int p4), .val (.int p5), .val (.int p6), .val (.int (Int32.ofNat m6)), .val (.int (Int32.ofNat n7)), .val (.int c8), .val (.int c9), .val (.int c10), .val (.int c11), .val (.int c12), .val (.ref b1005), .unset, .unset, .unset, .unset] [(.ref b1005)])) ?_ (fun t k => XS.aload X1005.here hx rfl (hb hby at_78) rfl rfl k)
      refine GoalH.step (T' := T1005) (g' := (mkF m 81 #[.val (.int p1), .val (.int p2), .val (.int p3), .val (.int p4), .val (.int p5), .val (.int p6), .val (.int (Int32.ofNat m6)), .val (.int (Int32.ofNat n7)), .val (.int c8), .val (.int c9), .val (.int c10), .val (.int c11), .val (.int c12), .val (.ref b1005), .unset, .unset, .unset, .unset] [(.int (1 : Int32)), (.ref b1005)])) ?_ (fun t k => XS.iconst X1005.here hx rfl (hb hby at_80) k)
      refine GoalH.step (T' := T1005) (g' := (mkF m 83 #[.val (.int p1), .val (.int p2), .val (.int p3), .val (.int p4), .val (.int p5), .val (.int p6), .val (.int (Int32.ofNat m6)), .val (.int (Int32.ofNat n7)), .val (.int c8), .val (.int c9), .val (.int c10), .val (.int c11), .val (.int c12), .val (.ref b1005), .unset, .unset, .unset, .unset] [(.int c9), (.int (Int32.ofNat 1)), (.ref b1005)])) ?_ (fun t k => XS.iload X1005.here hx rfl (hb hby at_81) rfl k)
      obtain ⟨cl1020, Ar1020, q1020, S1020, H1020⟩ := (id V1005)
      have hlt1020 : 1 < m6 := by omega
      have hn1020 : m6 < 2 ^ 31 := by omega
      have hin1020 : ¬ ((Int32.ofNat 1) < 0 ∨ cl1020.slots.size ≤ ((Int32.ofNat 1)).toNatClampNeg) := nat_inb S1020 hlt1020 hn1020
      obtain ⟨T1020, h1020, X1020, e1020, W1020, st1020⟩ := stC X1005 hx hZ e1005 Ar1020 (j := (Int32.ofNat 1)) hin1020 (g := (mkF m 83 #[.val (.int p1), .val (.int p2), .val (.int p3), .val (.int p4), .val (.int p5), .val (.int p6), .val (.int (Int32.ofNat m6)), .val (.int (Int32.ofNat n7)), .val (.int c8), .val (.int c9), .val (.int c10), .val (.int c11), .val (.int c12), .val (.ref b1005), .unset, .unset, .unset, .unset] [(.int c9), (.int (Int32.ofNat 1)), (.ref b1005)])) rfl rfl (hb hby at_83)
      rw [nat_clamp (show 1 < 2 ^ 31 by omega)] at W1020 X1020
      refine GoalH.step (T' := T1020) (g' := (mkF m 84 #[.val (.int p1), .val (.int p2), .val (.int p3), .val (.int p4), .val (.int p5), .val (.int p6), .val (.int (Int32.ofNat m6)), .val (.int (Int32.ofNat n7)), .val (.int c8), .val (.int c9), .val (.int c10), .val (.int c11), .val (.int c12), .val (.ref b1005), .unset, .unset, .unset, .unset] [])) ?_ st1020
      have sz1021 : h1005.size ≤ h1020.size := Nat.le_of_eq W1020.size.symm
      have V1020 : Arf Z h1020 b1005 k1005 .char m6 (fun z => if z = 1 then (nar .char c9) else ((fun _ => 0)) z) := Arf.set Ar1020 q1020 S1020 H1020 W1020
      have N1020 := Fr.snoc X1020 N1004 (by omega : n0 ≤ b1005)
      have y1 : 1 < m6 := (nat_lt (i := 1) (by omega) (by omega)).mp c1019
      have kk1022 : Keep h0 h1020 [] := (((Keep.refl h0 []).ext E1005).wr W1020 (Or.inr (by omega)))
      have CH1023 := CHr.trans CH0 (CHr.keep kk1022 all0 CH0.1)
      have f1024 : Old Z n0 h1020 := ((O0.ext E1005).wr W1020 (by omega))
      have A13 : Arf Z h1020 b1005 k1005 .char m6 (pre2 c8 c9) := Arf.congr V1020 (fun j hj => by have hj3 : j = 0 ∨ j = 1 := (by omega); rcases hj3 with rfl | rfl <;> first | (simp [pre2, e8, e9]; done) | omega)
      exact seg84 hw C0 p1 p2 p3 p4 p5 p6 m6 n7 c8 c9 c10 c11 c12 b1005 k1005 h0 cs fm h1020 n0 (by omega) X1020 hS (by omega) hZ hown e1020 N1020 CH1023 SE f1024 hm hn7 r8 n8 r9 n9 r10 r11 r12 A13 (by omega)
    · refine GoalH.step (T' := T1005) (g' := (mkF m 84 #[.val (.int p1), .val (.int p2), .val (.int p3), .val (.int p4), .val (.int p5), .val (.int p6), .val (.int (Int32.ofNat m6)), .val (.int (Int32.ofNat n7)), .val (.int c8), .val (.int c9), .val (.int c10), .val (.int c11), .val (.int c12), .val (.ref b1005), .unset, .unset, .unset, .unset] [])) ?_ (fun t k => XS.icmpYes X1005.here hx rfl (pc0 := 75) (pc' := 84) rfl (hb hby at_75) rfl (flt c1019).2.2.2 (by decide) (by decide) k)
      have y1 : m6 ≤ 1 := Nat.le_of_not_lt (fun q => c1019 ((nat_lt (i := 1) (by omega) (by omega)).mpr q))
      have kk1025 : Keep h0 h1005 [] := ((Keep.refl h0 []).ext E1005)
      have CH1026 := CHr.trans CH0 (CHr.keep kk1025 all0 CH0.1)
      have f1027 : Old Z n0 h1005 := (O0.ext E1005)
      have A13 : Arf Z h1005 b1005 k1005 .char m6 (pre2 c8 c9) := Arf.congr V1005 (fun j hj => by have hj3 : j = 0 ∨ j = 1 := (by omega); rcases hj3 with rfl | rfl <;> first | (simp [pre2, e8, e9]; done) | omega)
      exact seg84 hw C0 p1 p2 p3 p4 p5 p6 m6 n7 c8 c9 c10 c11 c12 b1005 k1005 h0 cs fm h1005 n0 (by omega) X1005 hS (by omega) hZ hown e1005 N1004 CH1026 SE f1027 hm hn7 r8 n8 r9 n9 r10 r11 r12 A13 (by omega)
set_option maxRecDepth 65536 in
set_option maxHeartbeats 40000000 in
theorem comes_1 {Post : Tables → Env → Array Value → State → Outcome → State → Prop} (hpost : ∀ tb e args s v u, (limb_1_1.after args s (.returned v) u = true ∧ limb_1_2.after args s (.returned v) u = true ∧ True) → ReturnedEndW s (.returned v) u (Jvm.fieldLocs frame_1_writes args s ++ Jvm.arrayLocs frame_1_arrays args s ++ Jvm.staticLocs frame_1_statics s) 32 1152 → Post tb e args s (.returned v) u) :
    ArmFor flags0 classFile x code maxLocals ret World_1 tables_1 room_1 Calls_1 rest_1 Pre_1 Post := by
  intro l hfl _ _ p e ha hc hk s m args below hf hA hF happ hP
  obtain ⟨hcalls, hrest, hpre⟩ := hP
  obtain ⟨-, -, -, hnamed, -, -, -, hat⟩ := (Spec.applies_iff hf).mp happ
  obtain ⟨hg, hn⟩ := and_e (Cond.before_iff.mp (show (Jvm.Cond.and given_1 narrow_1).before args s = true from hpre))
  obtain ⟨gc, gr0⟩ := and_e hg
  obtain ⟨ga0, gr1⟩ := and_e gr0
  obtain ⟨ga1, gr2⟩ := and_e gr1
  obtain ⟨ga2, gr3⟩ := and_e gr2
  obtain ⟨ga3, gr4⟩ := and_e gr3
  obtain ⟨ga4, gr5⟩ := and_e gr4
  obtain ⟨w0, w1, w2, w3, w4, w5, rfl⟩ : ∃ w0 w1 w2 w3 w4 w5 : Value, args = #[w0, w1, w2, w3, w4, w5] := by
    have hs : args.size = 6 := by simpa [Cond.value, given_1] using gc
    obtain ⟨L⟩ := args
    match L, hs with
    | [w0, w1, w2, w3, w4, w5], _ => exact ⟨w0, w1, w2, w3, w4, w5, rfl⟩
  have hw := fun d (hd : d ∈ tables_1) => atoms_spec (ws := Jvm.Cond.code x code maxLocals ret :: tables_1) hat d (List.mem_cons_of_mem _ hd)
  have hfit : Fit s := fun {y c} hc i hi => by
    obtain ⟨ha, rfl⟩ := Array.getElem?_eq_some_iff.mp hc
    have q := List.all_eq_true.mp ((Array.all_eq_true_iff_forall_mem.mp hF) _ (Array.getElem_mem ha)) i (List.mem_range.mpr hi)
    simpa [Array.getElem?_eq_getElem hi] using q
  obtain ⟨hsets, hown0⟩ := atoms_of _ (rest_1_c_eq ▸ (show rest_1_c.before _ s = true from hrest))
  have hr0 := Cond.before_iff.mp hown0
  obtain ⟨i0, ei0⟩ := is_v ga0
  obtain rfl : w0 = (.int i0) := Option.some.inj ei0
  obtain ⟨i1, ei1⟩ := is_v ga1
  obtain rfl : w1 = (.int i1) := Option.some.inj ei1
  obtain ⟨i2, ei2⟩ := is_v ga2
  obtain rfl : w2 = (.int i2) := Option.some.inj ei2
  obtain ⟨i3, ei3⟩ := is_v ga3
  obtain rfl : w3 = (.int i3) := Option.some.inj ei3
  obtain ⟨i4, ei4⟩ := is_v ga4
  obtain rfl : w4 = (.int i4) := Option.some.inj ei4
  obtain ⟨i5, ei5⟩ := is_v gr5
  obtain rfl : w5 = (.int i5) := Option.some.inj ei5
  obtain ⟨cs, ecs⟩ := is_v (Cond.before_iff.mp (hsets _ (List.mem_of_getElem? (i := 1) rfl)))
  have hcs := own_ne0 (Cond.before_iff.mp (hsets _ (List.mem_of_getElem? (i := 2) rfl))) ecs
  obtain ⟨fm, efm, hfm⟩ := own_isref (Cond.before_iff.mp (hsets _ (List.mem_of_getElem? (i := 8) rfl)))
  have SE : SEnv s cs fm := ⟨Sta.start ecs (Or.inl (hsets _ (List.mem_of_getElem? (i := 0) rfl))), hcs, Sta.start (eqv_i (y := 1) rfl (Cond.before_iff.mp (hsets _ (List.mem_of_getElem? (i := 12) rfl)))) (Or.inl (hsets _ (List.mem_of_getElem? (i := 11) rfl))), Sta.start (eqv_i (y := 0) rfl (Cond.before_iff.mp (hsets _ (List.mem_of_getElem? (i := 15) rfl)))) (Or.inl (hsets _ (List.mem_of_getElem? (i := 14) rfl))), Sta.start (eqv_i (y := 8) rfl (Cond.before_iff.mp (hsets _ (List.mem_of_getElem? (i := 18) rfl)))) (Or.inl (hsets _ (List.mem_of_getElem? (i := 17) rfl))), Sta.start efm (Or.inl (hsets _ (List.mem_of_getElem? (i := 7) rfl))), hfm⟩
  have hCH0 : CHv s consts_1 s.vm s.heap := CHv.start (own_EW hw) (fun p hp => hcalls.1 p hp) (hsets _ (List.mem_of_getElem? (i := 2) rfl)) (own_atoms hw _ (by simp [Bundle.stringAtoms])) (own_atoms hw _ (by simp [Bundle.stringAtoms, Bundle.sN]))
  obtain ⟨n, o, h1, h2, h3, _, L, rfl, ⟨rfl, N⟩, -, hq⟩ := rm0 l s _ hw i0 i1 i2 i3 i4 i5 cs fm s.heap s.heap.size (Nat.le_refl _) SE (Old.start s) p e ha hc hk s m _ below hf ((Spec.applies_iff_loose hf).mp happ).1 ⟨rfl, State.Warmed39.refl s, rfl, hCH0, nofun⟩ trivial
  refine ⟨n, _, h1, h2, h3, hpost _ _ _ _ _ _ ⟨Cond.after_iff.mpr rfl, Cond.after_iff.mpr (eq_i res_at (Term.int_eval (1)) rfl), trivial⟩ ⟨hq.1, hq.2.1, hq.2.2.1, (hq.2.2.2.sift fun y hy => Or.inr (N y hy)).mono (by decide) (by decide)⟩⟩
theorem main_1_1 : Claimed_1_1 := comes_1 fun _ _ _ _ _ _ h hF => ⟨h.1, hF⟩
theorem main_1_2 : Claimed_1_2 := comes_1 fun _ _ _ _ _ _ h hF => ⟨h.2.1, hF⟩
end Jvm.Pilot.@@N@@
namespace Jvm.Pilot.@@N@@
open Jvm Jvm.ClassFile Sem Op Lib Jvm.Free Jvm.Stand Jvm.Pilot.@@N@@.Jvm.D
/-! MADE BY PROGRAM (witnessworld.py) out of the Statement's table words and the real class files: 20 classes; the members and pool entries that the words name. The judged class is class 1, her method 1. -/
namespace start1
open Jvm.ClassFile
def u (s : String) : CpInfo := .utf8 (stringToUtf16 s)
/-- a pool by its gaps: so many unusable entries, then the entry; so many at the end -/
def gap : Nat → List CpInfo → List CpInfo
  | 0, r => r
  | n + 1, r => .unusable :: gap n r
def poolList (es : List (Nat × CpInfo)) (last : Nat) : List CpInfo := es.foldr (fun e r => gap e.1 (e.2 :: r)) (gap last [])
def pool (es : List (Nat × CpInfo)) (last : Nat) : Array CpInfo := ⟨poolList es last⟩
def fileOf (pool : Array CpInfo) (this : Nat) (attrs : Array Attribute := #[]) (ms : Array MethodInfo := #[]) (fl : Nat := 33) (sup : Nat := 0) (ifs : Array Nat := #[]) (fds : Array FieldInfo := #[]) : ClassFile where
  minorVersion := 0
  majorVersion := 65
  constantPool := pool
  accessFlags := fl
  thisClass := this
  superClass := sup
  interfaces := ifs
  fields := fds
  methods := ms
  attributes := attrs
def plain (name : String) (sup : Option ClassId) : Class where
  name := name
  kind := .ordinary
  loader := none
  accessFlags := 33
  super := sup
  interfaces := #[]
  cf := none
  fields := #[]
  methods := #[]
  instanceTypes := #[]
  staticTypes := #[]
  resolved := #[]
  callSites := []
  init := .initialized
  statics := none
  mirror := none

def pool0 : Array CpInfo := pool [(5, u "<init>"), (0, u "()V"), (1, .class_ 10), (1, u "java/lang/Object")] 113

def k0c0 : Code := { maxStack := 0, maxLocals := 1, code := object_method_1_code, exceptionTable := #[], attributes := #[] }
def k0m0 : Method := { name := "<init>", desc := "()V", sig := { parameters := [], returnType := none }, accessFlags := 1, code := some k0c0 }
/-- java/lang/Object -/
def k0 : Class := { plain "java/lang/Object" none with
  accessFlags := 33
  interfaces := #[]
  cf := some (fileOf pool0 8 #[] #[{ accessFlags := 1, nameIndex := 5, descriptorIndex := 6, attributes := #[] }] 33 0 #[] #[])
  fields := #[]
  methods := #[k0m0]
  instanceTypes := #[]
  staticTypes := #[]
  resolved := Array.replicate 124 none
  statics := none }

def pool1 : Array CpInfo := pool [(2, .class_ 4), (1, u "java/lang/Object"), (0, u "<init>"), (0, u "()V"), (0, .integer 2147483647), (0, .methodref 9 10), (0, .class_ 11), (0, .nameAndType 12 13), (0, u "com/example/gids/gids/AsciiStartsWithIgnoringCasePinLaw"), (0, u "lower"), (0, u "(I)C"), (0, .methodref 9 15), (0, .nameAndType 16 17), (0, u "textChar"), (0, u "(IC)C"), (0, .integer 65535), (0, .class_ 20), (0, u "java/lang/String"), (0, .methodref 19 22), (0, .nameAndType 5 23), (0, u "([C)V"), (0, .methodref 9 25), (0, .nameAndType 26 27), (0, u "same"), (0, u "(CC)Z"), (0, .methodref 29 30), (0, .class_ 31), (0, .nameAndType 32 33), (0, u "com/example/gids/gids/Ascii"), (0, u "startsWithIgnoringCase"), (0, u "(Ljava/lang/String;Ljava/lang/String;)Z"), (2, u "law"), (0, u "(IIIIII)Z")] 5

def k1m0 : Method := { name := "<init>", desc := "()V", sig := { parameters := [], returnType := none }, accessFlags := 1, code := none }
def k1c1 : Code := { maxStack := 3, maxLocals := 18, code := code, exceptionTable := #[], attributes := #[] }
def k1m1 : Method := { name := "law", desc := "(IIIIII)Z", sig := { parameters := [.int, .int, .int, .int, .int, .int], returnType := some .boolean }, accessFlags := 9, code := some k1c1 }
def k1c2 : Code := { maxStack := 2, maxLocals := 2, code := method_3_code, exceptionTable := #[], attributes := #[] }
def k1m2 : Method := { name := "lower", desc := "(I)C", sig := { parameters := [.int], returnType := some .char }, accessFlags := 10, code := some k1c2 }
def k1c3 : Code := { maxStack := 2, maxLocals := 3, code := method_4_code, exceptionTable := #[], attributes := #[] }
def k1m3 : Method := { name := "textChar", desc := "(IC)C", sig := { parameters := [.int, .char], returnType := some .char }, accessFlags := 10, code := some k1c3 }
def k1c4 : Code := { maxStack := 2, maxLocals := 2, code := method_5_code, exceptionTable := #[], attributes := #[] }
def k1m4 : Method := { name := "same", desc := "(CC)Z", sig := { parameters := [.char, .char], returnType := some .boolean }, accessFlags := 10, code := some k1c4 }
/-- com/example/gids/gids/AsciiStartsWithIgnoringCasePinLaw -/
def k1 : Class := { plain "com/example/gids/gids/AsciiStartsWithIgnoringCasePinLaw" (some 0) with
  accessFlags := 49
  interfaces := #[]
  cf := some (fileOf pool1 9 #[] #[{ accessFlags := 1, nameIndex := 5, descriptorIndex := 6, attributes := #[] }, { accessFlags := 9, nameIndex := 36, descriptorIndex := 37, attributes := #[] }, { accessFlags := 10, nameIndex := 12, descriptorIndex := 13, attributes := #[] }, { accessFlags := 10, nameIndex := 16, descriptorIndex := 17, attributes := #[] }, { accessFlags := 10, nameIndex := 26, descriptorIndex := 27, attributes := #[] }] 49 2 #[] #[])
  fields := #[]
  methods := #[k1m0, k1m1, k1m2, k1m3, k1m4]
  instanceTypes := #[]
  staticTypes := #[]
  resolved := Array.replicate 43 none
  statics := none }

def pool2 : Array CpInfo := pool [(1, .class_ 2), (0, u "java/io/Serializable"), (0, .class_ 4), (0, u "java/lang/Object")] 2

/-- java/io/Serializable -/
def k2 : Class := { plain "java/io/Serializable" (some 0) with
  accessFlags := 1537
  interfaces := #[]
  cf := some (fileOf pool2 1 #[] #[] 1537 3 #[] #[])
  fields := #[]
  methods := #[]
  instanceTypes := #[]
  staticTypes := #[]
  resolved := Array.replicate 7 none
  statics := none }

def pool3 : Array CpInfo := pool [(1, .class_ 2), (0, u "java/lang/Comparable"), (0, .class_ 4), (0, u "java/lang/Object")] 7

/-- java/lang/Comparable -/
def k3 : Class := { plain "java/lang/Comparable" (some 0) with
  accessFlags := 1537
  interfaces := #[]
  cf := some (fileOf pool3 1 #[] #[] 1537 3 #[] #[])
  fields := #[]
  methods := #[]
  instanceTypes := #[]
  staticTypes := #[]
  resolved := Array.replicate 12 none
  statics := none }

def pool4 : Array CpInfo := pool [(2, .class_ 4), (1, u "java/lang/CharSequence"), (42, .class_ 48), (0, u "java/lang/CharSequence$1CodePointIterator"), (10, .class_ 60), (0, u "java/lang/CharSequence$1CharIterator"), (5, .class_ 67), (0, u "java/lang/Object")] 63

/-- java/lang/CharSequence -/
def k4 : Class := { plain "java/lang/CharSequence" (some 0) with
  accessFlags := 1537
  interfaces := #[]
  cf := some (fileOf pool4 2 #[.nestMembers #[47, 59]] #[] 1537 66 #[] #[])
  fields := #[]
  methods := #[]
  instanceTypes := #[]
  staticTypes := #[]
  resolved := Array.replicate 131 none
  statics := none }

def pool5 : Array CpInfo := pool [(1, .class_ 2), (0, u "java/lang/constant/Constable"), (0, .class_ 4), (0, u "java/lang/Object")] 6

/-- java/lang/constant/Constable -/
def k5 : Class := { plain "java/lang/constant/Constable" (some 0) with
  accessFlags := 1537
  interfaces := #[]
  cf := some (fileOf pool5 1 #[] #[] 1537 3 #[] #[])
  fields := #[]
  methods := #[]
  instanceTypes := #[]
  staticTypes := #[]
  resolved := Array.replicate 11 none
  statics := none }

def pool6 : Array CpInfo := pool [(1, .class_ 2), (0, u "java/lang/constant/ConstantDesc"), (0, .class_ 4), (0, u "java/lang/Object")] 32

/-- java/lang/constant/ConstantDesc -/
def k6 : Class := { plain "java/lang/constant/ConstantDesc" (some 0) with
  accessFlags := 1537
  interfaces := #[]
  cf := some (fileOf pool6 1 #[] #[] 1537 3 #[] #[])
  fields := #[]
  methods := #[]
  instanceTypes := #[]
  staticTypes := #[]
  resolved := Array.replicate 37 none
  statics := none }

def pool7 : Array CpInfo := pool [(1, .methodref 2 3), (0, .class_ 4), (0, .nameAndType 5 6), (0, u "java/lang/Object"), (0, u "<init>"), (0, u "()V"), (0, .string 8), (0, u ""), (0, .fieldref 10 11), (0, .class_ 12), (0, .nameAndType 13 14), (0, u "java/lang/String"), (0, u "value"), (0, u "[B"), (0, .fieldref 10 16), (0, .nameAndType 17 18), (0, u "coder"), (0, u "B"), (2, u "hash"), (0, u "I"), (2, u "hashIsZero"), (0, u "Z"), (0, .methodref 10 28), (0, .nameAndType 5 29), (0, u "([CIILjava/lang/Void;)V"), (8, .fieldref 10 39), (0, .nameAndType 40 26), (0, u "COMPACT_STRINGS"), (1, .class_ 44), (1, u "java/lang/StringUTF16"), (0, u "compress"), (1, .methodref 42 48), (0, .nameAndType 49 50), (0, u "coderFromArrayLen"), (0, u "([BI)B"), (56, .class_ 109), (1, u "java/lang/StringLatin1"), (32, u "()Z"), (34, .methodref 42 178), (0, .nameAndType 45 179), (0, u "([CII)[B"), (154, u "()I"), (0, .methodref 10 336), (0, .nameAndType 17 337), (0, u "()B"), (25, u "([BI)C"), (27, u "(II)V"), (35, u "(I)C"), (64, .methodref 10 493), (0, .nameAndType 494 142), (0, u "isLatin1"), (0, .methodref 107 496), (0, .nameAndType 497 363), (0, u "charAt"), (0, .methodref 42 496), (2, u "checkIndex"), (5, u "length"), (67, .class_ 576), (0, u "java/lang/CharSequence"), (22, u "CASE_INSENSITIVE_ORDER"), (0, u "Ljava/util/Comparator;"), (409, u "([C)V"), (42, .fieldref 1054 1055), (0, .class_ 1056), (0, .nameAndType 1057 1058), (0, u "jdk/internal/util/Preconditions"), (0, u "SIOOBE_FORMATTER"), (0, u "Ljava/util/function/BiFunction;"), (0, .methodref 1054 1060), (0, .nameAndType 501 1061), (0, u "(IILjava/util/function/BiFunction;)I"), (39, u "serialPersistentFields"), (0, u "[Ljava/io/ObjectStreamField;"), (0, .class_ 1104), (0, u "java/lang/String$CaseInsensitiveComparator"), (1, .class_ 1107), (0, u "java/io/Serializable"), (0, .class_ 1109), (0, u "java/lang/Comparable"), (0, .class_ 1111), (0, u "java/lang/constant/Constable"), (0, .class_ 1113), (0, u "java/lang/constant/ConstantDesc"), (2, u "serialVersionUID"), (0, u "J"), (3, u "REPL"), (0, u "C"), (2, u "LATIN1"), (1, u "UTF16")] 323

def k7m0 : Method := { name := "<init>", desc := "()V", sig := { parameters := [], returnType := none }, accessFlags := 1, code := none }
def k7c1 : Code := { maxStack := 5, maxLocals := 2, code := jdk_42_method_3_code, exceptionTable := #[], attributes := #[] }
def k7m1 : Method := { name := "<init>", desc := "([C)V", sig := { parameters := [(.array .char)], returnType := none }, accessFlags := 1, code := some k7c1 }
def k7c2 : Code := { maxStack := 2, maxLocals := 1, code := jdk_42_method_54_code, exceptionTable := #[], attributes := #[] }
def k7m2 : Method := { name := "length", desc := "()I", sig := { parameters := [], returnType := some .int }, accessFlags := 1, code := some k7c2 }
def k7c3 : Code := { maxStack := 2, maxLocals := 2, code := jdk_42_method_56_code, exceptionTable := #[], attributes := #[] }
def k7m3 : Method := { name := "charAt", desc := "(I)C", sig := { parameters := [.int], returnType := some .char }, accessFlags := 1, code := some k7c3 }
def k7c4 : Code := { maxStack := 4, maxLocals := 6, code := jdk_42_method_149_code, exceptionTable := #[], attributes := #[] }
def k7m4 : Method := { name := "<init>", desc := "([CIILjava/lang/Void;)V", sig := { parameters := [(.array .char), .int, .int, (.object "java/lang/Void")], returnType := none }, accessFlags := 2, code := some k7c4 }
def k7c5 : Code := { maxStack := 1, maxLocals := 1, code := jdk_42_method_152_code, exceptionTable := #[], attributes := #[] }
def k7m5 : Method := { name := "coder", desc := "()B", sig := { parameters := [], returnType := some .byte }, accessFlags := 0, code := some k7c5 }
def k7c6 : Code := { maxStack := 1, maxLocals := 1, code := jdk_42_method_154_code, exceptionTable := #[], attributes := #[] }
def k7m6 : Method := { name := "isLatin1", desc := "()Z", sig := { parameters := [], returnType := some .boolean }, accessFlags := 0, code := some k7c6 }
def k7c7 : Code := { maxStack := 3, maxLocals := 2, code := jdk_42_method_155_code, exceptionTable := #[], attributes := #[] }
def k7m7 : Method := { name := "checkIndex", desc := "(II)V", sig := { parameters := [.int, .int], returnType := none }, accessFlags := 8, code := some k7c7 }
/-- java/lang/String -/
def k7 : Class := { plain "java/lang/String" (some 0) with
  accessFlags := 49
  interfaces := #[2, 3, 4, 5, 6]
  cf := some (fileOf pool7 10 #[.nestMembers #[1103]] #[{ accessFlags := 1, nameIndex := 5, descriptorIndex := 6, attributes := #[] }, { accessFlags := 1, nameIndex := 5, descriptorIndex := 1010, attributes := #[] }, { accessFlags := 1, nameIndex := 507, descriptorIndex := 334, attributes := #[] }, { accessFlags := 1, nameIndex := 497, descriptorIndex := 427, attributes := #[] }, { accessFlags := 2, nameIndex := 5, descriptorIndex := 29, attributes := #[] }, { accessFlags := 0, nameIndex := 17, descriptorIndex := 337, attributes := #[] }, { accessFlags := 0, nameIndex := 494, descriptorIndex := 142, attributes := #[] }, { accessFlags := 8, nameIndex := 501, descriptorIndex := 391, attributes := #[] }] 49 2 #[1106, 1108, 575, 1110, 1112] #[{ accessFlags := 18, nameIndex := 13, descriptorIndex := 14, attributes := #[] }, { accessFlags := 18, nameIndex := 17, descriptorIndex := 18, attributes := #[] }, { accessFlags := 2, nameIndex := 21, descriptorIndex := 22, attributes := #[] }, { accessFlags := 2, nameIndex := 25, descriptorIndex := 26, attributes := #[] }, { accessFlags := 26, nameIndex := 1116, descriptorIndex := 1117, attributes := #[] }, { accessFlags := 24, nameIndex := 40, descriptorIndex := 26, attributes := #[] }, { accessFlags := 26, nameIndex := 1101, descriptorIndex := 1102, attributes := #[] }, { accessFlags := 26, nameIndex := 1121, descriptorIndex := 1122, attributes := #[] }, { accessFlags := 25, nameIndex := 599, descriptorIndex := 600, attributes := #[] }, { accessFlags := 24, nameIndex := 1125, descriptorIndex := 18, attributes := #[] }, { accessFlags := 24, nameIndex := 1127, descriptorIndex := 18, attributes := #[] }])
  fields := #[{ name := "value", type := (.array .byte), accessFlags := 18, slot := 0, constantValue := 0 }, { name := "coder", type := .byte, accessFlags := 18, slot := 1, constantValue := 0 }, { name := "hash", type := .int, accessFlags := 2, slot := 2, constantValue := 0 }, { name := "hashIsZero", type := .boolean, accessFlags := 2, slot := 3, constantValue := 0 }, { name := "serialVersionUID", type := .long, accessFlags := 26, slot := 0, constantValue := 0 }, { name := "COMPACT_STRINGS", type := .boolean, accessFlags := 24, slot := 1, constantValue := 0 }, { name := "serialPersistentFields", type := (.array (.object "java/io/ObjectStreamField")), accessFlags := 26, slot := 2, constantValue := 0 }, { name := "REPL", type := .char, accessFlags := 26, slot := 3, constantValue := 0 }, { name := "CASE_INSENSITIVE_ORDER", type := (.object "java/util/Comparator"), accessFlags := 25, slot := 4, constantValue := 0 }, { name := "LATIN1", type := .byte, accessFlags := 24, slot := 5, constantValue := 0 }, { name := "UTF16", type := .byte, accessFlags := 24, slot := 6, constantValue := 0 }]
  methods := #[k7m0, k7m1, k7m2, k7m3, k7m4, k7m5, k7m6, k7m7]
  instanceTypes := #[(.array .byte), .byte, .int, .boolean]
  staticTypes := #[.long, .boolean, (.array (.object "java/io/ObjectStreamField")), .char, (.object "java/util/Comparator"), .byte, .byte]
  resolved := Array.replicate 1451 none
  statics := some 0 }

def pool8 : Array CpInfo := pool [(2, .class_ 4), (1, u "java/lang/Object"), (0, u "<init>"), (0, u "()V"), (0, .methodref 8 9), (0, .class_ 10), (0, .nameAndType 11 12), (0, u "java/lang/String"), (0, u "length"), (0, u "()I"), (0, .methodref 8 14), (0, .nameAndType 15 16), (0, u "charAt"), (0, u "(I)C"), (0, .methodref 18 19), (0, .class_ 20), (0, .nameAndType 21 22), (0, u "com/example/gids/gids/Ascii"), (0, u "toLowerCase"), (0, u "(C)C"), (15, u "startsWithIgnoringCase"), (0, u "(Ljava/lang/String;Ljava/lang/String;)Z")] 4

def k8m0 : Method := { name := "<init>", desc := "()V", sig := { parameters := [], returnType := none }, accessFlags := 2, code := none }
def k8c1 : Code := { maxStack := 3, maxLocals := 3, code := prog_7_method_2_code, exceptionTable := #[], attributes := #[] }
def k8m1 : Method := { name := "startsWithIgnoringCase", desc := "(Ljava/lang/String;Ljava/lang/String;)Z", sig := { parameters := [(.object "java/lang/String"), (.object "java/lang/String")], returnType := some .boolean }, accessFlags := 8, code := some k8c1 }
def k8c2 : Code := { maxStack := 2, maxLocals := 1, code := prog_7_method_4_code, exceptionTable := #[], attributes := #[] }
def k8m2 : Method := { name := "toLowerCase", desc := "(C)C", sig := { parameters := [.char], returnType := some .char }, accessFlags := 10, code := some k8c2 }
/-- com/example/gids/gids/Ascii -/
def k8 : Class := { plain "com/example/gids/gids/Ascii" (some 0) with
  accessFlags := 48
  interfaces := #[]
  cf := some (fileOf pool8 18 #[] #[{ accessFlags := 2, nameIndex := 5, descriptorIndex := 6, attributes := #[] }, { accessFlags := 8, nameIndex := 38, descriptorIndex := 39, attributes := #[] }, { accessFlags := 10, nameIndex := 21, descriptorIndex := 22, attributes := #[] }] 48 2 #[] #[])
  fields := #[]
  methods := #[k8m0, k8m1, k8m2]
  instanceTypes := #[]
  staticTypes := #[]
  resolved := Array.replicate 44 none
  statics := none }

def pool9 : Array CpInfo := pool [(3, .class_ 4), (0, u "java/lang/String"), (1, .class_ 8), (1, u "java/lang/Object"), (0, u "<init>"), (0, u "()V"), (0, .methodref 12 13), (0, .class_ 14), (0, .nameAndType 15 16), (0, u "java/lang/StringUTF16"), (0, u "newBytesLength"), (0, u "(I)I"), (3, .integer 1073741823), (23, .fieldref 12 45), (0, .nameAndType 46 47), (0, u "$assertionsDisabled"), (0, u "Z"), (0, .methodref 12 49), (0, .nameAndType 50 51), (0, u "length"), (0, u "([B)I"), (7, .fieldref 12 60), (0, .nameAndType 61 62), (0, u "HI_BYTE_SHIFT"), (0, u "I"), (0, .fieldref 12 64), (0, .nameAndType 65 62), (0, u "LO_BYTE_SHIFT"), (1, .methodref 12 68), (0, .nameAndType 69 70), (0, u "checkIndex"), (0, u "(I[B)V"), (0, .methodref 12 72), (0, .nameAndType 73 74), (0, u "getChar"), (0, u "([BI)C"), (32, .methodref 12 108), (0, .nameAndType 109 110), (0, u "newBytesFor"), (0, u "(I)[B"), (0, .methodref 12 112), (0, .nameAndType 113 114), (0, u "putChar"), (0, u "([BII)V"), (0, .methodref 12 116), (0, .nameAndType 117 118), (0, u "compress"), (0, u "([CI[BII)I"), (0, .methodref 12 120), (0, .nameAndType 121 122), (0, u "toBytes"), (0, u "([CII)[B"), (138, u "coderFromArrayLen"), (0, u "([BI)B"), (106, .class_ 371), (1, u "java/lang/StringUTF16$LinesSpliterator"), (20, u "charAt"), (21, .methodref 3 415), (0, .nameAndType 69 416), (0, u "(II)V"), (13, u "MAX_LENGTH"), (196, .class_ 628), (0, u "java/lang/StringUTF16$CodePointsSpliterator"), (0, .class_ 630), (0, u "java/lang/StringUTF16$CharsSpliterator")] 4

def k9m0 : Method := { name := "<init>", desc := "()V", sig := { parameters := [], returnType := none }, accessFlags := 0, code := none }
def k9c1 : Code := { maxStack := 1, maxLocals := 1, code := jdk_52_method_2_code, exceptionTable := #[], attributes := #[] }
def k9m1 : Method := { name := "newBytesFor", desc := "(I)[B", sig := { parameters := [.int], returnType := some (.array .byte) }, accessFlags := 9, code := some k9c1 }
def k9c2 : Code := { maxStack := 4, maxLocals := 1, code := jdk_52_method_3_code, exceptionTable := #[], attributes := #[] }
def k9m2 : Method := { name := "newBytesLength", desc := "(I)I", sig := { parameters := [.int], returnType := some .int }, accessFlags := 9, code := some k9c2 }
def k9c3 : Code := { maxStack := 4, maxLocals := 3, code := jdk_52_method_4_code, exceptionTable := #[], attributes := #[] }
def k9m3 : Method := { name := "putChar", desc := "([BII)V", sig := { parameters := [(.array .byte), .int, .int], returnType := none }, accessFlags := 8, code := some k9c3 }
def k9c4 : Code := { maxStack := 3, maxLocals := 2, code := jdk_52_method_5_code, exceptionTable := #[], attributes := #[] }
def k9m4 : Method := { name := "getChar", desc := "([BI)C", sig := { parameters := [(.array .byte), .int], returnType := some .char }, accessFlags := 8, code := some k9c4 }
def k9c5 : Code := { maxStack := 2, maxLocals := 1, code := jdk_52_method_6_code, exceptionTable := #[], attributes := #[] }
def k9m5 : Method := { name := "length", desc := "([B)I", sig := { parameters := [(.array .byte)], returnType := some .int }, accessFlags := 9, code := some k9c5 }
def k9c6 : Code := { maxStack := 4, maxLocals := 5, code := jdk_52_method_14_code, exceptionTable := #[], attributes := #[] }
def k9m6 : Method := { name := "toBytes", desc := "([CII)[B", sig := { parameters := [(.array .char), .int, .int], returnType := some (.array .byte) }, accessFlags := 9, code := some k9c6 }
def k9c7 : Code := { maxStack := 2, maxLocals := 2, code := jdk_52_method_15_code, exceptionTable := #[], attributes := #[] }
def k9m7 : Method := { name := "coderFromArrayLen", desc := "([BI)B", sig := { parameters := [(.array .byte), .int], returnType := some .byte }, accessFlags := 8, code := some k9c7 }
def k9c8 : Code := { maxStack := 5, maxLocals := 6, code := jdk_52_method_16_code, exceptionTable := #[], attributes := #[] }
def k9m8 : Method := { name := "compress", desc := "([CII)[B", sig := { parameters := [(.array .char), .int, .int], returnType := some (.array .byte) }, accessFlags := 9, code := some k9c8 }
def k9c9 : Code := { maxStack := 3, maxLocals := 7, code := jdk_52_method_21_code, exceptionTable := #[], attributes := #[] }
def k9m9 : Method := { name := "compress", desc := "([CI[BII)I", sig := { parameters := [(.array .char), .int, (.array .byte), .int, .int], returnType := some .int }, accessFlags := 9, code := some k9c9 }
def k9c10 : Code := { maxStack := 2, maxLocals := 2, code := jdk_52_method_83_code, exceptionTable := #[], attributes := #[] }
def k9m10 : Method := { name := "charAt", desc := "([BI)C", sig := { parameters := [(.array .byte), .int], returnType := some .char }, accessFlags := 9, code := some k9c10 }
def k9c11 : Code := { maxStack := 2, maxLocals := 2, code := jdk_52_method_91_code, exceptionTable := #[], attributes := #[] }
def k9m11 : Method := { name := "checkIndex", desc := "(I[B)V", sig := { parameters := [.int, (.array .byte)], returnType := none }, accessFlags := 9, code := some k9c11 }
/-- java/lang/StringUTF16 -/
def k9 : Class := { plain "java/lang/StringUTF16" (some 0) with
  accessFlags := 48
  interfaces := #[]
  cf := some (fileOf pool9 12 #[.nestMembers #[627, 629, 369]] #[{ accessFlags := 0, nameIndex := 9, descriptorIndex := 10, attributes := #[] }, { accessFlags := 9, nameIndex := 109, descriptorIndex := 110, attributes := #[] }, { accessFlags := 9, nameIndex := 15, descriptorIndex := 16, attributes := #[] }, { accessFlags := 8, nameIndex := 113, descriptorIndex := 114, attributes := #[] }, { accessFlags := 8, nameIndex := 73, descriptorIndex := 74, attributes := #[] }, { accessFlags := 9, nameIndex := 50, descriptorIndex := 51, attributes := #[] }, { accessFlags := 9, nameIndex := 121, descriptorIndex := 122, attributes := #[] }, { accessFlags := 8, nameIndex := 261, descriptorIndex := 262, attributes := #[] }, { accessFlags := 9, nameIndex := 117, descriptorIndex := 122, attributes := #[] }, { accessFlags := 9, nameIndex := 117, descriptorIndex := 118, attributes := #[] }, { accessFlags := 9, nameIndex := 392, descriptorIndex := 74, attributes := #[] }, { accessFlags := 9, nameIndex := 69, descriptorIndex := 70, attributes := #[] }] 48 6 #[] #[{ accessFlags := 26, nameIndex := 61, descriptorIndex := 62, attributes := #[] }, { accessFlags := 26, nameIndex := 65, descriptorIndex := 62, attributes := #[] }, { accessFlags := 24, nameIndex := 430, descriptorIndex := 62, attributes := #[] }, { accessFlags := 4120, nameIndex := 46, descriptorIndex := 47, attributes := #[] }])
  fields := #[{ name := "HI_BYTE_SHIFT", type := .int, accessFlags := 26, slot := 0, constantValue := 0 }, { name := "LO_BYTE_SHIFT", type := .int, accessFlags := 26, slot := 1, constantValue := 0 }, { name := "MAX_LENGTH", type := .int, accessFlags := 24, slot := 2, constantValue := 0 }, { name := "$assertionsDisabled", type := .boolean, accessFlags := 4120, slot := 3, constantValue := 0 }]
  methods := #[k9m0, k9m1, k9m2, k9m3, k9m4, k9m5, k9m6, k9m7, k9m8, k9m9, k9m10, k9m11]
  instanceTypes := #[]
  staticTypes := #[.int, .int, .int, .boolean]
  resolved := Array.replicate 635 none
  statics := some 1 }

def pool10 : Array CpInfo := pool [(2, .class_ 4), (1, u "java/lang/Object"), (0, u "<init>"), (0, u "()V"), (17, .class_ 26), (1, u "jdk/internal/util/Preconditions"), (6, u "checkIndex"), (21, .class_ 56), (0, u "jdk/internal/util/Preconditions$4"), (57, .class_ 115), (0, u "jdk/internal/util/Preconditions$1"), (7, u "SIOOBE_FORMATTER"), (0, u "Ljava/util/function/BiFunction;"), (0, .class_ 126), (0, u "jdk/internal/util/Preconditions$2"), (3, u "AIOOBE_FORMATTER"), (0, .class_ 132), (0, u "jdk/internal/util/Preconditions$3"), (3, u "IOOBE_FORMATTER"), (41, u "(IILjava/util/function/BiFunction;)I")] 15

def k10m0 : Method := { name := "<init>", desc := "()V", sig := { parameters := [], returnType := none }, accessFlags := 1, code := none }
def k10c1 : Code := { maxStack := 3, maxLocals := 3, code := jdk_41_method_11_code, exceptionTable := #[], attributes := #[] }
def k10m1 : Method := { name := "checkIndex", desc := "(IILjava/util/function/BiFunction;)I", sig := { parameters := [.int, .int, (.object "java/util/function/BiFunction")], returnType := some .int }, accessFlags := 9, code := some k10c1 }
/-- jdk/internal/util/Preconditions -/
def k10 : Class := { plain "jdk/internal/util/Preconditions" (some 0) with
  accessFlags := 33
  interfaces := #[]
  cf := some (fileOf pool10 24 #[.nestMembers #[55, 131, 125, 114]] #[{ accessFlags := 1, nameIndex := 5, descriptorIndex := 6, attributes := #[] }, { accessFlags := 9, nameIndex := 33, descriptorIndex := 178, attributes := #[] }] 33 2 #[] #[{ accessFlags := 25, nameIndex := 123, descriptorIndex := 124, attributes := #[] }, { accessFlags := 25, nameIndex := 130, descriptorIndex := 124, attributes := #[] }, { accessFlags := 25, nameIndex := 136, descriptorIndex := 124, attributes := #[] }])
  fields := #[{ name := "SIOOBE_FORMATTER", type := (.object "java/util/function/BiFunction"), accessFlags := 25, slot := 0, constantValue := 0 }, { name := "AIOOBE_FORMATTER", type := (.object "java/util/function/BiFunction"), accessFlags := 25, slot := 1, constantValue := 0 }, { name := "IOOBE_FORMATTER", type := (.object "java/util/function/BiFunction"), accessFlags := 25, slot := 2, constantValue := 0 }]
  methods := #[k10m0, k10m1]
  instanceTypes := #[]
  staticTypes := #[(.object "java/util/function/BiFunction"), (.object "java/util/function/BiFunction"), (.object "java/util/function/BiFunction")]
  resolved := Array.replicate 194 none
  statics := some 2 }

def pool11 : Array CpInfo := pool [(1, .class_ 2), (0, u "java/lang/String"), (1, .class_ 6), (1, u "java/lang/Object"), (0, u "<init>"), (0, u "()V"), (0, .methodref 1 10), (0, .nameAndType 11 12), (0, u "checkIndex"), (0, u "(II)V"), (1, .class_ 16), (1, u "java/lang/StringLatin1"), (36, u "([BI)C"), (67, u "$assertionsDisabled"), (0, u "Z"), (98, .class_ 223), (1, u "java/lang/StringLatin1$LinesSpliterator"), (28, u "charAt"), (137, .class_ 391), (0, u "java/lang/StringLatin1$CharsSpliterator")] 3

def k11m0 : Method := { name := "<init>", desc := "()V", sig := { parameters := [], returnType := none }, accessFlags := 0, code := none }
def k11c1 : Code := { maxStack := 2, maxLocals := 2, code := jdk_43_method_2_code, exceptionTable := #[], attributes := #[] }
def k11m1 : Method := { name := "charAt", desc := "([BI)C", sig := { parameters := [(.array .byte), .int], returnType := some .char }, accessFlags := 9, code := some k11c1 }
/-- java/lang/StringLatin1 -/
def k11 : Class := { plain "java/lang/StringLatin1" (some 0) with
  accessFlags := 48
  interfaces := #[]
  cf := some (fileOf pool11 14 #[.nestMembers #[390, 221]] #[{ accessFlags := 0, nameIndex := 7, descriptorIndex := 8, attributes := #[] }, { accessFlags := 9, nameIndex := 252, descriptorIndex := 53, attributes := #[] }] 48 4 #[] #[{ accessFlags := 4120, nameIndex := 121, descriptorIndex := 122, attributes := #[] }])
  fields := #[{ name := "$assertionsDisabled", type := .boolean, accessFlags := 4120, slot := 0, constantValue := 0 }]
  methods := #[k11m0, k11m1]
  instanceTypes := #[]
  staticTypes := #[.boolean]
  resolved := Array.replicate 395 none
  statics := none }

def pool12 : Array CpInfo := pool [(9, u "<init>"), (6, .class_ 18), (1, u "java/lang/Object"), (0, u "()V"), (1, .class_ 23), (1, u "jdk/internal/util/ArraysSupport"), (0, u "LOG2_ARRAY_LONG_INDEX_SCALE"), (0, u "I"), (2, u "U"), (0, u "Ljdk/internal/misc/Unsafe;"), (8, u "BIG_ENDIAN"), (0, u "Z"), (8, u "LOG2_BYTE_BIT_SIZE"), (4, u "LOG2_ARRAY_INT_INDEX_SCALE"), (54, u "JLA"), (0, u "Ljdk/internal/access/JavaLangAccess;"), (11, u "LOG2_ARRAY_BOOLEAN_INDEX_SCALE"), (9, u "LOG2_ARRAY_BYTE_INDEX_SCALE"), (5, u "LOG2_ARRAY_CHAR_INDEX_SCALE"), (5, u "LOG2_ARRAY_SHORT_INDEX_SCALE"), (18, u "LOG2_ARRAY_FLOAT_INDEX_SCALE"), (24, u "LOG2_ARRAY_DOUBLE_INDEX_SCALE"), (89, u "T_BOOLEAN"), (2, u "T_CHAR"), (1, u "T_FLOAT"), (1, u "T_DOUBLE"), (1, u "T_BYTE"), (1, u "T_SHORT"), (1, u "T_INT"), (1, u "T_LONG"), (1, u "SOFT_MAX_ARRAY_LENGTH")] 83

def k12m0 : Method := { name := "<init>", desc := "()V", sig := { parameters := [], returnType := none }, accessFlags := 2, code := none }
/-- jdk/internal/util/ArraysSupport -/
def k12 : Class := { plain "jdk/internal/util/ArraysSupport" (some 0) with
  accessFlags := 33
  interfaces := #[]
  cf := some (fileOf pool12 21 #[] #[{ accessFlags := 2, nameIndex := 9, descriptorIndex := 19, attributes := #[] }] 33 16 #[] #[{ accessFlags := 24, nameIndex := 28, descriptorIndex := 29, attributes := #[] }, { accessFlags := 26, nameIndex := 38, descriptorIndex := 39, attributes := #[] }, { accessFlags := 25, nameIndex := 121, descriptorIndex := 25, attributes := #[] }, { accessFlags := 25, nameIndex := 131, descriptorIndex := 25, attributes := #[] }, { accessFlags := 25, nameIndex := 137, descriptorIndex := 25, attributes := #[] }, { accessFlags := 25, nameIndex := 143, descriptorIndex := 25, attributes := #[] }, { accessFlags := 25, nameIndex := 53, descriptorIndex := 25, attributes := #[] }, { accessFlags := 25, nameIndex := 24, descriptorIndex := 25, attributes := #[] }, { accessFlags := 25, nameIndex := 162, descriptorIndex := 25, attributes := #[] }, { accessFlags := 25, nameIndex := 187, descriptorIndex := 25, attributes := #[] }, { accessFlags := 26, nameIndex := 48, descriptorIndex := 25, attributes := #[] }, { accessFlags := 25, nameIndex := 277, descriptorIndex := 25, attributes := #[] }, { accessFlags := 25, nameIndex := 280, descriptorIndex := 25, attributes := #[] }, { accessFlags := 25, nameIndex := 282, descriptorIndex := 25, attributes := #[] }, { accessFlags := 25, nameIndex := 284, descriptorIndex := 25, attributes := #[] }, { accessFlags := 25, nameIndex := 286, descriptorIndex := 25, attributes := #[] }, { accessFlags := 25, nameIndex := 288, descriptorIndex := 25, attributes := #[] }, { accessFlags := 25, nameIndex := 290, descriptorIndex := 25, attributes := #[] }, { accessFlags := 25, nameIndex := 292, descriptorIndex := 25, attributes := #[] }, { accessFlags := 26, nameIndex := 108, descriptorIndex := 109, attributes := #[] }, { accessFlags := 25, nameIndex := 294, descriptorIndex := 25, attributes := #[] }])
  fields := #[{ name := "U", type := (.object "jdk/internal/misc/Unsafe"), accessFlags := 24, slot := 0, constantValue := 0 }, { name := "BIG_ENDIAN", type := .boolean, accessFlags := 26, slot := 1, constantValue := 0 }, { name := "LOG2_ARRAY_BOOLEAN_INDEX_SCALE", type := .int, accessFlags := 25, slot := 2, constantValue := 0 }, { name := "LOG2_ARRAY_BYTE_INDEX_SCALE", type := .int, accessFlags := 25, slot := 3, constantValue := 0 }, { name := "LOG2_ARRAY_CHAR_INDEX_SCALE", type := .int, accessFlags := 25, slot := 4, constantValue := 0 }, { name := "LOG2_ARRAY_SHORT_INDEX_SCALE", type := .int, accessFlags := 25, slot := 5, constantValue := 0 }, { name := "LOG2_ARRAY_INT_INDEX_SCALE", type := .int, accessFlags := 25, slot := 6, constantValue := 0 }, { name := "LOG2_ARRAY_LONG_INDEX_SCALE", type := .int, accessFlags := 25, slot := 7, constantValue := 0 }, { name := "LOG2_ARRAY_FLOAT_INDEX_SCALE", type := .int, accessFlags := 25, slot := 8, constantValue := 0 }, { name := "LOG2_ARRAY_DOUBLE_INDEX_SCALE", type := .int, accessFlags := 25, slot := 9, constantValue := 0 }, { name := "LOG2_BYTE_BIT_SIZE", type := .int, accessFlags := 26, slot := 10, constantValue := 0 }, { name := "T_BOOLEAN", type := .int, accessFlags := 25, slot := 11, constantValue := 0 }, { name := "T_CHAR", type := .int, accessFlags := 25, slot := 12, constantValue := 0 }, { name := "T_FLOAT", type := .int, accessFlags := 25, slot := 13, constantValue := 0 }, { name := "T_DOUBLE", type := .int, accessFlags := 25, slot := 14, constantValue := 0 }, { name := "T_BYTE", type := .int, accessFlags := 25, slot := 15, constantValue := 0 }, { name := "T_SHORT", type := .int, accessFlags := 25, slot := 16, constantValue := 0 }, { name := "T_INT", type := .int, accessFlags := 25, slot := 17, constantValue := 0 }, { name := "T_LONG", type := .int, accessFlags := 25, slot := 18, constantValue := 0 }, { name := "JLA", type := (.object "jdk/internal/access/JavaLangAccess"), accessFlags := 26, slot := 19, constantValue := 0 }, { name := "SOFT_MAX_ARRAY_LENGTH", type := .int, accessFlags := 25, slot := 20, constantValue := 0 }]
  methods := #[k12m0]
  instanceTypes := #[]
  staticTypes := #[(.object "jdk/internal/misc/Unsafe"), .boolean, .int, .int, .int, .int, .int, .int, .int, .int, .int, .int, .int, .int, .int, .int, .int, .int, .int, (.object "jdk/internal/access/JavaLangAccess"), .int]
  resolved := Array.replicate 378 none
  statics := none }

def pool13 : Array CpInfo := pool [(1, u "java/lang/Cloneable"), (0, .class_ 1), (0, u "java/lang/Object"), (0, .class_ 3)] 3

/-- java/lang/Cloneable -/
def k13 : Class := { plain "java/lang/Cloneable" (some 0) with
  accessFlags := 1537
  interfaces := #[]
  cf := some (fileOf pool13 2 #[] #[] 1537 4 #[] #[])
  fields := #[]
  methods := #[]
  instanceTypes := #[]
  staticTypes := #[]
  resolved := Array.replicate 8 none
  statics := none }

/-- the primitive byte -/
def k14 : Class := { plain "byte" none with kind := .primitive 'B', accessFlags := 0x411 }
/-- [B -/
def k15 : Class := { plain "[B" (some 0) with kind := .array 14 .byte, interfaces := #[13, 2], accessFlags := 1041 }

/-- the primitive char -/
def k16 : Class := { plain "char" none with kind := .primitive 'C', accessFlags := 0x411 }
/-- [C -/
def k17 : Class := { plain "[C" (some 0) with kind := .array 16 .char, interfaces := #[13, 2], accessFlags := 1041 }

/-- the primitive int -/
def k18 : Class := { plain "int" none with kind := .primitive 'I', accessFlags := 0x411 }
/-- [I -/
def k19 : Class := { plain "[I" (some 0) with kind := .array 18 .int, interfaces := #[13, 2], accessFlags := 1041 }

def heap : Heap := #[{ cls := 7, slots := #[.long 0, .int 1, .null, .int 0, .null, .int 0, .int 0], vm := .statics 7 },
  { cls := 9, slots := #[.int 0, .int 8, .int 0, .int 1], vm := .statics 9 },
  { cls := 10, slots := #[.null, .null, .null], vm := .statics 10 }]
def classes : Array Class := #[k0, k1, k2, k3, k4, k5, k6, k7, k8, k9, k10, k11, k12, k13, k14, k15, k16, k17, k18, k19]
def interned : List (Array UInt16 × Addr) := []
def slotsUsed : Nat := 14
def theMethod : MethodId := ⟨1, 1⟩
def args0 : Array Value := #[.int 5, .int 6, .int 7, .int 8, .int 9, .int 10]
def aboutOver (below : List Frame) : State where
  vm := { classes := classes, interned := interned.toArray }
  heap := heap
  slotsUsed := slotsUsed
  threads := #[{ frames := .invoking theMethod args0 :: below }]
def below0 : List Frame := [.native { method := ⟨0, 0⟩, args := #[] }]
def about1 : State := aboutOver below0
def p0 : Program := .bare "" "" ""
def e0 : Env := launch0.env 0 0 0
theorem w_frames : about1.frames = Frame.invoking theMethod args0 :: below0 := rfl
set_option maxRecDepth 65536 in
theorem w_args : argsFit about1.vm theMethod args0 = true := by decide +kernel
set_option maxRecDepth 65536 in
theorem w_heap : heapFits about1 = true := by decide +kernel
set_option maxRecDepth 65536 in
theorem w_runnable : about1.curStatus? = some .runnable := by decide +kernel
set_option maxRecDepth 65536 in
theorem w_alone : about1.alone = true := by decide +kernel
set_option maxRecDepth 65536 in
theorem w_named : about1.methodNamed? x = some theMethod := by decide +kernel
set_option maxRecDepth 65536 in
theorem w_hears : about1.hears theMethod below0 = true := by decide +kernel
set_option maxRecDepth 65536 in
theorem w_ripe : about1.ripe theMethod args0 below0 = true := by decide +kernel
theorem w_running : about1.status = .running := rfl
set_option maxRecDepth 65536 in
theorem w_room : about1.hasRoom e0.platform room_1 = true :=
  launch0.hasRoom_least _ room_1 (by decide +kernel) (by decide +kernel) (by decide +kernel) (by decide +kernel) (by decide +kernel) (by decide +kernel)
theorem allAtoms_all (ts : List Jvm.Cond) (a : Array Jvm.Value) (st : Jvm.State) : (allAtoms ts).before a st = ts.all (fun c => c.before a st) := by
  induction ts with
  | nil => rfl
  | cons c t ih =>
    show (Jvm.Cond.and c (allAtoms t)).before a st = _
    rw [Jvm.Cond.before_and, ih, List.all_cons]
def words1 : List Jvm.Cond := Jvm.Cond.code x code maxLocals ret :: tables_1
/-- a 'code' word, met by the world's own term for the bytes: nothing is compared byte by byte -/
theorem code_word {y : MethodName} {bytes : ByteArray} {mx : Nat} {rt : Option FieldType} {a : Array Value} {s : State} {m : MethodId} {meth : Method} {c : Code} (h1 : s.methodNamed? y = some m) (h2 : s.vm.method? m = some meth) (h3 : meth.code = some c) (h4 : c.code = bytes)
    (h5 : (c.maxLocals == mx && c.exceptionTable.isEmpty && decide (c.maxStack ≤ mostOperands) && decide (meth.sig.returnType = rt) && !meth.locks && decide (parseMethodDescriptor y.desc = some meth.sig)) = true) : (Jvm.Cond.code y bytes mx rt).before a s = true := by
  simp only [Bool.and_eq_true, beq_iff_eq, Bool.not_eq_true', decide_eq_true_eq] at h5
  obtain ⟨⟨⟨⟨⟨g1, g2⟩, g3⟩, g4⟩, g5⟩, g6⟩ := h5
  simp [Cond.before, Cond.holds, Cond.value, h1, h2, h3, h4, g1, g2, g3, g4, g5, g6]
def isCode : Jvm.Cond → Bool
  | .code _ _ _ _ => true
  | _ => false
theorem all_split {L : List Jvm.Cond} {P : Jvm.Cond → Bool} (h1 : L.all (fun c => isCode c || P c) = true) (h2 : ∀ c ∈ L.filter isCode, P c = true) : L.all P = true := by
  refine List.all_eq_true.mpr fun c hc => ?_
  have h := List.all_eq_true.mp h1 c hc
  rcases Bool.eq_false_or_eq_true (isCode c) with hi | hi
  · exact h2 c (List.mem_filter.mpr ⟨hc, hi⟩)
  · simpa [hi] using h
set_option maxRecDepth 65536 in
theorem w_c0 : (Jvm.Cond.code x code maxLocals ret).before args0 about1 = true := code_word (m := ⟨1, 1⟩) (meth := k1m1) (c := k1c1) (by decide +kernel) rfl rfl rfl (by decide +kernel)
set_option maxRecDepth 65536 in
theorem w_c1 : (Jvm.Cond.code ({ cls := "com/example/gids/gids/AsciiStartsWithIgnoringCasePinLaw", name := "lower", desc := "(I)C" } : Jvm.MethodName) method_3_code (2 : Nat) (Option.some Jvm.ClassFile.FieldType.char)).before args0 about1 = true := code_word (m := ⟨1, 2⟩) (meth := k1m2) (c := k1c2) (by decide +kernel) rfl rfl rfl (by decide +kernel)
set_option maxRecDepth 65536 in
theorem w_c2 : (Jvm.Cond.code ({ cls := "com/example/gids/gids/AsciiStartsWithIgnoringCasePinLaw", name := "textChar", desc := "(IC)C" } : Jvm.MethodName) method_4_code (3 : Nat) (Option.some Jvm.ClassFile.FieldType.char)).before args0 about1 = true := code_word (m := ⟨1, 3⟩) (meth := k1m3) (c := k1c3) (by decide +kernel) rfl rfl rfl (by decide +kernel)
set_option maxRecDepth 65536 in
theorem w_c3 : (Jvm.Cond.code ({ cls := "java/lang/String", name := "<init>", desc := "([C)V" } : Jvm.MethodName) jdk_42_method_3_code (2 : Nat) (Option.none : Option Jvm.ClassFile.FieldType)).before args0 about1 = true := code_word (m := ⟨7, 1⟩) (meth := k7m1) (c := k7c1) (by decide +kernel) rfl rfl rfl (by decide +kernel)
set_option maxRecDepth 65536 in
theorem w_c4 : (Jvm.Cond.code ({ cls := "java/lang/String", name := "<init>", desc := "([CIILjava/lang/Void;)V" } : Jvm.MethodName) jdk_42_method_149_code (6 : Nat) (Option.none : Option Jvm.ClassFile.FieldType)).before args0 about1 = true := code_word (m := ⟨7, 4⟩) (meth := k7m4) (c := k7c4) (by decide +kernel) rfl rfl rfl (by decide +kernel)
set_option maxRecDepth 65536 in
theorem w_c5 : (Jvm.Cond.code ({ cls := "java/lang/Object", name := "<init>", desc := "()V" } : Jvm.MethodName) object_method_1_code (1 : Nat) (Option.none : Option Jvm.ClassFile.FieldType)).before args0 about1 = true := code_word (m := ⟨0, 0⟩) (meth := k0m0) (c := k0c0) (by decide +kernel) rfl rfl rfl (by decide +kernel)
set_option maxRecDepth 65536 in
theorem w_c6 : (Jvm.Cond.code ({ cls := "com/example/gids/gids/Ascii", name := "startsWithIgnoringCase", desc := "(Ljava/lang/String;Ljava/lang/String;)Z" } : Jvm.MethodName) prog_7_method_2_code (3 : Nat) (Option.some Jvm.ClassFile.FieldType.boolean)).before args0 about1 = true := code_word (m := ⟨8, 1⟩) (meth := k8m1) (c := k8c1) (by decide +kernel) rfl rfl rfl (by decide +kernel)
set_option maxRecDepth 65536 in
theorem w_c7 : (Jvm.Cond.code ({ cls := "java/lang/String", name := "length", desc := "()I" } : Jvm.MethodName) jdk_42_method_54_code (1 : Nat) (Option.some Jvm.ClassFile.FieldType.int)).before args0 about1 = true := code_word (m := ⟨7, 2⟩) (meth := k7m2) (c := k7c2) (by decide +kernel) rfl rfl rfl (by decide +kernel)
set_option maxRecDepth 65536 in
theorem w_c8 : (Jvm.Cond.code ({ cls := "java/lang/String", name := "coder", desc := "()B" } : Jvm.MethodName) jdk_42_method_152_code (1 : Nat) (Option.some Jvm.ClassFile.FieldType.byte)).before args0 about1 = true := code_word (m := ⟨7, 5⟩) (meth := k7m5) (c := k7c5) (by decide +kernel) rfl rfl rfl (by decide +kernel)
set_option maxRecDepth 65536 in
theorem w_c9 : (Jvm.Cond.code ({ cls := "java/lang/StringUTF16", name := "compress", desc := "([CII)[B" } : Jvm.MethodName) jdk_52_method_16_code (6 : Nat) (Option.some (Jvm.ClassFile.FieldType.array Jvm.ClassFile.FieldType.byte))).before args0 about1 = true := code_word (m := ⟨9, 8⟩) (meth := k9m8) (c := k9c8) (by decide +kernel) rfl rfl rfl (by decide +kernel)
set_option maxRecDepth 65536 in
theorem w_c10 : (Jvm.Cond.code ({ cls := "java/lang/StringUTF16", name := "compress", desc := "([CI[BII)I" } : Jvm.MethodName) jdk_52_method_21_code (7 : Nat) (Option.some Jvm.ClassFile.FieldType.int)).before args0 about1 = true := code_word (m := ⟨9, 9⟩) (meth := k9m9) (c := k9c9) (by decide +kernel) rfl rfl rfl (by decide +kernel)
set_option maxRecDepth 65536 in
theorem w_c11 : (Jvm.Cond.code ({ cls := "java/lang/StringUTF16", name := "coderFromArrayLen", desc := "([BI)B" } : Jvm.MethodName) jdk_52_method_15_code (2 : Nat) (Option.some Jvm.ClassFile.FieldType.byte)).before args0 about1 = true := code_word (m := ⟨9, 7⟩) (meth := k9m7) (c := k9c7) (by decide +kernel) rfl rfl rfl (by decide +kernel)
set_option maxRecDepth 65536 in
theorem w_c12 : (Jvm.Cond.code ({ cls := "java/lang/StringUTF16", name := "toBytes", desc := "([CII)[B" } : Jvm.MethodName) jdk_52_method_14_code (5 : Nat) (Option.some (Jvm.ClassFile.FieldType.array Jvm.ClassFile.FieldType.byte))).before args0 about1 = true := code_word (m := ⟨9, 6⟩) (meth := k9m6) (c := k9c6) (by decide +kernel) rfl rfl rfl (by decide +kernel)
set_option maxRecDepth 65536 in
theorem w_c13 : (Jvm.Cond.code ({ cls := "java/lang/StringUTF16", name := "newBytesFor", desc := "(I)[B" } : Jvm.MethodName) jdk_52_method_2_code (1 : Nat) (Option.some (Jvm.ClassFile.FieldType.array Jvm.ClassFile.FieldType.byte))).before args0 about1 = true := code_word (m := ⟨9, 1⟩) (meth := k9m1) (c := k9c1) (by decide +kernel) rfl rfl rfl (by decide +kernel)
set_option maxRecDepth 65536 in
theorem w_c14 : (Jvm.Cond.code ({ cls := "java/lang/StringUTF16", name := "newBytesLength", desc := "(I)I" } : Jvm.MethodName) jdk_52_method_3_code (1 : Nat) (Option.some Jvm.ClassFile.FieldType.int)).before args0 about1 = true := code_word (m := ⟨9, 2⟩) (meth := k9m2) (c := k9c2) (by decide +kernel) rfl rfl rfl (by decide +kernel)
set_option maxRecDepth 65536 in
theorem w_c15 : (Jvm.Cond.code ({ cls := "java/lang/StringUTF16", name := "putChar", desc := "([BII)V" } : Jvm.MethodName) jdk_52_method_4_code (3 : Nat) (Option.none : Option Jvm.ClassFile.FieldType)).before args0 about1 = true := code_word (m := ⟨9, 3⟩) (meth := k9m3) (c := k9c3) (by decide +kernel) rfl rfl rfl (by decide +kernel)
set_option maxRecDepth 65536 in
theorem w_c16 : (Jvm.Cond.code ({ cls := "java/lang/StringUTF16", name := "getChar", desc := "([BI)C" } : Jvm.MethodName) jdk_52_method_5_code (2 : Nat) (Option.some Jvm.ClassFile.FieldType.char)).before args0 about1 = true := code_word (m := ⟨9, 4⟩) (meth := k9m4) (c := k9c4) (by decide +kernel) rfl rfl rfl (by decide +kernel)
set_option maxRecDepth 65536 in
theorem w_c17 : (Jvm.Cond.code ({ cls := "com/example/gids/gids/AsciiStartsWithIgnoringCasePinLaw", name := "same", desc := "(CC)Z" } : Jvm.MethodName) method_5_code (2 : Nat) (Option.some Jvm.ClassFile.FieldType.boolean)).before args0 about1 = true := code_word (m := ⟨1, 4⟩) (meth := k1m4) (c := k1c4) (by decide +kernel) rfl rfl rfl (by decide +kernel)
set_option maxRecDepth 65536 in
theorem w_c18 : (Jvm.Cond.code ({ cls := "java/lang/String", name := "charAt", desc := "(I)C" } : Jvm.MethodName) jdk_42_method_56_code (2 : Nat) (Option.some Jvm.ClassFile.FieldType.char)).before args0 about1 = true := code_word (m := ⟨7, 3⟩) (meth := k7m3) (c := k7c3) (by decide +kernel) rfl rfl rfl (by decide +kernel)
set_option maxRecDepth 65536 in
theorem w_c19 : (Jvm.Cond.code ({ cls := "java/lang/String", name := "isLatin1", desc := "()Z" } : Jvm.MethodName) jdk_42_method_154_code (1 : Nat) (Option.some Jvm.ClassFile.FieldType.boolean)).before args0 about1 = true := code_word (m := ⟨7, 6⟩) (meth := k7m6) (c := k7c6) (by decide +kernel) rfl rfl rfl (by decide +kernel)
set_option maxRecDepth 65536 in
theorem w_c20 : (Jvm.Cond.code ({ cls := "java/lang/StringUTF16", name := "charAt", desc := "([BI)C" } : Jvm.MethodName) jdk_52_method_83_code (2 : Nat) (Option.some Jvm.ClassFile.FieldType.char)).before args0 about1 = true := code_word (m := ⟨9, 10⟩) (meth := k9m10) (c := k9c10) (by decide +kernel) rfl rfl rfl (by decide +kernel)
set_option maxRecDepth 65536 in
theorem w_c21 : (Jvm.Cond.code ({ cls := "java/lang/StringUTF16", name := "checkIndex", desc := "(I[B)V" } : Jvm.MethodName) jdk_52_method_91_code (2 : Nat) (Option.none : Option Jvm.ClassFile.FieldType)).before args0 about1 = true := code_word (m := ⟨9, 11⟩) (meth := k9m11) (c := k9c11) (by decide +kernel) rfl rfl rfl (by decide +kernel)
set_option maxRecDepth 65536 in
theorem w_c22 : (Jvm.Cond.code ({ cls := "java/lang/StringUTF16", name := "length", desc := "([B)I" } : Jvm.MethodName) jdk_52_method_6_code (1 : Nat) (Option.some Jvm.ClassFile.FieldType.int)).before args0 about1 = true := code_word (m := ⟨9, 5⟩) (meth := k9m5) (c := k9c5) (by decide +kernel) rfl rfl rfl (by decide +kernel)
set_option maxRecDepth 65536 in
theorem w_c23 : (Jvm.Cond.code ({ cls := "java/lang/String", name := "checkIndex", desc := "(II)V" } : Jvm.MethodName) jdk_42_method_155_code (2 : Nat) (Option.none : Option Jvm.ClassFile.FieldType)).before args0 about1 = true := code_word (m := ⟨7, 7⟩) (meth := k7m7) (c := k7c7) (by decide +kernel) rfl rfl rfl (by decide +kernel)
set_option maxRecDepth 65536 in
theorem w_c24 : (Jvm.Cond.code ({ cls := "jdk/internal/util/Preconditions", name := "checkIndex", desc := "(IILjava/util/function/BiFunction;)I" } : Jvm.MethodName) jdk_41_method_11_code (3 : Nat) (Option.some Jvm.ClassFile.FieldType.int)).before args0 about1 = true := code_word (m := ⟨10, 1⟩) (meth := k10m1) (c := k10c1) (by decide +kernel) rfl rfl rfl (by decide +kernel)
set_option maxRecDepth 65536 in
theorem w_c25 : (Jvm.Cond.code ({ cls := "com/example/gids/gids/Ascii", name := "toLowerCase", desc := "(C)C" } : Jvm.MethodName) prog_7_method_4_code (1 : Nat) (Option.some Jvm.ClassFile.FieldType.char)).before args0 about1 = true := code_word (m := ⟨8, 2⟩) (meth := k8m2) (c := k8c2) (by decide +kernel) rfl rfl rfl (by decide +kernel)
set_option maxRecDepth 65536 in
theorem w_c26 : (Jvm.Cond.code ({ cls := "java/lang/StringLatin1", name := "charAt", desc := "([BI)C" } : Jvm.MethodName) jdk_43_method_2_code (2 : Nat) (Option.some Jvm.ClassFile.FieldType.char)).before args0 about1 = true := code_word (m := ⟨11, 1⟩) (meth := k11m1) (c := k11c1) (by decide +kernel) rfl rfl rfl (by decide +kernel)
def codes1 : List Jvm.Cond := [Jvm.Cond.code x code maxLocals ret, Jvm.Cond.code ({ cls := "com/example/gids/gids/AsciiStartsWithIgnoringCasePinLaw", name := "lower", desc := "(I)C" } : Jvm.MethodName) method_3_code (2 : Nat) (Option.some Jvm.ClassFile.FieldType.char), Jvm.Cond.code ({ cls := "com/example/gids/gids/AsciiStartsWithIgnoringCasePinLaw", name := "textChar", desc := "(IC)C" } : Jvm.MethodName) method_4_code (3 : Nat) (Option.some Jvm.ClassFile.FieldType.char), Jvm.Cond.code ({ cls := "java/lang/String", name := "<init>", desc := "([C)V" } : Jvm.MethodName) jdk_42_method_3_code (2 : Nat) (Option.none : Option Jvm.ClassFile.FieldType), Jvm.Cond.code ({ cls := "java/lang/String", name := "<init>", desc := "([CIILjava/lang/Void;)V" } : Jvm.MethodName) jdk_42_method_149_code (6 : Nat) (Option.none : Option Jvm.ClassFile.FieldType), Jvm.Cond.code ({ cls := "java/lang/Object", name := "<init>", desc := "()V" } : Jvm.MethodName) object_method_1_code (1 : Nat) (Option.none : Option Jvm.ClassFile.FieldType), Jvm.Cond.code ({ cls := "com/example/gids/gids/Ascii", name := "startsWithIgnoringCase", desc := "(Ljava/lang/String;Ljava/lang/String;)Z" } : Jvm.MethodName) prog_7_method_2_code (3 : Nat) (Option.some Jvm.ClassFile.FieldType.boolean), Jvm.Cond.code ({ cls := "java/lang/String", name := "length", desc := "()I" } : Jvm.MethodName) jdk_42_method_54_code (1 : Nat) (Option.some Jvm.ClassFile.FieldType.int), Jvm.Cond.code ({ cls := "java/lang/String", name := "coder", desc := "()B" } : Jvm.MethodName) jdk_42_method_152_code (1 : Nat) (Option.some Jvm.ClassFile.FieldType.byte), Jvm.Cond.code ({ cls := "java/lang/StringUTF16", name := "compress", desc := "([CII)[B" } : Jvm.MethodName) jdk_52_method_16_code (6 : Nat) (Option.some (Jvm.ClassFile.FieldType.array Jvm.ClassFile.FieldType.byte)), Jvm.Cond.code ({ cls := "java/lang/StringUTF16", name := "compress", desc := "([CI[BII)I" } : Jvm.MethodName) jdk_52_method_21_code (7 : Nat) (Option.some Jvm.ClassFile.FieldType.int), Jvm.Cond.code ({ cls := "java/lang/StringUTF16", name := "coderFromArrayLen", desc := "([BI)B" } : Jvm.MethodName) jdk_52_method_15_code (2 : Nat) (Option.some Jvm.ClassFile.FieldType.byte), Jvm.Cond.code ({ cls := "java/lang/StringUTF16", name := "toBytes", desc := "([CII)[B" } : Jvm.MethodName) jdk_52_method_14_code (5 : Nat) (Option.some (Jvm.ClassFile.FieldType.array Jvm.ClassFile.FieldType.byte)), Jvm.Cond.code ({ cls := "java/lang/StringUTF16", name := "newBytesFor", desc := "(I)[B" } : Jvm.MethodName) jdk_52_method_2_code (1 : Nat) (Option.some (Jvm.ClassFile.FieldType.array Jvm.ClassFile.FieldType.byte)), Jvm.Cond.code ({ cls := "java/lang/StringUTF16", name := "newBytesLength", desc := "(I)I" } : Jvm.MethodName) jdk_52_method_3_code (1 : Nat) (Option.some Jvm.ClassFile.FieldType.int), Jvm.Cond.code ({ cls := "java/lang/StringUTF16", name := "putChar", desc := "([BII)V" } : Jvm.MethodName) jdk_52_method_4_code (3 : Nat) (Option.none : Option Jvm.ClassFile.FieldType), Jvm.Cond.code ({ cls := "java/lang/StringUTF16", name := "getChar", desc := "([BI)C" } : Jvm.MethodName) jdk_52_method_5_code (2 : Nat) (Option.some Jvm.ClassFile.FieldType.char), Jvm.Cond.code ({ cls := "com/example/gids/gids/AsciiStartsWithIgnoringCasePinLaw", name := "same", desc := "(CC)Z" } : Jvm.MethodName) method_5_code (2 : Nat) (Option.some Jvm.ClassFile.FieldType.boolean), Jvm.Cond.code ({ cls := "java/lang/String", name := "charAt", desc := "(I)C" } : Jvm.MethodName) jdk_42_method_56_code (2 : Nat) (Option.some Jvm.ClassFile.FieldType.char), Jvm.Cond.code ({ cls := "java/lang/String", name := "isLatin1", desc := "()Z" } : Jvm.MethodName) jdk_42_method_154_code (1 : Nat) (Option.some Jvm.ClassFile.FieldType.boolean), Jvm.Cond.code ({ cls := "java/lang/StringUTF16", name := "charAt", desc := "([BI)C" } : Jvm.MethodName) jdk_52_method_83_code (2 : Nat) (Option.some Jvm.ClassFile.FieldType.char), Jvm.Cond.code ({ cls := "java/lang/StringUTF16", name := "checkIndex", desc := "(I[B)V" } : Jvm.MethodName) jdk_52_method_91_code (2 : Nat) (Option.none : Option Jvm.ClassFile.FieldType), Jvm.Cond.code ({ cls := "java/lang/StringUTF16", name := "length", desc := "([B)I" } : Jvm.MethodName) jdk_52_method_6_code (1 : Nat) (Option.some Jvm.ClassFile.FieldType.int), Jvm.Cond.code ({ cls := "java/lang/String", name := "checkIndex", desc := "(II)V" } : Jvm.MethodName) jdk_42_method_155_code (2 : Nat) (Option.none : Option Jvm.ClassFile.FieldType), Jvm.Cond.code ({ cls := "jdk/internal/util/Preconditions", name := "checkIndex", desc := "(IILjava/util/function/BiFunction;)I" } : Jvm.MethodName) jdk_41_method_11_code (3 : Nat) (Option.some Jvm.ClassFile.FieldType.int), Jvm.Cond.code ({ cls := "com/example/gids/gids/Ascii", name := "toLowerCase", desc := "(C)C" } : Jvm.MethodName) prog_7_method_4_code (1 : Nat) (Option.some Jvm.ClassFile.FieldType.char), Jvm.Cond.code ({ cls := "java/lang/StringLatin1", name := "charAt", desc := "([BI)C" } : Jvm.MethodName) jdk_43_method_2_code (2 : Nat) (Option.some Jvm.ClassFile.FieldType.char)]
set_option maxRecDepth 65536 in
theorem codes_eq : words1.filter isCode = codes1 := rfl
theorem w_codes : ∀ c ∈ words1.filter isCode, c.before args0 about1 = true := by
  rw [codes_eq]
  intro c hc
  simp only [codes1, List.mem_cons, List.not_mem_nil, or_false] at hc
  rcases hc with rfl | rfl | rfl | rfl | rfl | rfl | rfl | rfl | rfl | rfl | rfl | rfl | rfl | rfl | rfl | rfl | rfl | rfl | rfl | rfl | rfl | rfl | rfl | rfl | rfl | rfl | rfl
  · exact w_c0
  · exact w_c1
  · exact w_c2
  · exact w_c3
  · exact w_c4
  · exact w_c5
  · exact w_c6
  · exact w_c7
  · exact w_c8
  · exact w_c9
  · exact w_c10
  · exact w_c11
  · exact w_c12
  · exact w_c13
  · exact w_c14
  · exact w_c15
  · exact w_c16
  · exact w_c17
  · exact w_c18
  · exact w_c19
  · exact w_c20
  · exact w_c21
  · exact w_c22
  · exact w_c23
  · exact w_c24
  · exact w_c25
  · exact w_c26
set_option maxRecDepth 65536 in
theorem w_t1 : (words1.take 24).all (fun c => isCode c || c.before args0 about1) = true := by decide +kernel
set_option maxRecDepth 65536 in
theorem w_t2 : ((words1.drop 24).take 24).all (fun c => isCode c || c.before args0 about1) = true := by decide +kernel
set_option maxRecDepth 65536 in
theorem w_t3 : (((words1.drop 24).drop 24).take 24).all (fun c => isCode c || c.before args0 about1) = true := by decide +kernel
set_option maxRecDepth 65536 in
theorem w_t4 : ((((words1.drop 24).drop 24).drop 24).take 24).all (fun c => isCode c || c.before args0 about1) = true := by decide +kernel
set_option maxRecDepth 65536 in
theorem w_t5 : ((((words1.drop 24).drop 24).drop 24).drop 24).all (fun c => isCode c || c.before args0 about1) = true := by decide +kernel
theorem w_tables : (allAtoms (Jvm.Cond.code x code maxLocals ret :: tables_1)).before args0 about1 = true := by
  rw [allAtoms_all]
  show words1.all (fun c => c.before args0 about1) = true
  refine all_split ?_ w_codes
  rw [← List.take_append_drop 24 words1, List.all_append, w_t1, ← List.take_append_drop 24 (words1.drop 24), List.all_append, w_t2, ← List.take_append_drop 24 ((words1.drop 24).drop 24), List.all_append, w_t3, ← List.take_append_drop 24 (((words1.drop 24).drop 24).drop 24), List.all_append, w_t4, w_t5]
  rfl
set_option maxRecDepth 65536 in
theorem w_rest : rest_1_c.before args0 about1 = true := by decide +kernel
set_option maxRecDepth 65536 in
theorem w_case : (Jvm.Cond.and given_1 narrow_1).before args0 about1 = true := by decide +kernel
set_option maxRecDepth 65536 in
theorem w_consts : constsHeld consts_1 about1 := Jvm.Lit.constsHeldB_iff.mp (by decide +kernel)
theorem w_applies : (headSpec (Jvm.Cond.code x code maxLocals ret :: tables_1) room_1).applies x e0.platform about1 = true :=
  (Spec.applies_iff w_frames).mpr ⟨w_running, w_runnable, w_alone, w_named, w_hears, w_ripe, w_room, w_tables⟩
theorem atStart : AtStart classFile x code maxLocals ret World_1 tables_1 room_1 Calls_1 rest_1 Pre_1 launch0 p0 e0 about1 theMethod args0 below0 :=
  ⟨lists_1, trivial, launch0.admits_env _ _ _, launch0.least_env, fairChoices_fair.cas, fairChoices_fair.clock, w_frames, w_args, w_heap, w_applies, ⟨w_consts, trivial⟩, w_rest, w_case⟩
end start1
theorem witness_1 : WitnessClaimed_1 := ⟨start1.p0, start1.e0, start1.about1, start1.theMethod, start1.args0, start1.below0, start1.atStart⟩
end Jvm.Pilot.@@N@@
