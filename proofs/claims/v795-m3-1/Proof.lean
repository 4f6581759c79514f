import JvmDerived
import JvmDerived.Pilot.@@N@@Statement
import JvmDerived.Pilot.@@N@@Code
set_option linter.unusedVariables false
set_option linter.unusedSimpArgs false
@@BLOCK:NumsL.lean.txt@@
namespace Jvm.Pilot.@@N@@
open Jvm Jvm.ClassFile Sem Op Lib Jvm.Free Jvm.Stand Jvm.LawKit Jvm.RoadKit Bundle Jvm.Pilot.@@N@@.Jvm.D
section Own
variable {p : Program} {l : Launch} {e : Env} {R : Room} {s : State} {m : MethodId} {args : Array Value} {below : List Frame} {meth : Method} {c : Code} {T T' : State} {locs : List Loc} {cells slots : Nat} {g g' : JFrame} {Q : Option Value → Heap → List Loc → Nat → Nat → Prop} {Z : State} {a0 : Array Value} {h : Heap}
/-- from this frame, in this state, the run comes to a return, and what it leaves meets Q -/
def Goal (p : Program) (l : Launch) (e : Env) (R : Room) (s : State) (m : MethodId) (args : Array Value) (below : List Frame) (meth : Method) (c : Code) (Q : Option Value → Heap → List Loc → Nat → Nat → Prop) (T : State) (g : JFrame) : Prop :=
  ∃ v U L k n, Stand p l e R s m args below meth c U L k n ∧ (meth.sig.returnType = none → v = none) ∧ Q v U.heap L k n ∧
    ∀ fs, (∀ (f : JFrame) (acts : List Action), f.method = m → f.locked = none → f.entered = [] → (doReturn e (U.setTop f) acts v).1 = U.setFrames fs) → Steps p.tables e below (T.setTop g) (U.setFrames fs)
theorem Goal.step (h : Goal p l e R s m args below meth c Q T' g') (st : ∀ t, Steps p.tables e below (T'.setTop g') t → Steps p.tables e below (T.setTop g) t) : Goal p l e R s m args below meth c Q T g := by
  obtain ⟨v, U, L, k, n, X, hv, hq, hs⟩ := h
  exact ⟨v, U, L, k, n, X, hv, hq, fun fs hl => st _ (hs fs hl)⟩
theorem Goal.imp {Q' : Option Value → Heap → List Loc → Nat → Nat → Prop} (h : Goal p l e R s m args below meth c Q T g) (q : ∀ v h L k n, Q v h L k n → Q' v h L k n) : Goal p l e R s m args below meth c Q' T g := by
  obtain ⟨v, U, L, k, n, X, hv, hq, hs⟩ := h
  exact ⟨v, U, L, k, n, X, hv, q _ _ _ _ _ hq, hs⟩
theorem Goal.retN (X : Stand p l e R s m args below meth c T locs cells slots) (hx : p.tables.exec = Jvm.exec) {pc : Nat} {Ls : Array Slot} {z : Int32} {t : FieldType} {rest : List Value} (hret : meth.sig.returnType = some t) (ht : t = .boolean ∨ t = .byte ∨ t = .char ∨ t = .short)
    (hd : decode c.code pc = .ok (.ireturn, 1)) (hq : Q (some (.int (nar t z))) T.heap locs cells slots) : Goal p l e R s m args below meth c Q T (mkF m pc Ls (.int z :: rest)) :=
  ⟨_, T, _, _, _, X, fun q => (by rw [hret] at q; cases q), hq, fun fs hl => Jvm.RoadKit.retN X hx hret ht hd hl⟩
theorem Goal.retI (X : Stand p l e R s m args below meth c T locs cells slots) (hx : p.tables.exec = Jvm.exec) {pc : Nat} {Ls : Array Slot} {z : Int32} {rest : List Value} (hret : meth.sig.returnType = some .int)
    (hd : decode c.code pc = .ok (.ireturn, 1)) (hq : Q (some (.int z)) T.heap locs cells slots) : Goal p l e R s m args below meth c Q T (mkF m pc Ls (.int z :: rest)) :=
  ⟨_, T, _, _, _, X, fun q => (by rw [hret] at q; cases q), hq, fun fs hl => retOut X hx hret rfl (Or.inl ⟨rfl, Or.inl rfl, _, rfl⟩) hd hl⟩
theorem Goal.retJ (X : Stand p l e R s m args below meth c T locs cells slots) (hx : p.tables.exec = Jvm.exec) {pc : Nat} {Ls : Array Slot} {z : Int64} {rest : List Value} (hret : meth.sig.returnType = some .long)
    (hd : decode c.code pc = .ok (.lreturn, 1)) (hq : Q (some (.long z)) T.heap locs cells slots) : Goal p l e R s m args below meth c Q T (mkF m pc Ls (.long z :: rest)) :=
  ⟨_, T, _, _, _, X, fun q => (by rw [hret] at q; cases q), hq, fun fs hl => retOut X hx hret rfl (Or.inr (Or.inl ⟨rfl, rfl, _, rfl⟩)) hd hl⟩
theorem Goal.retD (X : Stand p l e R s m args below meth c T locs cells slots) (hx : p.tables.exec = Jvm.exec) {pc : Nat} {Ls : Array Slot} {z : UInt64} {rest : List Value} (hret : meth.sig.returnType = some .double)
    (hd : decode c.code pc = .ok (.dreturn, 1)) (hq : Q (some (.double z)) T.heap locs cells slots) : Goal p l e R s m args below meth c Q T (mkF m pc Ls (.double z :: rest)) :=
  ⟨_, T, _, _, _, X, fun q => (by rw [hret] at q; cases q), hq, fun fs hl => retOut X hx hret rfl (Or.inr (Or.inr (Or.inl ⟨rfl, rfl, _, rfl⟩))) hd hl⟩
theorem Goal.retA (X : Stand p l e R s m args below meth c T locs cells slots) (hx : p.tables.exec = Jvm.exec) {pc : Nat} {Ls : Array Slot} {w : Value} {t : FieldType} {rest : List Value} (hret : meth.sig.returnType = some t) (ht : t.isReference = true) (hn : narrow t w = w) (hw : w.isRef = true)
    (hd : decode c.code pc = .ok (.areturn, 1)) (hq : Q (some w) T.heap locs cells slots) : Goal p l e R s m args below meth c Q T (mkF m pc Ls (w :: rest)) :=
  ⟨_, T, _, _, _, X, fun q => (by rw [hret] at q; cases q), hq, fun fs hl => retOut X hx hret hn (Or.inr (Or.inr (Or.inr (Or.inr ⟨rfl, ht, hw⟩)))) hd hl⟩
theorem Goal.retV (X : Stand p l e R s m args below meth c T locs cells slots) (hx : p.tables.exec = Jvm.exec) {pc : Nat} {Ls : Array Slot} (hret : meth.sig.returnType = none)
    (hd : decode c.code pc = .ok (.return_, 1)) (hq : Q none T.heap locs cells slots) : Goal p l e R s m args below meth c Q T (mkF m pc Ls []) :=
  ⟨_, T, _, _, _, X, fun _ => rfl, hq, fun fs hl => X.returnOut hx hret hd hl⟩
/-- what a walk knows of where it runs -/
def Ctx (p : Program) (s : State) (m : MethodId) (meth : Method) (c : Code) (Z : State) (bytes : ByteArray) (maxL : Nat) (ret : Option FieldType) (own nm : String) : Prop :=
  p.tables.exec = Jvm.exec ∧ Z.Warmed39 s.vm ∧ c.code = bytes ∧ c.maxLocals = maxL ∧ meth.sig.returnType = ret ∧ s.vm.findClass own = some m.cls ∧ meth.name = nm
/-- a body's contract: called with as' at the heap h0, it returns, and what it leaves meets Q -/
def Met (l : Launch) (y : MethodName) (bytes : ByteArray) (maxL : Nat) (ret : Option FieldType) (ws : List Jvm.Cond) (rm : Room) (Z : State) (as' : Array Value) (h0 : Heap) (Q : Option Value → Heap → List Loc → Prop) : Prop :=
  MetFree l y (head1 (Jvm.Cond.code y bytes maxL ret :: ws) rm) (fun a U => a = as' ∧ Z.Warmed39 U.vm ∧ U.heap = h0) (fun _ _ _ _ _ => True) (fun _ U o U' => ∃ v L, o = .returned v ∧ Q v U'.heap L ∧ FrameEnd U o U' L rm.cells rm.slots)
/-- Q within the room -/
def In (rm : Room) (Q : Option Value → Heap → List Loc → Prop) (v : Option Value) (h : Heap) (L : List Loc) (k n : Nat) : Prop := Q v h L ∧ k ≤ rm.cells ∧ n ≤ rm.slots
theorem of_goal {y : MethodName} {bytes : ByteArray} {maxL : Nat} {ret : Option FieldType} {ws : List Jvm.Cond} {rm : Room} {as' : Array Value} {h0 : Heap} {Q : Option Value → Heap → List Loc → Prop} (hpl : plainFor y = true)
    (body : ∀ (p : Program) (e : Env) (s : State) (m : MethodId) (below : List Frame) (meth : Method) (c : Code) (s₁ : State), Ctx p s m meth c Z bytes maxL ret y.cls y.name → Stand p l e rm s m as' below meth c s₁ [] 0 0 → s₁.heap = h0 →
      Goal p l e rm s m as' below meth c (In rm Q) s₁ (entryFrame m as' maxL)) : Met l y bytes maxL ret ws rm Z as' h0 Q := by
  refine MetFree.of_bodySF hpl hisR ?_
  intro p e s m args below meth c s₁ Bd hml0 hP hK
  obtain ⟨rfl, hZ, hh⟩ := hP
  have X0 : Stand p l e rm s m _ below meth c s₁ [] 0 0 := Stand.of_body Bd
  have e0 : s₁.heap = h0 := by rw [← hh, Bd.state]; rfl
  obtain ⟨v, U, L, k, n, X, hv, ⟨hq, hk, hn⟩, hs⟩ := body p e s m below meth c s₁ ⟨Bd.exec, hZ, Bd.bytes, hml0, Bd.returns, findClass_of_methodNamed Bd.named, (name_of_methodNamed Bd.named Bd.method).1⟩ X0 e0
  obtain ⟨fs, hr, hrun, hended, hW, hsame⟩ := X.leave (v := v) hv
  exact ⟨_, _, hs fs hr, hrun, hended, _, _, rfl, hq, ⟨_, rfl⟩, hW, hsame.mono hk hn⟩
variable {own : String} {index maxL : Nat} {y z : MethodName} {bytes : ByteArray} {ret : Option FieldType} {rm : Room} {as' : Array Value} {Qc : Option Value → Heap → List Loc → Prop}
theorem callStatic (X : Stand p l e R s m args below meth c T locs cells slots) (hx : p.tables.exec = Jvm.exec) (hZ : Z.Warmed39 s.vm) (hown : s.vm.findClass own = some m.cls)
    (w1 : (Cond.methodLink own index y).before a0 Z = true) (w2 : (Cond.static y).before a0 Z = true) (w3 : (Cond.initialized y.cls).before a0 Z = true) (w4 : (Cond.code y bytes maxL ret).before a0 Z = true)
    (hy : y.cls ≠ "java/lang/invoke/MethodHandle" ∧ y.cls ≠ "java/lang/invoke/VarHandle") (hM : Met l y bytes maxL ret [] rm Z as' h Qc) (eT : T.heap = h) {W : Nat} (hf : rm.frames + 1 ≤ R.frames) (hl : W + (maxL + 11) + rm.locals ≤ R.locals)
    (hc : cells + rm.cells ≤ R.cells) (hs : slots + rm.slots ≤ R.slots)
    {g : JFrame} (hg : g.method = m) (hsize : g.locals.size = c.maxLocals) {argsL rest : List Value} (hlen : ∀ sig, parseMethodDescriptor y.desc = some sig → argsL.length = sig.parameters.length)
    (hstack : g.stack = argsL.reverse ++ rest) (hW : 2 * g.monitorRoom + (rest.map fun v => v.category).sum ≤ W) (hdg : decode c.code g.pc = .ok (.invokestatic index, 3)) (has : argsL.toArray = as') :
    ∃ v T' h' L, Stand p l e R s m args below meth c T' (locs ++ L) (cells + rm.cells) (slots + rm.slots) ∧ T'.heap = h' ∧ Qc v h' L ∧ ∀ target, Steps p.tables e below (T'.setTop { g with pc := g.pc + 3, stack := v.toList ++ rest }) target → Steps p.tables e below (T.setTop g) target := by
  subst has
  obtain ⟨v, _, ⟨T', L', k', n'⟩, -, X', ⟨Lc, hQ, l1, y1, z1⟩, st⟩ := Jvm.LawKit.callS X hx (y := y) hown (mvT hZ w1) (mvT hZ w2) (mvT hZ w3) (mvT hZ w4) hy (backOf (W := W) hM hZ w4 w3 hf hl) (g := g) hg hsize (argsL := argsL) (rest := rest) hlen hstack hW hdg (fun _ _ => ⟨rfl, eT, hc, hs⟩)
  dsimp only [Pt.U, Pt.locs, Pt.cells, Pt.slots] at X' l1 y1 z1 st hQ
  subst l1 y1 z1
  exact ⟨v, T', _, Lc, X', rfl, hQ, st⟩
theorem callInit (X : Stand p l e R s m args below meth c T locs cells slots) (hx : p.tables.exec = Jvm.exec) (hZ : Z.Warmed39 s.vm) (hown : s.vm.findClass own = some m.cls) (hy1 : y.name = "<init>")
    (w1 : (Cond.methodLink own index y).before a0 Z = true) (w2 : (Cond.instanceMethod y).before a0 Z = true) (w3 : (Cond.initialized y.cls).before a0 Z = true) (w4 : (Cond.code y bytes maxL none).before a0 Z = true)
    (hy : y.cls ≠ "java/lang/invoke/MethodHandle" ∧ y.cls ≠ "java/lang/invoke/VarHandle") (hM : Met l y bytes maxL none [] rm Z as' h Qc) (eT : T.heap = h) {W : Nat} (hf : rm.frames + 1 ≤ R.frames) (hl : W + (maxL + 11) + rm.locals ≤ R.locals)
    (hc : cells + rm.cells ≤ R.cells) (hs : slots + rm.slots ≤ R.slots)
    {g : JFrame} (hg : g.method = m) (hsize : g.locals.size = c.maxLocals) {a : Addr} {argsL rest : List Value} (hlen : ∀ sig, parseMethodDescriptor y.desc = some sig → argsL.length = sig.parameters.length)
    (hstack : g.stack = argsL.reverse ++ .ref a :: rest) (hW : 2 * g.monitorRoom + (rest.map fun v => v.category).sum ≤ W) (hdg : decode c.code g.pc = .ok (.invokespecial index, 3)) (has : (Value.ref a :: argsL).toArray = as') :
    ∃ v T' h' L, Stand p l e R s m args below meth c T' (locs ++ L) (cells + rm.cells) (slots + rm.slots) ∧ T'.heap = h' ∧ Qc v h' L ∧ ∀ target, Steps p.tables e below (T'.setTop { g with pc := g.pc + 3, stack := v.toList ++ rest }) target → Steps p.tables e below (T.setTop g) target := by
  subst has
  obtain ⟨v, _, ⟨T', L', k', n'⟩, -, X', ⟨Lc, hQ, l1, y1, z1⟩, st⟩ := X.specialBack hx (y := y) hy1 hown (mvT hZ w1) (mvT hZ w2) (mvT hZ w4) hy (backOf (W := W) hM hZ w4 w3 hf hl) (g := g) hg hsize (Steps.refl _) (a := a) (argsL := argsL) (rest := rest) hlen hstack hW hdg (fun _ _ => ⟨rfl, eT, hc, hs⟩)
  dsimp only [Pt.U, Pt.locs, Pt.cells, Pt.slots] at X' l1 y1 z1 st hQ
  subst l1 y1 z1
  exact ⟨v, T', _, Lc, X', rfl, hQ, fun t k => st.trans k⟩
theorem callVirt (X : Stand p l e R s m args below meth c T locs cells slots) (hx : p.tables.exec = Jvm.exec) (hZ : Z.Warmed39 s.vm) (hown : s.vm.findClass own = some m.cls) {C : String}
    (w1 : (Cond.methodLink own index y).before a0 Z = true) (w2 : (Cond.declares y).before a0 Z = true) (hnf : NotFace s y) (w5 : (Cond.selects C y z).before a0 Z = true) (w6 : (Cond.instanceMethod z).before a0 Z = true) (w3 : (Cond.initialized z.cls).before a0 Z = true) (w4 : (Cond.code z bytes maxL ret).before a0 Z = true)
    (hy : y.cls ≠ "java/lang/invoke/MethodHandle" ∧ y.cls ≠ "java/lang/invoke/VarHandle") (hM : Met l z bytes maxL ret [] rm Z as' h Qc) (eT : T.heap = h) {a : Addr} (E : Exa Z h a C) {W : Nat} (hf : rm.frames + 1 ≤ R.frames) (hl : W + (maxL + 11) + rm.locals ≤ R.locals)
    (hc : cells + rm.cells ≤ R.cells) (hs : slots + rm.slots ≤ R.slots)
    {g : JFrame} (hg : g.method = m) (hsize : g.locals.size = c.maxLocals) {argsL rest : List Value} (hlen : ∀ sig, parseMethodDescriptor y.desc = some sig → argsL.length = sig.parameters.length)
    (hstack : g.stack = argsL.reverse ++ .ref a :: rest) (hW : 2 * g.monitorRoom + (rest.map fun v => v.category).sum ≤ W) (hdg : decode c.code g.pc = .ok (.invokevirtual index, 3)) (has : (Value.ref a :: argsL).toArray = as') :
    ∃ v T' h' L, Stand p l e R s m args below meth c T' (locs ++ L) (cells + rm.cells) (slots + rm.slots) ∧ T'.heap = h' ∧ Qc v h' L ∧ ∀ target, Steps p.tables e below (T'.setTop { g with pc := g.pc + 3, stack := v.toList ++ rest }) target → Steps p.tables e below (T.setTop g) target := by
  subst has
  obtain ⟨cq, kq, qa, qb, qc⟩ := isOf hZ eT E
  obtain ⟨v, _, ⟨T', L', k', n'⟩, -, X', ⟨Lc, hQ, l1, y1, z1⟩, st⟩ := X.virtualBack hx (y := y) (z := z) hown (mvT hZ w1) (mvT hZ w2) hnf (mvT hZ w5) (mvT hZ w6) hy (backOf (W := W) hM hZ w4 w3 hf hl) qa qc (g := g) hg hsize (Steps.refl _) (argsL := argsL) (rest := rest) hlen hstack hW hdg (fun _ _ => ⟨rfl, eT, hc, hs⟩)
  dsimp only [Pt.U, Pt.locs, Pt.cells, Pt.slots] at X' l1 y1 z1 st hQ
  subst l1 y1 z1
  exact ⟨v, T', _, Lc, X', rfl, hQ, fun t k => st.trans k⟩
theorem nne {x y : Nat} (q : ¬ x = y) : @Ne Addr x y := q
end Own
section OwnH
variable {p : Program} {l : Launch} {e : Env} {R : Room} {s : State} {m : MethodId} {args : Array Value} {below : List Frame} {meth : Method} {c : Code} {T T' : State} {locs : List Loc} {cells slots : Nat} {g g' : JFrame} {Q : Option Value → Heap → List Loc → Nat → Nat → Prop} {Z : State} {a0 : Array Value} {h : Heap} {vm0 : Vm} {k0 : Nat} {EL : List (String × Nat)} {hb : Heap} {xs : List Addr}
/-- as GoalH, and the String constants held at the start are held at the end -/
def GoalH (Z : State) (EL : List (String × Nat)) (hb : Heap) (p : Program) (l : Launch) (e : Env) (R : Room) (s : State) (m : MethodId) (args : Array Value) (below : List Frame) (meth : Method) (c : Code) (Q : Option Value → Heap → List Loc → Nat → Nat → Prop) (T : State) (g : JFrame) : Prop :=
  ∃ v U vm k0 L k n, Stand p l e R (s.setVm vm) m args below meth c U L k n ∧ s.Since vm k0 ∧ k0 ≤ U.heap.size ∧ (meth.sig.returnType = none → v = none) ∧ Q v U.heap L k n ∧ CHr Z EL s.vm hb U.vm U.heap ∧
    ∀ fs, (∀ (f : JFrame) (acts : List Action), f.method = m → f.locked = none → f.entered = [] → (doReturn e (U.setTop f) acts v).1 = U.setFrames fs) → Steps p.tables e below (T.setTop g) (U.setFrames fs)
theorem GoalH.step (h : GoalH Z EL hb p l e R s m args below meth c Q T' g') (st : ∀ t, Steps p.tables e below (T'.setTop g') t → Steps p.tables e below (T.setTop g) t) : GoalH Z EL hb p l e R s m args below meth c Q T g := by
  obtain ⟨v, U, vm, k0, L, k, n, X, hS, hk, hv, hq, hC, hs⟩ := h
  exact ⟨v, U, vm, k0, L, k, n, X, hS, hk, hv, hq, hC, fun fs hl => st _ (hs fs hl)⟩
theorem GoalH.retN (X : Stand p l e R (s.setVm vm0) m args below meth c T locs cells slots) (hS : s.Since vm0 k0) (hk : k0 ≤ T.heap.size) (hZ : Z.Warmed39 vm0) (hEL : EW Z a0 EL) (hC : CHr Z EL s.vm hb vm0 T.heap) (hx : p.tables.exec = Jvm.exec) {pc : Nat} {Ls : Array Slot} {z : Int32} {t : FieldType} {rest : List Value} (hret : meth.sig.returnType = some t) (ht : t = .boolean ∨ t = .byte ∨ t = .char ∨ t = .short)
    (hd : decode c.code pc = .ok (.ireturn, 1)) (hq : Q (some (.int (nar t z))) T.heap locs cells slots) : GoalH Z EL hb p l e R s m args below meth c Q T (mkF m pc Ls (.int z :: rest)) :=
  ⟨_, T, vm0, k0, _, _, _, X, hS, hk, fun q => (by rw [hret] at q; cases q), hq, hC.trans (CHv.at X hZ hEL hC.1), fun fs hl => Jvm.RoadKit.retN X hx hret ht hd hl⟩
theorem GoalH.retI (X : Stand p l e R (s.setVm vm0) m args below meth c T locs cells slots) (hS : s.Since vm0 k0) (hk : k0 ≤ T.heap.size) (hZ : Z.Warmed39 vm0) (hEL : EW Z a0 EL) (hC : CHr Z EL s.vm hb vm0 T.heap) (hx : p.tables.exec = Jvm.exec) {pc : Nat} {Ls : Array Slot} {z : Int32} {rest : List Value} (hret : meth.sig.returnType = some .int)
    (hd : decode c.code pc = .ok (.ireturn, 1)) (hq : Q (some (.int z)) T.heap locs cells slots) : GoalH Z EL hb p l e R s m args below meth c Q T (mkF m pc Ls (.int z :: rest)) :=
  ⟨_, T, vm0, k0, _, _, _, X, hS, hk, fun q => (by rw [hret] at q; cases q), hq, hC.trans (CHv.at X hZ hEL hC.1), fun fs hl => retOut X hx hret rfl (Or.inl ⟨rfl, Or.inl rfl, _, rfl⟩) hd hl⟩
theorem GoalH.retA (X : Stand p l e R (s.setVm vm0) m args below meth c T locs cells slots) (hS : s.Since vm0 k0) (hk : k0 ≤ T.heap.size) (hZ : Z.Warmed39 vm0) (hEL : EW Z a0 EL) (hC : CHr Z EL s.vm hb vm0 T.heap) (hx : p.tables.exec = Jvm.exec) {pc : Nat} {Ls : Array Slot} {w : Value} {t : FieldType} {rest : List Value} (hret : meth.sig.returnType = some t) (ht : t.isReference = true) (hn : narrow t w = w) (hw : w.isRef = true)
    (hd : decode c.code pc = .ok (.areturn, 1)) (hq : Q (some w) T.heap locs cells slots) : GoalH Z EL hb p l e R s m args below meth c Q T (mkF m pc Ls (w :: rest)) :=
  ⟨_, T, vm0, k0, _, _, _, X, hS, hk, fun q => (by rw [hret] at q; cases q), hq, hC.trans (CHv.at X hZ hEL hC.1), fun fs hl => retOut X hx hret hn (Or.inr (Or.inr (Or.inr (Or.inr ⟨rfl, ht, hw⟩)))) hd hl⟩
theorem GoalH.retV (X : Stand p l e R (s.setVm vm0) m args below meth c T locs cells slots) (hS : s.Since vm0 k0) (hk : k0 ≤ T.heap.size) (hZ : Z.Warmed39 vm0) (hEL : EW Z a0 EL) (hC : CHr Z EL s.vm hb vm0 T.heap) (hx : p.tables.exec = Jvm.exec) {pc : Nat} {Ls : Array Slot} (hret : meth.sig.returnType = none)
    (hd : decode c.code pc = .ok (.return_, 1)) (hq : Q none T.heap locs cells slots) : GoalH Z EL hb p l e R s m args below meth c Q T (mkF m pc Ls []) :=
  ⟨_, T, vm0, k0, _, _, _, X, hS, hk, fun _ => rfl, hq, hC.trans (CHv.at X hZ hEL hC.1), fun fs hl => X.returnOut hx hret hd hl⟩
def MetH (l : Launch) (y : MethodName) (bytes : ByteArray) (maxL : Nat) (ret : Option FieldType) (ws : List Jvm.Cond) (rm : Room) (Z : State) (EL : List (String × Nat)) (xs : List Addr) (as' : Array Value) (h0 : Heap) (Q : Option Value → Heap → List Loc → Prop) : Prop :=
  MetFree l y (head1 (Jvm.Cond.code y bytes maxL ret :: ws) rm) (fun a U => a = as' ∧ Z.Warmed39 U.vm ∧ U.heap = h0 ∧ CHv Z EL U.vm h0 ∧ ∀ x ∈ xs, x < h0.size ∧ Safe Z EL U.vm h0 x) (fun _ _ _ _ _ => True) (fun _ U o U' => ∃ v L, o = .returned v ∧ Q v U'.heap L ∧ CHr Z EL U.vm U.heap U'.vm U'.heap ∧ ReturnedEndW U o U' L rm.cells rm.slots)
theorem of_goalH {y : MethodName} {bytes : ByteArray} {maxL : Nat} {ret : Option FieldType} {ws : List Jvm.Cond} {rm : Room} {as' : Array Value} {h0 : Heap} {Q : Option Value → Heap → List Loc → Prop} (hpl : plainFor y = true)
    (body : ∀ (p : Program) (e : Env) (s : State) (m : MethodId) (below : List Frame) (meth : Method) (c : Code) (s₁ : State), Ctx p s m meth c Z bytes maxL ret y.cls y.name → Stand p l e rm (s.setVm s.vm) m as' below meth c s₁ [] 0 0 → s.Since s.vm 0 → s₁.heap = h0 → CHv Z EL s.vm h0 → (∀ x ∈ xs, x < h0.size ∧ Safe Z EL s.vm h0 x) →
      GoalH Z EL h0 p l e rm s m as' below meth c (In rm Q) s₁ (entryFrame m as' maxL)) : MetH l y bytes maxL ret ws rm Z EL xs as' h0 Q := by
  refine MetFree.of_bodySF hpl hisR ?_
  intro p e s m args below meth c s₁ Bd hml0 hP hK
  obtain ⟨rfl, hZ, hh, hCH, hSf⟩ := hP
  have X0 : Stand p l e rm s m _ below meth c s₁ [] 0 0 := Stand.of_body Bd
  have e0 : s₁.heap = h0 := by rw [← hh, Bd.state]; rfl
  obtain ⟨v, U, vm, k0, L, k, n, X, hS, hk0, hv, ⟨hq, hk, hn⟩, hC, hs⟩ := body p e s m below meth c s₁ ⟨Bd.exec, hZ, Bd.bytes, hml0, Bd.returns, findClass_of_methodNamed Bd.named, (name_of_methodNamed Bd.named Bd.method).1⟩ X0 ((State.WarmedH.refl s).since 0) e0 hCH hSf
  obtain ⟨fs, hr, hrun, hended, hE⟩ := X.leaveW hS hk0 (v := v) hv
  subst hh
  exact ⟨_, _, hs fs hr, hrun, hended, _, _, rfl, hq, hC, hE.1, hE.2.1, hE.2.2.1, hE.2.2.2.mono hk hn⟩
variable {own : String} {index maxL : Nat} {y z : MethodName} {bytes : ByteArray} {ret : Option FieldType} {rm : Room} {as' : Array Value} {Qc : Option Value → Heap → List Loc → Prop}
theorem backOfX {y : MethodName} {bytes : ByteArray} {maxL : Nat} {ret : Option FieldType} {rm : Room} {len W : Nat} {as' : Array Value} {Q : Option Value → Heap → List Loc → Prop} (hM : MetH l y bytes maxL ret [] rm Z EL xs as' h Q)
    (hZ : Z.Warmed39 vm0) (wc : (Cond.code y bytes maxL ret).before a0 Z = true) (wz : (Cond.initialized y.cls).before a0 Z = true) (hf : rm.frames + 1 ≤ R.frames) (hl : W + (maxL + 11) + rm.locals ≤ R.locals) (hEL : EW Z a0 EL) (H : CHv Z EL vm0 h) (hxs : ∀ x ∈ xs, x < h.size ∧ Safe Z EL vm0 h x) :
    BackS l R p e below (s.setVm vm0) args y len W (fun A a => a = as' ∧ A.U.heap = h ∧ A.cells + rm.cells ≤ R.cells ∧ A.slots + rm.slots ≤ R.slots)
      (fun A _ v B => ∃ L, Q v B.U.heap L ∧ B.locs = A.locs ++ L ∧ B.cells = A.cells + rm.cells ∧ B.slots = A.slots + rm.slots ∧ CHr Z EL vm0 h B.U.vm B.U.heap) :=
  BackS.of_freeW (bytes := bytes) (maxL := maxL) (ret := ret) (E := fun _ first o t L k n => k = rm.cells ∧ n = rm.slots ∧ (∃ v, o = .returned v ∧ Q v t.heap L) ∧ CHr Z EL first.vm first.heap t.vm t.heap) hM hf hl
    (fun m meth c A a Y hp => have hU : Z.Warmed39 A.U.vm := wtrans (s := s.setVm vm0) hZ Y.warmed
      ⟨by show (Cond.and _ .tt).before a A.U = true; rw [Cond.before_and, mv hU wc]; rfl, mv hU wc, mv hU wz, hp.2.2.1, hp.2.2.2⟩)
    (fun m meth c A a g mk Y hp => ⟨hp.1, wtrans (s := s.setVm vm0) hZ Y.warmed, hp.2.1, (CHv.at Y hZ hEL H).1, fun x hx => ⟨(hxs x hx).1, (CHv.at Y hZ hEL H).safe (hxs x hx).1 (hxs x hx).2⟩⟩) (fun _ _ _ _ _ _ _ _ _ => trivial)
    (fun _ _ _ _ ⟨v, L, h1, h2, h3, h4⟩ => ⟨L, _, _, h4, rfl, rfl, ⟨v, h1, h2⟩, h3⟩)
    (fun m meth c A a g mk v t L k n Y hp _ _ ⟨e1, e2, ⟨v', e3, e4⟩, e5⟩ => by
      cases e3; subst e1 e2
      refine ⟨L, e4, rfl, rfl, rfl, (CHv.at Y hZ hEL H).trans ?_⟩
      rw [← hp.2.1]; exact e5)
theorem callStaticH (X : Stand p l e R (s.setVm vm0) m args below meth c T locs cells slots) (hx : p.tables.exec = Jvm.exec) (hZ : Z.Warmed39 (s.setVm vm0).vm) (hown : (s.setVm vm0).vm.findClass own = some m.cls) (hS : s.Since vm0 k0) (hk : k0 ≤ h.size) (hEL : EW Z a0 EL) (H : CHv Z EL vm0 h) (hxs : ∀ x ∈ xs, x < h.size ∧ Safe Z EL vm0 h x)
    (w1 : (Cond.methodLink own index y).before a0 Z = true) (w2 : (Cond.static y).before a0 Z = true) (w3 : (Cond.initialized y.cls).before a0 Z = true) (w4 : (Cond.code y bytes maxL ret).before a0 Z = true)
    (hy : y.cls ≠ "java/lang/invoke/MethodHandle" ∧ y.cls ≠ "java/lang/invoke/VarHandle") (hM : MetH l y bytes maxL ret [] rm Z EL xs as' h Qc) (eT : T.heap = h) {W : Nat} (hf : rm.frames + 1 ≤ R.frames) (hl : W + (maxL + 11) + rm.locals ≤ R.locals)
    (hc : cells + rm.cells ≤ R.cells) (hs : slots + rm.slots ≤ R.slots)
    {g : JFrame} (hg : g.method = m) (hsize : g.locals.size = c.maxLocals) {argsL rest : List Value} (hlen : ∀ sig, parseMethodDescriptor y.desc = some sig → argsL.length = sig.parameters.length)
    (hstack : g.stack = argsL.reverse ++ rest) (hW : 2 * g.monitorRoom + (rest.map fun v => v.category).sum ≤ W) (hdg : decode c.code g.pc = .ok (.invokestatic index, 3)) (has : argsL.toArray = as') :
    ∃ v T' h' L k1, Stand p l e R (s.setVm T'.vm) m args below meth c T' (locs ++ L) (cells + rm.cells) (slots + rm.slots) ∧ T'.heap = h' ∧ Qc v h' L ∧ s.Since T'.vm k1 ∧ k1 ≤ h'.size ∧ h.size ≤ h'.size ∧ CHr Z EL vm0 h T'.vm h' ∧ Z.Warmed39 (s.setVm T'.vm).vm ∧ (s.setVm T'.vm).vm.findClass own = some m.cls ∧ ∀ target, Steps p.tables e below (T'.setTop { g with pc := g.pc + 3, stack := v.toList ++ rest }) target → Steps p.tables e below (T.setTop g) target := by
  subst has
  subst eT
  obtain ⟨v, _, ⟨T', L', k', n'⟩, -, X', hS', hg', ⟨Lc, hQ, l1, y1, z1, hC1⟩, st⟩ := callSS X hx (y := y) hown (mvT hZ w1) (mvT hZ w2) (mvT hZ w3) (mvT hZ w4) hy (backOfX (W := W) hM hZ w4 w3 hf hl hEL H hxs) (g := g) hg hsize (argsL := argsL) (rest := rest) hlen hstack hW hdg (fun _ _ => ⟨rfl, rfl, hc, hs⟩)
  dsimp only [Pt.U, Pt.locs, Pt.cells, Pt.slots] at X' l1 y1 z1 st hQ hS' hg' hC1
  subst l1 y1 z1
  exact ⟨v, T', _, Lc, _, X', rfl, hQ, hS.trans hS' (Nat.le_trans hk hg'), Nat.le_refl _, hg', hC1, State.Warmed39.trans (t := s.setVm vm0) hZ hS'.1, by rw [show (s.setVm T'.vm).vm = T'.vm from rfl, hS'.1.alike.findClass]; exact hown, fun t k => st.trans k⟩
theorem callInitH (X : Stand p l e R (s.setVm vm0) m args below meth c T locs cells slots) (hx : p.tables.exec = Jvm.exec) (hZ : Z.Warmed39 (s.setVm vm0).vm) (hown : (s.setVm vm0).vm.findClass own = some m.cls) (hS : s.Since vm0 k0) (hk : k0 ≤ h.size) (hEL : EW Z a0 EL) (H : CHv Z EL vm0 h) (hxs : ∀ x ∈ xs, x < h.size ∧ Safe Z EL vm0 h x) (hy1 : y.name = "<init>")
    (w1 : (Cond.methodLink own index y).before a0 Z = true) (w2 : (Cond.instanceMethod y).before a0 Z = true) (w3 : (Cond.initialized y.cls).before a0 Z = true) (w4 : (Cond.code y bytes maxL none).before a0 Z = true)
    (hy : y.cls ≠ "java/lang/invoke/MethodHandle" ∧ y.cls ≠ "java/lang/invoke/VarHandle") (hM : MetH l y bytes maxL none [] rm Z EL xs as' h Qc) (eT : T.heap = h) {W : Nat} (hf : rm.frames + 1 ≤ R.frames) (hl : W + (maxL + 11) + rm.locals ≤ R.locals)
    (hc : cells + rm.cells ≤ R.cells) (hs : slots + rm.slots ≤ R.slots)
    {g : JFrame} (hg : g.method = m) (hsize : g.locals.size = c.maxLocals) {a : Addr} {argsL rest : List Value} (hlen : ∀ sig, parseMethodDescriptor y.desc = some sig → argsL.length = sig.parameters.length)
    (hstack : g.stack = argsL.reverse ++ .ref a :: rest) (hW : 2 * g.monitorRoom + (rest.map fun v => v.category).sum ≤ W) (hdg : decode c.code g.pc = .ok (.invokespecial index, 3)) (has : (Value.ref a :: argsL).toArray = as') :
    ∃ v T' h' L k1, Stand p l e R (s.setVm T'.vm) m args below meth c T' (locs ++ L) (cells + rm.cells) (slots + rm.slots) ∧ T'.heap = h' ∧ Qc v h' L ∧ s.Since T'.vm k1 ∧ k1 ≤ h'.size ∧ h.size ≤ h'.size ∧ CHr Z EL vm0 h T'.vm h' ∧ Z.Warmed39 (s.setVm T'.vm).vm ∧ (s.setVm T'.vm).vm.findClass own = some m.cls ∧ ∀ target, Steps p.tables e below (T'.setTop { g with pc := g.pc + 3, stack := v.toList ++ rest }) target → Steps p.tables e below (T.setTop g) target := by
  subst has
  subst eT
  obtain ⟨v, _, ⟨T', L', k', n'⟩, -, X', hS', hg', ⟨Lc, hQ, l1, y1, z1, hC1⟩, st⟩ := X.specialBackS hx (y := y) hy1 hown (mvT hZ w1) (mvT hZ w2) (mvT hZ w4) hy (backOfX (W := W) hM hZ w4 w3 hf hl hEL H hxs) (g := g) hg hsize (Steps.refl _) (a := a) (argsL := argsL) (rest := rest) hlen hstack hW hdg (fun _ _ => ⟨rfl, rfl, hc, hs⟩)
  dsimp only [Pt.U, Pt.locs, Pt.cells, Pt.slots] at X' l1 y1 z1 st hQ hS' hg' hC1
  subst l1 y1 z1
  exact ⟨v, T', _, Lc, _, X', rfl, hQ, hS.trans hS' (Nat.le_trans hk hg'), Nat.le_refl _, hg', hC1, State.Warmed39.trans (t := s.setVm vm0) hZ hS'.1, by rw [show (s.setVm T'.vm).vm = T'.vm from rfl, hS'.1.alike.findClass]; exact hown, fun t k => st.trans k⟩
theorem callVirtH (X : Stand p l e R (s.setVm vm0) m args below meth c T locs cells slots) (hx : p.tables.exec = Jvm.exec) (hZ : Z.Warmed39 (s.setVm vm0).vm) (hown : (s.setVm vm0).vm.findClass own = some m.cls) (hS : s.Since vm0 k0) (hk : k0 ≤ h.size) (hEL : EW Z a0 EL) (H : CHv Z EL vm0 h) (hxs : ∀ x ∈ xs, x < h.size ∧ Safe Z EL vm0 h x) {C : String}
    (w1 : (Cond.methodLink own index y).before a0 Z = true) (w2 : (Cond.declares y).before a0 Z = true) (hnf : NotFace (s.setVm vm0) y) (w5 : (Cond.selects C y z).before a0 Z = true) (w6 : (Cond.instanceMethod z).before a0 Z = true) (w3 : (Cond.initialized z.cls).before a0 Z = true) (w4 : (Cond.code z bytes maxL ret).before a0 Z = true)
    (hy : y.cls ≠ "java/lang/invoke/MethodHandle" ∧ y.cls ≠ "java/lang/invoke/VarHandle") (hM : MetH l z bytes maxL ret [] rm Z EL xs as' h Qc) (eT : T.heap = h) {a : Addr} (E : Exa Z h a C) {W : Nat} (hf : rm.frames + 1 ≤ R.frames) (hl : W + (maxL + 11) + rm.locals ≤ R.locals)
    (hc : cells + rm.cells ≤ R.cells) (hs : slots + rm.slots ≤ R.slots)
    {g : JFrame} (hg : g.method = m) (hsize : g.locals.size = c.maxLocals) {argsL rest : List Value} (hlen : ∀ sig, parseMethodDescriptor y.desc = some sig → argsL.length = sig.parameters.length)
    (hstack : g.stack = argsL.reverse ++ .ref a :: rest) (hW : 2 * g.monitorRoom + (rest.map fun v => v.category).sum ≤ W) (hdg : decode c.code g.pc = .ok (.invokevirtual index, 3)) (has : (Value.ref a :: argsL).toArray = as') :
    ∃ v T' h' L k1, Stand p l e R (s.setVm T'.vm) m args below meth c T' (locs ++ L) (cells + rm.cells) (slots + rm.slots) ∧ T'.heap = h' ∧ Qc v h' L ∧ s.Since T'.vm k1 ∧ k1 ≤ h'.size ∧ h.size ≤ h'.size ∧ CHr Z EL vm0 h T'.vm h' ∧ Z.Warmed39 (s.setVm T'.vm).vm ∧ (s.setVm T'.vm).vm.findClass own = some m.cls ∧ ∀ target, Steps p.tables e below (T'.setTop { g with pc := g.pc + 3, stack := v.toList ++ rest }) target → Steps p.tables e below (T.setTop g) target := by
  subst has
  subst eT
  obtain ⟨cq, kq, qa, qb, qc⟩ := isOf hZ rfl E
  obtain ⟨v, _, ⟨T', L', k', n'⟩, -, X', hS', hg', ⟨Lc, hQ, l1, y1, z1, hC1⟩, st⟩ := X.virtualBackS hx (y := y) (z := z) hown (mvT hZ w1) (mvT hZ w2) hnf (mvT hZ w5) (mvT hZ w6) hy (backOfX (W := W) hM hZ w4 w3 hf hl hEL H hxs) qa qc (g := g) hg hsize (Steps.refl _) (argsL := argsL) (rest := rest) hlen hstack hW hdg (fun _ _ => ⟨rfl, rfl, hc, hs⟩)
  dsimp only [Pt.U, Pt.locs, Pt.cells, Pt.slots] at X' l1 y1 z1 st hQ hS' hg' hC1
  subst l1 y1 z1
  exact ⟨v, T', _, Lc, _, X', rfl, hQ, hS.trans hS' (Nat.le_trans hk hg'), Nat.le_refl _, hg', hC1, State.Warmed39.trans (t := s.setVm vm0) hZ hS'.1, by rw [show (s.setVm T'.vm).vm = T'.vm from rfl, hS'.1.alike.findClass]; exact hown, fun t k => st.trans k⟩
theorem safeFresh {hq : Heap} {x : Addr} (K : Keep hb hq []) (H : CHv Z EL vm0 hb) (hx : hb.size ≤ x) : Safe Z EL vm0 hq x := fun B => Safe.new hx ((H.keepStep K all0).2 _ B)
end OwnH
section OwnA
variable {Z : State} {h h' : Heap} {a b : Nat} {k : ClassId} {ty : FieldType} {n : Nat} {f g : Nat → Int32} {sl : Nat} {v : Value} {ws : List Nat}
/-- an array of n ints, told by a function -/
def Arf (Z : State) (h : Heap) (a : Nat) (k : ClassId) (ty : FieldType) (n : Nat) (f : Nat → Int32) : Prop := ∃ c : Cell, Arr Z h a c ty ∧ c.cls = k ∧ c.slots.size = n ∧ ∀ i, i < n → c.slots[i]? = some (.int (f i))
theorem Arf.lt (F : Arf Z h a k ty n f) : a < h.size := by obtain ⟨c, A, -⟩ := F; exact A.lt
theorem Arf.ext (F : Arf Z h a k ty n f) (E : Ext h h') : Arf Z h' a k ty n f := by obtain ⟨c, A, r⟩ := F; exact ⟨c, A.ext E, r⟩
theorem Arf.other (F : Arf Z h b k ty n f) (W : Wr h h' a sl v) (q : b ≠ a) : Arf Z h' b k ty n f := by obtain ⟨c, A, r⟩ := F; exact ⟨c, A.other W q, r⟩
theorem Arf.keep (F : Arf Z h a k ty n f) (K : Keep h h' ws) (q : a ∉ ws) : Arf Z h' a k ty n f := by obtain ⟨c, A, r⟩ := F; exact ⟨c, ⟨K.2.1 a c A.1 q, A.2⟩, r⟩
theorem Arf.congr (F : Arf Z h a k ty n f) (q : ∀ i, i < n → f i = g i) : Arf Z h a k ty n g := by obtain ⟨c, A, r1, r2, H⟩ := F; exact ⟨c, A, r1, r2, fun i hi => by rw [← q i hi]; exact H i hi⟩
theorem Arf.set {c : Cell} (A : Arr Z h a c ty) (q1 : c.cls = k) (S : c.slots.size = n) (H : ∀ i, i < n → c.slots[i]? = some (.int (f i))) {j : Nat} {x : Int32} (W : Wr h h' a j (.int x)) : Arf Z h' a k ty n (fun i => if i = j then x else f i) := by
  refine ⟨_, A.same W, q1, by rw [sz_set]; exact S, fun i hi => ?_⟩
  show ((c.slots.setIfInBounds j (.int x)))[i]? = some (.int (if i = j then x else f i))
  by_cases e : i = j
  · subst e; rw [if_pos rfl, Array.getElem?_setIfInBounds_self_of_lt (by omega)]
  · rw [if_neg e, Array.getElem?_setIfInBounds_ne (Ne.symm e)]; exact H i hi
theorem Arf.new {z : Int32} (A : Arr Z h a (newA k ty z) ty) (hd : defaultValue ty = .int 0) (hn : z.toNatClampNeg = n) : Arf Z h a k ty n (fun _ => 0) := by
  refine ⟨_, A, rfl, by rw [sz_new]; exact hn, fun i hi => ?_⟩
  have hi' : i < (newA k ty z).slots.size := by rw [sz_new]; omega
  rw [Array.getElem?_eq_getElem hi']
  simp [newA, hd]
/-- small naturals as ints -/
theorem nat_clamp {i : Nat} (h : i < 2 ^ 31) : (Int32.ofNat i).toNatClampNeg = i := by
  have : (Int32.ofNat i).toInt = i := Int32.toInt_ofNat_of_lt (by omega)
  simp only [Int32.toNatClampNeg, this]; omega
theorem nat_toInt {i : Nat} (h : i < 2 ^ 31) : (Int32.ofNat i).toInt = i := Int32.toInt_ofNat_of_lt (by omega)
theorem nat_lt {i n : Nat} (h1 : i < 2 ^ 31) (h2 : n < 2 ^ 31) : Int32.ofNat i < Int32.ofNat n ↔ i < n := by rw [Int32.lt_iff_toInt_lt, nat_toInt h1, nat_toInt h2]; omega
theorem nat_one (i : Nat) : Int32.ofNat i + (1 : Int32) = Int32.ofNat (i + 1) := (Int32.ofNat_add i 1).symm
theorem nat_inb {c : Cell} {i n : Nat} (S : c.slots.size = n) (hi : i < n) (hn : n < 2 ^ 31) : ¬ (Int32.ofNat i < 0 ∨ c.slots.size ≤ (Int32.ofNat i).toNatClampNeg) := by
  rw [nat_clamp (by omega), S, Int32.lt_iff_toInt_lt, nat_toInt (by omega)]
  have : (0 : Int32).toInt = 0 := by decide
  omega
end OwnA
def i2c (x : Int32) : Int32 := x.toUInt32.toUInt16.toUInt32.toInt32
def i2b (x : Int32) : Int32 := x.toInt8.toInt32
theorem bv_i2c (x : Int32) : (i2c x).toBitVec = (x.toBitVec.setWidth 16).setWidth 32 := by
  simp only [i2c, UInt32.toBitVec_toInt32, UInt16.toBitVec_toUInt32, UInt32.toBitVec_toUInt16, Int32.toBitVec_toUInt32]
theorem bv_i2b (x : Int32) : (i2b x).toBitVec = (x.toBitVec.setWidth 8).signExtend 32 := by
  simp only [i2b, Int8.toBitVec_toInt32, Int32.toBitVec_toInt8, BitVec.signExtend_eq_setWidth_of_le _ (by decide : 8 ≤ 32)]
theorem bit255 (i : Nat) (h : i < 32) : (255#32).getLsbD i = decide (i < 8) := by
  have : (255#32) = (BitVec.allOnes 8).setWidth 32 := by decide
  rw [this, BitVec.getLsbD_setWidth, BitVec.getLsbD_allOnes]; simp; omega
/-- a byte, read back -/
theorem bv_byte (x : BitVec 32) : ((((x.setWidth 8).signExtend 32).setWidth 8).signExtend 32) &&& 255#32 = (x.setWidth 8).setWidth 32 := by
  apply BitVec.eq_of_getLsbD_eq
  intro i hi
  rw [BitVec.getLsbD_and, bit255 i hi]
  simp only [BitVec.getLsbD_signExtend, BitVec.getLsbD_setWidth]
  by_cases h : i < 8
  · simp [h, hi]
  · simp [h]
theorem own_latin (c : Int32) (h0 : 0 ≤ c.toInt) (h1 : c.toInt ≤ 255) : i2c ((i2b (i2b c)) &&& 255) = c := by
  apply Int32.toBitVec_inj.mp
  rw [bv_i2c, Int32.toBitVec_and, bv_i2b, bv_i2b, show (255 : Int32).toBitVec = 255#32 from rfl, bv_byte]
  have hc : c.toBitVec.toNat ≤ 255 := by
    have e : c.toInt = c.toBitVec.toInt := rfl
    rw [e, BitVec.toInt_eq_toNat_cond] at h0 h1
    split at h0 <;> split at h1 <;> omega
  apply BitVec.eq_of_toNat_eq
  simp only [BitVec.toNat_setWidth]
  omega
theorem own_pack (c : Int32) (h0 : 0 ≤ c.toInt) (h1 : c.toInt ≤ 65535) :
    i2c ((((i2b (i2b (c >>> ((0 : Int32) &&& 31)))) &&& 255) <<< ((0 : Int32) &&& 31)) ||| (((i2b (i2b (c >>> ((8 : Int32) &&& 31)))) &&& 255) <<< ((8 : Int32) &&& 31))) = c := by
  have e0 : ((0 : Int32) &&& 31) = 0 := by decide
  have e8 : ((8 : Int32) &&& 31) = 8 := by decide
  have hc : c.toBitVec.toNat ≤ 65535 := by
    have e : c.toInt = c.toBitVec.toInt := rfl
    rw [e, BitVec.toInt_eq_toNat_cond] at h0 h1
    split at h0 <;> split at h1 <;> omega
  apply Int32.toBitVec_inj.mp
  rw [e0, e8, bv_i2c, Int32.toBitVec_or, Int32.toBitVec_shiftLeft, Int32.toBitVec_shiftLeft, Int32.toBitVec_and, Int32.toBitVec_and, bv_i2b, bv_i2b, bv_i2b, bv_i2b, Int32.toBitVec_shiftRight, Int32.toBitVec_shiftRight]
  have s0 : ((0 : Int32).toBitVec.smod 32) = 0#32 := by decide
  have s8 : ((8 : Int32).toBitVec.smod 32) = 8#32 := by decide
  rw [s0, s8, show (255 : Int32).toBitVec = 255#32 from rfl, bv_byte, bv_byte]
  have hbit : ∀ i, 16 ≤ i → c.toBitVec.getLsbD i = false := fun i hi => by
    rw [BitVec.getLsbD, Nat.testBit_lt_two_pow]
    exact Nat.lt_of_le_of_lt hc (Nat.lt_of_lt_of_le (by decide : 65535 < 2 ^ 16) (Nat.pow_le_pow_right (by decide) hi))
  have hmsb : c.toBitVec.msb = false := by rw [BitVec.msb_eq_getLsbD_last]; exact hbit 31 (by decide)
  apply BitVec.eq_of_getLsbD_eq
  intro i hi
  simp only [BitVec.getLsbD_setWidth, BitVec.getLsbD_or, BitVec.shiftLeft_eq', BitVec.sshiftRight_eq', BitVec.getLsbD_shiftLeft, BitVec.getLsbD_sshiftRight, hmsb]
  have t0 : (0#32).toNat = 0 := rfl
  have t8 : (8#32).toNat = 8 := rfl
  simp only [t0, t8]
  by_cases h8 : i < 8
  · have h16 : i < 16 := by omega
    simp [h8, hi, h16]
  · by_cases h16 : i < 16
    · have h1 : 8 + (i - 8) = i := by omega
      have h2 : i - 8 < 32 := by omega
      have h3 : i - 8 < 8 := by omega
      have h4 : ¬ 32 ≤ i - 8 := by omega
      simp [h8, hi, h16, h1, h2, h3, h4]
    · have hb := hbit i (by omega)
      simp only [BitVec.getLsbD_eq_getElem hi] at hb
      simp [h8, hi, h16, hb]
theorem own_i2c (c : Int32) (h0 : 0 ≤ c.toInt) (h1 : c.toInt ≤ 65535) : i2c c = c := by
  have hc : c.toBitVec.toNat ≤ 65535 := by
    have e : c.toInt = c.toBitVec.toInt := rfl
    rw [e, BitVec.toInt_eq_toNat_cond] at h0 h1
    split at h0 <;> split at h1 <;> omega
  apply Int32.toBitVec_inj.mp
  rw [bv_i2c]
  apply BitVec.eq_of_toNat_eq
  simp only [BitVec.toNat_setWidth]
  omega

/-- the JDK's own statics that the String bodies read -/
def SEnv (Z : State) (cs : Int32) (fm : Value) : Prop := Sta Z Z.heap "java/lang/String" "COMPACT_STRINGS" "Z" (.int cs) ∧ ¬ cs = 0 ∧ Sta Z Z.heap "java/lang/StringUTF16" "$assertionsDisabled" "Z" (.int (1 : Int32)) ∧ Sta Z Z.heap "java/lang/StringUTF16" "HI_BYTE_SHIFT" "I" (.int (0 : Int32)) ∧ Sta Z Z.heap "java/lang/StringUTF16" "LO_BYTE_SHIFT" "I" (.int (8 : Int32)) ∧ Sta Z Z.heap "jdk/internal/util/Preconditions" "SIOOBE_FORMATTER" "Ljava/util/function/BiFunction;" fm ∧ fm.isRef = true
def chars (n : Nat) (f : Nat → Int32) : Prop := n < 2 ^ 28 ∧ ∀ i, i < n → 0 ≤ (f i).toInt ∧ (f i).toInt ≤ 65535
def lat (f : Nat → Int32) (i : Nat) : Int32 := i2b (i2b (f i))
def utf (f : Nat → Int32) (i : Nat) : Int32 := if i % 2 = 0 then i2b (i2b (f (i / 2) >>> ((0 : Int32) &&& 31))) else i2b (i2b (f (i / 2) >>> ((8 : Int32) &&& 31)))
/-- the String at a spells f 0, .., f (n - 1) -/
def Str (Z : State) (h : Heap) (a : Nat) (n : Nat) (f : Nat → Int32) : Prop := chars n f ∧ Exa Z h a "java/lang/String" ∧ ∃ b k, Fld Z h a "java/lang/String" "value" "[B" (.ref b) ∧
  ((Fld Z h a "java/lang/String" "coder" "B" (.int (0 : Int32)) ∧ (∀ i, i < n → (f i).toInt ≤ 255) ∧ Arf Z h b k .byte n (lat f)) ∨ (Fld Z h a "java/lang/String" "coder" "B" (.int (1 : Int32)) ∧ Arf Z h b k .byte (2 * n) (utf f)))
theorem Str.ext {Z : State} {h h' : Heap} {a : Nat} {n : Nat} {f : Nat → Int32} (S : Str Z h a n f) (E : Ext h h') : Str Z h' a n f := by
  obtain ⟨hc, X, b, k, F, r⟩ := S
  refine ⟨hc, X.ext E, b, k, F.ext E, ?_⟩
  rcases r with ⟨r1, r2, r3⟩ | ⟨r1, r2⟩
  · exact .inl ⟨r1.ext E, r2, r3.ext E⟩
  · exact .inr ⟨r1.ext E, r2.ext E⟩
theorem extRefl (h : Heap) : Ext h h := ⟨Nat.le_refl _, fun _ _ q => q⟩
theorem extTr {h h' h'' : Heap} (E : Ext h h') (F : Ext h' h'') : Ext h h'' := ⟨Nat.le_trans E.1 F.1, fun a c q => F.2 a c (E.2 a c q)⟩
theorem extKp {h h' h'' : Heap} {ws : List Nat} (E : Ext h h') (K : Keep h' h'' ws) (q : ∀ x ∈ ws, h.size ≤ x) : Ext h h'' :=
  ⟨Nat.le_trans E.1 K.1, fun a c r => K.2.1 a c (E.2 a c r) fun m => absurd (q a m) (Nat.not_le.mpr (Array.getElem?_eq_some_iff.mp r).1)⟩
theorem extW {h h' h'' : Heap} {a : Nat} {sl : Nat} {v : Value} (E : Ext h h') (W : Wr h' h'' a sl v) (q : h.size ≤ a) : Ext h h'' := extKp E (Keep.of_wr W) (allS q all0)
theorem own_shr1 {n : Nat} (h : n < 2 ^ 28) : Int32.ofNat (2 * n) >>> ((1 : Int32) &&& 31) = Int32.ofNat n := by
  apply Int32.toInt_inj.mp
  rw [Jvm.Kit.i32_shr _ _ (k := 1) (by decide), nat_toInt (by omega), nat_toInt (by omega)]
  omega
theorem own_shr0 (n : Nat) : Int32.ofNat n >>> ((0 : Int32) &&& 31) = Int32.ofNat n := by
  apply Int32.toInt_inj.mp
  rw [Jvm.Kit.i32_shr _ _ (k := 0) (by decide)]
  omega
theorem own_shl1 {n : Nat} (h : n < 2 ^ 28) : Int32.ofNat n <<< ((1 : Int32) &&& 31) = Int32.ofNat (2 * n) := by
  apply Int32.toInt_inj.mp
  rw [Jvm.Kit.i32_shl _ _ (k := 1) (by decide) (by rw [nat_toInt (by omega)]; omega) (by rw [nat_toInt (by omega)]; omega), nat_toInt (by omega), nat_toInt (by omega)]
  omega
theorem nat_nn {i : Nat} (h : i < 2 ^ 31) : ¬ Int32.ofNat i < (0 : Int32) := by
  rw [Int32.lt_iff_toInt_lt, nat_toInt h]; have : (0 : Int32).toInt = 0 := by decide
  omega

theorem own_empty {Z : State} {h : Heap} {b : Nat} {k : ClassId} (A : Arv Z h b k .byte 0 [] (.int 0)) : Arf Z h b k .byte 0 (fun _ => 0) := by
  obtain ⟨c, A, q, S, -⟩ := A
  exact ⟨c, A, q, S, fun i hi => absurd hi (Nat.not_lt_zero _)⟩
theorem own_step {P : Nat → Prop} {i : Nat} (h : ∀ j, j < i → P j) (q : P i) : ∀ j, j < i + 1 → P j := fun j hj => by
  by_cases e : j = i
  · rw [e]; exact q
  · exact h j (by omega)
theorem own_255 (x : Int32) : (255 : Int32) < x ↔ 255 < x.toInt := by
  rw [Int32.lt_iff_toInt_lt]; have : (255 : Int32).toInt = 255 := by decide
  rw [this]
theorem nat_ltc {n : Nat} (h : n < 2 ^ 28) : Int32.ofNat n < (1073741823 : Int32) := by
  rw [Int32.lt_iff_toInt_lt, nat_toInt (by omega)]; have : (1073741823 : Int32).toInt = 1073741823 := by decide
  omega
theorem nat_ne {i n : Nat} (h : i < n) (hn : n < 2 ^ 31) : ¬ Int32.ofNat i = Int32.ofNat n := fun q => by
  have := congrArg Int32.toInt q
  rw [nat_toInt (by omega), nat_toInt hn] at this
  omega
theorem nat_pos {n : Nat} (h : 0 < n) (hn : n < 2 ^ 31) : ¬ Int32.ofNat n = (0 : Int32) := fun q => nat_ne h hn q.symm
def put (g : Nat → Int32) (i : Nat) (x : Int32) : Nat → Int32 := fun z => if z = 2 * i + 1 then i2b (i2b (x >>> ((8 : Int32) &&& 31))) else if z = 2 * i then i2b (i2b (x >>> ((0 : Int32) &&& 31))) else g z
theorem own_put {g f : Nat → Int32} {i : Nat} (h : ∀ j, j < 2 * i → g j = utf f j) : ∀ j, j < 2 * (i + 1) → put g i (f i) j = utf f j := fun j hj => by
  unfold put
  by_cases h1 : j = 2 * i + 1
  · rw [if_pos h1, h1]; unfold utf; rw [if_neg (by omega), show (2 * i + 1) / 2 = i by omega]
  · by_cases h2 : j = 2 * i
    · rw [if_neg h1, if_pos h2, h2]; unfold utf; rw [if_pos (by omega), show 2 * i / 2 = i by omega]
    · rw [if_neg h1, if_neg h2]; exact h j (by omega)
theorem own_lat {g f : Nat → Int32} {i : Nat} (h : ∀ j, j < i → g j = lat f j) : ∀ j, j < i + 1 → (if j = i then nar .byte ((f i).toInt8.toInt32) else g j) = lat f j := fun j hj => by
  by_cases h1 : j = i
  · rw [if_pos h1, h1]; rfl
  · rw [if_neg h1]; exact h j (by omega)
theorem own_coder0 (n : Nat) : nar .byte ((((Int32.ofNat n - Int32.ofNat n).toUInt32 >>> ((31 : Int32) &&& 31).toUInt32).toInt32).toInt8.toInt32) = 0 := by rw [Int32.sub_self]; decide
theorem own_coder1 {n : Nat} (h0 : 0 < n) (h : n < 2 ^ 28) : nar .byte ((((Int32.ofNat n - Int32.ofNat (2 * n)).toUInt32 >>> ((31 : Int32) &&& 31).toUInt32).toInt32).toInt8.toInt32) = 1 := by
  have e : ((Int32.ofNat n - Int32.ofNat (2 * n)).toUInt32 >>> ((31 : Int32) &&& 31).toUInt32) = 1 := by
    apply UInt32.toNat_inj.mp
    have e1 : (Int32.ofNat n - Int32.ofNat (2 * n)).toUInt32.toNat = 2 ^ 32 - n := by
      show ((Int32.ofNat n - Int32.ofNat (2 * n)).toBitVec).toNat = _
      rw [Int32.toBitVec_sub, Int32.toBitVec_ofNat', Int32.toBitVec_ofNat']
      simp only [BitVec.toNat_sub, BitVec.toNat_ofNat]
      omega
    rw [UInt32.toNat_shiftRight, e1, show ((((31 : Int32) &&& 31).toUInt32).toNat % 32) = 31 from by decide, Nat.shiftRight_eq_div_pow]
    show (2 ^ 32 - n) / 2 ^ 31 = 1
    omega
  rw [e]; decide
theorem own_i2cr (x : Int32) : 0 ≤ (i2c x).toInt ∧ (i2c x).toInt ≤ 65535 := by
  have e : (i2c x).toInt = ((x.toBitVec.setWidth 16).setWidth 32).toInt := by rw [← bv_i2c]; rfl
  rw [e, BitVec.toInt_eq_toNat_cond, BitVec.toNat_setWidth, BitVec.toNat_setWidth]
  have := x.toBitVec.toNat % 2 ^ 16
  split <;> omega
theorem own_ne0 {args : Array Value} {s : State} {t : Term} {z : Int32} (h : (Cond.not (.eq t (.int 0))).value args s none s [] = some true) (e : t.eval args s none [] s = some (.int z)) : ¬ z = 0 := by
  intro q; subst q; simp [Cond.value, Term.eval, e] at h
theorem own_isref {args : Array Value} {s : State} {t : Term} (h : (Cond.isRef t).value args s none s [] = some true) : ∃ v : Value, t.eval args s none [] s = some v ∧ v.isRef = true := by
  simp only [Cond.value] at h
  cases e : t.eval args s none [] s with
  | none => simp [e] at h
  | some v => refine ⟨v, rfl, ?_⟩; cases v <;> simp [e] at h ⊢ <;> rfl

def low (c : Int32) : Int32 := if c < 65 then c else if 90 < c then c else c + 32
theorem own_low {c : Int32} (h1 : ¬ c < 65) (h2 : ¬ 90 < c) : i2c (i2c (c + 32)) = c + 32 ∧ i2c (c + 32) = c + 32 ∧ 0 ≤ (c + 32).toInt ∧ (c + 32).toInt ≤ 65535 ∧ 90 < (c + 32).toInt := by
  rw [Int32.lt_iff_toInt_lt] at h1 h2
  have e1 : (65 : Int32).toInt = 65 := by decide
  have e2 : (90 : Int32).toInt = 90 := by decide
  have e3 : (32 : Int32).toInt = 32 := by decide
  rw [e1] at h1; rw [e2] at h2
  have e : (c + 32).toInt = c.toInt + 32 := by rw [Jvm.Kit.i32_add] <;> rw [e3] <;> omega
  have r : i2c (c + 32) = c + 32 := own_i2c _ (by omega) (by omega)
  exact ⟨by rw [r, r], r, by omega, by omega, by omega⟩
def rng (c : Int32) : Prop := 0 ≤ c.toInt ∧ c.toInt ≤ 65535
def sch0 : Nat → Int32
  | 0 => 104
  | 1 => 116
  | 2 => 116
  | 3 => 112
  | 4 => 58
  | 5 => 47
  | _ => 47
def sch1 : Nat → Int32
  | 0 => 104
  | 1 => 116
  | 2 => 116
  | 3 => 112
  | 4 => 115
  | 5 => 58
  | 6 => 47
  | _ => 47
theorem own_arf0 {Z : State} {h : Heap} {a : Nat} {c : Cell} (A : Arr Z h a c .byte) (S : c.slots.size = 7) (h0 : c.slots[0]? = some (.int (104 : Int32))) (h1 : c.slots[1]? = some (.int (116 : Int32))) (h2 : c.slots[2]? = some (.int (116 : Int32))) (h3 : c.slots[3]? = some (.int (112 : Int32))) (h4 : c.slots[4]? = some (.int (58 : Int32))) (h5 : c.slots[5]? = some (.int (47 : Int32))) (h6 : c.slots[6]? = some (.int (47 : Int32))) : Arf Z h a c.cls .byte 7 (lat sch0) := by
  refine ⟨c, A, rfl, S, fun i hi => ?_⟩
  have q : i = 0 ∨ i = 1 ∨ i = 2 ∨ i = 3 ∨ i = 4 ∨ i = 5 ∨ i = 6 := by omega
  rcases q with rfl | rfl | rfl | rfl | rfl | rfl | rfl
  · exact h0.trans (congrArg (fun z => some (Value.int z)) (by decide))
  · exact h1.trans (congrArg (fun z => some (Value.int z)) (by decide))
  · exact h2.trans (congrArg (fun z => some (Value.int z)) (by decide))
  · exact h3.trans (congrArg (fun z => some (Value.int z)) (by decide))
  · exact h4.trans (congrArg (fun z => some (Value.int z)) (by decide))
  · exact h5.trans (congrArg (fun z => some (Value.int z)) (by decide))
  · exact h6.trans (congrArg (fun z => some (Value.int z)) (by decide))
theorem own_arf1 {Z : State} {h : Heap} {a : Nat} {c : Cell} (A : Arr Z h a c .byte) (S : c.slots.size = 8) (h0 : c.slots[0]? = some (.int (104 : Int32))) (h1 : c.slots[1]? = some (.int (116 : Int32))) (h2 : c.slots[2]? = some (.int (116 : Int32))) (h3 : c.slots[3]? = some (.int (112 : Int32))) (h4 : c.slots[4]? = some (.int (115 : Int32))) (h5 : c.slots[5]? = some (.int (58 : Int32))) (h6 : c.slots[6]? = some (.int (47 : Int32))) (h7 : c.slots[7]? = some (.int (47 : Int32))) : Arf Z h a c.cls .byte 8 (lat sch1) := by
  refine ⟨c, A, rfl, S, fun i hi => ?_⟩
  have q : i = 0 ∨ i = 1 ∨ i = 2 ∨ i = 3 ∨ i = 4 ∨ i = 5 ∨ i = 6 ∨ i = 7 := by omega
  rcases q with rfl | rfl | rfl | rfl | rfl | rfl | rfl | rfl
  · exact h0.trans (congrArg (fun z => some (Value.int z)) (by decide))
  · exact h1.trans (congrArg (fun z => some (Value.int z)) (by decide))
  · exact h2.trans (congrArg (fun z => some (Value.int z)) (by decide))
  · exact h3.trans (congrArg (fun z => some (Value.int z)) (by decide))
  · exact h4.trans (congrArg (fun z => some (Value.int z)) (by decide))
  · exact h5.trans (congrArg (fun z => some (Value.int z)) (by decide))
  · exact h6.trans (congrArg (fun z => some (Value.int z)) (by decide))
  · exact h7.trans (congrArg (fun z => some (Value.int z)) (by decide))
theorem own_ch0 : chars 7 sch0 ∧ ∀ i, i < 7 → (sch0 i).toInt ≤ 255 := by
  refine ⟨⟨by decide, fun i hi => ?_⟩, fun i hi => ?_⟩ <;>
    (have q : i = 0 ∨ i = 1 ∨ i = 2 ∨ i = 3 ∨ i = 4 ∨ i = 5 ∨ i = 6 := (by omega)
     rcases q with rfl | rfl | rfl | rfl | rfl | rfl | rfl <;> decide)
theorem own_ch1 : chars 8 sch1 ∧ ∀ i, i < 8 → (sch1 i).toInt ≤ 255 := by
  refine ⟨⟨by decide, fun i hi => ?_⟩, fun i hi => ?_⟩ <;>
    (have q : i = 0 ∨ i = 1 ∨ i = 2 ∨ i = 3 ∨ i = 4 ∨ i = 5 ∨ i = 6 ∨ i = 7 := (by omega)
     rcases q with rfl | rfl | rfl | rfl | rfl | rfl | rfl | rfl <;> decide)
def ten (c0 c1 c2 c3 c4 c5 c6 c7 c8 c9 : Int32) : Nat → Int32
  | 0 => c0
  | 1 => c1
  | 2 => c2
  | 3 => c3
  | 4 => c4
  | 5 => c5
  | 6 => c6
  | 7 => c7
  | 8 => c8
  | _ => c9

theorem own_ten {c0 c1 c2 c3 c4 c5 c6 c7 c8 c9 : Int32} (h0 : rng c0) (h1 : rng c1) (h2 : rng c2) (h3 : rng c3) (h4 : rng c4) (h5 : rng c5) (h6 : rng c6) (h7 : rng c7) (h8 : rng c8) (h9 : rng c9) : ∀ j, 0 ≤ (ten c0 c1 c2 c3 c4 c5 c6 c7 c8 c9 j).toInt ∧ (ten c0 c1 c2 c3 c4 c5 c6 c7 c8 c9 j).toInt ≤ 65535 := fun j => by unfold ten; split <;> assumption
theorem own_st {g f : Nat → Int32} {i : Nat} (h : ∀ j, j < i → g j = f j) (e : 0 ≤ (f i).toInt ∧ (f i).toInt ≤ 65535) : ∀ j, j < i + 1 → (if j = i then nar .char (f i) else g j) = f j := fun j hj => by
  by_cases h1 : j = i
  · rw [if_pos h1, h1]; exact own_i2c _ e.1 e.2
  · rw [if_neg h1]; exact h j (by omega)
theorem own_lw (c x y : Int32) (hx : 97 ≤ x.toInt ∧ x.toInt ≤ 122) (hy : y.toInt = x.toInt - 32) : low c = x ↔ (c = x ∨ c = y) := by
  have e1 : (65 : Int32).toInt = 65 := by decide
  have e2 : (90 : Int32).toInt = 90 := by decide
  have e3 : (32 : Int32).toInt = 32 := by decide
  unfold low
  by_cases h1 : c < 65
  · rw [if_pos h1]; rw [Int32.lt_iff_toInt_lt, e1] at h1
    exact ⟨Or.inl, fun q => q.elim id (fun z => by subst z; omega)⟩
  · by_cases h2 : 90 < c
    · rw [if_neg h1, if_pos h2]; rw [Int32.lt_iff_toInt_lt, e2] at h2
      exact ⟨Or.inl, fun q => q.elim id (fun z => by subst z; omega)⟩
    · rw [if_neg h1, if_neg h2]; rw [Int32.lt_iff_toInt_lt, e1] at h1; rw [Int32.lt_iff_toInt_lt, e2] at h2
      have e : (c + 32).toInt = c.toInt + 32 := by rw [Jvm.Kit.i32_add] <;> rw [e3] <;> omega
      constructor
      · intro q; right; apply Int32.toInt_inj.mp; have := congrArg Int32.toInt q; rw [e] at this; omega
      · rintro (q | q)
        · subst q; omega
        · apply Int32.toInt_inj.mp; rw [e, q]; omega
theorem own_sg (c x : Int32) (hx : x.toInt < 65) : low c = x ↔ c = x := by
  have e1 : (65 : Int32).toInt = 65 := by decide
  have e2 : (90 : Int32).toInt = 90 := by decide
  have e3 : (32 : Int32).toInt = 32 := by decide
  unfold low
  by_cases h1 : c < 65
  · rw [if_pos h1]
  · by_cases h2 : 90 < c
    · rw [if_neg h1, if_pos h2]
    · rw [if_neg h1, if_neg h2]; rw [Int32.lt_iff_toInt_lt, e1] at h1; rw [Int32.lt_iff_toInt_lt, e2] at h2
      have e : (c + 32).toInt = c.toInt + 32 := by rw [Jvm.Kit.i32_add] <;> rw [e3] <;> omega
      constructor
      · intro q; have := congrArg Int32.toInt q; rw [e] at this; omega
      · intro q; subst q; omega
theorem own_m (x : Int32) : ∃ m : Nat, m ≤ 10 ∧ (x &&& 2147483647) % 11 = Int32.ofNat m := by
  have e : (x &&& 2147483647).toInt = x.toInt % 2 ^ 31 := Jvm.Kit.i32_mask x 2147483647 (k := 31) (by decide) (by decide)
  have e3 : (11 : Int32).toInt = 11 := by decide
  have q : ((x &&& 2147483647) % 11).toInt = (x.toInt % 2 ^ 31) % 11 := by rw [Jvm.Kit.i32_rem_nonneg (by omega), e, e3]
  refine ⟨((x.toInt % 2 ^ 31) % 11).toNat, by omega, ?_⟩
  apply Int32.toInt_inj.mp
  rw [q, nat_toInt (by omega)]
  omega
theorem own_size {args : Array Value} {s : State} {t : Term} {a : Nat} {cell : Cell} {n : Nat} (hn : n < 2 ^ 31) (ht : t.eval args s none [] s = some (.ref a)) (hc : s.arrayAt? a = some cell) (h : (Term.length t).eval args s none [] s = some (.int (Int32.ofNat n))) : cell.slots.size = n := by
  have h0 := h
  simp only [Term.eval, ht, hc, Option.bind_eq_bind, Option.bind_some] at h
  by_cases hl : cell.slots.size < 2 ^ 31
  · have q := (len_f ht hc hl).symm.trans h0
    injection q with q; injection q with q
    have := congrArg Int32.toInt q
    rw [len_toInt hl, nat_toInt hn] at this
    omega
  · simp [hl] at h
theorem own_arr2 {Z : State} {h : Heap} {a : Nat} {c : Cell} {u v : Nat} (A : Arr Z h a c (.object "java/lang/String")) (S : c.slots.size = 2) (h0 : c.slots[0]? = some (.ref u)) (h1 : c.slots[1]? = some (.ref v)) : Arv Z h a c.cls (.object "java/lang/String") (2 : Int32) [.ref u, .ref v] .null := by
  refine ⟨c, A, rfl, S, by decide, fun k hk => ?_, fun k hk => ?_⟩
  · have q : k = 0 ∨ k = 1 := by omega
    rcases q with rfl | rfl
    · exact h0
    · exact h1
  · have q : k = 0 ∨ k = 1 := by omega
    rcases q with rfl | rfl <;> rfl

theorem own_atoms {Z : State} {a0 : Array Value} (hw : ∀ d ∈ tables_1, d.before a0 Z = true) : ∀ a ∈ Bundle.stringAtoms, a.before a0 Z = true := by
  intro a ha
  simp only [Bundle.stringAtoms, List.mem_cons, List.not_mem_nil, or_false] at ha
  rcases ha with rfl | rfl | rfl | rfl | rfl | rfl | rfl
  · exact (hw _ (List.mem_of_getElem? (i := 15) rfl))
  · exact (hw _ (List.mem_of_getElem? (i := 14) rfl))
  · exact (hw _ (List.mem_of_getElem? (i := 27) rfl))
  · exact (hw _ (List.mem_of_getElem? (i := 28) rfl))
  · exact (hw _ (List.mem_of_getElem? (i := 29) rfl))
  · exact (hw _ (List.mem_of_getElem? (i := 30) rfl))
  · exact (hw _ (List.mem_of_getElem? (i := 31) rfl))

theorem ef_rmP3n (m : MethodId) (x0 : Int32) (x1 : Int32) : entryFrame m #[(.int x0), (.int x1), .null] 3 = mkF m 0 #[.val (.int x0), .val (.int x1), .val .null] [] := by first | (simp [entryFrame, mkF, argsToLocals, Value.category]; done) | rfl
theorem d26_0 : decode jdk_41_method_11_code 0 = .ok (.iload_n 0, 1) := by decide +kernel
theorem d26_1 : decode jdk_41_method_11_code 1 = .ok (.ifCond .lt 8, 3) := by decide +kernel
theorem d26_4 : decode jdk_41_method_11_code 4 = .ok (.iload_n 0, 1) := by decide +kernel
theorem d26_5 : decode jdk_41_method_11_code 5 = .ok (.iload_n 1, 1) := by decide +kernel
theorem d26_6 : decode jdk_41_method_11_code 6 = .ok (.if_icmp .lt 10, 3) := by decide +kernel
theorem d26_16 : decode jdk_41_method_11_code 16 = .ok (.iload_n 0, 1) := by decide +kernel
theorem d26_17 : decode jdk_41_method_11_code 17 = .ok (.ireturn, 1) := by decide +kernel
set_option maxRecDepth 65536 in
set_option maxHeartbeats 40000000 in
theorem rmP3n (l : Launch) (Z : State) (a0 : Array Value) (hw : ∀ d ∈ tables_1, d.before a0 Z = true) (p1 p2 : Int32) (h0 : Heap) (n0 : Nat) (Z0 : n0 ≤ h0.size) (h1 : ¬ p1 < 0) (h2 : p1 < p2) :
    Met l (⟨"jdk/internal/util/Preconditions", "checkIndex", "(IILjava/util/function/BiFunction;)I"⟩ : MethodName) jdk_41_method_11_code 3 (some .int) [] ({ frames := 0, cells := 0, slots := 0, locals := 0 } : Room) Z #[(.int p1), (.int p2), .null] h0 (fun v h L => v = some (.int p1) ∧ Fr n0 L ∧ h = h0) := by
  refine of_goal (plainFor_of_name (by first | (simp [plainName, overriddenIn]; done) | decide +kernel)) ?_
  intro p e s m below meth c s₁ C X0 e0
  have C0 := C
  obtain ⟨hx, hZ, hby, hml, hret, hown, hnm⟩ := C
  have hown : s.vm.findClass "jdk/internal/util/Preconditions" = some m.cls := hown
  have hret : meth.sig.returnType = (some .int) := hret
  have N0 := Fr.nil n0
  rw [ef_rmP3n]
  refine Goal.step (T' := s₁) (g' := (mkF m 1 #[.val (.int p1), .val (.int p2), .val .null] [(.int p1)])) ?_ (fun t k => XS.iloadN X0.here hx rfl (hb hby d26_0) rfl k)
  refine Goal.step (T' := s₁) (g' := (mkF m 4 #[.val (.int p1), .val (.int p2), .val .null] [])) ?_ (fun t k => XS.ifNo X0.here hx rfl (hb hby d26_1) rfl ((if0 _ _).trans (flt h1).1) k)
  refine Goal.step (T' := s₁) (g' := (mkF m 5 #[.val (.int p1), .val (.int p2), .val .null] [(.int p1)])) ?_ (fun t k => XS.iloadN X0.here hx rfl (hb hby d26_4) rfl k)
  refine Goal.step (T' := s₁) (g' := (mkF m 6 #[.val (.int p1), .val (.int p2), .val .null] [(.int p2), (.int p1)])) ?_ (fun t k => XS.iloadN X0.here hx rfl (hb hby d26_5) rfl k)
  refine Goal.step (T' := s₁) (g' := (mkF m 16 #[.val (.int p1), .val (.int p2), .val .null] [])) ?_ (fun t k => XS.icmpYes X0.here hx rfl (pc0 := 6) (pc' := 16) rfl (hb hby d26_6) rfl (tlt h2).1 (by decide) (by decide) k)
  refine Goal.step (T' := s₁) (g' := (mkF m 17 #[.val (.int p1), .val (.int p2), .val .null] [(.int p1)])) ?_ (fun t k => XS.iloadN X0.here hx rfl (hb hby d26_16) rfl k)
  refine Goal.retI X0 hx hret (hb hby d26_17) ?_
  refine ⟨?_, by decide, by decide⟩
  rw [e0]
  exact ⟨rfl, N0, rfl⟩
theorem ef_rmP3r (m : MethodId) (x0 : Int32) (x1 : Int32) (x2 : Nat) : entryFrame m #[(.int x0), (.int x1), (.ref x2)] 3 = mkF m 0 #[.val (.int x0), .val (.int x1), .val (.ref x2)] [] := by first | (simp [entryFrame, mkF, argsToLocals, Value.category]; done) | rfl
set_option maxRecDepth 65536 in
set_option maxHeartbeats 40000000 in
theorem rmP3r (l : Launch) (Z : State) (a0 : Array Value) (hw : ∀ d ∈ tables_1, d.before a0 Z = true) (p1 p2 : Int32) (r3 : Nat) (h0 : Heap) (n0 : Nat) (Z0 : n0 ≤ h0.size) (h1 : ¬ p1 < 0) (h2 : p1 < p2) :
    Met l (⟨"jdk/internal/util/Preconditions", "checkIndex", "(IILjava/util/function/BiFunction;)I"⟩ : MethodName) jdk_41_method_11_code 3 (some .int) [] ({ frames := 0, cells := 0, slots := 0, locals := 0 } : Room) Z #[(.int p1), (.int p2), (.ref r3)] h0 (fun v h L => v = some (.int p1) ∧ Fr n0 L ∧ h = h0) := by
  refine of_goal (plainFor_of_name (by first | (simp [plainName, overriddenIn]; done) | decide +kernel)) ?_
  intro p e s m below meth c s₁ C X0 e0
  have C0 := C
  obtain ⟨hx, hZ, hby, hml, hret, hown, hnm⟩ := C
  have hown : s.vm.findClass "jdk/internal/util/Preconditions" = some m.cls := hown
  have hret : meth.sig.returnType = (some .int) := hret
  have N0 := Fr.nil n0
  rw [ef_rmP3r]
  refine Goal.step (T' := s₁) (g' := (mkF m 1 #[.val (.int p1), .val (.int p2), .val (.ref r3)] [(.int p1)])) ?_ (fun t k => XS.iloadN X0.here hx rfl (hb hby d26_0) rfl k)
  refine Goal.step (T' := s₁) (g' := (mkF m 4 #[.val (.int p1), .val (.int p2), .val (.ref r3)] [])) ?_ (fun t k => XS.ifNo X0.here hx rfl (hb hby d26_1) rfl ((if0 _ _).trans (flt h1).1) k)
  refine Goal.step (T' := s₁) (g' := (mkF m 5 #[.val (.int p1), .val (.int p2), .val (.ref r3)] [(.int p1)])) ?_ (fun t k => XS.iloadN X0.here hx rfl (hb hby d26_4) rfl k)
  refine Goal.step (T' := s₁) (g' := (mkF m 6 #[.val (.int p1), .val (.int p2), .val (.ref r3)] [(.int p2), (.int p1)])) ?_ (fun t k => XS.iloadN X0.here hx rfl (hb hby d26_5) rfl k)
  refine Goal.step (T' := s₁) (g' := (mkF m 16 #[.val (.int p1), .val (.int p2), .val (.ref r3)] [])) ?_ (fun t k => XS.icmpYes X0.here hx rfl (pc0 := 6) (pc' := 16) rfl (hb hby d26_6) rfl (tlt h2).1 (by decide) (by decide) k)
  refine Goal.step (T' := s₁) (g' := (mkF m 17 #[.val (.int p1), .val (.int p2), .val (.ref r3)] [(.int p1)])) ?_ (fun t k => XS.iloadN X0.here hx rfl (hb hby d26_16) rfl k)
  refine Goal.retI X0 hx hret (hb hby d26_17) ?_
  refine ⟨?_, by decide, by decide⟩
  rw [e0]
  exact ⟨rfl, N0, rfl⟩
theorem d25_0 : decode jdk_42_method_155_code 0 = .ok (.iload_n 0, 1) := by decide +kernel
theorem d25_1 : decode jdk_42_method_155_code 1 = .ok (.iload_n 1, 1) := by decide +kernel
theorem d25_2 : decode jdk_42_method_155_code 2 = .ok (.getstatic 1053, 3) := by decide +kernel
theorem d25_5 : decode jdk_42_method_155_code 5 = .ok (.invokestatic 1059, 3) := by decide +kernel
theorem pd_0 : parseMethodDescriptor "(IILjava/util/function/BiFunction;)I" = some ⟨[.int, .int, (.object "java/util/function/BiFunction")], some .int⟩ := by decide +kernel
theorem d25_8 : decode jdk_42_method_155_code 8 = .ok (.pop, 1) := by decide +kernel
theorem d25_9 : decode jdk_42_method_155_code 9 = .ok (.return_, 1) := by decide +kernel
theorem ef_25 (m : MethodId) (x0 : Int32) (x1 : Int32) : entryFrame m #[(.int x0), (.int x1)] 2 = mkF m 0 #[.val (.int x0), .val (.int x1)] [] := by first | (simp [entryFrame, mkF, argsToLocals, Value.category]; done) | rfl
set_option maxRecDepth 65536 in
set_option maxHeartbeats 40000000 in
theorem rmSCI (l : Launch) (Z : State) (a0 : Array Value) (hw : ∀ d ∈ tables_1, d.before a0 Z = true) (p1 p2 : Int32) (cs : Int32) (fm : Value) (h0 : Heap) (n0 : Nat) (Z0 : n0 ≤ h0.size) (SE : SEnv Z cs fm) (O0 : Old Z n0 h0) (h1 : ¬ p1 < 0) (h2 : p1 < p2) :
    Met l (⟨"java/lang/String", "checkIndex", "(II)V"⟩ : MethodName) jdk_42_method_155_code 2 none [] ({ frames := 1, cells := 0, slots := 0, locals := 16 } : Room) Z #[(.int p1), (.int p2)] h0 (fun v h L => v = none ∧ Fr n0 L ∧ h = h0) := by
  refine of_goal (plainFor_of_name (by first | (simp [plainName, overriddenIn]; done) | decide +kernel)) ?_
  intro p e s m below meth c s₁ C X0 e0
  have C0 := C
  obtain ⟨hx, hZ, hby, hml, hret, hown, hnm⟩ := C
  have hown : s.vm.findClass "java/lang/String" = some m.cls := hown
  have hret : meth.sig.returnType = none := hret
  have N0 := Fr.nil n0
  rw [ef_25]
  have hfm := SE.2.2.2.2.2.2
  rcases ref_cases hfm with rfl | ⟨r3, rfl⟩
  · refine Goal.step (T' := s₁) (g' := (mkF m 1 #[.val (.int p1), .val (.int p2)] [(.int p1)])) ?_ (fun t k => XS.iloadN X0.here hx rfl (hb hby d25_0) rfl k)
    refine Goal.step (T' := s₁) (g' := (mkF m 2 #[.val (.int p1), .val (.int p2)] [(.int p2), (.int p1)])) ?_ (fun t k => XS.iloadN X0.here hx rfl (hb hby d25_1) rfl k)
    have S1001 : Sta Z h0 "jdk/internal/util/Preconditions" "SIOOBE_FORMATTER" "Ljava/util/function/BiFunction;" .null := Sta.ext O0.2 SE.2.2.2.2.2.1
    obtain ⟨T1002, X1002, e1002, st1002⟩ := getS2 X0 hx hZ hown (host := "") (Or.inl (hw _ (List.mem_of_getElem? (i := 109) rfl))) Via.refl e0 S1001 (g := (mkF m 2 #[.val (.int p1), .val (.int p2)] [(.int p2), (.int p1)])) rfl (hb hby d25_2)
    refine Goal.step (T' := T1002) (g' := (mkF m 5 #[.val (.int p1), .val (.int p2)] [.null, (.int p2), (.int p1)])) ?_ st1002
    obtain ⟨v1003, T1003, h1003, L1003, X1003, e1003, hQ1003, st1003⟩ := callStatic X1002 hx hZ hown (hw _ (List.mem_of_getElem? (i := 111) rfl)) (hw _ (List.mem_of_getElem? (i := 112) rfl)) (hw _ (List.mem_of_getElem? (i := 110) rfl)) (hw _ (List.mem_of_getElem? (i := 113) rfl)) (by decide) (rmP3n l Z a0 hw p1 p2 h0 n0 (by omega) h1 h2) e1002 (W := 0) (by decide) (by decide) (by decide) (by decide) (g := (mkF m 5 #[.val (.int p1), .val (.int p2)] [.null, (.int p2), (.int p1)])) rfl (by rw [hml]; rfl) (argsL := [(.int p1), (.int p2), .null]) (rest := []) (lenOf pd_0 rfl) rfl (by show 2 * 0 + _ ≤ _; exact Nat.le_of_eq rfl) (hb hby d25_5) rfl
    obtain ⟨rfl, M1003, q1003⟩ := hQ1003
    rw [q1003] at e1003
    have N1003 := Fr.app N0 M1003
    refine Goal.step (T' := T1003) (g' := (mkF m 8 #[.val (.int p1), .val (.int p2)] [(.int p1)])) ?_ st1003
    refine Goal.step (T' := T1003) (g' := (mkF m 9 #[.val (.int p1), .val (.int p2)] [])) ?_ (fun t k => XS.pop X1003.here hx rfl (hb hby d25_8) rfl rfl k)
    refine Goal.retV X1003 hx hret (hb hby d25_9) ?_
    refine ⟨?_, by decide, by decide⟩
    rw [e1003]
    exact ⟨rfl, N1003, rfl⟩
  · refine Goal.step (T' := s₁) (g' := (mkF m 1 #[.val (.int p1), .val (.int p2)] [(.int p1)])) ?_ (fun t k => XS.iloadN X0.here hx rfl (hb hby d25_0) rfl k)
    refine Goal.step (T' := s₁) (g' := (mkF m 2 #[.val (.int p1), .val (.int p2)] [(.int p2), (.int p1)])) ?_ (fun t k => XS.iloadN X0.here hx rfl (hb hby d25_1) rfl k)
    have S1004 : Sta Z h0 "jdk/internal/util/Preconditions" "SIOOBE_FORMATTER" "Ljava/util/function/BiFunction;" (.ref r3) := Sta.ext O0.2 SE.2.2.2.2.2.1
    obtain ⟨T1005, X1005, e1005, st1005⟩ := getS2 X0 hx hZ hown (host := "") (Or.inl (hw _ (List.mem_of_getElem? (i := 109) rfl))) Via.refl e0 S1004 (g := (mkF m 2 #[.val (.int p1), .val (.int p2)] [(.int p2), (.int p1)])) rfl (hb hby d25_2)
    refine Goal.step (T' := T1005) (g' := (mkF m 5 #[.val (.int p1), .val (.int p2)] [(.ref r3), (.int p2), (.int p1)])) ?_ st1005
    obtain ⟨v1006, T1006, h1006, L1006, X1006, e1006, hQ1006, st1006⟩ := callStatic X1005 hx hZ hown (hw _ (List.mem_of_getElem? (i := 111) rfl)) (hw _ (List.mem_of_getElem? (i := 112) rfl)) (hw _ (List.mem_of_getElem? (i := 110) rfl)) (hw _ (List.mem_of_getElem? (i := 113) rfl)) (by decide) (rmP3r l Z a0 hw p1 p2 r3 h0 n0 (by omega) h1 h2) e1005 (W := 0) (by decide) (by decide) (by decide) (by decide) (g := (mkF m 5 #[.val (.int p1), .val (.int p2)] [(.ref r3), (.int p2), (.int p1)])) rfl (by rw [hml]; rfl) (argsL := [(.int p1), (.int p2), (.ref r3)]) (rest := []) (lenOf pd_0 rfl) rfl (by show 2 * 0 + _ ≤ _; exact Nat.le_of_eq rfl) (hb hby d25_5) rfl
    obtain ⟨rfl, M1006, q1006⟩ := hQ1006
    rw [q1006] at e1006
    have N1006 := Fr.app N0 M1006
    refine Goal.step (T' := T1006) (g' := (mkF m 8 #[.val (.int p1), .val (.int p2)] [(.int p1)])) ?_ st1006
    refine Goal.step (T' := T1006) (g' := (mkF m 9 #[.val (.int p1), .val (.int p2)] [])) ?_ (fun t k => XS.pop X1006.here hx rfl (hb hby d25_8) rfl rfl k)
    refine Goal.retV X1006 hx hret (hb hby d25_9) ?_
    refine ⟨?_, by decide, by decide⟩
    rw [e1006]
    exact ⟨rfl, N1006, rfl⟩
theorem d28_0 : decode jdk_43_method_2_code 0 = .ok (.iload_n 1, 1) := by decide +kernel
theorem d28_1 : decode jdk_43_method_2_code 1 = .ok (.aload_n 0, 1) := by decide +kernel
theorem d28_2 : decode jdk_43_method_2_code 2 = .ok (.arraylength, 1) := by decide +kernel
theorem d28_3 : decode jdk_43_method_2_code 3 = .ok (.invokestatic 9, 3) := by decide +kernel
theorem pd_1 : parseMethodDescriptor "(II)V" = some ⟨[.int, .int], none⟩ := by decide +kernel
theorem d28_6 : decode jdk_43_method_2_code 6 = .ok (.aload_n 0, 1) := by decide +kernel
theorem d28_7 : decode jdk_43_method_2_code 7 = .ok (.iload_n 1, 1) := by decide +kernel
theorem d28_8 : decode jdk_43_method_2_code 8 = .ok (.baload, 1) := by decide +kernel
theorem d28_9 : decode jdk_43_method_2_code 9 = .ok (.sipush 255, 3) := by decide +kernel
theorem d28_12 : decode jdk_43_method_2_code 12 = .ok (.iand, 1) := by decide +kernel
theorem d28_13 : decode jdk_43_method_2_code 13 = .ok (.i2c, 1) := by decide +kernel
theorem d28_14 : decode jdk_43_method_2_code 14 = .ok (.ireturn, 1) := by decide +kernel
theorem ef_28 (m : MethodId) (x0 : Nat) (x1 : Int32) : entryFrame m #[(.ref x0), (.int x1)] 2 = mkF m 0 #[.val (.ref x0), .val (.int x1)] [] := by first | (simp [entryFrame, mkF, argsToLocals, Value.category]; done) | rfl
set_option maxRecDepth 65536 in
set_option maxHeartbeats 40000000 in
theorem rmLCA (l : Launch) (Z : State) (a0 : Array Value) (hw : ∀ d ∈ tables_1, d.before a0 Z = true) (a1 : Nat) (i : Nat) (k1 : ClassId) (n : Nat) (f : Nat → Int32) (cs : Int32) (fm : Value) (h0 : Heap) (n0 : Nat) (Z0 : n0 ≤ h0.size) (SE : SEnv Z cs fm) (O0 : Old Z n0 h0) (A1 : Arf Z h0 a1 k1 .byte n (lat f)) (hi : i < n) (hn : n < 2 ^ 28) (hc : 0 ≤ (f i).toInt ∧ (f i).toInt ≤ 255) :
    Met l (⟨"java/lang/StringLatin1", "charAt", "([BI)C"⟩ : MethodName) jdk_43_method_2_code 2 (some .char) [] ({ frames := 2, cells := 0, slots := 0, locals := 30 } : Room) Z #[(.ref a1), (.int (Int32.ofNat i))] h0 (fun v h L => v = some (.int (f i)) ∧ Fr n0 L ∧ h = h0) := by
  refine of_goal (plainFor_of_name (by first | (simp [plainName, overriddenIn]; done) | decide +kernel)) ?_
  intro p e s m below meth c s₁ C X0 e0
  have C0 := C
  obtain ⟨hx, hZ, hby, hml, hret, hown, hnm⟩ := C
  have hown : s.vm.findClass "java/lang/StringLatin1" = some m.cls := hown
  have hret : meth.sig.returnType = (some .char) := hret
  have N0 := Fr.nil n0
  rw [ef_28]
  have hval : nar .char (i2c ((lat f i) &&& (255 : Int32))) = f i := by show i2c (i2c ((lat f i) &&& 255)) = f i; rw [show lat f i = i2b (i2b (f i)) from rfl, own_latin _ hc.1 hc.2]; exact own_i2c _ hc.1 (by omega)
  refine Goal.step (T' := s₁) (g' := (mkF m 1 #[.val (.ref a1), .val (.int (Int32.ofNat i))] [(.int (Int32.ofNat i))])) ?_ (fun t k => XS.iloadN X0.here hx rfl (hb hby d28_0) rfl k)
  refine Goal.step (T' := s₁) (g' := (mkF m 2 #[.val (.ref a1), .val (.int (Int32.ofNat i))] [(.ref a1), (.int (Int32.ofNat i))])) ?_ (fun t k => XS.aloadN X0.here hx rfl (hb hby d28_1) rfl rfl k)
  obtain ⟨cl1001, Ar1001, q1001, S1001, H1001⟩ := (id A1)
  refine Goal.step (T' := s₁) (g' := (mkF m 3 #[.val (.ref a1), .val (.int (Int32.ofNat i))] [(.int (Int32.ofNat n)), (.int (Int32.ofNat i))])) ?_ (fun t k => X0.arraylength hx (by rw [e0]; exact Ar1001.1) (State.isArrayOf_alike hZ.alike Ar1001.2.1) (g := (mkF m 2 #[.val (.ref a1), .val (.int (Int32.ofNat i))] [(.ref a1), (.int (Int32.ofNat i))])) rfl rfl (hb hby d28_2) _ (by rw [S1001]; exact k))
  obtain ⟨v1002, T1002, h1002, L1002, X1002, e1002, hQ1002, st1002⟩ := callStatic X0 hx hZ hown (hw _ (List.mem_of_getElem? (i := 121) rfl)) (hw _ (List.mem_of_getElem? (i := 107) rfl)) (hw _ (List.mem_of_getElem? (i := 15) rfl)) (hw _ (List.mem_of_getElem? (i := 108) rfl)) (by decide) (rmSCI l Z a0 hw (Int32.ofNat i) (Int32.ofNat n) cs fm h0 n0 (by omega) SE O0 (nat_nn (by omega)) ((nat_lt (by omega) (by omega)).mpr hi)) e0 (W := 0) (by decide) (by decide) (by decide) (by decide) (g := (mkF m 3 #[.val (.ref a1), .val (.int (Int32.ofNat i))] [(.int (Int32.ofNat n)), (.int (Int32.ofNat i))])) rfl (by rw [hml]; rfl) (argsL := [(.int (Int32.ofNat i)), (.int (Int32.ofNat n))]) (rest := []) (lenOf pd_1 rfl) rfl (by show 2 * 0 + _ ≤ _; exact Nat.le_of_eq rfl) (hb hby d28_3) rfl
  obtain ⟨rfl, M1002, q1002⟩ := hQ1002
  rw [q1002] at e1002
  have N1002 := Fr.app N0 M1002
  refine Goal.step (T' := T1002) (g' := (mkF m 6 #[.val (.ref a1), .val (.int (Int32.ofNat i))] [])) ?_ st1002
  refine Goal.step (T' := T1002) (g' := (mkF m 7 #[.val (.ref a1), .val (.int (Int32.ofNat i))] [(.ref a1)])) ?_ (fun t k => XS.aloadN X1002.here hx rfl (hb hby d28_6) rfl rfl k)
  refine Goal.step (T' := T1002) (g' := (mkF m 8 #[.val (.ref a1), .val (.int (Int32.ofNat i))] [(.int (Int32.ofNat i)), (.ref a1)])) ?_ (fun t k => XS.iloadN X1002.here hx rfl (hb hby d28_7) rfl k)
  obtain ⟨cl1003, Ar1003, q1003, S1003, H1003⟩ := (id A1)
  have hlt1003 : i < n := hi
  have hn1003 : n < 2 ^ 31 := by omega
  have hin1003 : ¬ ((Int32.ofNat i) < 0 ∨ cl1003.slots.size ≤ ((Int32.ofNat i)).toNatClampNeg) := nat_inb S1003 hlt1003 hn1003
  have hat1003 : cl1003.slots[((Int32.ofNat i)).toNatClampNeg]? = some (.int (((lat f)) i)) := by rw [nat_clamp (show i < 2 ^ 31 by omega)]; exact H1003 _ hlt1003
  refine Goal.step (T' := T1002) (g' := (mkF m 9 #[.val (.ref a1), .val (.int (Int32.ofNat i))] [(.int (((lat f)) i))])) ?_ (fun t k => X1002.baloadBytes hx (j := (Int32.ofNat i)) (v := (.int (((lat f)) i))) (by rw [e1002]; exact Ar1003.1) (State.isArrayOf_alike hZ.alike Ar1003.2.1) Ar1003.2.2 hin1003 hat1003 (g := (mkF m 8 #[.val (.ref a1), .val (.int (Int32.ofNat i))] [(.int (Int32.ofNat i)), (.ref a1)])) rfl rfl (hb hby d28_8) _ k)
  refine Goal.step (T' := T1002) (g' := (mkF m 12 #[.val (.ref a1), .val (.int (Int32.ofNat i))] [(.int (255 : Int32)), (.int (((lat f)) i))])) ?_ (fun t k => XS.sipush X1002.here hx rfl (hb hby d28_9) k)
  refine Goal.step (T' := T1002) (g' := (mkF m 13 #[.val (.ref a1), .val (.int (Int32.ofNat i))] [(.int ((((lat f)) i) &&& (255 : Int32)))])) ?_ (fun t k => XS.iand X1002.here hx rfl (hb hby d28_12) rfl k)
  refine Goal.step (T' := T1002) (g' := (mkF m 14 #[.val (.ref a1), .val (.int (Int32.ofNat i))] [(.int (((((lat f)) i) &&& (255 : Int32)).toUInt32.toUInt16.toUInt32.toInt32))])) ?_ (fun t k => XS.i2c X1002.here hx rfl (hb hby d28_13) rfl k)
  refine Goal.retN (t := .char) X1002 hx hret (by simp) (hb hby d28_14) ?_
  refine ⟨?_, by decide, by decide⟩
  rw [e1002]
  exact ⟨congrArg (fun z => some (Value.int z)) hval, N1002, rfl⟩
theorem d24_0 : decode jdk_52_method_6_code 0 = .ok (.aload_n 0, 1) := by decide +kernel
theorem d24_1 : decode jdk_52_method_6_code 1 = .ok (.arraylength, 1) := by decide +kernel
theorem d24_2 : decode jdk_52_method_6_code 2 = .ok (.iconst 1, 1) := by decide +kernel
theorem d24_3 : decode jdk_52_method_6_code 3 = .ok (.ishr, 1) := by decide +kernel
theorem d24_4 : decode jdk_52_method_6_code 4 = .ok (.ireturn, 1) := by decide +kernel
theorem ef_24 (m : MethodId) (x0 : Nat) : entryFrame m #[(.ref x0)] 1 = mkF m 0 #[.val (.ref x0)] [] := by first | (simp [entryFrame, mkF, argsToLocals, Value.category]; done) | rfl
set_option maxRecDepth 65536 in
set_option maxHeartbeats 40000000 in
theorem rmULN (l : Launch) (Z : State) (a0 : Array Value) (hw : ∀ d ∈ tables_1, d.before a0 Z = true) (a1 : Nat) (k1 : ClassId) (n : Nat) (f : Nat → Int32) (h0 : Heap) (n0 : Nat) (Z0 : n0 ≤ h0.size) (A1 : Arf Z h0 a1 k1 .byte (2 * n) f) (hn : n < 2 ^ 28) :
    Met l (⟨"java/lang/StringUTF16", "length", "([B)I"⟩ : MethodName) jdk_52_method_6_code 1 (some .int) [] ({ frames := 0, cells := 0, slots := 0, locals := 0 } : Room) Z #[(.ref a1)] h0 (fun v h L => v = some (.int (Int32.ofNat n)) ∧ Fr n0 L ∧ h = h0) := by
  refine of_goal (plainFor_of_name (by first | (simp [plainName, overriddenIn]; done) | decide +kernel)) ?_
  intro p e s m below meth c s₁ C X0 e0
  have C0 := C
  obtain ⟨hx, hZ, hby, hml, hret, hown, hnm⟩ := C
  have hown : s.vm.findClass "java/lang/StringUTF16" = some m.cls := hown
  have hret : meth.sig.returnType = (some .int) := hret
  have N0 := Fr.nil n0
  rw [ef_24]
  refine Goal.step (T' := s₁) (g' := (mkF m 1 #[.val (.ref a1)] [(.ref a1)])) ?_ (fun t k => XS.aloadN X0.here hx rfl (hb hby d24_0) rfl rfl k)
  obtain ⟨cl1001, Ar1001, q1001, S1001, H1001⟩ := (id A1)
  refine Goal.step (T' := s₁) (g' := (mkF m 2 #[.val (.ref a1)] [(.int (Int32.ofNat (2 * n)))])) ?_ (fun t k => X0.arraylength hx (by rw [e0]; exact Ar1001.1) (State.isArrayOf_alike hZ.alike Ar1001.2.1) (g := (mkF m 1 #[.val (.ref a1)] [(.ref a1)])) rfl rfl (hb hby d24_1) _ (by rw [S1001]; exact k))
  refine Goal.step (T' := s₁) (g' := (mkF m 3 #[.val (.ref a1)] [(.int (1 : Int32)), (.int (Int32.ofNat (2 * n)))])) ?_ (fun t k => XS.iconst X0.here hx rfl (hb hby d24_2) k)
  refine Goal.step (T' := s₁) (g' := (mkF m 4 #[.val (.ref a1)] [(.int ((Int32.ofNat (2 * n)) >>> ((1 : Int32) &&& 31)))])) ?_ (fun t k => XS.ishr X0.here hx rfl (hb hby d24_3) rfl k)
  refine Goal.retI X0 hx hret (hb hby d24_4) ?_
  refine ⟨?_, by decide, by decide⟩
  rw [e0]
  exact ⟨congrArg (fun z => some (Value.int z)) (own_shr1 hn), N0, rfl⟩
theorem d23_0 : decode jdk_52_method_91_code 0 = .ok (.iload_n 0, 1) := by decide +kernel
theorem d23_1 : decode jdk_52_method_91_code 1 = .ok (.aload_n 1, 1) := by decide +kernel
theorem d23_2 : decode jdk_52_method_91_code 2 = .ok (.invokestatic 48, 3) := by decide +kernel
theorem pd_2 : parseMethodDescriptor "([B)I" = some ⟨[(.array .byte)], some .int⟩ := by decide +kernel
theorem d23_5 : decode jdk_52_method_91_code 5 = .ok (.invokestatic 414, 3) := by decide +kernel
theorem d23_8 : decode jdk_52_method_91_code 8 = .ok (.return_, 1) := by decide +kernel
theorem ef_23 (m : MethodId) (x0 : Int32) (x1 : Nat) : entryFrame m #[(.int x0), (.ref x1)] 2 = mkF m 0 #[.val (.int x0), .val (.ref x1)] [] := by first | (simp [entryFrame, mkF, argsToLocals, Value.category]; done) | rfl
set_option maxRecDepth 65536 in
set_option maxHeartbeats 40000000 in
theorem rmUCI (l : Launch) (Z : State) (a0 : Array Value) (hw : ∀ d ∈ tables_1, d.before a0 Z = true) (i : Nat) (a1 : Nat) (k1 : ClassId) (n : Nat) (f : Nat → Int32) (cs : Int32) (fm : Value) (h0 : Heap) (n0 : Nat) (Z0 : n0 ≤ h0.size) (SE : SEnv Z cs fm) (O0 : Old Z n0 h0) (A1 : Arf Z h0 a1 k1 .byte (2 * n) f) (hi : i < n) (hn : n < 2 ^ 28) :
    Met l (⟨"java/lang/StringUTF16", "checkIndex", "(I[B)V"⟩ : MethodName) jdk_52_method_91_code 2 none [] ({ frames := 2, cells := 0, slots := 0, locals := 32 } : Room) Z #[(.int (Int32.ofNat i)), (.ref a1)] h0 (fun v h L => v = none ∧ Fr n0 L ∧ h = h0) := by
  refine of_goal (plainFor_of_name (by first | (simp [plainName, overriddenIn]; done) | decide +kernel)) ?_
  intro p e s m below meth c s₁ C X0 e0
  have C0 := C
  obtain ⟨hx, hZ, hby, hml, hret, hown, hnm⟩ := C
  have hown : s.vm.findClass "java/lang/StringUTF16" = some m.cls := hown
  have hret : meth.sig.returnType = none := hret
  have N0 := Fr.nil n0
  rw [ef_23]
  refine Goal.step (T' := s₁) (g' := (mkF m 1 #[.val (.int (Int32.ofNat i)), .val (.ref a1)] [(.int (Int32.ofNat i))])) ?_ (fun t k => XS.iloadN X0.here hx rfl (hb hby d23_0) rfl k)
  refine Goal.step (T' := s₁) (g' := (mkF m 2 #[.val (.int (Int32.ofNat i)), .val (.ref a1)] [(.ref a1), (.int (Int32.ofNat i))])) ?_ (fun t k => XS.aloadN X0.here hx rfl (hb hby d23_1) rfl rfl k)
  obtain ⟨v1001, T1001, h1001, L1001, X1001, e1001, hQ1001, st1001⟩ := callStatic X0 hx hZ hown (hw _ (List.mem_of_getElem? (i := 103) rfl)) (hw _ (List.mem_of_getElem? (i := 104) rfl)) (hw _ (List.mem_of_getElem? (i := 57) rfl)) (hw _ (List.mem_of_getElem? (i := 105) rfl)) (by decide) (rmULN l Z a0 hw a1 k1 n f h0 n0 (by omega) A1 hn) e0 (W := 1) (by decide) (by decide) (by decide) (by decide) (g := (mkF m 2 #[.val (.int (Int32.ofNat i)), .val (.ref a1)] [(.ref a1), (.int (Int32.ofNat i))])) rfl (by rw [hml]; rfl) (argsL := [(.ref a1)]) (rest := [(.int (Int32.ofNat i))]) (lenOf pd_2 rfl) rfl (by show 2 * 0 + _ ≤ _; exact Nat.le_of_eq rfl) (hb hby d23_2) rfl
  obtain ⟨rfl, M1001, q1001⟩ := hQ1001
  rw [q1001] at e1001
  have N1001 := Fr.app N0 M1001
  refine Goal.step (T' := T1001) (g' := (mkF m 5 #[.val (.int (Int32.ofNat i)), .val (.ref a1)] [(.int (Int32.ofNat n)), (.int (Int32.ofNat i))])) ?_ st1001
  obtain ⟨v1002, T1002, h1002, L1002, X1002, e1002, hQ1002, st1002⟩ := callStatic X1001 hx hZ hown (hw _ (List.mem_of_getElem? (i := 106) rfl)) (hw _ (List.mem_of_getElem? (i := 107) rfl)) (hw _ (List.mem_of_getElem? (i := 15) rfl)) (hw _ (List.mem_of_getElem? (i := 108) rfl)) (by decide) (rmSCI l Z a0 hw (Int32.ofNat i) (Int32.ofNat n) cs fm h0 n0 (by omega) SE O0 (nat_nn (by omega)) ((nat_lt (by omega) (by omega)).mpr hi)) e1001 (W := 0) (by decide) (by decide) (by decide) (by decide) (g := (mkF m 5 #[.val (.int (Int32.ofNat i)), .val (.ref a1)] [(.int (Int32.ofNat n)), (.int (Int32.ofNat i))])) rfl (by rw [hml]; rfl) (argsL := [(.int (Int32.ofNat i)), (.int (Int32.ofNat n))]) (rest := []) (lenOf pd_1 rfl) rfl (by show 2 * 0 + _ ≤ _; exact Nat.le_of_eq rfl) (hb hby d23_5) rfl
  obtain ⟨rfl, M1002, q1002⟩ := hQ1002
  rw [q1002] at e1002
  have N1002 := Fr.app N1001 M1002
  refine Goal.step (T' := T1002) (g' := (mkF m 8 #[.val (.int (Int32.ofNat i)), .val (.ref a1)] [])) ?_ st1002
  refine Goal.retV X1002 hx hret (hb hby d23_8) ?_
  refine ⟨?_, by decide, by decide⟩
  rw [e1002]
  exact ⟨rfl, N1002, rfl⟩
theorem d17_0 : decode jdk_52_method_5_code 0 = .ok (.getstatic 44, 3) := by decide +kernel
theorem d17_3 : decode jdk_52_method_5_code 3 = .ok (.ifCond .ne 25, 3) := by decide +kernel
theorem d17_28 : decode jdk_52_method_5_code 28 = .ok (.iload_n 1, 1) := by decide +kernel
theorem d17_29 : decode jdk_52_method_5_code 29 = .ok (.iconst 1, 1) := by decide +kernel
theorem d17_30 : decode jdk_52_method_5_code 30 = .ok (.ishl, 1) := by decide +kernel
theorem d17_31 : decode jdk_52_method_5_code 31 = .ok (.istore_n 1, 1) := by decide +kernel
theorem d17_32 : decode jdk_52_method_5_code 32 = .ok (.aload_n 0, 1) := by decide +kernel
theorem d17_33 : decode jdk_52_method_5_code 33 = .ok (.iload_n 1, 1) := by decide +kernel
theorem d17_34 : decode jdk_52_method_5_code 34 = .ok (.iinc 1 1, 3) := by decide +kernel
theorem d17_37 : decode jdk_52_method_5_code 37 = .ok (.baload, 1) := by decide +kernel
theorem d17_38 : decode jdk_52_method_5_code 38 = .ok (.sipush 255, 3) := by decide +kernel
theorem d17_41 : decode jdk_52_method_5_code 41 = .ok (.iand, 1) := by decide +kernel
theorem d17_42 : decode jdk_52_method_5_code 42 = .ok (.getstatic 59, 3) := by decide +kernel
theorem d17_45 : decode jdk_52_method_5_code 45 = .ok (.ishl, 1) := by decide +kernel
theorem d17_46 : decode jdk_52_method_5_code 46 = .ok (.aload_n 0, 1) := by decide +kernel
theorem d17_47 : decode jdk_52_method_5_code 47 = .ok (.iload_n 1, 1) := by decide +kernel
theorem d17_48 : decode jdk_52_method_5_code 48 = .ok (.baload, 1) := by decide +kernel
theorem d17_49 : decode jdk_52_method_5_code 49 = .ok (.sipush 255, 3) := by decide +kernel
theorem d17_52 : decode jdk_52_method_5_code 52 = .ok (.iand, 1) := by decide +kernel
theorem d17_53 : decode jdk_52_method_5_code 53 = .ok (.getstatic 63, 3) := by decide +kernel
theorem d17_56 : decode jdk_52_method_5_code 56 = .ok (.ishl, 1) := by decide +kernel
theorem d17_57 : decode jdk_52_method_5_code 57 = .ok (.ior, 1) := by decide +kernel
theorem d17_58 : decode jdk_52_method_5_code 58 = .ok (.i2c, 1) := by decide +kernel
theorem d17_59 : decode jdk_52_method_5_code 59 = .ok (.ireturn, 1) := by decide +kernel
theorem ef_17 (m : MethodId) (x0 : Nat) (x1 : Int32) : entryFrame m #[(.ref x0), (.int x1)] 2 = mkF m 0 #[.val (.ref x0), .val (.int x1)] [] := by first | (simp [entryFrame, mkF, argsToLocals, Value.category]; done) | rfl
set_option maxRecDepth 65536 in
set_option maxHeartbeats 40000000 in
theorem rmUGC (l : Launch) (Z : State) (a0 : Array Value) (hw : ∀ d ∈ tables_1, d.before a0 Z = true) (a1 : Nat) (i : Nat) (k1 : ClassId) (n : Nat) (f : Nat → Int32) (cs : Int32) (fm : Value) (h0 : Heap) (n0 : Nat) (Z0 : n0 ≤ h0.size) (SE : SEnv Z cs fm) (O0 : Old Z n0 h0) (A1 : Arf Z h0 a1 k1 .byte (2 * n) (utf f)) (hi : i < n) (hn : n < 2 ^ 28) (hc : 0 ≤ (f i).toInt ∧ (f i).toInt ≤ 65535) :
    Met l (⟨"java/lang/StringUTF16", "getChar", "([BI)C"⟩ : MethodName) jdk_52_method_5_code 2 (some .char) [] ({ frames := 0, cells := 0, slots := 0, locals := 0 } : Room) Z #[(.ref a1), (.int (Int32.ofNat i))] h0 (fun v h L => v = some (.int (f i)) ∧ Fr n0 L ∧ h = h0) := by
  refine of_goal (plainFor_of_name (by first | (simp [plainName, overriddenIn]; done) | decide +kernel)) ?_
  intro p e s m below meth c s₁ C X0 e0
  have C0 := C
  obtain ⟨hx, hZ, hby, hml, hret, hown, hnm⟩ := C
  have hown : s.vm.findClass "java/lang/StringUTF16" = some m.cls := hown
  have hret : meth.sig.returnType = (some .char) := hret
  have N0 := Fr.nil n0
  rw [ef_17]
  have u0 : utf f (2 * i) = i2b (i2b (f i >>> ((0 : Int32) &&& 31))) := by unfold utf; rw [if_pos (by omega), show 2 * i / 2 = i by omega]
  have u1 : utf f (2 * i + 1) = i2b (i2b (f i >>> ((8 : Int32) &&& 31))) := by unfold utf; rw [if_neg (by omega), show (2 * i + 1) / 2 = i by omega]
  have hval : nar .char (i2c ((((utf f) (2 * i) &&& (255 : Int32)) <<< ((0 : Int32) &&& 31)) ||| (((utf f) (2 * i + 1) &&& (255 : Int32)) <<< ((8 : Int32) &&& 31)))) = f i := by rw [u0, u1]; show i2c (i2c _) = _; rw [own_pack _ hc.1 hc.2]; exact own_i2c _ hc.1 hc.2
  have S1001 : Sta Z h0 "java/lang/StringUTF16" "$assertionsDisabled" "Z" (.int (1 : Int32)) := Sta.ext O0.2 SE.2.2.1
  obtain ⟨T1002, X1002, e1002, st1002⟩ := getS2 X0 hx hZ hown (host := "") (Or.inl (hw _ (List.mem_of_getElem? (i := 75) rfl))) Via.refl e0 S1001 (g := (mkF m 0 #[.val (.ref a1), .val (.int (Int32.ofNat i))] [])) rfl (hb hby d17_0)
  refine Goal.step (T' := T1002) (g' := (mkF m 3 #[.val (.ref a1), .val (.int (Int32.ofNat i))] [(.int (1 : Int32))])) ?_ st1002
  refine Goal.step (T' := T1002) (g' := (mkF m 28 #[.val (.ref a1), .val (.int (Int32.ofNat i))] [])) ?_ (fun t k => XS.ifYes X1002.here hx rfl (pc0 := 3) (pc' := 28) rfl (hb hby d17_3) rfl ((if0 _ _).trans (feq (by decide)).2) (by decide) (by decide) k)
  refine Goal.step (T' := T1002) (g' := (mkF m 29 #[.val (.ref a1), .val (.int (Int32.ofNat i))] [(.int (Int32.ofNat i))])) ?_ (fun t k => XS.iloadN X1002.here hx rfl (hb hby d17_28) rfl k)
  refine Goal.step (T' := T1002) (g' := (mkF m 30 #[.val (.ref a1), .val (.int (Int32.ofNat i))] [(.int (1 : Int32)), (.int (Int32.ofNat i))])) ?_ (fun t k => XS.iconst X1002.here hx rfl (hb hby d17_29) k)
  refine Goal.step (T' := T1002) (g' := (mkF m 31 #[.val (.ref a1), .val (.int (Int32.ofNat i))] [(.int ((Int32.ofNat i) <<< ((1 : Int32) &&& 31)))])) ?_ (fun t k => XS.ishl X1002.here hx rfl (hb hby d17_30) rfl k)
  rw [own_shl1 (show i < 2 ^ 28 by omega)]
  refine Goal.step (T' := T1002) (g' := (mkF m 32 #[.val (.ref a1), .val (.int (Int32.ofNat (2 * i)))] [])) ?_ (fun t k => XS.istoreN X1002.here hx rfl (hb hby d17_31) rfl (l' := #[.val (.ref a1), .val (.int (Int32.ofNat (2 * i)))]) rfl k)
  refine Goal.step (T' := T1002) (g' := (mkF m 33 #[.val (.ref a1), .val (.int (Int32.ofNat (2 * i)))] [(.ref a1)])) ?_ (fun t k => XS.aloadN X1002.here hx rfl (hb hby d17_32) rfl rfl k)
  refine Goal.step (T' := T1002) (g' := (mkF m 34 #[.val (.ref a1), .val (.int (Int32.ofNat (2 * i)))] [(.int (Int32.ofNat (2 * i))), (.ref a1)])) ?_ (fun t k => XS.iloadN X1002.here hx rfl (hb hby d17_33) rfl k)
  refine Goal.step (T' := T1002) (g' := (mkF m 37 #[.val (.ref a1), .val (.int ((Int32.ofNat (2 * i)) + (1 : Int32)))] [(.int (Int32.ofNat (2 * i))), (.ref a1)])) ?_ (fun t k => XS.iinc X1002.here hx rfl (hb hby d17_34) rfl (l' := #[.val (.ref a1), .val (.int ((Int32.ofNat (2 * i)) + (1 : Int32)))]) rfl k)
  rw [nat_one]
  obtain ⟨cl1003, Ar1003, q1003, S1003, H1003⟩ := (id A1)
  have hlt1003 : (2 * i) < (2 * n) := by omega
  have hn1003 : (2 * n) < 2 ^ 31 := by omega
  have hin1003 : ¬ ((Int32.ofNat (2 * i)) < 0 ∨ cl1003.slots.size ≤ ((Int32.ofNat (2 * i))).toNatClampNeg) := nat_inb S1003 hlt1003 hn1003
  have hat1003 : cl1003.slots[((Int32.ofNat (2 * i))).toNatClampNeg]? = some (.int (((utf f)) (2 * i))) := by rw [nat_clamp (show (2 * i) < 2 ^ 31 by omega)]; exact H1003 _ hlt1003
  refine Goal.step (T' := T1002) (g' := (mkF m 38 #[.val (.ref a1), .val (.int (Int32.ofNat (2 * i + 1)))] [(.int (((utf f)) (2 * i)))])) ?_ (fun t k => X1002.baloadBytes hx (j := (Int32.ofNat (2 * i))) (v := (.int (((utf f)) (2 * i)))) (by rw [e1002]; exact Ar1003.1) (State.isArrayOf_alike hZ.alike Ar1003.2.1) Ar1003.2.2 hin1003 hat1003 (g := (mkF m 37 #[.val (.ref a1), .val (.int (Int32.ofNat (2 * i + 1)))] [(.int (Int32.ofNat (2 * i))), (.ref a1)])) rfl rfl (hb hby d17_37) _ k)
  refine Goal.step (T' := T1002) (g' := (mkF m 41 #[.val (.ref a1), .val (.int (Int32.ofNat (2 * i + 1)))] [(.int (255 : Int32)), (.int (((utf f)) (2 * i)))])) ?_ (fun t k => XS.sipush X1002.here hx rfl (hb hby d17_38) k)
  refine Goal.step (T' := T1002) (g' := (mkF m 42 #[.val (.ref a1), .val (.int (Int32.ofNat (2 * i + 1)))] [(.int ((((utf f)) (2 * i)) &&& (255 : Int32)))])) ?_ (fun t k => XS.iand X1002.here hx rfl (hb hby d17_41) rfl k)
  have S1004 : Sta Z h0 "java/lang/StringUTF16" "HI_BYTE_SHIFT" "I" (.int (0 : Int32)) := Sta.ext O0.2 SE.2.2.2.1
  obtain ⟨T1005, X1005, e1005, st1005⟩ := getS2 X1002 hx hZ hown (host := "") (Or.inl (hw _ (List.mem_of_getElem? (i := 76) rfl))) Via.refl e1002 S1004 (g := (mkF m 42 #[.val (.ref a1), .val (.int (Int32.ofNat (2 * i + 1)))] [(.int ((((utf f)) (2 * i)) &&& (255 : Int32)))])) rfl (hb hby d17_42)
  refine Goal.step (T' := T1005) (g' := (mkF m 45 #[.val (.ref a1), .val (.int (Int32.ofNat (2 * i + 1)))] [(.int (0 : Int32)), (.int ((((utf f)) (2 * i)) &&& (255 : Int32)))])) ?_ st1005
  refine Goal.step (T' := T1005) (g' := (mkF m 46 #[.val (.ref a1), .val (.int (Int32.ofNat (2 * i + 1)))] [(.int (((((utf f)) (2 * i)) &&& (255 : Int32)) <<< ((0 : Int32) &&& 31)))])) ?_ (fun t k => XS.ishl X1005.here hx rfl (hb hby d17_45) rfl k)
  refine Goal.step (T' := T1005) (g' := (mkF m 47 #[.val (.ref a1), .val (.int (Int32.ofNat (2 * i + 1)))] [(.ref a1), (.int (((((utf f)) (2 * i)) &&& (255 : Int32)) <<< ((0 : Int32) &&& 31)))])) ?_ (fun t k => XS.aloadN X1005.here hx rfl (hb hby d17_46) rfl rfl k)
  refine Goal.step (T' := T1005) (g' := (mkF m 48 #[.val (.ref a1), .val (.int (Int32.ofNat (2 * i + 1)))] [(.int (Int32.ofNat (2 * i + 1))), (.ref a1), (.int (((((utf f)) (2 * i)) &&& (255 : Int32)) <<< ((0 : Int32) &&& 31)))])) ?_ (fun t k => XS.iloadN X1005.here hx rfl (hb hby d17_47) rfl k)
  obtain ⟨cl1006, Ar1006, q1006, S1006, H1006⟩ := (id A1)
  have hlt1006 : (2 * i + 1) < (2 * n) := by omega
  have hn1006 : (2 * n) < 2 ^ 31 := by omega
  have hin1006 : ¬ ((Int32.ofNat (2 * i + 1)) < 0 ∨ cl1006.slots.size ≤ ((Int32.ofNat (2 * i + 1))).toNatClampNeg) := nat_inb S1006 hlt1006 hn1006
  have hat1006 : cl1006.slots[((Int32.ofNat (2 * i + 1))).toNatClampNeg]? = some (.int (((utf f)) (2 * i + 1))) := by rw [nat_clamp (show (2 * i + 1) < 2 ^ 31 by omega)]; exact H1006 _ hlt1006
  refine Goal.step (T' := T1005) (g' := (mkF m 49 #[.val (.ref a1), .val (.int (Int32.ofNat (2 * i + 1)))] [(.int (((utf f)) (2 * i + 1))), (.int (((((utf f)) (2 * i)) &&& (255 : Int32)) <<< ((0 : Int32) &&& 31)))])) ?_ (fun t k => X1005.baloadBytes hx (j := (Int32.ofNat (2 * i + 1))) (v := (.int (((utf f)) (2 * i + 1)))) (by rw [e1005]; exact Ar1006.1) (State.isArrayOf_alike hZ.alike Ar1006.2.1) Ar1006.2.2 hin1006 hat1006 (g := (mkF m 48 #[.val (.ref a1), .val (.int (Int32.ofNat (2 * i + 1)))] [(.int (Int32.ofNat (2 * i + 1))), (.ref a1), (.int (((((utf f)) (2 * i)) &&& (255 : Int32)) <<< ((0 : Int32) &&& 31)))])) rfl rfl (hb hby d17_48) _ k)
  refine Goal.step (T' := T1005) (g' := (mkF m 52 #[.val (.ref a1), .val (.int (Int32.ofNat (2 * i + 1)))] [(.int (255 : Int32)), (.int (((utf f)) (2 * i + 1))), (.int (((((utf f)) (2 * i)) &&& (255 : Int32)) <<< ((0 : Int32) &&& 31)))])) ?_ (fun t k => XS.sipush X1005.here hx rfl (hb hby d17_49) k)
  refine Goal.step (T' := T1005) (g' := (mkF m 53 #[.val (.ref a1), .val (.int (Int32.ofNat (2 * i + 1)))] [(.int ((((utf f)) (2 * i + 1)) &&& (255 : Int32))), (.int (((((utf f)) (2 * i)) &&& (255 : Int32)) <<< ((0 : Int32) &&& 31)))])) ?_ (fun t k => XS.iand X1005.here hx rfl (hb hby d17_52) rfl k)
  have S1007 : Sta Z h0 "java/lang/StringUTF16" "LO_BYTE_SHIFT" "I" (.int (8 : Int32)) := Sta.ext O0.2 SE.2.2.2.2.1
  obtain ⟨T1008, X1008, e1008, st1008⟩ := getS2 X1005 hx hZ hown (host := "") (Or.inl (hw _ (List.mem_of_getElem? (i := 77) rfl))) Via.refl e1005 S1007 (g := (mkF m 53 #[.val (.ref a1), .val (.int (Int32.ofNat (2 * i + 1)))] [(.int ((((utf f)) (2 * i + 1)) &&& (255 : Int32))), (.int (((((utf f)) (2 * i)) &&& (255 : Int32)) <<< ((0 : Int32) &&& 31)))])) rfl (hb hby d17_53)
  refine Goal.step (T' := T1008) (g' := (mkF m 56 #[.val (.ref a1), .val (.int (Int32.ofNat (2 * i + 1)))] [(.int (8 : Int32)), (.int ((((utf f)) (2 * i + 1)) &&& (255 : Int32))), (.int (((((utf f)) (2 * i)) &&& (255 : Int32)) <<< ((0 : Int32) &&& 31)))])) ?_ st1008
  refine Goal.step (T' := T1008) (g' := (mkF m 57 #[.val (.ref a1), .val (.int (Int32.ofNat (2 * i + 1)))] [(.int (((((utf f)) (2 * i + 1)) &&& (255 : Int32)) <<< ((8 : Int32) &&& 31))), (.int (((((utf f)) (2 * i)) &&& (255 : Int32)) <<< ((0 : Int32) &&& 31)))])) ?_ (fun t k => XS.ishl X1008.here hx rfl (hb hby d17_56) rfl k)
  refine Goal.step (T' := T1008) (g' := (mkF m 58 #[.val (.ref a1), .val (.int (Int32.ofNat (2 * i + 1)))] [(.int ((((((utf f)) (2 * i)) &&& (255 : Int32)) <<< ((0 : Int32) &&& 31)) ||| (((((utf f)) (2 * i + 1)) &&& (255 : Int32)) <<< ((8 : Int32) &&& 31))))])) ?_ (fun t k => XS.ior X1008.here hx rfl (hb hby d17_57) rfl k)
  refine Goal.step (T' := T1008) (g' := (mkF m 59 #[.val (.ref a1), .val (.int (Int32.ofNat (2 * i + 1)))] [(.int (((((((utf f)) (2 * i)) &&& (255 : Int32)) <<< ((0 : Int32) &&& 31)) ||| (((((utf f)) (2 * i + 1)) &&& (255 : Int32)) <<< ((8 : Int32) &&& 31))).toUInt32.toUInt16.toUInt32.toInt32))])) ?_ (fun t k => XS.i2c X1008.here hx rfl (hb hby d17_58) rfl k)
  refine Goal.retN (t := .char) X1008 hx hret (by simp) (hb hby d17_59) ?_
  refine ⟨?_, by decide, by decide⟩
  rw [e1008]
  exact ⟨congrArg (fun z => some (Value.int z)) hval, N0, rfl⟩
theorem d22_0 : decode jdk_52_method_83_code 0 = .ok (.iload_n 1, 1) := by decide +kernel
theorem d22_1 : decode jdk_52_method_83_code 1 = .ok (.aload_n 0, 1) := by decide +kernel
theorem d22_2 : decode jdk_52_method_83_code 2 = .ok (.invokestatic 67, 3) := by decide +kernel
theorem pd_3 : parseMethodDescriptor "(I[B)V" = some ⟨[.int, (.array .byte)], none⟩ := by decide +kernel
theorem d22_5 : decode jdk_52_method_83_code 5 = .ok (.aload_n 0, 1) := by decide +kernel
theorem d22_6 : decode jdk_52_method_83_code 6 = .ok (.iload_n 1, 1) := by decide +kernel
theorem d22_7 : decode jdk_52_method_83_code 7 = .ok (.invokestatic 71, 3) := by decide +kernel
theorem pd_4 : parseMethodDescriptor "([BI)C" = some ⟨[(.array .byte), .int], some .char⟩ := by decide +kernel
theorem d22_10 : decode jdk_52_method_83_code 10 = .ok (.ireturn, 1) := by decide +kernel
theorem ef_22 (m : MethodId) (x0 : Nat) (x1 : Int32) : entryFrame m #[(.ref x0), (.int x1)] 2 = mkF m 0 #[.val (.ref x0), .val (.int x1)] [] := by first | (simp [entryFrame, mkF, argsToLocals, Value.category]; done) | rfl
set_option maxRecDepth 65536 in
set_option maxHeartbeats 40000000 in
theorem rmUCA (l : Launch) (Z : State) (a0 : Array Value) (hw : ∀ d ∈ tables_1, d.before a0 Z = true) (a1 : Nat) (i : Nat) (k1 : ClassId) (n : Nat) (f : Nat → Int32) (cs : Int32) (fm : Value) (h0 : Heap) (n0 : Nat) (Z0 : n0 ≤ h0.size) (SE : SEnv Z cs fm) (O0 : Old Z n0 h0) (A1 : Arf Z h0 a1 k1 .byte (2 * n) (utf f)) (hi : i < n) (hn : n < 2 ^ 28) (hc : 0 ≤ (f i).toInt ∧ (f i).toInt ≤ 65535) :
    Met l (⟨"java/lang/StringUTF16", "charAt", "([BI)C"⟩ : MethodName) jdk_52_method_83_code 2 (some .char) [] ({ frames := 3, cells := 0, slots := 0, locals := 48 } : Room) Z #[(.ref a1), (.int (Int32.ofNat i))] h0 (fun v h L => v = some (.int (f i)) ∧ Fr n0 L ∧ h = h0) := by
  refine of_goal (plainFor_of_name (by first | (simp [plainName, overriddenIn]; done) | decide +kernel)) ?_
  intro p e s m below meth c s₁ C X0 e0
  have C0 := C
  obtain ⟨hx, hZ, hby, hml, hret, hown, hnm⟩ := C
  have hown : s.vm.findClass "java/lang/StringUTF16" = some m.cls := hown
  have hret : meth.sig.returnType = (some .char) := hret
  have N0 := Fr.nil n0
  rw [ef_22]
  refine Goal.step (T' := s₁) (g' := (mkF m 1 #[.val (.ref a1), .val (.int (Int32.ofNat i))] [(.int (Int32.ofNat i))])) ?_ (fun t k => XS.iloadN X0.here hx rfl (hb hby d22_0) rfl k)
  refine Goal.step (T' := s₁) (g' := (mkF m 2 #[.val (.ref a1), .val (.int (Int32.ofNat i))] [(.ref a1), (.int (Int32.ofNat i))])) ?_ (fun t k => XS.aloadN X0.here hx rfl (hb hby d22_1) rfl rfl k)
  obtain ⟨v1001, T1001, h1001, L1001, X1001, e1001, hQ1001, st1001⟩ := callStatic X0 hx hZ hown (hw _ (List.mem_of_getElem? (i := 100) rfl)) (hw _ (List.mem_of_getElem? (i := 101) rfl)) (hw _ (List.mem_of_getElem? (i := 57) rfl)) (hw _ (List.mem_of_getElem? (i := 102) rfl)) (by decide) (rmUCI l Z a0 hw i a1 k1 n (utf f) cs fm h0 n0 (by omega) SE O0 A1 hi hn) e0 (W := 0) (by decide) (by decide) (by decide) (by decide) (g := (mkF m 2 #[.val (.ref a1), .val (.int (Int32.ofNat i))] [(.ref a1), (.int (Int32.ofNat i))])) rfl (by rw [hml]; rfl) (argsL := [(.int (Int32.ofNat i)), (.ref a1)]) (rest := []) (lenOf pd_3 rfl) rfl (by show 2 * 0 + _ ≤ _; exact Nat.le_of_eq rfl) (hb hby d22_2) rfl
  obtain ⟨rfl, M1001, q1001⟩ := hQ1001
  rw [q1001] at e1001
  have N1001 := Fr.app N0 M1001
  refine Goal.step (T' := T1001) (g' := (mkF m 5 #[.val (.ref a1), .val (.int (Int32.ofNat i))] [])) ?_ st1001
  refine Goal.step (T' := T1001) (g' := (mkF m 6 #[.val (.ref a1), .val (.int (Int32.ofNat i))] [(.ref a1)])) ?_ (fun t k => XS.aloadN X1001.here hx rfl (hb hby d22_5) rfl rfl k)
  refine Goal.step (T' := T1001) (g' := (mkF m 7 #[.val (.ref a1), .val (.int (Int32.ofNat i))] [(.int (Int32.ofNat i)), (.ref a1)])) ?_ (fun t k => XS.iloadN X1001.here hx rfl (hb hby d22_6) rfl k)
  obtain ⟨v1002, T1002, h1002, L1002, X1002, e1002, hQ1002, st1002⟩ := callStatic X1001 hx hZ hown (hw _ (List.mem_of_getElem? (i := 78) rfl)) (hw _ (List.mem_of_getElem? (i := 79) rfl)) (hw _ (List.mem_of_getElem? (i := 57) rfl)) (hw _ (List.mem_of_getElem? (i := 80) rfl)) (by decide) (rmUGC l Z a0 hw a1 i k1 n f cs fm h0 n0 (by omega) SE O0 A1 hi hn hc) e1001 (W := 0) (by decide) (by decide) (by decide) (by decide) (g := (mkF m 7 #[.val (.ref a1), .val (.int (Int32.ofNat i))] [(.int (Int32.ofNat i)), (.ref a1)])) rfl (by rw [hml]; rfl) (argsL := [(.ref a1), (.int (Int32.ofNat i))]) (rest := []) (lenOf pd_4 rfl) rfl (by show 2 * 0 + _ ≤ _; exact Nat.le_of_eq rfl) (hb hby d22_7) rfl
  obtain ⟨rfl, M1002, q1002⟩ := hQ1002
  rw [q1002] at e1002
  have N1002 := Fr.app N1001 M1002
  refine Goal.step (T' := T1002) (g' := (mkF m 10 #[.val (.ref a1), .val (.int (Int32.ofNat i))] [(.int (f i))])) ?_ st1002
  refine Goal.retN (t := .char) X1002 hx hret (by simp) (hb hby d22_10) ?_
  refine ⟨?_, by decide, by decide⟩
  rw [e1002]
  exact ⟨congrArg (fun z => some (Value.int z)) (own_i2c _ hc.1 hc.2), N1002, rfl⟩
theorem d10_0 : decode jdk_42_method_152_code 0 = .ok (.getstatic 38, 3) := by decide +kernel
theorem d10_3 : decode jdk_42_method_152_code 3 = .ok (.ifCond .eq 10, 3) := by decide +kernel
theorem d10_6 : decode jdk_42_method_152_code 6 = .ok (.aload_n 0, 1) := by decide +kernel
theorem d10_7 : decode jdk_42_method_152_code 7 = .ok (.getfield 15, 3) := by decide +kernel
theorem d10_10 : decode jdk_42_method_152_code 10 = .ok (.goto 4, 3) := by decide +kernel
theorem d10_14 : decode jdk_42_method_152_code 14 = .ok (.ireturn, 1) := by decide +kernel
theorem ef_10 (m : MethodId) (x0 : Nat) : entryFrame m #[(.ref x0)] 1 = mkF m 0 #[.val (.ref x0)] [] := by first | (simp [entryFrame, mkF, argsToLocals, Value.category]; done) | rfl
set_option maxRecDepth 65536 in
set_option maxHeartbeats 40000000 in
theorem rmCOD (l : Launch) (Z : State) (a0 : Array Value) (hw : ∀ d ∈ tables_1, d.before a0 Z = true) (a1 : Nat) (co : Int32) (cs : Int32) (fm : Value) (h0 : Heap) (n0 : Nat) (Z0 : n0 ≤ h0.size) (SE : SEnv Z cs fm) (O0 : Old Z n0 h0) (F1 : Fld Z h0 a1 "java/lang/String" "coder" "B" (.int co)) (hco : co = 0 ∨ co = 1) :
    Met l (⟨"java/lang/String", "coder", "()B"⟩ : MethodName) jdk_42_method_152_code 1 (some .byte) [] ({ frames := 0, cells := 0, slots := 0, locals := 0 } : Room) Z #[(.ref a1)] h0 (fun v h L => v = some (.int co) ∧ Fr n0 L ∧ h = h0) := by
  refine of_goal (plainFor_of_name (by first | (simp [plainName, overriddenIn]; done) | decide +kernel)) ?_
  intro p e s m below meth c s₁ C X0 e0
  have C0 := C
  obtain ⟨hx, hZ, hby, hml, hret, hown, hnm⟩ := C
  have hown : s.vm.findClass "java/lang/String" = some m.cls := hown
  have hret : meth.sig.returnType = (some .byte) := hret
  have N0 := Fr.nil n0
  rw [ef_10]
  have S1001 : Sta Z h0 "java/lang/String" "COMPACT_STRINGS" "Z" (.int cs) := Sta.ext O0.2 SE.1
  obtain ⟨T1002, X1002, e1002, st1002⟩ := getS2 X0 hx hZ hown (host := "") (Or.inl (hw _ (List.mem_of_getElem? (i := 54) rfl))) Via.refl e0 S1001 (g := (mkF m 0 #[.val (.ref a1)] [])) rfl (hb hby d10_0)
  refine Goal.step (T' := T1002) (g' := (mkF m 3 #[.val (.ref a1)] [(.int cs)])) ?_ st1002
  refine Goal.step (T' := T1002) (g' := (mkF m 6 #[.val (.ref a1)] [])) ?_ (fun t k => XS.ifNo X1002.here hx rfl (hb hby d10_3) rfl ((if0 _ _).trans (feq SE.2.1).1) k)
  refine Goal.step (T' := T1002) (g' := (mkF m 7 #[.val (.ref a1)] [(.ref a1)])) ?_ (fun t k => XS.aloadN X1002.here hx rfl (hb hby d10_6) rfl rfl k)
  obtain ⟨T1003, X1003, e1003, st1003⟩ := getF X1002 hx hZ hown (host := "") (Or.inl (hw _ (List.mem_of_getElem? (i := 33) rfl))) Via.refl e1002 F1 (g := (mkF m 7 #[.val (.ref a1)] [(.ref a1)])) rfl rfl (hb hby d10_7)
  refine Goal.step (T' := T1003) (g' := (mkF m 10 #[.val (.ref a1)] [(.int co)])) ?_ st1003
  refine Goal.step (T' := T1003) (g' := (mkF m 14 #[.val (.ref a1)] [(.int co)])) ?_ (fun t k => XS.goto X1003.here hx rfl (pc0 := 10) (pc' := 14) rfl (hb hby d10_10) (by decide) (by decide) k)
  refine Goal.retN (t := .byte) X1003 hx hret (by simp) (hb hby d10_14) ?_
  refine ⟨?_, by decide, by decide⟩
  rw [e1003]
  exact ⟨congrArg (fun z => some (Value.int z)) (by rcases hco with rfl | rfl <;> decide), N0, rfl⟩
theorem d21_0 : decode jdk_42_method_154_code 0 = .ok (.getstatic 38, 3) := by decide +kernel
theorem d21_3 : decode jdk_42_method_154_code 3 = .ok (.ifCond .eq 14, 3) := by decide +kernel
theorem d21_6 : decode jdk_42_method_154_code 6 = .ok (.aload_n 0, 1) := by decide +kernel
theorem d21_7 : decode jdk_42_method_154_code 7 = .ok (.getfield 15, 3) := by decide +kernel
theorem d21_10 : decode jdk_42_method_154_code 10 = .ok (.ifCond .ne 7, 3) := by decide +kernel
theorem d21_13 : decode jdk_42_method_154_code 13 = .ok (.iconst 1, 1) := by decide +kernel
theorem d21_14 : decode jdk_42_method_154_code 14 = .ok (.goto 4, 3) := by decide +kernel
theorem d21_18 : decode jdk_42_method_154_code 18 = .ok (.ireturn, 1) := by decide +kernel
theorem ef_21 (m : MethodId) (x0 : Nat) : entryFrame m #[(.ref x0)] 1 = mkF m 0 #[.val (.ref x0)] [] := by first | (simp [entryFrame, mkF, argsToLocals, Value.category]; done) | rfl
set_option maxRecDepth 65536 in
set_option maxHeartbeats 40000000 in
theorem rmISL1 (l : Launch) (Z : State) (a0 : Array Value) (hw : ∀ d ∈ tables_1, d.before a0 Z = true) (a1 : Nat) (co : Int32) (cs : Int32) (fm : Value) (h0 : Heap) (n0 : Nat) (Z0 : n0 ≤ h0.size) (SE : SEnv Z cs fm) (O0 : Old Z n0 h0) (F1 : Fld Z h0 a1 "java/lang/String" "coder" "B" (.int co)) (hco : co = 0) :
    Met l (⟨"java/lang/String", "isLatin1", "()Z"⟩ : MethodName) jdk_42_method_154_code 1 (some .boolean) [] ({ frames := 0, cells := 0, slots := 0, locals := 0 } : Room) Z #[(.ref a1)] h0 (fun v h L => v = some (.int (1 : Int32)) ∧ Fr n0 L ∧ h = h0) := by
  refine of_goal (plainFor_of_name (by first | (simp [plainName, overriddenIn]; done) | decide +kernel)) ?_
  intro p e s m below meth c s₁ C X0 e0
  have C0 := C
  obtain ⟨hx, hZ, hby, hml, hret, hown, hnm⟩ := C
  have hown : s.vm.findClass "java/lang/String" = some m.cls := hown
  have hret : meth.sig.returnType = (some .boolean) := hret
  have N0 := Fr.nil n0
  rw [ef_21]
  have S1001 : Sta Z h0 "java/lang/String" "COMPACT_STRINGS" "Z" (.int cs) := Sta.ext O0.2 SE.1
  obtain ⟨T1002, X1002, e1002, st1002⟩ := getS2 X0 hx hZ hown (host := "") (Or.inl (hw _ (List.mem_of_getElem? (i := 54) rfl))) Via.refl e0 S1001 (g := (mkF m 0 #[.val (.ref a1)] [])) rfl (hb hby d21_0)
  refine Goal.step (T' := T1002) (g' := (mkF m 3 #[.val (.ref a1)] [(.int cs)])) ?_ st1002
  refine Goal.step (T' := T1002) (g' := (mkF m 6 #[.val (.ref a1)] [])) ?_ (fun t k => XS.ifNo X1002.here hx rfl (hb hby d21_3) rfl ((if0 _ _).trans (feq SE.2.1).1) k)
  refine Goal.step (T' := T1002) (g' := (mkF m 7 #[.val (.ref a1)] [(.ref a1)])) ?_ (fun t k => XS.aloadN X1002.here hx rfl (hb hby d21_6) rfl rfl k)
  obtain ⟨T1003, X1003, e1003, st1003⟩ := getF X1002 hx hZ hown (host := "") (Or.inl (hw _ (List.mem_of_getElem? (i := 33) rfl))) Via.refl e1002 F1 (g := (mkF m 7 #[.val (.ref a1)] [(.ref a1)])) rfl rfl (hb hby d21_7)
  refine Goal.step (T' := T1003) (g' := (mkF m 10 #[.val (.ref a1)] [(.int co)])) ?_ st1003
  refine Goal.step (T' := T1003) (g' := (mkF m 13 #[.val (.ref a1)] [])) ?_ (fun t k => XS.ifNo X1003.here hx rfl (hb hby d21_10) rfl ((if0 _ _).trans (teq hco).2) k)
  refine Goal.step (T' := T1003) (g' := (mkF m 14 #[.val (.ref a1)] [(.int (1 : Int32))])) ?_ (fun t k => XS.iconst X1003.here hx rfl (hb hby d21_13) k)
  refine Goal.step (T' := T1003) (g' := (mkF m 18 #[.val (.ref a1)] [(.int (1 : Int32))])) ?_ (fun t k => XS.goto X1003.here hx rfl (pc0 := 14) (pc' := 18) rfl (hb hby d21_14) (by decide) (by decide) k)
  refine Goal.retN (t := .boolean) X1003 hx hret (by simp) (hb hby d21_18) ?_
  refine ⟨?_, by decide, by decide⟩
  rw [e1003]
  exact ⟨rfl, N0, rfl⟩
theorem d21_17 : decode jdk_42_method_154_code 17 = .ok (.iconst 0, 1) := by decide +kernel
set_option maxRecDepth 65536 in
set_option maxHeartbeats 40000000 in
theorem rmISL0 (l : Launch) (Z : State) (a0 : Array Value) (hw : ∀ d ∈ tables_1, d.before a0 Z = true) (a1 : Nat) (co : Int32) (cs : Int32) (fm : Value) (h0 : Heap) (n0 : Nat) (Z0 : n0 ≤ h0.size) (SE : SEnv Z cs fm) (O0 : Old Z n0 h0) (F1 : Fld Z h0 a1 "java/lang/String" "coder" "B" (.int co)) (hco : ¬ co = 0) :
    Met l (⟨"java/lang/String", "isLatin1", "()Z"⟩ : MethodName) jdk_42_method_154_code 1 (some .boolean) [] ({ frames := 0, cells := 0, slots := 0, locals := 0 } : Room) Z #[(.ref a1)] h0 (fun v h L => v = some (.int (0 : Int32)) ∧ Fr n0 L ∧ h = h0) := by
  refine of_goal (plainFor_of_name (by first | (simp [plainName, overriddenIn]; done) | decide +kernel)) ?_
  intro p e s m below meth c s₁ C X0 e0
  have C0 := C
  obtain ⟨hx, hZ, hby, hml, hret, hown, hnm⟩ := C
  have hown : s.vm.findClass "java/lang/String" = some m.cls := hown
  have hret : meth.sig.returnType = (some .boolean) := hret
  have N0 := Fr.nil n0
  rw [ef_21]
  have S1001 : Sta Z h0 "java/lang/String" "COMPACT_STRINGS" "Z" (.int cs) := Sta.ext O0.2 SE.1
  obtain ⟨T1002, X1002, e1002, st1002⟩ := getS2 X0 hx hZ hown (host := "") (Or.inl (hw _ (List.mem_of_getElem? (i := 54) rfl))) Via.refl e0 S1001 (g := (mkF m 0 #[.val (.ref a1)] [])) rfl (hb hby d21_0)
  refine Goal.step (T' := T1002) (g' := (mkF m 3 #[.val (.ref a1)] [(.int cs)])) ?_ st1002
  refine Goal.step (T' := T1002) (g' := (mkF m 6 #[.val (.ref a1)] [])) ?_ (fun t k => XS.ifNo X1002.here hx rfl (hb hby d21_3) rfl ((if0 _ _).trans (feq SE.2.1).1) k)
  refine Goal.step (T' := T1002) (g' := (mkF m 7 #[.val (.ref a1)] [(.ref a1)])) ?_ (fun t k => XS.aloadN X1002.here hx rfl (hb hby d21_6) rfl rfl k)
  obtain ⟨T1003, X1003, e1003, st1003⟩ := getF X1002 hx hZ hown (host := "") (Or.inl (hw _ (List.mem_of_getElem? (i := 33) rfl))) Via.refl e1002 F1 (g := (mkF m 7 #[.val (.ref a1)] [(.ref a1)])) rfl rfl (hb hby d21_7)
  refine Goal.step (T' := T1003) (g' := (mkF m 10 #[.val (.ref a1)] [(.int co)])) ?_ st1003
  refine Goal.step (T' := T1003) (g' := (mkF m 17 #[.val (.ref a1)] [])) ?_ (fun t k => XS.ifYes X1003.here hx rfl (pc0 := 10) (pc' := 17) rfl (hb hby d21_10) rfl ((if0 _ _).trans (feq hco).2) (by decide) (by decide) k)
  refine Goal.step (T' := T1003) (g' := (mkF m 18 #[.val (.ref a1)] [(.int (0 : Int32))])) ?_ (fun t k => XS.iconst X1003.here hx rfl (hb hby d21_17) k)
  refine Goal.retN (t := .boolean) X1003 hx hret (by simp) (hb hby d21_18) ?_
  refine ⟨?_, by decide, by decide⟩
  rw [e1003]
  exact ⟨rfl, N0, rfl⟩
theorem d9_0 : decode jdk_42_method_54_code 0 = .ok (.aload_n 0, 1) := by decide +kernel
theorem d9_1 : decode jdk_42_method_54_code 1 = .ok (.getfield 9, 3) := by decide +kernel
theorem d9_4 : decode jdk_42_method_54_code 4 = .ok (.arraylength, 1) := by decide +kernel
theorem d9_5 : decode jdk_42_method_54_code 5 = .ok (.aload_n 0, 1) := by decide +kernel
theorem d9_6 : decode jdk_42_method_54_code 6 = .ok (.invokevirtual 335, 3) := by decide +kernel
theorem pd_5 : parseMethodDescriptor "()B" = some ⟨[], some .byte⟩ := by decide +kernel
theorem d9_9 : decode jdk_42_method_54_code 9 = .ok (.ishr, 1) := by decide +kernel
theorem d9_10 : decode jdk_42_method_54_code 10 = .ok (.ireturn, 1) := by decide +kernel
theorem ef_9 (m : MethodId) (x0 : Nat) : entryFrame m #[(.ref x0)] 1 = mkF m 0 #[.val (.ref x0)] [] := by first | (simp [entryFrame, mkF, argsToLocals, Value.category]; done) | rfl
set_option maxRecDepth 65536 in
set_option maxHeartbeats 40000000 in
theorem rmLEN (l : Launch) (Z : State) (a0 : Array Value) (hw : ∀ d ∈ tables_1, d.before a0 Z = true) (a1 : Nat) (n : Nat) (f : Nat → Int32) (cs : Int32) (fm : Value) (h0 : Heap) (n0 : Nat) (Z0 : n0 ≤ h0.size) (SE : SEnv Z cs fm) (O0 : Old Z n0 h0) (S1 : Str Z h0 a1 n f) :
    Met l (⟨"java/lang/String", "length", "()I"⟩ : MethodName) jdk_42_method_54_code 1 (some .int) [] ({ frames := 1, cells := 0, slots := 0, locals := 13 } : Room) Z #[(.ref a1)] h0 (fun v h L => v = some (.int (Int32.ofNat n)) ∧ Fr n0 L ∧ h = h0) := by
  refine of_goal (plainFor_of_name (by first | (simp [plainName, overriddenIn]; done) | decide +kernel)) ?_
  intro p e s m below meth c s₁ C X0 e0
  have C0 := C
  obtain ⟨hx, hZ, hby, hml, hret, hown, hnm⟩ := C
  have hown : s.vm.findClass "java/lang/String" = some m.cls := hown
  have hret : meth.sig.returnType = (some .int) := hret
  have N0 := Fr.nil n0
  rw [ef_9]
  obtain ⟨⟨hn, hc⟩, X1, b, k1, Fv, hr⟩ := S1
  rcases hr with ⟨Fc, hl, A1⟩ | ⟨Fc, A1⟩
  · refine Goal.step (T' := s₁) (g' := (mkF m 1 #[.val (.ref a1)] [(.ref a1)])) ?_ (fun t k => XS.aloadN X0.here hx rfl (hb hby d9_0) rfl rfl k)
    obtain ⟨T1001, X1001, e1001, st1001⟩ := getF X0 hx hZ hown (host := "") (Or.inl (hw _ (List.mem_of_getElem? (i := 32) rfl))) Via.refl e0 Fv (g := (mkF m 1 #[.val (.ref a1)] [(.ref a1)])) rfl rfl (hb hby d9_1)
    refine Goal.step (T' := T1001) (g' := (mkF m 4 #[.val (.ref a1)] [(.ref b)])) ?_ st1001
    obtain ⟨cl1002, Ar1002, q1002, S1002, H1002⟩ := (id A1)
    refine Goal.step (T' := T1001) (g' := (mkF m 5 #[.val (.ref a1)] [(.int (Int32.ofNat n))])) ?_ (fun t k => X1001.arraylength hx (by rw [e1001]; exact Ar1002.1) (State.isArrayOf_alike hZ.alike Ar1002.2.1) (g := (mkF m 4 #[.val (.ref a1)] [(.ref b)])) rfl rfl (hb hby d9_4) _ (by rw [S1002]; exact k))
    refine Goal.step (T' := T1001) (g' := (mkF m 6 #[.val (.ref a1)] [(.ref a1), (.int (Int32.ofNat n))])) ?_ (fun t k => XS.aloadN X1001.here hx rfl (hb hby d9_5) rfl rfl k)
    obtain ⟨v1003, T1003, h1003, L1003, X1003, e1003, hQ1003, st1003⟩ := callVirt X1001 hx hZ hown (hw _ (List.mem_of_getElem? (i := 49) rfl)) (hw _ (List.mem_of_getElem? (i := 50) rfl)) (notFace_of_selects (args := #[]) (mvT hZ (hw _ (List.mem_of_getElem? (i := 52) rfl)))) (hw _ (List.mem_of_getElem? (i := 52) rfl)) (hw _ (List.mem_of_getElem? (i := 51) rfl)) (hw _ (List.mem_of_getElem? (i := 15) rfl)) (hw _ (List.mem_of_getElem? (i := 53) rfl)) (by decide) (rmCOD l Z a0 hw a1 (0 : Int32) cs fm h0 n0 (by omega) SE O0 Fc (Or.inl rfl)) e1001 X1 (W := 1) (by decide) (by decide) (by decide) (by decide) (g := (mkF m 6 #[.val (.ref a1)] [(.ref a1), (.int (Int32.ofNat n))])) rfl (by rw [hml]; rfl) (argsL := []) (rest := [(.int (Int32.ofNat n))]) (lenOf pd_5 rfl) rfl (by show 2 * 0 + _ ≤ _; exact Nat.le_of_eq rfl) (hb hby d9_6) rfl
    obtain ⟨rfl, M1003, q1003⟩ := hQ1003
    rw [q1003] at e1003
    have N1003 := Fr.app N0 M1003
    refine Goal.step (T' := T1003) (g' := (mkF m 9 #[.val (.ref a1)] [(.int (0 : Int32)), (.int (Int32.ofNat n))])) ?_ st1003
    refine Goal.step (T' := T1003) (g' := (mkF m 10 #[.val (.ref a1)] [(.int ((Int32.ofNat n) >>> ((0 : Int32) &&& 31)))])) ?_ (fun t k => XS.ishr X1003.here hx rfl (hb hby d9_9) rfl k)
    refine Goal.retI X1003 hx hret (hb hby d9_10) ?_
    refine ⟨?_, by decide, by decide⟩
    rw [e1003]
    exact ⟨congrArg (fun z => some (Value.int z)) (own_shr0 n), N1003, rfl⟩
  · refine Goal.step (T' := s₁) (g' := (mkF m 1 #[.val (.ref a1)] [(.ref a1)])) ?_ (fun t k => XS.aloadN X0.here hx rfl (hb hby d9_0) rfl rfl k)
    obtain ⟨T1004, X1004, e1004, st1004⟩ := getF X0 hx hZ hown (host := "") (Or.inl (hw _ (List.mem_of_getElem? (i := 32) rfl))) Via.refl e0 Fv (g := (mkF m 1 #[.val (.ref a1)] [(.ref a1)])) rfl rfl (hb hby d9_1)
    refine Goal.step (T' := T1004) (g' := (mkF m 4 #[.val (.ref a1)] [(.ref b)])) ?_ st1004
    obtain ⟨cl1005, Ar1005, q1005, S1005, H1005⟩ := (id A1)
    refine Goal.step (T' := T1004) (g' := (mkF m 5 #[.val (.ref a1)] [(.int (Int32.ofNat (2 * n)))])) ?_ (fun t k => X1004.arraylength hx (by rw [e1004]; exact Ar1005.1) (State.isArrayOf_alike hZ.alike Ar1005.2.1) (g := (mkF m 4 #[.val (.ref a1)] [(.ref b)])) rfl rfl (hb hby d9_4) _ (by rw [S1005]; exact k))
    refine Goal.step (T' := T1004) (g' := (mkF m 6 #[.val (.ref a1)] [(.ref a1), (.int (Int32.ofNat (2 * n)))])) ?_ (fun t k => XS.aloadN X1004.here hx rfl (hb hby d9_5) rfl rfl k)
    obtain ⟨v1006, T1006, h1006, L1006, X1006, e1006, hQ1006, st1006⟩ := callVirt X1004 hx hZ hown (hw _ (List.mem_of_getElem? (i := 49) rfl)) (hw _ (List.mem_of_getElem? (i := 50) rfl)) (notFace_of_selects (args := #[]) (mvT hZ (hw _ (List.mem_of_getElem? (i := 52) rfl)))) (hw _ (List.mem_of_getElem? (i := 52) rfl)) (hw _ (List.mem_of_getElem? (i := 51) rfl)) (hw _ (List.mem_of_getElem? (i := 15) rfl)) (hw _ (List.mem_of_getElem? (i := 53) rfl)) (by decide) (rmCOD l Z a0 hw a1 (1 : Int32) cs fm h0 n0 (by omega) SE O0 Fc (Or.inr rfl)) e1004 X1 (W := 1) (by decide) (by decide) (by decide) (by decide) (g := (mkF m 6 #[.val (.ref a1)] [(.ref a1), (.int (Int32.ofNat (2 * n)))])) rfl (by rw [hml]; rfl) (argsL := []) (rest := [(.int (Int32.ofNat (2 * n)))]) (lenOf pd_5 rfl) rfl (by show 2 * 0 + _ ≤ _; exact Nat.le_of_eq rfl) (hb hby d9_6) rfl
    obtain ⟨rfl, M1006, q1006⟩ := hQ1006
    rw [q1006] at e1006
    have N1006 := Fr.app N0 M1006
    refine Goal.step (T' := T1006) (g' := (mkF m 9 #[.val (.ref a1)] [(.int (1 : Int32)), (.int (Int32.ofNat (2 * n)))])) ?_ st1006
    refine Goal.step (T' := T1006) (g' := (mkF m 10 #[.val (.ref a1)] [(.int ((Int32.ofNat (2 * n)) >>> ((1 : Int32) &&& 31)))])) ?_ (fun t k => XS.ishr X1006.here hx rfl (hb hby d9_9) rfl k)
    refine Goal.retI X1006 hx hret (hb hby d9_10) ?_
    refine ⟨?_, by decide, by decide⟩
    rw [e1006]
    exact ⟨congrArg (fun z => some (Value.int z)) (own_shr1 hn), N1006, rfl⟩
theorem d20_0 : decode jdk_42_method_56_code 0 = .ok (.aload_n 0, 1) := by decide +kernel
theorem d20_1 : decode jdk_42_method_56_code 1 = .ok (.invokevirtual 492, 3) := by decide +kernel
theorem pd_6 : parseMethodDescriptor "()Z" = some ⟨[], some .boolean⟩ := by decide +kernel
theorem d20_4 : decode jdk_42_method_56_code 4 = .ok (.ifCond .eq 12, 3) := by decide +kernel
theorem d20_7 : decode jdk_42_method_56_code 7 = .ok (.aload_n 0, 1) := by decide +kernel
theorem d20_8 : decode jdk_42_method_56_code 8 = .ok (.getfield 9, 3) := by decide +kernel
theorem d20_11 : decode jdk_42_method_56_code 11 = .ok (.iload_n 1, 1) := by decide +kernel
theorem d20_12 : decode jdk_42_method_56_code 12 = .ok (.invokestatic 495, 3) := by decide +kernel
theorem d20_15 : decode jdk_42_method_56_code 15 = .ok (.ireturn, 1) := by decide +kernel
theorem d20_16 : decode jdk_42_method_56_code 16 = .ok (.aload_n 0, 1) := by decide +kernel
theorem d20_17 : decode jdk_42_method_56_code 17 = .ok (.getfield 9, 3) := by decide +kernel
theorem d20_20 : decode jdk_42_method_56_code 20 = .ok (.iload_n 1, 1) := by decide +kernel
theorem d20_21 : decode jdk_42_method_56_code 21 = .ok (.invokestatic 498, 3) := by decide +kernel
theorem d20_24 : decode jdk_42_method_56_code 24 = .ok (.ireturn, 1) := by decide +kernel
theorem ef_20 (m : MethodId) (x0 : Nat) (x1 : Int32) : entryFrame m #[(.ref x0), (.int x1)] 2 = mkF m 0 #[.val (.ref x0), .val (.int x1)] [] := by first | (simp [entryFrame, mkF, argsToLocals, Value.category]; done) | rfl
set_option maxRecDepth 65536 in
set_option maxHeartbeats 40000000 in
theorem rmCHA (l : Launch) (Z : State) (a0 : Array Value) (hw : ∀ d ∈ tables_1, d.before a0 Z = true) (a1 : Nat) (i : Nat) (n : Nat) (f : Nat → Int32) (cs : Int32) (fm : Value) (h0 : Heap) (n0 : Nat) (Z0 : n0 ≤ h0.size) (SE : SEnv Z cs fm) (O0 : Old Z n0 h0) (S1 : Str Z h0 a1 n f) (hi : i < n) :
    Met l (⟨"java/lang/String", "charAt", "(I)C"⟩ : MethodName) jdk_42_method_56_code 2 (some .char) [] ({ frames := 4, cells := 0, slots := 0, locals := 62 } : Room) Z #[(.ref a1), (.int (Int32.ofNat i))] h0 (fun v h L => v = some (.int (f i)) ∧ Fr n0 L ∧ h = h0) := by
  refine of_goal (plainFor_of_name (by first | (simp [plainName, overriddenIn]; done) | decide +kernel)) ?_
  intro p e s m below meth c s₁ C X0 e0
  have C0 := C
  obtain ⟨hx, hZ, hby, hml, hret, hown, hnm⟩ := C
  have hown : s.vm.findClass "java/lang/String" = some m.cls := hown
  have hret : meth.sig.returnType = (some .char) := hret
  have N0 := Fr.nil n0
  rw [ef_20]
  obtain ⟨⟨hn, hc⟩, X1, b, k1, Fv, hr⟩ := S1
  rcases hr with ⟨Fc, hl, A1⟩ | ⟨Fc, A1⟩
  · refine Goal.step (T' := s₁) (g' := (mkF m 1 #[.val (.ref a1), .val (.int (Int32.ofNat i))] [(.ref a1)])) ?_ (fun t k => XS.aloadN X0.here hx rfl (hb hby d20_0) rfl rfl k)
    obtain ⟨v1001, T1001, h1001, L1001, X1001, e1001, hQ1001, st1001⟩ := callVirt X0 hx hZ hown (hw _ (List.mem_of_getElem? (i := 92) rfl)) (hw _ (List.mem_of_getElem? (i := 93) rfl)) (notFace_of_selects (args := #[]) (mvT hZ (hw _ (List.mem_of_getElem? (i := 95) rfl)))) (hw _ (List.mem_of_getElem? (i := 95) rfl)) (hw _ (List.mem_of_getElem? (i := 94) rfl)) (hw _ (List.mem_of_getElem? (i := 15) rfl)) (hw _ (List.mem_of_getElem? (i := 96) rfl)) (by decide) (rmISL1 l Z a0 hw a1 (0 : Int32) cs fm h0 n0 (by omega) SE O0 Fc (by decide)) e0 X1 (W := 0) (by decide) (by decide) (by decide) (by decide) (g := (mkF m 1 #[.val (.ref a1), .val (.int (Int32.ofNat i))] [(.ref a1)])) rfl (by rw [hml]; rfl) (argsL := []) (rest := []) (lenOf pd_6 rfl) rfl (by show 2 * 0 + _ ≤ _; exact Nat.le_of_eq rfl) (hb hby d20_1) rfl
    obtain ⟨rfl, M1001, q1001⟩ := hQ1001
    rw [q1001] at e1001
    have N1001 := Fr.app N0 M1001
    refine Goal.step (T' := T1001) (g' := (mkF m 4 #[.val (.ref a1), .val (.int (Int32.ofNat i))] [(.int (1 : Int32))])) ?_ st1001
    refine Goal.step (T' := T1001) (g' := (mkF m 7 #[.val (.ref a1), .val (.int (Int32.ofNat i))] [])) ?_ (fun t k => XS.ifNo X1001.here hx rfl (hb hby d20_4) rfl ((if0 _ _).trans (feq (by decide)).1) k)
    refine Goal.step (T' := T1001) (g' := (mkF m 8 #[.val (.ref a1), .val (.int (Int32.ofNat i))] [(.ref a1)])) ?_ (fun t k => XS.aloadN X1001.here hx rfl (hb hby d20_7) rfl rfl k)
    obtain ⟨T1002, X1002, e1002, st1002⟩ := getF X1001 hx hZ hown (host := "") (Or.inl (hw _ (List.mem_of_getElem? (i := 32) rfl))) Via.refl e1001 Fv (g := (mkF m 8 #[.val (.ref a1), .val (.int (Int32.ofNat i))] [(.ref a1)])) rfl rfl (hb hby d20_8)
    refine Goal.step (T' := T1002) (g' := (mkF m 11 #[.val (.ref a1), .val (.int (Int32.ofNat i))] [(.ref b)])) ?_ st1002
    refine Goal.step (T' := T1002) (g' := (mkF m 12 #[.val (.ref a1), .val (.int (Int32.ofNat i))] [(.int (Int32.ofNat i)), (.ref b)])) ?_ (fun t k => XS.iloadN X1002.here hx rfl (hb hby d20_11) rfl k)
    obtain ⟨v1003, T1003, h1003, L1003, X1003, e1003, hQ1003, st1003⟩ := callStatic X1002 hx hZ hown (hw _ (List.mem_of_getElem? (i := 117) rfl)) (hw _ (List.mem_of_getElem? (i := 118) rfl)) (hw _ (List.mem_of_getElem? (i := 119) rfl)) (hw _ (List.mem_of_getElem? (i := 120) rfl)) (by decide) (rmLCA l Z a0 hw b i k1 n f cs fm h0 n0 (by omega) SE O0 A1 hi hn ⟨(hc i hi).1, hl i hi⟩) e1002 (W := 0) (by decide) (by decide) (by decide) (by decide) (g := (mkF m 12 #[.val (.ref a1), .val (.int (Int32.ofNat i))] [(.int (Int32.ofNat i)), (.ref b)])) rfl (by rw [hml]; rfl) (argsL := [(.ref b), (.int (Int32.ofNat i))]) (rest := []) (lenOf pd_4 rfl) rfl (by show 2 * 0 + _ ≤ _; exact Nat.le_of_eq rfl) (hb hby d20_12) rfl
    obtain ⟨rfl, M1003, q1003⟩ := hQ1003
    rw [q1003] at e1003
    have N1003 := Fr.app N1001 M1003
    refine Goal.step (T' := T1003) (g' := (mkF m 15 #[.val (.ref a1), .val (.int (Int32.ofNat i))] [(.int (f i))])) ?_ st1003
    refine Goal.retN (t := .char) X1003 hx hret (by simp) (hb hby d20_15) ?_
    refine ⟨?_, by decide, by decide⟩
    rw [e1003]
    exact ⟨congrArg (fun z => some (Value.int z)) (own_i2c _ (hc i hi).1 (hc i hi).2), N1003, rfl⟩
  · refine Goal.step (T' := s₁) (g' := (mkF m 1 #[.val (.ref a1), .val (.int (Int32.ofNat i))] [(.ref a1)])) ?_ (fun t k => XS.aloadN X0.here hx rfl (hb hby d20_0) rfl rfl k)
    obtain ⟨v1004, T1004, h1004, L1004, X1004, e1004, hQ1004, st1004⟩ := callVirt X0 hx hZ hown (hw _ (List.mem_of_getElem? (i := 92) rfl)) (hw _ (List.mem_of_getElem? (i := 93) rfl)) (notFace_of_selects (args := #[]) (mvT hZ (hw _ (List.mem_of_getElem? (i := 95) rfl)))) (hw _ (List.mem_of_getElem? (i := 95) rfl)) (hw _ (List.mem_of_getElem? (i := 94) rfl)) (hw _ (List.mem_of_getElem? (i := 15) rfl)) (hw _ (List.mem_of_getElem? (i := 96) rfl)) (by decide) (rmISL0 l Z a0 hw a1 (1 : Int32) cs fm h0 n0 (by omega) SE O0 Fc (by decide)) e0 X1 (W := 0) (by decide) (by decide) (by decide) (by decide) (g := (mkF m 1 #[.val (.ref a1), .val (.int (Int32.ofNat i))] [(.ref a1)])) rfl (by rw [hml]; rfl) (argsL := []) (rest := []) (lenOf pd_6 rfl) rfl (by show 2 * 0 + _ ≤ _; exact Nat.le_of_eq rfl) (hb hby d20_1) rfl
    obtain ⟨rfl, M1004, q1004⟩ := hQ1004
    rw [q1004] at e1004
    have N1004 := Fr.app N0 M1004
    refine Goal.step (T' := T1004) (g' := (mkF m 4 #[.val (.ref a1), .val (.int (Int32.ofNat i))] [(.int (0 : Int32))])) ?_ st1004
    refine Goal.step (T' := T1004) (g' := (mkF m 16 #[.val (.ref a1), .val (.int (Int32.ofNat i))] [])) ?_ (fun t k => XS.ifYes X1004.here hx rfl (pc0 := 4) (pc' := 16) rfl (hb hby d20_4) rfl ((if0 _ _).trans (teq (by decide)).1) (by decide) (by decide) k)
    refine Goal.step (T' := T1004) (g' := (mkF m 17 #[.val (.ref a1), .val (.int (Int32.ofNat i))] [(.ref a1)])) ?_ (fun t k => XS.aloadN X1004.here hx rfl (hb hby d20_16) rfl rfl k)
    obtain ⟨T1005, X1005, e1005, st1005⟩ := getF X1004 hx hZ hown (host := "") (Or.inl (hw _ (List.mem_of_getElem? (i := 32) rfl))) Via.refl e1004 Fv (g := (mkF m 17 #[.val (.ref a1), .val (.int (Int32.ofNat i))] [(.ref a1)])) rfl rfl (hb hby d20_17)
    refine Goal.step (T' := T1005) (g' := (mkF m 20 #[.val (.ref a1), .val (.int (Int32.ofNat i))] [(.ref b)])) ?_ st1005
    refine Goal.step (T' := T1005) (g' := (mkF m 21 #[.val (.ref a1), .val (.int (Int32.ofNat i))] [(.int (Int32.ofNat i)), (.ref b)])) ?_ (fun t k => XS.iloadN X1005.here hx rfl (hb hby d20_20) rfl k)
    obtain ⟨v1006, T1006, h1006, L1006, X1006, e1006, hQ1006, st1006⟩ := callStatic X1005 hx hZ hown (hw _ (List.mem_of_getElem? (i := 97) rfl)) (hw _ (List.mem_of_getElem? (i := 98) rfl)) (hw _ (List.mem_of_getElem? (i := 57) rfl)) (hw _ (List.mem_of_getElem? (i := 99) rfl)) (by decide) (rmUCA l Z a0 hw b i k1 n f cs fm h0 n0 (by omega) SE O0 A1 hi hn (hc i hi)) e1005 (W := 0) (by decide) (by decide) (by decide) (by decide) (g := (mkF m 21 #[.val (.ref a1), .val (.int (Int32.ofNat i))] [(.int (Int32.ofNat i)), (.ref b)])) rfl (by rw [hml]; rfl) (argsL := [(.ref b), (.int (Int32.ofNat i))]) (rest := []) (lenOf pd_4 rfl) rfl (by show 2 * 0 + _ ≤ _; exact Nat.le_of_eq rfl) (hb hby d20_21) rfl
    obtain ⟨rfl, M1006, q1006⟩ := hQ1006
    rw [q1006] at e1006
    have N1006 := Fr.app N1004 M1006
    refine Goal.step (T' := T1006) (g' := (mkF m 24 #[.val (.ref a1), .val (.int (Int32.ofNat i))] [(.int (f i))])) ?_ st1006
    refine Goal.retN (t := .char) X1006 hx hret (by simp) (hb hby d20_24) ?_
    refine ⟨?_, by decide, by decide⟩
    rw [e1006]
    exact ⟨congrArg (fun z => some (Value.int z)) (own_i2c _ (hc i hi).1 (hc i hi).2), N1006, rfl⟩

theorem own_EW {Z : State} {a0 : Array Value} (hw : ∀ d ∈ tables_1, d.before a0 Z = true) : EW Z a0 consts_1 := by
  intro p hp
  simp only [consts_1, List.mem_cons, List.not_mem_nil, or_false] at hp
  subst hp
  exact ⟨"", (hw _ (List.mem_of_getElem? (i := 26) rfl)), by simp⟩

theorem d12_3 : decode jdk_52_method_21_code 3 = .ok (.iload 5, 2) := by decide +kernel
theorem d12_5 : decode jdk_52_method_21_code 5 = .ok (.iload 4, 2) := by decide +kernel
theorem d12_7 : decode jdk_52_method_21_code 7 = .ok (.if_icmp .ge 37, 3) := by decide +kernel
theorem d12_10 : decode jdk_52_method_21_code 10 = .ok (.aload_n 0, 1) := by decide +kernel
theorem d12_11 : decode jdk_52_method_21_code 11 = .ok (.iload_n 1, 1) := by decide +kernel
theorem d12_12 : decode jdk_52_method_21_code 12 = .ok (.caload, 1) := by decide +kernel
theorem d12_13 : decode jdk_52_method_21_code 13 = .ok (.istore 6, 2) := by decide +kernel
theorem os12_13 {z0 : Value} {z1 : Value} {z2 : Value} {z3 : Value} {z4 : Value} {z5 : Value} {s6 : Slot} {v : Int32} (h : One s6) : storeLocals #[.val z0, .val z1, .val z2, .val z3, .val z4, .val z5, s6] 6 (.int v) = some #[.val z0, .val z1, .val z2, .val z3, .val z4, .val z5, .val (.int v)] := by
  rcases h with rfl | ⟨w, rfl, hw⟩
  · rfl
  · cases w <;> first | rfl | (simp [Value.category] at hw)
theorem d12_15 : decode jdk_52_method_21_code 15 = .ok (.iload 6, 2) := by decide +kernel
theorem d12_17 : decode jdk_52_method_21_code 17 = .ok (.sipush 255, 3) := by decide +kernel
theorem d12_20 : decode jdk_52_method_21_code 20 = .ok (.if_icmp .le 6, 3) := by decide +kernel
theorem d12_23 : decode jdk_52_method_21_code 23 = .ok (.iload 5, 2) := by decide +kernel
theorem d12_25 : decode jdk_52_method_21_code 25 = .ok (.ireturn, 1) := by decide +kernel
theorem d12_26 : decode jdk_52_method_21_code 26 = .ok (.aload_n 2, 1) := by decide +kernel
theorem d12_27 : decode jdk_52_method_21_code 27 = .ok (.iload_n 3, 1) := by decide +kernel
theorem d12_28 : decode jdk_52_method_21_code 28 = .ok (.iload 6, 2) := by decide +kernel
theorem d12_30 : decode jdk_52_method_21_code 30 = .ok (.i2b, 1) := by decide +kernel
theorem d12_31 : decode jdk_52_method_21_code 31 = .ok (.bastore, 1) := by decide +kernel
theorem d12_32 : decode jdk_52_method_21_code 32 = .ok (.iinc 1 1, 3) := by decide +kernel
theorem d12_35 : decode jdk_52_method_21_code 35 = .ok (.iinc 3 1, 3) := by decide +kernel
theorem d12_38 : decode jdk_52_method_21_code 38 = .ok (.iinc 5 1, 3) := by decide +kernel
theorem d12_41 : decode jdk_52_method_21_code 41 = .ok (.goto (-38), 3) := by decide +kernel
theorem d12_44 : decode jdk_52_method_21_code 44 = .ok (.iload 4, 2) := by decide +kernel
theorem d12_46 : decode jdk_52_method_21_code 46 = .ok (.ireturn, 1) := by decide +kernel
set_option maxRecDepth 65536 in
set_option maxHeartbeats 40000000 in
theorem segCP {p : Program} {l : Launch} {e : Env} {s : State} {m : MethodId} {args : Array Value} {below : List Frame} {meth : Method} {c : Code} {Z : State} {a0 : Array Value} {T0 : State} {locs : List Loc} (hw : ∀ d ∈ tables_1, d.before a0 Z = true) (C0 : Ctx p s m meth c Z jdk_52_method_21_code 7 (some .int) "java/lang/StringUTF16" "compress") (d i n : Nat) (a1 b1 : Nat) (k1 k2 : ClassId) (f g : Nat → Int32) (s6 : Slot) (h0 : Heap) (n0 : Nat) (Z0 : n0 ≤ h0.size) (X0 : Stand p l e ({ frames := 0, cells := 0, slots := 0, locals := 0 } : Room) s m args below meth c T0 locs 0 0) (e0 : T0.heap = h0) (N0 : Fr n0 locs) (hd : i + d = n) (hn : n < 2 ^ 28) (hc : ∀ j, j < n → 0 ≤ (f j).toInt ∧ (f j).toInt ≤ 65535) (A1 : Arf Z h0 a1 k1 .char n f) (A2 : Arf Z h0 b1 k2 .byte n g) (nab : a1 ≠ b1) (g1 : n0 ≤ b1) (hg : ∀ j, j < i → g j = lat f j) (hl : ∀ j, j < i → (f j).toInt ≤ 255) (o6 : One s6) :
    Goal p l e ({ frames := 0, cells := 0, slots := 0, locals := 0 } : Room) s m args below meth c (In ({ frames := 0, cells := 0, slots := 0, locals := 0 } : Room) (fun v h L => Fr n0 L ∧ Keep h0 h [b1] ∧ ((v = some (.int (Int32.ofNat n)) ∧ (∀ j, j < n → (f j).toInt ≤ 255) ∧ Arf Z h b1 k2 .byte n (lat f)) ∨ ∃ j : Nat, j < n ∧ v = some (.int (Int32.ofNat j)) ∧ 255 < (f j).toInt))) T0 (mkF m 3 #[.val (.ref a1), .val (.int (Int32.ofNat i)), .val (.ref b1), .val (.int (Int32.ofNat i)), .val (.int (Int32.ofNat n)), .val (.int (Int32.ofNat i)), s6] []) := by
  have C := C0
  obtain ⟨hx, hZ, hby, hml, hret, hown, hnm⟩ := C
  have hown : s.vm.findClass "java/lang/StringUTF16" = some m.cls := hown
  have hret : meth.sig.returnType = (some .int) := hret
  refine Goal.step (T' := T0) (g' := (mkF m 5 #[.val (.ref a1), .val (.int (Int32.ofNat i)), .val (.ref b1), .val (.int (Int32.ofNat i)), .val (.int (Int32.ofNat n)), .val (.int (Int32.ofNat i)), s6] [(.int (Int32.ofNat i))])) ?_ (fun t k => XS.iload X0.here hx rfl (hb hby d12_3) rfl k)
  refine Goal.step (T' := T0) (g' := (mkF m 7 #[.val (.ref a1), .val (.int (Int32.ofNat i)), .val (.ref b1), .val (.int (Int32.ofNat i)), .val (.int (Int32.ofNat n)), .val (.int (Int32.ofNat i)), s6] [(.int (Int32.ofNat n)), (.int (Int32.ofNat i))])) ?_ (fun t k => XS.iload X0.here hx rfl (hb hby d12_5) rfl k)
  by_cases c1001 : (Int32.ofNat i) < (Int32.ofNat n)
  · refine Goal.step (T' := T0) (g' := (mkF m 10 #[.val (.ref a1), .val (.int (Int32.ofNat i)), .val (.ref b1), .val (.int (Int32.ofNat i)), .val (.int (Int32.ofNat n)), .val (.int (Int32.ofNat i)), s6] [])) ?_ (fun t k => XS.icmpNo X0.here hx rfl (hb hby d12_7) rfl (tlt c1001).2.1 k)
    have hin : i < n := (nat_lt (by omega) (by omega)).mp c1001
    refine Goal.step (T' := T0) (g' := (mkF m 11 #[.val (.ref a1), .val (.int (Int32.ofNat i)), .val (.ref b1), .val (.int (Int32.ofNat i)), .val (.int (Int32.ofNat n)), .val (.int (Int32.ofNat i)), s6] [(.ref a1)])) ?_ (fun t k => XS.aloadN X0.here hx rfl (hb hby d12_10) rfl rfl k)
    refine Goal.step (T' := T0) (g' := (mkF m 12 #[.val (.ref a1), .val (.int (Int32.ofNat i)), .val (.ref b1), .val (.int (Int32.ofNat i)), .val (.int (Int32.ofNat n)), .val (.int (Int32.ofNat i)), s6] [(.int (Int32.ofNat i)), (.ref a1)])) ?_ (fun t k => XS.iloadN X0.here hx rfl (hb hby d12_11) rfl k)
    obtain ⟨cl1002, Ar1002, q1002, S1002, H1002⟩ := (id A1)
    have hlt1002 : i < n := hin
    have hn1002 : n < 2 ^ 31 := by omega
    have hin1002 : ¬ ((Int32.ofNat i) < 0 ∨ cl1002.slots.size ≤ ((Int32.ofNat i)).toNatClampNeg) := nat_inb S1002 hlt1002 hn1002
    have hat1002 : cl1002.slots[((Int32.ofNat i)).toNatClampNeg]? = some (.int (f i)) := by rw [nat_clamp (show i < 2 ^ 31 by omega)]; exact H1002 _ hlt1002
    refine Goal.step (T' := T0) (g' := (mkF m 13 #[.val (.ref a1), .val (.int (Int32.ofNat i)), .val (.ref b1), .val (.int (Int32.ofNat i)), .val (.int (Int32.ofNat n)), .val (.int (Int32.ofNat i)), s6] [(.int (f i))])) ?_ (fun t k => X0.caload hx (j := (Int32.ofNat i)) (v := (.int (f i))) (by rw [e0]; exact Ar1002.1) (State.isArrayOf_alike hZ.alike Ar1002.2.1) Ar1002.2.2 hin1002 hat1002 (g := (mkF m 12 #[.val (.ref a1), .val (.int (Int32.ofNat i)), .val (.ref b1), .val (.int (Int32.ofNat i)), .val (.int (Int32.ofNat n)), .val (.int (Int32.ofNat i)), s6] [(.int (Int32.ofNat i)), (.ref a1)])) rfl rfl (hb hby d12_12) _ k)
    refine Goal.step (T' := T0) (g' := (mkF m 15 #[.val (.ref a1), .val (.int (Int32.ofNat i)), .val (.ref b1), .val (.int (Int32.ofNat i)), .val (.int (Int32.ofNat n)), .val (.int (Int32.ofNat i)), .val (.int (f i))] [])) ?_ (fun t k => XS.istore X0.here hx rfl (hb hby d12_13) rfl (l' := #[.val (.ref a1), .val (.int (Int32.ofNat i)), .val (.ref b1), .val (.int (Int32.ofNat i)), .val (.int (Int32.ofNat n)), .val (.int (Int32.ofNat i)), .val (.int (f i))]) (os12_13 o6) k)
    refine Goal.step (T' := T0) (g' := (mkF m 17 #[.val (.ref a1), .val (.int (Int32.ofNat i)), .val (.ref b1), .val (.int (Int32.ofNat i)), .val (.int (Int32.ofNat n)), .val (.int (Int32.ofNat i)), .val (.int (f i))] [(.int (f i))])) ?_ (fun t k => XS.iload X0.here hx rfl (hb hby d12_15) rfl k)
    refine Goal.step (T' := T0) (g' := (mkF m 20 #[.val (.ref a1), .val (.int (Int32.ofNat i)), .val (.ref b1), .val (.int (Int32.ofNat i)), .val (.int (Int32.ofNat n)), .val (.int (Int32.ofNat i)), .val (.int (f i))] [(.int (255 : Int32)), (.int (f i))])) ?_ (fun t k => XS.sipush X0.here hx rfl (hb hby d12_17) k)
    by_cases c1003 : (255 : Int32) < (f i)
    · refine Goal.step (T' := T0) (g' := (mkF m 23 #[.val (.ref a1), .val (.int (Int32.ofNat i)), .val (.ref b1), .val (.int (Int32.ofNat i)), .val (.int (Int32.ofNat n)), .val (.int (Int32.ofNat i)), .val (.int (f i))] [])) ?_ (fun t k => XS.icmpNo X0.here hx rfl (hb hby d12_20) rfl (tlt c1003).2.2.2 k)
      refine Goal.step (T' := T0) (g' := (mkF m 25 #[.val (.ref a1), .val (.int (Int32.ofNat i)), .val (.ref b1), .val (.int (Int32.ofNat i)), .val (.int (Int32.ofNat n)), .val (.int (Int32.ofNat i)), .val (.int (f i))] [(.int (Int32.ofNat i))])) ?_ (fun t k => XS.iload X0.here hx rfl (hb hby d12_23) rfl k)
      refine Goal.retI X0 hx hret (hb hby d12_25) ?_
      refine ⟨?_, by decide, by decide⟩
      rw [e0]
      exact ⟨N0, (Keep.refl h0 [b1]), Or.inr ⟨i, hin, rfl, (own_255 _).mp c1003⟩⟩
    · refine Goal.step (T' := T0) (g' := (mkF m 26 #[.val (.ref a1), .val (.int (Int32.ofNat i)), .val (.ref b1), .val (.int (Int32.ofNat i)), .val (.int (Int32.ofNat n)), .val (.int (Int32.ofNat i)), .val (.int (f i))] [])) ?_ (fun t k => XS.icmpYes X0.here hx rfl (pc0 := 20) (pc' := 26) rfl (hb hby d12_20) rfl (flt c1003).2.2.2 (by decide) (by decide) k)
      refine Goal.step (T' := T0) (g' := (mkF m 27 #[.val (.ref a1), .val (.int (Int32.ofNat i)), .val (.ref b1), .val (.int (Int32.ofNat i)), .val (.int (Int32.ofNat n)), .val (.int (Int32.ofNat i)), .val (.int (f i))] [(.ref b1)])) ?_ (fun t k => XS.aloadN X0.here hx rfl (hb hby d12_26) rfl rfl k)
      refine Goal.step (T' := T0) (g' := (mkF m 28 #[.val (.ref a1), .val (.int (Int32.ofNat i)), .val (.ref b1), .val (.int (Int32.ofNat i)), .val (.int (Int32.ofNat n)), .val (.int (Int32.ofNat i)), .val (.int (f i))] [(.int (Int32.ofNat i)), (.ref b1)])) ?_ (fun t k => XS.iloadN X0.here hx rfl (hb hby d12_27) rfl k)
      refine Goal.step (T' := T0) (g' := (mkF m 30 #[.val (.ref a1), .val (.int (Int32.ofNat i)), .val (.ref b1), .val (.int (Int32.ofNat i)), .val (.int (Int32.ofNat n)), .val (.int (Int32.ofNat i)), .val (.int (f i))] [(.int (f i)), (.int (Int32.ofNat i)), (.ref b1)])) ?_ (fun t k => XS.iload X0.here hx rfl (hb hby d12_28) rfl k)
      refine Goal.step (T' := T0) (g' := (mkF m 31 #[.val (.ref a1), .val (.int (Int32.ofNat i)), .val (.ref b1), .val (.int (Int32.ofNat i)), .val (.int (Int32.ofNat n)), .val (.int (Int32.ofNat i)), .val (.int (f i))] [(.int ((f i).toInt8.toInt32)), (.int (Int32.ofNat i)), (.ref b1)])) ?_ (fun t k => XS.i2b X0.here hx rfl (hb hby d12_30) rfl k)
      obtain ⟨cl1004, Ar1004, q1004, S1004, H1004⟩ := (id A2)
      have hlt1004 : i < n := hin
      have hn1004 : n < 2 ^ 31 := by omega
      have hin1004 : ¬ ((Int32.ofNat i) < 0 ∨ cl1004.slots.size ≤ ((Int32.ofNat i)).toNatClampNeg) := nat_inb S1004 hlt1004 hn1004
      obtain ⟨T1004, h1004, X1004, e1004, W1004, st1004⟩ := stB X0 hx hZ e0 Ar1004 (j := (Int32.ofNat i)) hin1004 (g := (mkF m 31 #[.val (.ref a1), .val (.int (Int32.ofNat i)), .val (.ref b1), .val (.int (Int32.ofNat i)), .val (.int (Int32.ofNat n)), .val (.int (Int32.ofNat i)), .val (.int (f i))] [(.int ((f i).toInt8.toInt32)), (.int (Int32.ofNat i)), (.ref b1)])) rfl rfl (hb hby d12_31)
      rw [nat_clamp (show i < 2 ^ 31 by omega)] at W1004 X1004
      refine Goal.step (T' := T1004) (g' := (mkF m 32 #[.val (.ref a1), .val (.int (Int32.ofNat i)), .val (.ref b1), .val (.int (Int32.ofNat i)), .val (.int (Int32.ofNat n)), .val (.int (Int32.ofNat i)), .val (.int (f i))] [])) ?_ st1004
      have sz1005 : h0.size ≤ h1004.size := Nat.le_of_eq W1004.size.symm
      have V1004 : Arf Z h1004 b1 k2 .byte n (fun z => if z = i then (nar .byte ((f i).toInt8.toInt32)) else (g) z) := Arf.set Ar1004 q1004 S1004 H1004 W1004
      have N1004 := Fr.snoc X1004 N0 (by omega : n0 ≤ b1)
      refine Goal.step (T' := T1004) (g' := (mkF m 35 #[.val (.ref a1), .val (.int ((Int32.ofNat i) + (1 : Int32))), .val (.ref b1), .val (.int (Int32.ofNat i)), .val (.int (Int32.ofNat n)), .val (.int (Int32.ofNat i)), .val (.int (f i))] [])) ?_ (fun t k => XS.iinc X1004.here hx rfl (hb hby d12_32) rfl (l' := #[.val (.ref a1), .val (.int ((Int32.ofNat i) + (1 : Int32))), .val (.ref b1), .val (.int (Int32.ofNat i)), .val (.int (Int32.ofNat n)), .val (.int (Int32.ofNat i)), .val (.int (f i))]) rfl k)
      refine Goal.step (T' := T1004) (g' := (mkF m 38 #[.val (.ref a1), .val (.int ((Int32.ofNat i) + (1 : Int32))), .val (.ref b1), .val (.int ((Int32.ofNat i) + (1 : Int32))), .val (.int (Int32.ofNat n)), .val (.int (Int32.ofNat i)), .val (.int (f i))] [])) ?_ (fun t k => XS.iinc X1004.here hx rfl (hb hby d12_35) rfl (l' := #[.val (.ref a1), .val (.int ((Int32.ofNat i) + (1 : Int32))), .val (.ref b1), .val (.int ((Int32.ofNat i) + (1 : Int32))), .val (.int (Int32.ofNat n)), .val (.int (Int32.ofNat i)), .val (.int (f i))]) rfl k)
      refine Goal.step (T' := T1004) (g' := (mkF m 41 #[.val (.ref a1), .val (.int ((Int32.ofNat i) + (1 : Int32))), .val (.ref b1), .val (.int ((Int32.ofNat i) + (1 : Int32))), .val (.int (Int32.ofNat n)), .val (.int ((Int32.ofNat i) + (1 : Int32))), .val (.int (f i))] [])) ?_ (fun t k => XS.iinc X1004.here hx rfl (hb hby d12_38) rfl (l' := #[.val (.ref a1), .val (.int ((Int32.ofNat i) + (1 : Int32))), .val (.ref b1), .val (.int ((Int32.ofNat i) + (1 : Int32))), .val (.int (Int32.ofNat n)), .val (.int ((Int32.ofNat i) + (1 : Int32))), .val (.int (f i))]) rfl k)
      refine Goal.step (T' := T1004) (g' := (mkF m 3 #[.val (.ref a1), .val (.int ((Int32.ofNat i) + (1 : Int32))), .val (.ref b1), .val (.int ((Int32.ofNat i) + (1 : Int32))), .val (.int (Int32.ofNat n)), .val (.int ((Int32.ofNat i) + (1 : Int32))), .val (.int (f i))] [])) ?_ (fun t k => XS.goto X1004.here hx rfl (pc0 := 41) (pc' := 3) rfl (hb hby d12_41) (by decide) (by decide) k)
      have k1006 : Keep h0 h1004 [b1] := ((Keep.refl h0 [b1]).wr W1004 (Or.inl (by simp)))
      have f1007 : Arf Z h1004 a1 k1 .char n f := (A1.other W1004 (nne (by omega)))
      rw [nat_one]
      have hlf : (f i).toInt ≤ 255 := Int.not_lt.mp (fun q => c1003 ((own_255 _).mpr q))
      exact (segCP hw C0 (d - 1) (i + 1) n a1 b1 k1 k2 f (fun z => if z = i then (nar .byte ((f i).toInt8.toInt32)) else (g) z) (.val (.int (f i))) h1004 n0 (by omega) X1004 e1004 N1004 (by omega) hn hc f1007 V1004 nab g1 (own_lat hg) (own_step (P := fun j => (f j).toInt ≤ 255) hl hlf) (Or.inr ⟨_, rfl, rfl⟩)).imp (fun v h L k n ⟨⟨q1, q2, q3⟩, q4⟩ => ⟨⟨q1, k1006.trans q2 (allS (Or.inl (by simp)) all0), q3⟩, q4⟩)
  · refine Goal.step (T' := T0) (g' := (mkF m 44 #[.val (.ref a1), .val (.int (Int32.ofNat i)), .val (.ref b1), .val (.int (Int32.ofNat i)), .val (.int (Int32.ofNat n)), .val (.int (Int32.ofNat i)), s6] [])) ?_ (fun t k => XS.icmpYes X0.here hx rfl (pc0 := 7) (pc' := 44) rfl (hb hby d12_7) rfl (flt c1001).2.1 (by decide) (by decide) k)
    have hin : ¬ i < n := fun q => c1001 ((nat_lt (by omega) (by omega)).mpr q)
    refine Goal.step (T' := T0) (g' := (mkF m 46 #[.val (.ref a1), .val (.int (Int32.ofNat i)), .val (.ref b1), .val (.int (Int32.ofNat i)), .val (.int (Int32.ofNat n)), .val (.int (Int32.ofNat i)), s6] [(.int (Int32.ofNat n))])) ?_ (fun t k => XS.iload X0.here hx rfl (hb hby d12_44) rfl k)
    refine Goal.retI X0 hx hret (hb hby d12_46) ?_
    refine ⟨?_, by decide, by decide⟩
    rw [e0]
    exact ⟨N0, (Keep.refl h0 [b1]), Or.inl ⟨rfl, fun j hj => hl j (by omega), Arf.congr A2 (fun j hj => hg j (by omega))⟩⟩
termination_by d
decreasing_by all_goals omega
theorem d12_0 : decode jdk_52_method_21_code 0 = .ok (.iconst 0, 1) := by decide +kernel
theorem d12_1 : decode jdk_52_method_21_code 1 = .ok (.istore 5, 2) := by decide +kernel
theorem ef_12 (m : MethodId) (x0 : Nat) (x2 : Nat) (x4 : Int32) : entryFrame m #[(.ref x0), (.int (0 : Int32)), (.ref x2), (.int (0 : Int32)), (.int x4)] 7 = mkF m 0 #[.val (.ref x0), .val (.int (0 : Int32)), .val (.ref x2), .val (.int (0 : Int32)), .val (.int x4), .unset, .unset] [] := by first | (simp [entryFrame, mkF, argsToLocals, Value.category]; done) | rfl
set_option maxRecDepth 65536 in
set_option maxHeartbeats 40000000 in
theorem rmCP (l : Launch) (Z : State) (a0 : Array Value) (hw : ∀ d ∈ tables_1, d.before a0 Z = true) (n : Nat) (a1 b1 : Nat) (k1 k2 : ClassId) (f g : Nat → Int32) (h0 : Heap) (n0 : Nat) (Z0 : n0 ≤ h0.size) (hn : n < 2 ^ 28) (hc : ∀ j, j < n → 0 ≤ (f j).toInt ∧ (f j).toInt ≤ 65535) (A1 : Arf Z h0 a1 k1 .char n f) (A2 : Arf Z h0 b1 k2 .byte n g) (nab : a1 ≠ b1) (g1 : n0 ≤ b1) :
    Met l (⟨"java/lang/StringUTF16", "compress", "([CI[BII)I"⟩ : MethodName) jdk_52_method_21_code 7 (some .int) [] ({ frames := 0, cells := 0, slots := 0, locals := 0 } : Room) Z #[(.ref a1), (.int (0 : Int32)), (.ref b1), (.int (0 : Int32)), (.int (Int32.ofNat n))] h0 (fun v h L => Fr n0 L ∧ Keep h0 h [b1] ∧ ((v = some (.int (Int32.ofNat n)) ∧ (∀ j, j < n → (f j).toInt ≤ 255) ∧ Arf Z h b1 k2 .byte n (lat f)) ∨ ∃ j : Nat, j < n ∧ v = some (.int (Int32.ofNat j)) ∧ 255 < (f j).toInt)) := by
  refine of_goal (plainFor_of_name (by first | (simp [plainName, overriddenIn]; done) | decide +kernel)) ?_
  intro p e s m below meth c s₁ C X0 e0
  have C0 := C
  obtain ⟨hx, hZ, hby, hml, hret, hown, hnm⟩ := C
  have hown : s.vm.findClass "java/lang/StringUTF16" = some m.cls := hown
  have hret : meth.sig.returnType = (some .int) := hret
  have N0 := Fr.nil n0
  rw [ef_12]
  refine Goal.step (T' := s₁) (g' := (mkF m 1 #[.val (.ref a1), .val (.int (0 : Int32)), .val (.ref b1), .val (.int (0 : Int32)), .val (.int (Int32.ofNat n)), .unset, .unset] [(.int (0 : Int32))])) ?_ (fun t k => XS.iconst X0.here hx rfl (hb hby d12_0) k)
  refine Goal.step (T' := s₁) (g' := (mkF m 3 #[.val (.ref a1), .val (.int (0 : Int32)), .val (.ref b1), .val (.int (0 : Int32)), .val (.int (Int32.ofNat n)), .val (.int (0 : Int32)), .unset] [])) ?_ (fun t k => XS.istore X0.here hx rfl (hb hby d12_1) rfl (l' := #[.val (.ref a1), .val (.int (0 : Int32)), .val (.ref b1), .val (.int (0 : Int32)), .val (.int (Int32.ofNat n)), .val (.int (0 : Int32)), .unset]) rfl k)
  exact segCP hw C0 n 0 n a1 b1 k1 k2 f g .unset h0 n0 Z0 X0 e0 N0 (by omega) hn hc A1 A2 nab g1 (fun j hj => absurd hj (Nat.not_lt_zero _)) (fun j hj => absurd hj (Nat.not_lt_zero _)) (Or.inl rfl)
theorem d15_0 : decode jdk_52_method_3_code 0 = .ok (.iload_n 0, 1) := by decide +kernel
theorem d15_1 : decode jdk_52_method_3_code 1 = .ok (.ifCond .ge 11, 3) := by decide +kernel
theorem d15_12 : decode jdk_52_method_3_code 12 = .ok (.iload_n 0, 1) := by decide +kernel
theorem d15_13 : decode jdk_52_method_3_code 13 = .ok (.ldc 20, 2) := by decide +kernel
theorem d15_15 : decode jdk_52_method_3_code 15 = .ok (.if_icmp .lt 40, 3) := by decide +kernel
theorem d15_55 : decode jdk_52_method_3_code 55 = .ok (.iload_n 0, 1) := by decide +kernel
theorem d15_56 : decode jdk_52_method_3_code 56 = .ok (.iconst 1, 1) := by decide +kernel
theorem d15_57 : decode jdk_52_method_3_code 57 = .ok (.ishl, 1) := by decide +kernel
theorem d15_58 : decode jdk_52_method_3_code 58 = .ok (.ireturn, 1) := by decide +kernel
theorem ef_15 (m : MethodId) (x0 : Int32) : entryFrame m #[(.int x0)] 1 = mkF m 0 #[.val (.int x0)] [] := by first | (simp [entryFrame, mkF, argsToLocals, Value.category]; done) | rfl
set_option maxRecDepth 65536 in
set_option maxHeartbeats 40000000 in
theorem rmNL (l : Launch) (Z : State) (a0 : Array Value) (hw : ∀ d ∈ tables_1, d.before a0 Z = true) (n : Nat) (h0 : Heap) (n0 : Nat) (Z0 : n0 ≤ h0.size) (hn : n < 2 ^ 28) :
    Met l (⟨"java/lang/StringUTF16", "newBytesLength", "(I)I"⟩ : MethodName) jdk_52_method_3_code 1 (some .int) [] ({ frames := 0, cells := 0, slots := 0, locals := 0 } : Room) Z #[(.int (Int32.ofNat n))] h0 (fun v h L => v = some (.int (Int32.ofNat (2 * n))) ∧ Fr n0 L ∧ h = h0) := by
  refine of_goal (plainFor_of_name (by first | (simp [plainName, overriddenIn]; done) | decide +kernel)) ?_
  intro p e s m below meth c s₁ C X0 e0
  have C0 := C
  obtain ⟨hx, hZ, hby, hml, hret, hown, hnm⟩ := C
  have hown : s.vm.findClass "java/lang/StringUTF16" = some m.cls := hown
  have hret : meth.sig.returnType = (some .int) := hret
  have N0 := Fr.nil n0
  rw [ef_15]
  refine Goal.step (T' := s₁) (g' := (mkF m 1 #[.val (.int (Int32.ofNat n))] [(.int (Int32.ofNat n))])) ?_ (fun t k => XS.iloadN X0.here hx rfl (hb hby d15_0) rfl k)
  refine Goal.step (T' := s₁) (g' := (mkF m 12 #[.val (.int (Int32.ofNat n))] [])) ?_ (fun t k => XS.ifYes X0.here hx rfl (pc0 := 1) (pc' := 12) rfl (hb hby d15_1) rfl ((if0 _ _).trans (flt (nat_nn (by omega))).2.1) (by decide) (by decide) k)
  refine Goal.step (T' := s₁) (g' := (mkF m 13 #[.val (.int (Int32.ofNat n))] [(.int (Int32.ofNat n))])) ?_ (fun t k => XS.iloadN X0.here hx rfl (hb hby d15_12) rfl k)
  refine Goal.step (T' := s₁) (g' := (mkF m 15 #[.val (.int (Int32.ofNat n))] [(.int (1073741823 : Int32)), (.int (Int32.ofNat n))])) ?_ (fun t k => X0.ldcInt hx hown (mvT hZ (hw _ (List.mem_of_getElem? (i := 71) rfl))) (g := (mkF m 13 #[.val (.int (Int32.ofNat n))] [(.int (Int32.ofNat n))])) rfl (hb hby d15_13) _ k)
  refine Goal.step (T' := s₁) (g' := (mkF m 55 #[.val (.int (Int32.ofNat n))] [])) ?_ (fun t k => XS.icmpYes X0.here hx rfl (pc0 := 15) (pc' := 55) rfl (hb hby d15_15) rfl (tlt (nat_ltc hn)).1 (by decide) (by decide) k)
  refine Goal.step (T' := s₁) (g' := (mkF m 56 #[.val (.int (Int32.ofNat n))] [(.int (Int32.ofNat n))])) ?_ (fun t k => XS.iloadN X0.here hx rfl (hb hby d15_55) rfl k)
  refine Goal.step (T' := s₁) (g' := (mkF m 57 #[.val (.int (Int32.ofNat n))] [(.int (1 : Int32)), (.int (Int32.ofNat n))])) ?_ (fun t k => XS.iconst X0.here hx rfl (hb hby d15_56) k)
  refine Goal.step (T' := s₁) (g' := (mkF m 58 #[.val (.int (Int32.ofNat n))] [(.int ((Int32.ofNat n) <<< ((1 : Int32) &&& 31)))])) ?_ (fun t k => XS.ishl X0.here hx rfl (hb hby d15_57) rfl k)
  refine Goal.retI X0 hx hret (hb hby d15_58) ?_
  refine ⟨?_, by decide, by decide⟩
  rw [e0]
  exact ⟨congrArg (fun z => some (Value.int z)) (own_shl1 hn), N0, rfl⟩
theorem d14_0 : decode jdk_52_method_2_code 0 = .ok (.iload_n 0, 1) := by decide +kernel
theorem d14_1 : decode jdk_52_method_2_code 1 = .ok (.invokestatic 11, 3) := by decide +kernel
theorem pd_7 : parseMethodDescriptor "(I)I" = some ⟨[.int], some .int⟩ := by decide +kernel
theorem d14_4 : decode jdk_52_method_2_code 4 = .ok (.newarray .byte, 2) := by decide +kernel
theorem d14_6 : decode jdk_52_method_2_code 6 = .ok (.areturn, 1) := by decide +kernel
theorem ef_14 (m : MethodId) (x0 : Int32) : entryFrame m #[(.int x0)] 1 = mkF m 0 #[.val (.int x0)] [] := by first | (simp [entryFrame, mkF, argsToLocals, Value.category]; done) | rfl
set_option maxRecDepth 65536 in
set_option maxHeartbeats 40000000 in
theorem rmNF (l : Launch) (Z : State) (a0 : Array Value) (hw : ∀ d ∈ tables_1, d.before a0 Z = true) (n : Nat) (h0 : Heap) (n0 : Nat) (Z0 : n0 ≤ h0.size) (hn : n ≤ 10) :
    Met l (⟨"java/lang/StringUTF16", "newBytesFor", "(I)[B"⟩ : MethodName) jdk_52_method_2_code 1 (some (.array .byte)) [] ({ frames := 1, cells := 1, slots := 20, locals := 12 } : Room) Z #[(.int (Int32.ofNat n))] h0 (fun v h L => ∃ (b : Nat) (k : ClassId), v = some (.ref b) ∧ Fr n0 L ∧ Ext h0 h ∧ h0.size ≤ b ∧ b < h.size ∧ Arf Z h b k .byte (2 * n) (fun _ => 0)) := by
  refine of_goal (plainFor_of_name (by first | (simp [plainName, overriddenIn]; done) | decide +kernel)) ?_
  intro p e s m below meth c s₁ C X0 e0
  have C0 := C
  obtain ⟨hx, hZ, hby, hml, hret, hown, hnm⟩ := C
  have hown : s.vm.findClass "java/lang/StringUTF16" = some m.cls := hown
  have hret : meth.sig.returnType = (some (.array .byte)) := hret
  have N0 := Fr.nil n0
  rw [ef_14]
  refine Goal.step (T' := s₁) (g' := (mkF m 1 #[.val (.int (Int32.ofNat n))] [(.int (Int32.ofNat n))])) ?_ (fun t k => XS.iloadN X0.here hx rfl (hb hby d14_0) rfl k)
  obtain ⟨v1001, T1001, h1001, L1001, X1001, e1001, hQ1001, st1001⟩ := callStatic X0 hx hZ hown (hw _ (List.mem_of_getElem? (i := 68) rfl)) (hw _ (List.mem_of_getElem? (i := 69) rfl)) (hw _ (List.mem_of_getElem? (i := 57) rfl)) (hw _ (List.mem_of_getElem? (i := 70) rfl)) (by decide) (rmNL l Z a0 hw n h0 n0 (by omega) (by omega)) e0 (W := 0) (by decide) (by decide) (by decide) (by decide) (g := (mkF m 1 #[.val (.int (Int32.ofNat n))] [(.int (Int32.ofNat n))])) rfl (by rw [hml]; rfl) (argsL := [(.int (Int32.ofNat n))]) (rest := []) (lenOf pd_7 rfl) rfl (by show 2 * 0 + _ ≤ _; exact Nat.le_of_eq rfl) (hb hby d14_1) rfl
  obtain ⟨rfl, M1001, q1001⟩ := hQ1001
  rw [q1001] at e1001
  have N1001 := Fr.app N0 M1001
  refine Goal.step (T' := T1001) (g' := (mkF m 4 #[.val (.int (Int32.ofNat n))] [(.int (Int32.ofNat (2 * n)))])) ?_ st1001
  obtain ⟨T1002, h1002, k1002, X1002, e1002, E1002, A1002, st1002⟩ := newP X1001 hx hZ (hw _ (List.mem_of_getElem? (i := 27) rfl)) e1001 (g := (mkF m 4 #[.val (.int (Int32.ofNat n))] [(.int (Int32.ofNat (2 * n)))])) rfl (hb hby d14_4) rfl (nat_nn (by omega)) (cap := 20) (by rw [nat_clamp (by omega)]; omega) (by decide) (by decide) (by decide)
  obtain ⟨b1002, g1002⟩ : ∃ z, z = h0.size := ⟨_, rfl⟩
  rw [← g1002] at A1002 st1002
  refine Goal.step (T' := T1002) (g' := (mkF m 6 #[.val (.int (Int32.ofNat n))] [(.ref b1002)])) ?_ st1002
  have sz1003 : h0.size ≤ h1002.size := E1002.1
  have lt_b1002 : b1002 < h1002.size := A1002.lt
  have V1002 : Arf Z h1002 b1002 k1002 .byte (2 * n) (fun _ => 0) := Arf.new A1002 rfl (nat_clamp (by omega))
  refine Goal.retA X1002 hx hret rfl rfl rfl (hb hby d14_6) ?_
  have k1004 : Keep h0 h1002 [] := ((Keep.refl h0 []).ext E1002)
  refine ⟨?_, by decide, by decide⟩
  rw [e1002]
  exact ⟨b1002, _, rfl, N1001, extKp (extRefl _) k1004 all0, by omega, by omega, V1002⟩
theorem d16_0 : decode jdk_52_method_4_code 0 = .ok (.getstatic 44, 3) := by decide +kernel
theorem d16_3 : decode jdk_52_method_4_code 3 = .ok (.ifCond .ne 25, 3) := by decide +kernel
theorem d16_28 : decode jdk_52_method_4_code 28 = .ok (.iload_n 1, 1) := by decide +kernel
theorem d16_29 : decode jdk_52_method_4_code 29 = .ok (.iconst 1, 1) := by decide +kernel
theorem d16_30 : decode jdk_52_method_4_code 30 = .ok (.ishl, 1) := by decide +kernel
theorem d16_31 : decode jdk_52_method_4_code 31 = .ok (.istore_n 1, 1) := by decide +kernel
theorem d16_32 : decode jdk_52_method_4_code 32 = .ok (.aload_n 0, 1) := by decide +kernel
theorem d16_33 : decode jdk_52_method_4_code 33 = .ok (.iload_n 1, 1) := by decide +kernel
theorem d16_34 : decode jdk_52_method_4_code 34 = .ok (.iinc 1 1, 3) := by decide +kernel
theorem d16_37 : decode jdk_52_method_4_code 37 = .ok (.iload_n 2, 1) := by decide +kernel
theorem d16_38 : decode jdk_52_method_4_code 38 = .ok (.getstatic 59, 3) := by decide +kernel
theorem d16_41 : decode jdk_52_method_4_code 41 = .ok (.ishr, 1) := by decide +kernel
theorem d16_42 : decode jdk_52_method_4_code 42 = .ok (.i2b, 1) := by decide +kernel
theorem d16_43 : decode jdk_52_method_4_code 43 = .ok (.bastore, 1) := by decide +kernel
theorem d16_44 : decode jdk_52_method_4_code 44 = .ok (.aload_n 0, 1) := by decide +kernel
theorem d16_45 : decode jdk_52_method_4_code 45 = .ok (.iload_n 1, 1) := by decide +kernel
theorem d16_46 : decode jdk_52_method_4_code 46 = .ok (.iload_n 2, 1) := by decide +kernel
theorem d16_47 : decode jdk_52_method_4_code 47 = .ok (.getstatic 63, 3) := by decide +kernel
theorem d16_50 : decode jdk_52_method_4_code 50 = .ok (.ishr, 1) := by decide +kernel
theorem d16_51 : decode jdk_52_method_4_code 51 = .ok (.i2b, 1) := by decide +kernel
theorem d16_52 : decode jdk_52_method_4_code 52 = .ok (.bastore, 1) := by decide +kernel
theorem d16_53 : decode jdk_52_method_4_code 53 = .ok (.return_, 1) := by decide +kernel
theorem ef_16 (m : MethodId) (x0 : Nat) (x1 : Int32) (x2 : Int32) : entryFrame m #[(.ref x0), (.int x1), (.int x2)] 3 = mkF m 0 #[.val (.ref x0), .val (.int x1), .val (.int x2)] [] := by first | (simp [entryFrame, mkF, argsToLocals, Value.category]; done) | rfl
set_option maxRecDepth 65536 in
set_option maxHeartbeats 40000000 in
theorem rmPC (l : Launch) (Z : State) (a0 : Array Value) (hw : ∀ d ∈ tables_1, d.before a0 Z = true) (a1 : Nat) (i : Nat) (x2 : Int32) (k1 : ClassId) (n : Nat) (g : Nat → Int32) (cs : Int32) (fm : Value) (h0 : Heap) (n0 : Nat) (Z0 : n0 ≤ h0.size) (SE : SEnv Z cs fm) (O0 : Old Z n0 h0) (A1 : Arf Z h0 a1 k1 .byte (2 * n) g) (hi : i < n) (hn : n < 2 ^ 28) (g1 : n0 ≤ a1) :
    Met l (⟨"java/lang/StringUTF16", "putChar", "([BII)V"⟩ : MethodName) jdk_52_method_4_code 3 none [] ({ frames := 0, cells := 0, slots := 0, locals := 0 } : Room) Z #[(.ref a1), (.int (Int32.ofNat i)), (.int x2)] h0 (fun v h L => v = none ∧ Fr n0 L ∧ Keep h0 h [a1] ∧ Arf Z h a1 k1 .byte (2 * n) (put g i x2)) := by
  refine of_goal (plainFor_of_name (by first | (simp [plainName, overriddenIn]; done) | decide +kernel)) ?_
  intro p e s m below meth c s₁ C X0 e0
  have C0 := C
  obtain ⟨hx, hZ, hby, hml, hret, hown, hnm⟩ := C
  have hown : s.vm.findClass "java/lang/StringUTF16" = some m.cls := hown
  have hret : meth.sig.returnType = none := hret
  have N0 := Fr.nil n0
  rw [ef_16]
  have S1001 : Sta Z h0 "java/lang/StringUTF16" "$assertionsDisabled" "Z" (.int (1 : Int32)) := Sta.ext O0.2 SE.2.2.1
  obtain ⟨T1002, X1002, e1002, st1002⟩ := getS2 X0 hx hZ hown (host := "") (Or.inl (hw _ (List.mem_of_getElem? (i := 75) rfl))) Via.refl e0 S1001 (g := (mkF m 0 #[.val (.ref a1), .val (.int (Int32.ofNat i)), .val (.int x2)] [])) rfl (hb hby d16_0)
  refine Goal.step (T' := T1002) (g' := (mkF m 3 #[.val (.ref a1), .val (.int (Int32.ofNat i)), .val (.int x2)] [(.int (1 : Int32))])) ?_ st1002
  refine Goal.step (T' := T1002) (g' := (mkF m 28 #[.val (.ref a1), .val (.int (Int32.ofNat i)), .val (.int x2)] [])) ?_ (fun t k => XS.ifYes X1002.here hx rfl (pc0 := 3) (pc' := 28) rfl (hb hby d16_3) rfl ((if0 _ _).trans (feq (by decide)).2) (by decide) (by decide) k)
  refine Goal.step (T' := T1002) (g' := (mkF m 29 #[.val (.ref a1), .val (.int (Int32.ofNat i)), .val (.int x2)] [(.int (Int32.ofNat i))])) ?_ (fun t k => XS.iloadN X1002.here hx rfl (hb hby d16_28) rfl k)
  refine Goal.step (T' := T1002) (g' := (mkF m 30 #[.val (.ref a1), .val (.int (Int32.ofNat i)), .val (.int x2)] [(.int (1 : Int32)), (.int (Int32.ofNat i))])) ?_ (fun t k => XS.iconst X1002.here hx rfl (hb hby d16_29) k)
  refine Goal.step (T' := T1002) (g' := (mkF m 31 #[.val (.ref a1), .val (.int (Int32.ofNat i)), .val (.int x2)] [(.int ((Int32.ofNat i) <<< ((1 : Int32) &&& 31)))])) ?_ (fun t k => XS.ishl X1002.here hx rfl (hb hby d16_30) rfl k)
  rw [own_shl1 (show i < 2 ^ 28 by omega)]
  refine Goal.step (T' := T1002) (g' := (mkF m 32 #[.val (.ref a1), .val (.int (Int32.ofNat (2 * i))), .val (.int x2)] [])) ?_ (fun t k => XS.istoreN X1002.here hx rfl (hb hby d16_31) rfl (l' := #[.val (.ref a1), .val (.int (Int32.ofNat (2 * i))), .val (.int x2)]) rfl k)
  refine Goal.step (T' := T1002) (g' := (mkF m 33 #[.val (.ref a1), .val (.int (Int32.ofNat (2 * i))), .val (.int x2)] [(.ref a1)])) ?_ (fun t k => XS.aloadN X1002.here hx rfl (hb hby d16_32) rfl rfl k)
  refine Goal.step (T' := T1002) (g' := (mkF m 34 #[.val (.ref a1), .val (.int (Int32.ofNat (2 * i))), .val (.int x2)] [(.int (Int32.ofNat (2 * i))), (.ref a1)])) ?_ (fun t k => XS.iloadN X1002.here hx rfl (hb hby d16_33) rfl k)
  refine Goal.step (T' := T1002) (g' := (mkF m 37 #[.val (.ref a1), .val (.int ((Int32.ofNat (2 * i)) + (1 : Int32))), .val (.int x2)] [(.int (Int32.ofNat (2 * i))), (.ref a1)])) ?_ (fun t k => XS.iinc X1002.here hx rfl (hb hby d16_34) rfl (l' := #[.val (.ref a1), .val (.int ((Int32.ofNat (2 * i)) + (1 : Int32))), .val (.int x2)]) rfl k)
  rw [nat_one]
  refine Goal.step (T' := T1002) (g' := (mkF m 38 #[.val (.ref a1), .val (.int (Int32.ofNat (2 * i + 1))), .val (.int x2)] [(.int x2), (.int (Int32.ofNat (2 * i))), (.ref a1)])) ?_ (fun t k => XS.iloadN X1002.here hx rfl (hb hby d16_37) rfl k)
  have S1003 : Sta Z h0 "java/lang/StringUTF16" "HI_BYTE_SHIFT" "I" (.int (0 : Int32)) := Sta.ext O0.2 SE.2.2.2.1
  obtain ⟨T1004, X1004, e1004, st1004⟩ := getS2 X1002 hx hZ hown (host := "") (Or.inl (hw _ (List.mem_of_getElem? (i := 76) rfl))) Via.refl e1002 S1003 (g := (mkF m 38 #[.val (.ref a1), .val (.int (Int32.ofNat (2 * i + 1))), .val (.int x2)] [(.int x2), (.int (Int32.ofNat (2 * i))), (.ref a1)])) rfl (hb hby d16_38)
  refine Goal.step (T' := T1004) (g' := (mkF m 41 #[.val (.ref a1), .val (.int (Int32.ofNat (2 * i + 1))), .val (.int x2)] [(.int (0 : Int32)), (.int x2), (.int (Int32.ofNat (2 * i))), (.ref a1)])) ?_ st1004
  refine Goal.step (T' := T1004) (g' := (mkF m 42 #[.val (.ref a1), .val (.int (Int32.ofNat (2 * i + 1))), .val (.int x2)] [(.int (x2 >>> ((0 : Int32) &&& 31))), (.int (Int32.ofNat (2 * i))), (.ref a1)])) ?_ (fun t k => XS.ishr X1004.here hx rfl (hb hby d16_41) rfl k)
  refine Goal.step (T' := T1004) (g' := (mkF m 43 #[.val (.ref a1), .val (.int (Int32.ofNat (2 * i + 1))), .val (.int x2)] [(.int ((x2 >>> ((0 : Int32) &&& 31)).toInt8.toInt32)), (.int (Int32.ofNat (2 * i))), (.ref a1)])) ?_ (fun t k => XS.i2b X1004.here hx rfl (hb hby d16_42) rfl k)
  obtain ⟨cl1005, Ar1005, q1005, S1005, H1005⟩ := (id A1)
  have hlt1005 : (2 * i) < (2 * n) := by omega
  have hn1005 : (2 * n) < 2 ^ 31 := by omega
  have hin1005 : ¬ ((Int32.ofNat (2 * i)) < 0 ∨ cl1005.slots.size ≤ ((Int32.ofNat (2 * i))).toNatClampNeg) := nat_inb S1005 hlt1005 hn1005
  obtain ⟨T1005, h1005, X1005, e1005, W1005, st1005⟩ := stB X1004 hx hZ e1004 Ar1005 (j := (Int32.ofNat (2 * i))) hin1005 (g := (mkF m 43 #[.val (.ref a1), .val (.int (Int32.ofNat (2 * i + 1))), .val (.int x2)] [(.int ((x2 >>> ((0 : Int32) &&& 31)).toInt8.toInt32)), (.int (Int32.ofNat (2 * i))), (.ref a1)])) rfl rfl (hb hby d16_43)
  rw [nat_clamp (show (2 * i) < 2 ^ 31 by omega)] at W1005 X1005
  refine Goal.step (T' := T1005) (g' := (mkF m 44 #[.val (.ref a1), .val (.int (Int32.ofNat (2 * i + 1))), .val (.int x2)] [])) ?_ st1005
  have sz1006 : h0.size ≤ h1005.size := Nat.le_of_eq W1005.size.symm
  have V1005 : Arf Z h1005 a1 k1 .byte (2 * n) (fun z => if z = (2 * i) then (nar .byte ((x2 >>> ((0 : Int32) &&& 31)).toInt8.toInt32)) else (g) z) := Arf.set Ar1005 q1005 S1005 H1005 W1005
  have N1005 := Fr.snoc X1005 N0 (by omega : n0 ≤ a1)
  refine Goal.step (T' := T1005) (g' := (mkF m 45 #[.val (.ref a1), .val (.int (Int32.ofNat (2 * i + 1))), .val (.int x2)] [(.ref a1)])) ?_ (fun t k => XS.aloadN X1005.here hx rfl (hb hby d16_44) rfl rfl k)
  refine Goal.step (T' := T1005) (g' := (mkF m 46 #[.val (.ref a1), .val (.int (Int32.ofNat (2 * i + 1))), .val (.int x2)] [(.int (Int32.ofNat (2 * i + 1))), (.ref a1)])) ?_ (fun t k => XS.iloadN X1005.here hx rfl (hb hby d16_45) rfl k)
  refine Goal.step (T' := T1005) (g' := (mkF m 47 #[.val (.ref a1), .val (.int (Int32.ofNat (2 * i + 1))), .val (.int x2)] [(.int x2), (.int (Int32.ofNat (2 * i + 1))), (.ref a1)])) ?_ (fun t k => XS.iloadN X1005.here hx rfl (hb hby d16_46) rfl k)
  have f1007 : Old Z n0 h1005 := (O0.wr W1005 (by omega))
  have S1008 : Sta Z h1005 "java/lang/StringUTF16" "LO_BYTE_SHIFT" "I" (.int (8 : Int32)) := Sta.ext f1007.2 SE.2.2.2.2.1
  obtain ⟨T1009, X1009, e1009, st1009⟩ := getS2 X1005 hx hZ hown (host := "") (Or.inl (hw _ (List.mem_of_getElem? (i := 77) rfl))) Via.refl e1005 S1008 (g := (mkF m 47 #[.val (.ref a1), .val (.int (Int32.ofNat (2 * i + 1))), .val (.int x2)] [(.int x2), (.int (Int32.ofNat (2 * i + 1))), (.ref a1)])) rfl (hb hby d16_47)
  refine Goal.step (T' := T1009) (g' := (mkF m 50 #[.val (.ref a1), .val (.int (Int32.ofNat (2 * i + 1))), .val (.int x2)] [(.int (8 : Int32)), (.int x2), (.int (Int32.ofNat (2 * i + 1))), (.ref a1)])) ?_ st1009
  refine Goal.step (T' := T1009) (g' := (mkF m 51 #[.val (.ref a1), .val (.int (Int32.ofNat (2 * i + 1))), .val (.int x2)] [(.int (x2 >>> ((8 : Int32) &&& 31))), (.int (Int32.ofNat (2 * i + 1))), (.ref a1)])) ?_ (fun t k => XS.ishr X1009.here hx rfl (hb hby d16_50) rfl k)
  refine Goal.step (T' := T1009) (g' := (mkF m 52 #[.val (.ref a1), .val (.int (Int32.ofNat (2 * i + 1))), .val (.int x2)] [(.int ((x2 >>> ((8 : Int32) &&& 31)).toInt8.toInt32)), (.int (Int32.ofNat (2 * i + 1))), (.ref a1)])) ?_ (fun t k => XS.i2b X1009.here hx rfl (hb hby d16_51) rfl k)
  obtain ⟨cl1010, Ar1010, q1010, S1010, H1010⟩ := (id V1005)
  have hlt1010 : (2 * i + 1) < (2 * n) := by omega
  have hn1010 : (2 * n) < 2 ^ 31 := by omega
  have hin1010 : ¬ ((Int32.ofNat (2 * i + 1)) < 0 ∨ cl1010.slots.size ≤ ((Int32.ofNat (2 * i + 1))).toNatClampNeg) := nat_inb S1010 hlt1010 hn1010
  obtain ⟨T1010, h1010, X1010, e1010, W1010, st1010⟩ := stB X1009 hx hZ e1009 Ar1010 (j := (Int32.ofNat (2 * i + 1))) hin1010 (g := (mkF m 52 #[.val (.ref a1), .val (.int (Int32.ofNat (2 * i + 1))), .val (.int x2)] [(.int ((x2 >>> ((8 : Int32) &&& 31)).toInt8.toInt32)), (.int (Int32.ofNat (2 * i + 1))), (.ref a1)])) rfl rfl (hb hby d16_52)
  rw [nat_clamp (show (2 * i + 1) < 2 ^ 31 by omega)] at W1010 X1010
  refine Goal.step (T' := T1010) (g' := (mkF m 53 #[.val (.ref a1), .val (.int (Int32.ofNat (2 * i + 1))), .val (.int x2)] [])) ?_ st1010
  have sz1011 : h1005.size ≤ h1010.size := Nat.le_of_eq W1010.size.symm
  have V1010 : Arf Z h1010 a1 k1 .byte (2 * n) (fun z => if z = (2 * i + 1) then (nar .byte ((x2 >>> ((8 : Int32) &&& 31)).toInt8.toInt32)) else ((fun z => if z = (2 * i) then (nar .byte ((x2 >>> ((0 : Int32) &&& 31)).toInt8.toInt32)) else (g) z)) z) := Arf.set Ar1010 q1010 S1010 H1010 W1010
  have N1010 := Fr.snoc X1010 N1005 (by omega : n0 ≤ a1)
  refine Goal.retV X1010 hx hret (hb hby d16_53) ?_
  have k1012 : Keep h0 h1010 [a1] := (((Keep.refl h0 [a1]).wr W1005 (Or.inl (by simp))).wr W1010 (Or.inl (by simp)))
  refine ⟨?_, by decide, by decide⟩
  rw [e1010]
  exact ⟨rfl, N1010, k1012, V1010⟩
theorem d13_8 : decode jdk_52_method_14_code 8 = .ok (.iload 4, 2) := by decide +kernel
theorem d13_10 : decode jdk_52_method_14_code 10 = .ok (.iload_n 2, 1) := by decide +kernel
theorem d13_11 : decode jdk_52_method_14_code 11 = .ok (.if_icmp .ge 21, 3) := by decide +kernel
theorem d13_14 : decode jdk_52_method_14_code 14 = .ok (.aload_n 3, 1) := by decide +kernel
theorem d13_15 : decode jdk_52_method_14_code 15 = .ok (.iload 4, 2) := by decide +kernel
theorem d13_17 : decode jdk_52_method_14_code 17 = .ok (.aload_n 0, 1) := by decide +kernel
theorem d13_18 : decode jdk_52_method_14_code 18 = .ok (.iload_n 1, 1) := by decide +kernel
theorem d13_19 : decode jdk_52_method_14_code 19 = .ok (.caload, 1) := by decide +kernel
theorem d13_20 : decode jdk_52_method_14_code 20 = .ok (.invokestatic 111, 3) := by decide +kernel
theorem pd_8 : parseMethodDescriptor "([BII)V" = some ⟨[(.array .byte), .int, .int], none⟩ := by decide +kernel
theorem d13_23 : decode jdk_52_method_14_code 23 = .ok (.iinc 1 1, 3) := by decide +kernel
theorem d13_26 : decode jdk_52_method_14_code 26 = .ok (.iinc 4 1, 3) := by decide +kernel
theorem d13_29 : decode jdk_52_method_14_code 29 = .ok (.goto (-21), 3) := by decide +kernel
theorem d13_32 : decode jdk_52_method_14_code 32 = .ok (.aload_n 3, 1) := by decide +kernel
theorem d13_33 : decode jdk_52_method_14_code 33 = .ok (.areturn, 1) := by decide +kernel
set_option maxRecDepth 65536 in
set_option maxHeartbeats 40000000 in
theorem segTB {p : Program} {l : Launch} {e : Env} {s : State} {m : MethodId} {args : Array Value} {below : List Frame} {meth : Method} {c : Code} {Z : State} {a0 : Array Value} {T0 : State} {locs : List Loc} (hw : ∀ d ∈ tables_1, d.before a0 Z = true) (C0 : Ctx p s m meth c Z jdk_52_method_14_code 5 (some (.array .byte)) "java/lang/StringUTF16" "toBytes") (d i n : Nat) (a1 b1 : Nat) (k1 k2 : ClassId) (f g : Nat → Int32) (cs : Int32) (fm : Value) (h0 : Heap) (n0 : Nat) (Z0 : n0 ≤ h0.size) (X0 : Stand p l e ({ frames := 2, cells := 1, slots := 20, locals := 24 } : Room) s m args below meth c T0 locs 1 20) (e0 : T0.heap = h0) (N0 : Fr n0 locs) (hd : i + d = n) (SE : SEnv Z cs fm) (O0 : Old Z n0 h0) (hn : n < 2 ^ 28) (A1 : Arf Z h0 a1 k1 .char n f) (A2 : Arf Z h0 b1 k2 .byte (2 * n) g) (nab : a1 ≠ b1) (g1 : n0 ≤ b1) (hg : ∀ j, j < 2 * i → g j = utf f j) :
    Goal p l e ({ frames := 2, cells := 1, slots := 20, locals := 24 } : Room) s m args below meth c (In ({ frames := 2, cells := 1, slots := 20, locals := 24 } : Room) (fun v h L => v = some (.ref b1) ∧ Fr n0 L ∧ Keep h0 h [b1] ∧ Arf Z h b1 k2 .byte (2 * n) (utf f))) T0 (mkF m 8 #[.val (.ref a1), .val (.int (Int32.ofNat i)), .val (.int (Int32.ofNat n)), .val (.ref b1), .val (.int (Int32.ofNat i))] []) := by
  have C := C0
  obtain ⟨hx, hZ, hby, hml, hret, hown, hnm⟩ := C
  have hown : s.vm.findClass "java/lang/StringUTF16" = some m.cls := hown
  have hret : meth.sig.returnType = (some (.array .byte)) := hret
  refine Goal.step (T' := T0) (g' := (mkF m 10 #[.val (.ref a1), .val (.int (Int32.ofNat i)), .val (.int (Int32.ofNat n)), .val (.ref b1), .val (.int (Int32.ofNat i))] [(.int (Int32.ofNat i))])) ?_ (fun t k => XS.iload X0.here hx rfl (hb hby d13_8) rfl k)
  refine Goal.step (T' := T0) (g' := (mkF m 11 #[.val (.ref a1), .val (.int (Int32.ofNat i)), .val (.int (Int32.ofNat n)), .val (.ref b1), .val (.int (Int32.ofNat i))] [(.int (Int32.ofNat n)), (.int (Int32.ofNat i))])) ?_ (fun t k => XS.iloadN X0.here hx rfl (hb hby d13_10) rfl k)
  by_cases c1001 : (Int32.ofNat i) < (Int32.ofNat n)
  · refine Goal.step (T' := T0) (g' := (mkF m 14 #[.val (.ref a1), .val (.int (Int32.ofNat i)), .val (.int (Int32.ofNat n)), .val (.ref b1), .val (.int (Int32.ofNat i))] [])) ?_ (fun t k => XS.icmpNo X0.here hx rfl (hb hby d13_11) rfl (tlt c1001).2.1 k)
    have hin : i < n := (nat_lt (by omega) (by omega)).mp c1001
    refine Goal.step (T' := T0) (g' := (mkF m 15 #[.val (.ref a1), .val (.int (Int32.ofNat i)), .val (.int (Int32.ofNat n)), .val (.ref b1), .val (.int (Int32.ofNat i))] [(.ref b1)])) ?_ (fun t k => XS.aloadN X0.here hx rfl (hb hby d13_14) rfl rfl k)
    refine Goal.step (T' := T0) (g' := (mkF m 17 #[.val (.ref a1), .val (.int (Int32.ofNat i)), .val (.int (Int32.ofNat n)), .val (.ref b1), .val (.int (Int32.ofNat i))] [(.int (Int32.ofNat i)), (.ref b1)])) ?_ (fun t k => XS.iload X0.here hx rfl (hb hby d13_15) rfl k)
    refine Goal.step (T' := T0) (g' := (mkF m 18 #[.val (.ref a1), .val (.int (Int32.ofNat i)), .val (.int (Int32.ofNat n)), .val (.ref b1), .val (.int (Int32.ofNat i))] [(.ref a1), (.int (Int32.ofNat i)), (.ref b1)])) ?_ (fun t k => XS.aloadN X0.here hx rfl (hb hby d13_17) rfl rfl k)
    refine Goal.step (T' := T0) (g' := (mkF m 19 #[.val (.ref a1), .val (.int (Int32.ofNat i)), .val (.int (Int32.ofNat n)), .val (.ref b1), .val (.int (Int32.ofNat i))] [(.int (Int32.ofNat i)), (.ref a1), (.int (Int32.ofNat i)), (.ref b1)])) ?_ (fun t k => XS.iloadN X0.here hx rfl (hb hby d13_18) rfl k)
    obtain ⟨cl1002, Ar1002, q1002, S1002, H1002⟩ := (id A1)
    have hlt1002 : i < n := hin
    have hn1002 : n < 2 ^ 31 := by omega
    have hin1002 : ¬ ((Int32.ofNat i) < 0 ∨ cl1002.slots.size ≤ ((Int32.ofNat i)).toNatClampNeg) := nat_inb S1002 hlt1002 hn1002
    have hat1002 : cl1002.slots[((Int32.ofNat i)).toNatClampNeg]? = some (.int (f i)) := by rw [nat_clamp (show i < 2 ^ 31 by omega)]; exact H1002 _ hlt1002
    refine Goal.step (T' := T0) (g' := (mkF m 20 #[.val (.ref a1), .val (.int (Int32.ofNat i)), .val (.int (Int32.ofNat n)), .val (.ref b1), .val (.int (Int32.ofNat i))] [(.int (f i)), (.int (Int32.ofNat i)), (.ref b1)])) ?_ (fun t k => X0.caload hx (j := (Int32.ofNat i)) (v := (.int (f i))) (by rw [e0]; exact Ar1002.1) (State.isArrayOf_alike hZ.alike Ar1002.2.1) Ar1002.2.2 hin1002 hat1002 (g := (mkF m 19 #[.val (.ref a1), .val (.int (Int32.ofNat i)), .val (.int (Int32.ofNat n)), .val (.ref b1), .val (.int (Int32.ofNat i))] [(.int (Int32.ofNat i)), (.ref a1), (.int (Int32.ofNat i)), (.ref b1)])) rfl rfl (hb hby d13_19) _ k)
    obtain ⟨v1003, T1003, h1003, L1003, X1003, e1003, hQ1003, st1003⟩ := callStatic X0 hx hZ hown (hw _ (List.mem_of_getElem? (i := 72) rfl)) (hw _ (List.mem_of_getElem? (i := 73) rfl)) (hw _ (List.mem_of_getElem? (i := 57) rfl)) (hw _ (List.mem_of_getElem? (i := 74) rfl)) (by decide) (rmPC l Z a0 hw b1 i (f i) k2 n g cs fm h0 n0 (by omega) SE O0 A2 hin hn g1) e0 (W := 0) (by decide) (by decide) (by decide) (by decide) (g := (mkF m 20 #[.val (.ref a1), .val (.int (Int32.ofNat i)), .val (.int (Int32.ofNat n)), .val (.ref b1), .val (.int (Int32.ofNat i))] [(.int (f i)), (.int (Int32.ofNat i)), (.ref b1)])) rfl (by rw [hml]; rfl) (argsL := [(.ref b1), (.int (Int32.ofNat i)), (.int (f i))]) (rest := []) (lenOf pd_8 rfl) rfl (by show 2 * 0 + _ ≤ _; exact Nat.le_of_eq rfl) (hb hby d13_20) rfl
    obtain ⟨rfl, M1003, K1003, V1003⟩ := hQ1003
    have N1003 := Fr.app N0 M1003
    refine Goal.step (T' := T1003) (g' := (mkF m 23 #[.val (.ref a1), .val (.int (Int32.ofNat i)), .val (.int (Int32.ofNat n)), .val (.ref b1), .val (.int (Int32.ofNat i))] [])) ?_ st1003
    have sz1004 : h0.size ≤ h1003.size := K1003.1
    refine Goal.step (T' := T1003) (g' := (mkF m 26 #[.val (.ref a1), .val (.int ((Int32.ofNat i) + (1 : Int32))), .val (.int (Int32.ofNat n)), .val (.ref b1), .val (.int (Int32.ofNat i))] [])) ?_ (fun t k => XS.iinc X1003.here hx rfl (hb hby d13_23) rfl (l' := #[.val (.ref a1), .val (.int ((Int32.ofNat i) + (1 : Int32))), .val (.int (Int32.ofNat n)), .val (.ref b1), .val (.int (Int32.ofNat i))]) rfl k)
    refine Goal.step (T' := T1003) (g' := (mkF m 29 #[.val (.ref a1), .val (.int ((Int32.ofNat i) + (1 : Int32))), .val (.int (Int32.ofNat n)), .val (.ref b1), .val (.int ((Int32.ofNat i) + (1 : Int32)))] [])) ?_ (fun t k => XS.iinc X1003.here hx rfl (hb hby d13_26) rfl (l' := #[.val (.ref a1), .val (.int ((Int32.ofNat i) + (1 : Int32))), .val (.int (Int32.ofNat n)), .val (.ref b1), .val (.int ((Int32.ofNat i) + (1 : Int32)))]) rfl k)
    refine Goal.step (T' := T1003) (g' := (mkF m 8 #[.val (.ref a1), .val (.int ((Int32.ofNat i) + (1 : Int32))), .val (.int (Int32.ofNat n)), .val (.ref b1), .val (.int ((Int32.ofNat i) + (1 : Int32)))] [])) ?_ (fun t k => XS.goto X1003.here hx rfl (pc0 := 29) (pc' := 8) rfl (hb hby d13_29) (by decide) (by decide) k)
    have k1005 : Keep h0 h1003 [b1] := ((Keep.refl h0 [b1]).trans K1003 (allS (Or.inl (by simp)) all0))
    have f1006 : Arf Z h1003 a1 k1 .char n f := (A1.keep K1003 (ninS (nne (by omega)) nin0))
    have f1007 : Old Z n0 h1003 := (O0.keep K1003 (allS (by omega) all0))
    rw [nat_one]
    exact (segTB hw C0 (d - 1) (i + 1) n a1 b1 k1 k2 f (put g i (f i)) cs fm h1003 n0 (by omega) X1003 e1003 N1003 (by omega) SE f1007 hn f1006 V1003 nab g1 (own_put hg)).imp (fun v h L k n ⟨⟨q1, q2, q3, q4⟩, q5⟩ => ⟨⟨q1, q2, k1005.trans q3 (allS (Or.inl (by simp)) all0), q4⟩, q5⟩)
  · refine Goal.step (T' := T0) (g' := (mkF m 32 #[.val (.ref a1), .val (.int (Int32.ofNat i)), .val (.int (Int32.ofNat n)), .val (.ref b1), .val (.int (Int32.ofNat i))] [])) ?_ (fun t k => XS.icmpYes X0.here hx rfl (pc0 := 11) (pc' := 32) rfl (hb hby d13_11) rfl (flt c1001).2.1 (by decide) (by decide) k)
    have hin : ¬ i < n := fun q => c1001 ((nat_lt (by omega) (by omega)).mpr q)
    refine Goal.step (T' := T0) (g' := (mkF m 33 #[.val (.ref a1), .val (.int (Int32.ofNat i)), .val (.int (Int32.ofNat n)), .val (.ref b1), .val (.int (Int32.ofNat i))] [(.ref b1)])) ?_ (fun t k => XS.aloadN X0.here hx rfl (hb hby d13_32) rfl rfl k)
    refine Goal.retA X0 hx hret rfl rfl rfl (hb hby d13_33) ?_
    refine ⟨?_, by decide, by decide⟩
    rw [e0]
    exact ⟨rfl, N0, (Keep.refl h0 [b1]), Arf.congr A2 (fun j hj => hg j (by omega))⟩
termination_by d
decreasing_by all_goals omega
theorem d13_0 : decode jdk_52_method_14_code 0 = .ok (.iload_n 2, 1) := by decide +kernel
theorem d13_1 : decode jdk_52_method_14_code 1 = .ok (.invokestatic 107, 3) := by decide +kernel
theorem pd_9 : parseMethodDescriptor "(I)[B" = some ⟨[.int], some (.array .byte)⟩ := by decide +kernel
theorem d13_4 : decode jdk_52_method_14_code 4 = .ok (.astore_n 3, 1) := by decide +kernel
theorem d13_5 : decode jdk_52_method_14_code 5 = .ok (.iconst 0, 1) := by decide +kernel
theorem d13_6 : decode jdk_52_method_14_code 6 = .ok (.istore 4, 2) := by decide +kernel
theorem ef_13 (m : MethodId) (x0 : Nat) (x2 : Int32) : entryFrame m #[(.ref x0), (.int (0 : Int32)), (.int x2)] 5 = mkF m 0 #[.val (.ref x0), .val (.int (0 : Int32)), .val (.int x2), .unset, .unset] [] := by first | (simp [entryFrame, mkF, argsToLocals, Value.category]; done) | rfl
set_option maxRecDepth 65536 in
set_option maxHeartbeats 40000000 in
theorem rmTB (l : Launch) (Z : State) (a0 : Array Value) (hw : ∀ d ∈ tables_1, d.before a0 Z = true) (n : Nat) (a1 : Nat) (k1 : ClassId) (f : Nat → Int32) (cs : Int32) (fm : Value) (h0 : Heap) (n0 : Nat) (Z0 : n0 ≤ h0.size) (SE : SEnv Z cs fm) (O0 : Old Z n0 h0) (hn : n ≤ 10) (A1 : Arf Z h0 a1 k1 .char n f) (lt1 : a1 < h0.size) :
    Met l (⟨"java/lang/StringUTF16", "toBytes", "([CII)[B"⟩ : MethodName) jdk_52_method_14_code 5 (some (.array .byte)) [] ({ frames := 2, cells := 1, slots := 20, locals := 24 } : Room) Z #[(.ref a1), (.int (0 : Int32)), (.int (Int32.ofNat n))] h0 (fun v h L => ∃ (b : Nat) (k : ClassId), v = some (.ref b) ∧ Fr n0 L ∧ Ext h0 h ∧ h0.size ≤ b ∧ b < h.size ∧ Arf Z h b k .byte (2 * n) (utf f)) := by
  refine of_goal (plainFor_of_name (by first | (simp [plainName, overriddenIn]; done) | decide +kernel)) ?_
  intro p e s m below meth c s₁ C X0 e0
  have C0 := C
  obtain ⟨hx, hZ, hby, hml, hret, hown, hnm⟩ := C
  have hown : s.vm.findClass "java/lang/StringUTF16" = some m.cls := hown
  have hret : meth.sig.returnType = (some (.array .byte)) := hret
  have N0 := Fr.nil n0
  rw [ef_13]
  refine Goal.step (T' := s₁) (g' := (mkF m 1 #[.val (.ref a1), .val (.int (0 : Int32)), .val (.int (Int32.ofNat n)), .unset, .unset] [(.int (Int32.ofNat n))])) ?_ (fun t k => XS.iloadN X0.here hx rfl (hb hby d13_0) rfl k)
  obtain ⟨v1001, T1001, h1001, L1001, X1001, e1001, hQ1001, st1001⟩ := callStatic X0 hx hZ hown (hw _ (List.mem_of_getElem? (i := 65) rfl)) (hw _ (List.mem_of_getElem? (i := 66) rfl)) (hw _ (List.mem_of_getElem? (i := 57) rfl)) (hw _ (List.mem_of_getElem? (i := 67) rfl)) (by decide) (rmNF l Z a0 hw n h0 n0 (by omega) hn) e0 (W := 0) (by decide) (by decide) (by decide) (by decide) (g := (mkF m 1 #[.val (.ref a1), .val (.int (0 : Int32)), .val (.int (Int32.ofNat n)), .unset, .unset] [(.int (Int32.ofNat n))])) rfl (by rw [hml]; rfl) (argsL := [(.int (Int32.ofNat n))]) (rest := []) (lenOf pd_9 rfl) rfl (by show 2 * 0 + _ ≤ _; exact Nat.le_of_eq rfl) (hb hby d13_1) rfl
  obtain ⟨b1, k2, rfl, M1001, E1001, lo1001, lt_b1, V1001⟩ := hQ1001
  have N1001 := Fr.app N0 M1001
  refine Goal.step (T' := T1001) (g' := (mkF m 4 #[.val (.ref a1), .val (.int (0 : Int32)), .val (.int (Int32.ofNat n)), .unset, .unset] [(.ref b1)])) ?_ st1001
  have sz1002 : h0.size ≤ h1001.size := E1001.1
  refine Goal.step (T' := T1001) (g' := (mkF m 5 #[.val (.ref a1), .val (.int (0 : Int32)), .val (.int (Int32.ofNat n)), .val (.ref b1), .unset] [])) ?_ (fun t k => XS.astoreN X1001.here hx rfl (hb hby d13_4) rfl rfl (l' := #[.val (.ref a1), .val (.int (0 : Int32)), .val (.int (Int32.ofNat n)), .val (.ref b1), .unset]) rfl k)
  refine Goal.step (T' := T1001) (g' := (mkF m 6 #[.val (.ref a1), .val (.int (0 : Int32)), .val (.int (Int32.ofNat n)), .val (.ref b1), .unset] [(.int (0 : Int32))])) ?_ (fun t k => XS.iconst X1001.here hx rfl (hb hby d13_5) k)
  refine Goal.step (T' := T1001) (g' := (mkF m 8 #[.val (.ref a1), .val (.int (0 : Int32)), .val (.int (Int32.ofNat n)), .val (.ref b1), .val (.int (0 : Int32))] [])) ?_ (fun t k => XS.istore X1001.here hx rfl (hb hby d13_6) rfl (l' := #[.val (.ref a1), .val (.int (0 : Int32)), .val (.int (Int32.ofNat n)), .val (.ref b1), .val (.int (0 : Int32))]) rfl k)
  have f1003 : Arf Z h1001 a1 k1 .char n f := (A1.ext E1001)
  have f1004 : Old Z n0 h1001 := (O0.ext E1001)
  have k1005 : Keep h0 h1001 [] := ((Keep.refl h0 []).ext E1001)
  exact (segTB hw C0 n 0 n a1 b1 k1 k2 f _ cs fm h1001 n0 (by omega) X1001 e1001 N1001 (by omega) SE f1004 (by omega) f1003 V1001 (by omega) (by omega) (fun j hj => absurd hj (Nat.not_lt_zero _))).imp (fun v h L k n ⟨⟨q1, q2, q3, q4⟩, q5⟩ => ⟨⟨b1, k2, q1, q2, extKp (extKp (extRefl _) k1005 all0) q3 (allS (by omega) all0), by omega, Nat.lt_of_lt_of_le lt_b1 q3.1, q4⟩, q5⟩)
theorem d11_0 : decode jdk_52_method_16_code 0 = .ok (.iload_n 2, 1) := by decide +kernel
theorem d11_1 : decode jdk_52_method_16_code 1 = .ok (.newarray .byte, 2) := by decide +kernel
theorem d11_3 : decode jdk_52_method_16_code 3 = .ok (.astore_n 3, 1) := by decide +kernel
theorem d11_4 : decode jdk_52_method_16_code 4 = .ok (.aload_n 0, 1) := by decide +kernel
theorem d11_5 : decode jdk_52_method_16_code 5 = .ok (.iload_n 1, 1) := by decide +kernel
theorem d11_6 : decode jdk_52_method_16_code 6 = .ok (.aload_n 3, 1) := by decide +kernel
theorem d11_7 : decode jdk_52_method_16_code 7 = .ok (.iconst 0, 1) := by decide +kernel
theorem d11_8 : decode jdk_52_method_16_code 8 = .ok (.iload_n 2, 1) := by decide +kernel
theorem d11_9 : decode jdk_52_method_16_code 9 = .ok (.invokestatic 115, 3) := by decide +kernel
theorem pd_10 : parseMethodDescriptor "([CI[BII)I" = some ⟨[(.array .char), .int, (.array .byte), .int, .int], some .int⟩ := by decide +kernel
theorem d11_12 : decode jdk_52_method_16_code 12 = .ok (.istore 4, 2) := by decide +kernel
theorem d11_14 : decode jdk_52_method_16_code 14 = .ok (.iload 4, 2) := by decide +kernel
theorem d11_16 : decode jdk_52_method_16_code 16 = .ok (.iload_n 2, 1) := by decide +kernel
theorem d11_17 : decode jdk_52_method_16_code 17 = .ok (.if_icmp .eq 40, 3) := by decide +kernel
theorem d11_57 : decode jdk_52_method_16_code 57 = .ok (.aload_n 3, 1) := by decide +kernel
theorem d11_58 : decode jdk_52_method_16_code 58 = .ok (.areturn, 1) := by decide +kernel
theorem d11_20 : decode jdk_52_method_16_code 20 = .ok (.aload_n 0, 1) := by decide +kernel
theorem d11_21 : decode jdk_52_method_16_code 21 = .ok (.iload_n 1, 1) := by decide +kernel
theorem d11_22 : decode jdk_52_method_16_code 22 = .ok (.iload_n 2, 1) := by decide +kernel
theorem d11_23 : decode jdk_52_method_16_code 23 = .ok (.invokestatic 119, 3) := by decide +kernel
theorem pd_11 : parseMethodDescriptor "([CII)[B" = some ⟨[(.array .char), .int, .int], some (.array .byte)⟩ := by decide +kernel
theorem d11_26 : decode jdk_52_method_16_code 26 = .ok (.astore 5, 2) := by decide +kernel
theorem d11_28 : decode jdk_52_method_16_code 28 = .ok (.aload 5, 2) := by decide +kernel
theorem d11_30 : decode jdk_52_method_16_code 30 = .ok (.iload 4, 2) := by decide +kernel
theorem d11_32 : decode jdk_52_method_16_code 32 = .ok (.invokestatic 71, 3) := by decide +kernel
theorem d11_35 : decode jdk_52_method_16_code 35 = .ok (.sipush 255, 3) := by decide +kernel
theorem d11_38 : decode jdk_52_method_16_code 38 = .ok (.if_icmp .gt 16, 3) := by decide +kernel
theorem d11_54 : decode jdk_52_method_16_code 54 = .ok (.aload 5, 2) := by decide +kernel
theorem d11_56 : decode jdk_52_method_16_code 56 = .ok (.areturn, 1) := by decide +kernel
theorem ef_11 (m : MethodId) (x0 : Nat) (x2 : Int32) : entryFrame m #[(.ref x0), (.int (0 : Int32)), (.int x2)] 6 = mkF m 0 #[.val (.ref x0), .val (.int (0 : Int32)), .val (.int x2), .unset, .unset, .unset] [] := by first | (simp [entryFrame, mkF, argsToLocals, Value.category]; done) | rfl
set_option maxRecDepth 65536 in
set_option maxHeartbeats 40000000 in
theorem rmC3 (l : Launch) (Z : State) (a0 : Array Value) (hw : ∀ d ∈ tables_1, d.before a0 Z = true) (n : Nat) (a1 : Nat) (k1 : ClassId) (f : Nat → Int32) (cs : Int32) (fm : Value) (h0 : Heap) (n0 : Nat) (Z0 : n0 ≤ h0.size) (SE : SEnv Z cs fm) (O0 : Old Z n0 h0) (hn : n ≤ 10) (hc : ∀ j, j < n → 0 ≤ (f j).toInt ∧ (f j).toInt ≤ 65535) (A1 : Arf Z h0 a1 k1 .char n f) (lt1 : a1 < h0.size) :
    Met l (⟨"java/lang/StringUTF16", "compress", "([CII)[B"⟩ : MethodName) jdk_52_method_16_code 6 (some (.array .byte)) [] ({ frames := 3, cells := 2, slots := 30, locals := 40 } : Room) Z #[(.ref a1), (.int (0 : Int32)), (.int (Int32.ofNat n))] h0 (fun v h L => ∃ (b : Nat) (k : ClassId), v = some (.ref b) ∧ Fr n0 L ∧ Ext h0 h ∧ h0.size ≤ b ∧ b < h.size ∧ (((∀ j, j < n → (f j).toInt ≤ 255) ∧ Arf Z h b k .byte n (lat f)) ∨ (0 < n ∧ Arf Z h b k .byte (2 * n) (utf f)))) := by
  refine of_goal (plainFor_of_name (by first | (simp [plainName, overriddenIn]; done) | decide +kernel)) ?_
  intro p e s m below meth c s₁ C X0 e0
  have C0 := C
  obtain ⟨hx, hZ, hby, hml, hret, hown, hnm⟩ := C
  have hown : s.vm.findClass "java/lang/StringUTF16" = some m.cls := hown
  have hret : meth.sig.returnType = (some (.array .byte)) := hret
  have N0 := Fr.nil n0
  rw [ef_11]
  refine Goal.step (T' := s₁) (g' := (mkF m 1 #[.val (.ref a1), .val (.int (0 : Int32)), .val (.int (Int32.ofNat n)), .unset, .unset, .unset] [(.int (Int32.ofNat n))])) ?_ (fun t k => XS.iloadN X0.here hx rfl (hb hby d11_0) rfl k)
  obtain ⟨T1001, h1001, k1001, X1001, e1001, E1001, A1001, st1001⟩ := newP X0 hx hZ (hw _ (List.mem_of_getElem? (i := 27) rfl)) e0 (g := (mkF m 1 #[.val (.ref a1), .val (.int (0 : Int32)), .val (.int (Int32.ofNat n)), .unset, .unset, .unset] [(.int (Int32.ofNat n))])) rfl (hb hby d11_1) rfl (nat_nn (by omega)) (cap := 10) (by rw [nat_clamp (by omega)]; omega) (by decide) (by decide) (by decide)
  obtain ⟨b1001, g1001⟩ : ∃ z, z = h0.size := ⟨_, rfl⟩
  rw [← g1001] at A1001 st1001
  refine Goal.step (T' := T1001) (g' := (mkF m 3 #[.val (.ref a1), .val (.int (0 : Int32)), .val (.int (Int32.ofNat n)), .unset, .unset, .unset] [(.ref b1001)])) ?_ st1001
  have sz1002 : h0.size ≤ h1001.size := E1001.1
  have lt_b1001 : b1001 < h1001.size := A1001.lt
  have V1001 : Arf Z h1001 b1001 k1001 .byte n (fun _ => 0) := Arf.new A1001 rfl (nat_clamp (by omega))
  refine Goal.step (T' := T1001) (g' := (mkF m 4 #[.val (.ref a1), .val (.int (0 : Int32)), .val (.int (Int32.ofNat n)), .val (.ref b1001), .unset, .unset] [])) ?_ (fun t k => XS.astoreN X1001.here hx rfl (hb hby d11_3) rfl rfl (l' := #[.val (.ref a1), .val (.int (0 : Int32)), .val (.int (Int32.ofNat n)), .val (.ref b1001), .unset, .unset]) rfl k)
  refine Goal.step (T' := T1001) (g' := (mkF m 5 #[.val (.ref a1), .val (.int (0 : Int32)), .val (.int (Int32.ofNat n)), .val (.ref b1001), .unset, .unset] [(.ref a1)])) ?_ (fun t k => XS.aloadN X1001.here hx rfl (hb hby d11_4) rfl rfl k)
  refine Goal.step (T' := T1001) (g' := (mkF m 6 #[.val (.ref a1), .val (.int (0 : Int32)), .val (.int (Int32.ofNat n)), .val (.ref b1001), .unset, .unset] [(.int (0 : Int32)), (.ref a1)])) ?_ (fun t k => XS.iloadN X1001.here hx rfl (hb hby d11_5) rfl k)
  refine Goal.step (T' := T1001) (g' := (mkF m 7 #[.val (.ref a1), .val (.int (0 : Int32)), .val (.int (Int32.ofNat n)), .val (.ref b1001), .unset, .unset] [(.ref b1001), (.int (0 : Int32)), (.ref a1)])) ?_ (fun t k => XS.aloadN X1001.here hx rfl (hb hby d11_6) rfl rfl k)
  refine Goal.step (T' := T1001) (g' := (mkF m 8 #[.val (.ref a1), .val (.int (0 : Int32)), .val (.int (Int32.ofNat n)), .val (.ref b1001), .unset, .unset] [(.int (0 : Int32)), (.ref b1001), (.int (0 : Int32)), (.ref a1)])) ?_ (fun t k => XS.iconst X1001.here hx rfl (hb hby d11_7) k)
  refine Goal.step (T' := T1001) (g' := (mkF m 9 #[.val (.ref a1), .val (.int (0 : Int32)), .val (.int (Int32.ofNat n)), .val (.ref b1001), .unset, .unset] [(.int (Int32.ofNat n)), (.int (0 : Int32)), (.ref b1001), (.int (0 : Int32)), (.ref a1)])) ?_ (fun t k => XS.iloadN X1001.here hx rfl (hb hby d11_8) rfl k)
  have f1004 : Arf Z h1001 a1 k1 .char n f := (A1.ext E1001)
  obtain ⟨v1003, T1003, h1003, L1003, X1003, e1003, hQ1003, st1003⟩ := callStatic X1001 hx hZ hown (hw _ (List.mem_of_getElem? (i := 59) rfl)) (hw _ (List.mem_of_getElem? (i := 60) rfl)) (hw _ (List.mem_of_getElem? (i := 57) rfl)) (hw _ (List.mem_of_getElem? (i := 61) rfl)) (by decide) (rmCP l Z a0 hw n a1 b1001 k1 k1001 f _ h1001 n0 (by omega) (by omega) hc f1004 V1001 (by omega) (by omega)) e1001 (W := 0) (by decide) (by decide) (by decide) (by decide) (g := (mkF m 9 #[.val (.ref a1), .val (.int (0 : Int32)), .val (.int (Int32.ofNat n)), .val (.ref b1001), .unset, .unset] [(.int (Int32.ofNat n)), (.int (0 : Int32)), (.ref b1001), (.int (0 : Int32)), (.ref a1)])) rfl (by rw [hml]; rfl) (argsL := [(.ref a1), (.int (0 : Int32)), (.ref b1001), (.int (0 : Int32)), (.int (Int32.ofNat n))]) (rest := []) (lenOf pd_10 rfl) rfl (by show 2 * 0 + _ ≤ _; exact Nat.le_of_eq rfl) (hb hby d11_9) rfl
  obtain ⟨M1003, K1003, hr1003⟩ := hQ1003
  have N1003 := Fr.app N0 M1003
  rcases hr1003 with ⟨rfl, hlat, AL⟩ | ⟨j, hj, rfl, hbig⟩
  · refine Goal.step (T' := T1003) (g' := (mkF m 12 #[.val (.ref a1), .val (.int (0 : Int32)), .val (.int (Int32.ofNat n)), .val (.ref b1001), .unset, .unset] [(.int (Int32.ofNat n))])) ?_ st1003
    have sz1005 : h1001.size ≤ h1003.size := K1003.1
    refine Goal.step (T' := T1003) (g' := (mkF m 14 #[.val (.ref a1), .val (.int (0 : Int32)), .val (.int (Int32.ofNat n)), .val (.ref b1001), .val (.int (Int32.ofNat n)), .unset] [])) ?_ (fun t k => XS.istore X1003.here hx rfl (hb hby d11_12) rfl (l' := #[.val (.ref a1), .val (.int (0 : Int32)), .val (.int (Int32.ofNat n)), .val (.ref b1001), .val (.int (Int32.ofNat n)), .unset]) rfl k)
    refine Goal.step (T' := T1003) (g' := (mkF m 16 #[.val (.ref a1), .val (.int (0 : Int32)), .val (.int (Int32.ofNat n)), .val (.ref b1001), .val (.int (Int32.ofNat n)), .unset] [(.int (Int32.ofNat n))])) ?_ (fun t k => XS.iload X1003.here hx rfl (hb hby d11_14) rfl k)
    refine Goal.step (T' := T1003) (g' := (mkF m 17 #[.val (.ref a1), .val (.int (0 : Int32)), .val (.int (Int32.ofNat n)), .val (.ref b1001), .val (.int (Int32.ofNat n)), .unset] [(.int (Int32.ofNat n)), (.int (Int32.ofNat n))])) ?_ (fun t k => XS.iloadN X1003.here hx rfl (hb hby d11_16) rfl k)
    refine Goal.step (T' := T1003) (g' := (mkF m 57 #[.val (.ref a1), .val (.int (0 : Int32)), .val (.int (Int32.ofNat n)), .val (.ref b1001), .val (.int (Int32.ofNat n)), .unset] [])) ?_ (fun t k => XS.icmpYes X1003.here hx rfl (pc0 := 17) (pc' := 57) rfl (hb hby d11_17) rfl (teq rfl).1 (by decide) (by decide) k)
    refine Goal.step (T' := T1003) (g' := (mkF m 58 #[.val (.ref a1), .val (.int (0 : Int32)), .val (.int (Int32.ofNat n)), .val (.ref b1001), .val (.int (Int32.ofNat n)), .unset] [(.ref b1001)])) ?_ (fun t k => XS.aloadN X1003.here hx rfl (hb hby d11_57) rfl rfl k)
    refine Goal.retA X1003 hx hret rfl rfl rfl (hb hby d11_58) ?_
    have k1006 : Keep h0 h1003 [] := (((Keep.refl h0 []).ext E1001).trans K1003 (allS (Or.inr (by omega)) all0))
    refine ⟨?_, by decide, by decide⟩
    rw [e1003]
    exact ⟨b1001, _, rfl, N1003, extKp (extRefl _) k1006 all0, by omega, by omega, Or.inl ⟨hlat, AL⟩⟩
  · refine Goal.step (T' := T1003) (g' := (mkF m 12 #[.val (.ref a1), .val (.int (0 : Int32)), .val (.int (Int32.ofNat n)), .val (.ref b1001), .unset, .unset] [(.int (Int32.ofNat j))])) ?_ st1003
    have sz1007 : h1001.size ≤ h1003.size := K1003.1
    refine Goal.step (T' := T1003) (g' := (mkF m 14 #[.val (.ref a1), .val (.int (0 : Int32)), .val (.int (Int32.ofNat n)), .val (.ref b1001), .val (.int (Int32.ofNat j)), .unset] [])) ?_ (fun t k => XS.istore X1003.here hx rfl (hb hby d11_12) rfl (l' := #[.val (.ref a1), .val (.int (0 : Int32)), .val (.int (Int32.ofNat n)), .val (.ref b1001), .val (.int (Int32.ofNat j)), .unset]) rfl k)
    refine Goal.step (T' := T1003) (g' := (mkF m 16 #[.val (.ref a1), .val (.int (0 : Int32)), .val (.int (Int32.ofNat n)), .val (.ref b1001), .val (.int (Int32.ofNat j)), .unset] [(.int (Int32.ofNat j))])) ?_ (fun t k => XS.iload X1003.here hx rfl (hb hby d11_14) rfl k)
    refine Goal.step (T' := T1003) (g' := (mkF m 17 #[.val (.ref a1), .val (.int (0 : Int32)), .val (.int (Int32.ofNat n)), .val (.ref b1001), .val (.int (Int32.ofNat j)), .unset] [(.int (Int32.ofNat n)), (.int (Int32.ofNat j))])) ?_ (fun t k => XS.iloadN X1003.here hx rfl (hb hby d11_16) rfl k)
    refine Goal.step (T' := T1003) (g' := (mkF m 20 #[.val (.ref a1), .val (.int (0 : Int32)), .val (.int (Int32.ofNat n)), .val (.ref b1001), .val (.int (Int32.ofNat j)), .unset] [])) ?_ (fun t k => XS.icmpNo X1003.here hx rfl (hb hby d11_17) rfl (feq (nat_ne hj (by omega))).1 k)
    refine Goal.step (T' := T1003) (g' := (mkF m 21 #[.val (.ref a1), .val (.int (0 : Int32)), .val (.int (Int32.ofNat n)), .val (.ref b1001), .val (.int (Int32.ofNat j)), .unset] [(.ref a1)])) ?_ (fun t k => XS.aloadN X1003.here hx rfl (hb hby d11_20) rfl rfl k)
    refine Goal.step (T' := T1003) (g' := (mkF m 22 #[.val (.ref a1), .val (.int (0 : Int32)), .val (.int (Int32.ofNat n)), .val (.ref b1001), .val (.int (Int32.ofNat j)), .unset] [(.int (0 : Int32)), (.ref a1)])) ?_ (fun t k => XS.iloadN X1003.here hx rfl (hb hby d11_21) rfl k)
    refine Goal.step (T' := T1003) (g' := (mkF m 23 #[.val (.ref a1), .val (.int (0 : Int32)), .val (.int (Int32.ofNat n)), .val (.ref b1001), .val (.int (Int32.ofNat j)), .unset] [(.int (Int32.ofNat n)), (.int (0 : Int32)), (.ref a1)])) ?_ (fun t k => XS.iloadN X1003.here hx rfl (hb hby d11_22) rfl k)
    have f1009 : Old Z n0 h1003 := ((O0.ext E1001).keep K1003 (allS (by omega) all0))
    have f1010 : Arf Z h1003 a1 k1 .char n f := (f1004.keep K1003 (ninS (nne (by omega)) nin0))
    obtain ⟨v1008, T1008, h1008, L1008, X1008, e1008, hQ1008, st1008⟩ := callStatic X1003 hx hZ hown (hw _ (List.mem_of_getElem? (i := 62) rfl)) (hw _ (List.mem_of_getElem? (i := 63) rfl)) (hw _ (List.mem_of_getElem? (i := 57) rfl)) (hw _ (List.mem_of_getElem? (i := 64) rfl)) (by decide) (rmTB l Z a0 hw n a1 k1 f cs fm h1003 n0 (by omega) SE f1009 hn f1010 (by omega)) e1003 (W := 0) (by decide) (by decide) (by decide) (by decide) (g := (mkF m 23 #[.val (.ref a1), .val (.int (0 : Int32)), .val (.int (Int32.ofNat n)), .val (.ref b1001), .val (.int (Int32.ofNat j)), .unset] [(.int (Int32.ofNat n)), (.int (0 : Int32)), (.ref a1)])) rfl (by rw [hml]; rfl) (argsL := [(.ref a1), (.int (0 : Int32)), (.int (Int32.ofNat n))]) (rest := []) (lenOf pd_11 rfl) rfl (by show 2 * 0 + _ ≤ _; exact Nat.le_of_eq rfl) (hb hby d11_23) rfl
    obtain ⟨b2, k2, rfl, M1008, E1008, lo1008, lt_b2, V1008⟩ := hQ1008
    have N1008 := Fr.app N1003 M1008
    refine Goal.step (T' := T1008) (g' := (mkF m 26 #[.val (.ref a1), .val (.int (0 : Int32)), .val (.int (Int32.ofNat n)), .val (.ref b1001), .val (.int (Int32.ofNat j)), .unset] [(.ref b2)])) ?_ st1008
    have sz1011 : h1003.size ≤ h1008.size := E1008.1
    refine Goal.step (T' := T1008) (g' := (mkF m 28 #[.val (.ref a1), .val (.int (0 : Int32)), .val (.int (Int32.ofNat n)), .val (.ref b1001), .val (.int (Int32.ofNat j)), .val (.ref b2)] [])) ?_ (fun t k => XS.astore X1008.here hx rfl (hb hby d11_26) rfl rfl (l' := #[.val (.ref a1), .val (.int (0 : Int32)), .val (.int (Int32.ofNat n)), .val (.ref b1001), .val (.int (Int32.ofNat j)), .val (.ref b2)]) rfl k)
    refine Goal.step (T' := T1008) (g' := (mkF m 30 #[.val (.ref a1), .val (.int (0 : Int32)), .val (.int (Int32.ofNat n)), .val (.ref b1001), .val (.int (Int32.ofNat j)), .val (.ref b2)] [(.ref b2)])) ?_ (fun t k => XS.aload X1008.here hx rfl (hb hby d11_28) rfl rfl k)
    refine Goal.step (T' := T1008) (g' := (mkF m 32 #[.val (.ref a1), .val (.int (0 : Int32)), .val (.int (Int32.ofNat n)), .val (.ref b1001), .val (.int (Int32.ofNat j)), .val (.ref b2)] [(.int (Int32.ofNat j)), (.ref b2)])) ?_ (fun t k => XS.iload X1008.here hx rfl (hb hby d11_30) rfl k)
    have f1013 : Old Z n0 h1008 := (f1009.ext E1008)
    obtain ⟨v1012, T1012, h1012, L1012, X1012, e1012, hQ1012, st1012⟩ := callStatic X1008 hx hZ hown (hw _ (List.mem_of_getElem? (i := 78) rfl)) (hw _ (List.mem_of_getElem? (i := 79) rfl)) (hw _ (List.mem_of_getElem? (i := 57) rfl)) (hw _ (List.mem_of_getElem? (i := 80) rfl)) (by decide) (rmUGC l Z a0 hw b2 j k2 n f cs fm h1008 n0 (by omega) SE f1013 V1008 hj (by omega) (hc j hj)) e1008 (W := 0) (by decide) (by decide) (by decide) (by decide) (g := (mkF m 32 #[.val (.ref a1), .val (.int (0 : Int32)), .val (.int (Int32.ofNat n)), .val (.ref b1001), .val (.int (Int32.ofNat j)), .val (.ref b2)] [(.int (Int32.ofNat j)), (.ref b2)])) rfl (by rw [hml]; rfl) (argsL := [(.ref b2), (.int (Int32.ofNat j))]) (rest := []) (lenOf pd_4 rfl) rfl (by show 2 * 0 + _ ≤ _; exact Nat.le_of_eq rfl) (hb hby d11_32) rfl
    obtain ⟨rfl, M1012, q1012⟩ := hQ1012
    rw [q1012] at e1012
    have N1012 := Fr.app N1008 M1012
    refine Goal.step (T' := T1012) (g' := (mkF m 35 #[.val (.ref a1), .val (.int (0 : Int32)), .val (.int (Int32.ofNat n)), .val (.ref b1001), .val (.int (Int32.ofNat j)), .val (.ref b2)] [(.int (f j))])) ?_ st1012
    refine Goal.step (T' := T1012) (g' := (mkF m 38 #[.val (.ref a1), .val (.int (0 : Int32)), .val (.int (Int32.ofNat n)), .val (.ref b1001), .val (.int (Int32.ofNat j)), .val (.ref b2)] [(.int (255 : Int32)), (.int (f j))])) ?_ (fun t k => XS.sipush X1012.here hx rfl (hb hby d11_35) k)
    refine Goal.step (T' := T1012) (g' := (mkF m 54 #[.val (.ref a1), .val (.int (0 : Int32)), .val (.int (Int32.ofNat n)), .val (.ref b1001), .val (.int (Int32.ofNat j)), .val (.ref b2)] [])) ?_ (fun t k => XS.icmpYes X1012.here hx rfl (pc0 := 38) (pc' := 54) rfl (hb hby d11_38) rfl (tlt ((own_255 _).mpr hbig)).2.2.1 (by decide) (by decide) k)
    refine Goal.step (T' := T1012) (g' := (mkF m 56 #[.val (.ref a1), .val (.int (0 : Int32)), .val (.int (Int32.ofNat n)), .val (.ref b1001), .val (.int (Int32.ofNat j)), .val (.ref b2)] [(.ref b2)])) ?_ (fun t k => XS.aload X1012.here hx rfl (hb hby d11_54) rfl rfl k)
    refine Goal.retA X1012 hx hret rfl rfl rfl (hb hby d11_56) ?_
    have k1014 : Keep h0 h1008 [] := ((((Keep.refl h0 []).ext E1001).trans K1003 (allS (Or.inr (by omega)) all0)).ext E1008)
    refine ⟨?_, by decide, by decide⟩
    rw [e1012]
    exact ⟨b2, _, rfl, N1012, extKp (extRefl _) k1014 all0, by omega, by omega, Or.inr ⟨by omega, V1008⟩⟩
theorem d18_0 : decode jdk_52_method_15_code 0 = .ok (.iload_n 1, 1) := by decide +kernel
theorem d18_1 : decode jdk_52_method_15_code 1 = .ok (.aload_n 0, 1) := by decide +kernel
theorem d18_2 : decode jdk_52_method_15_code 2 = .ok (.arraylength, 1) := by decide +kernel
theorem d18_3 : decode jdk_52_method_15_code 3 = .ok (.isub, 1) := by decide +kernel
theorem d18_4 : decode jdk_52_method_15_code 4 = .ok (.bipush 31, 2) := by decide +kernel
theorem d18_6 : decode jdk_52_method_15_code 6 = .ok (.iushr, 1) := by decide +kernel
theorem d18_7 : decode jdk_52_method_15_code 7 = .ok (.i2b, 1) := by decide +kernel
theorem d18_8 : decode jdk_52_method_15_code 8 = .ok (.ireturn, 1) := by decide +kernel
theorem ef_18 (m : MethodId) (x0 : Nat) (x1 : Int32) : entryFrame m #[(.ref x0), (.int x1)] 2 = mkF m 0 #[.val (.ref x0), .val (.int x1)] [] := by first | (simp [entryFrame, mkF, argsToLocals, Value.category]; done) | rfl
set_option maxRecDepth 65536 in
set_option maxHeartbeats 40000000 in
theorem rmCF0 (l : Launch) (Z : State) (a0 : Array Value) (hw : ∀ d ∈ tables_1, d.before a0 Z = true) (a1 : Nat) (n : Nat) (k1 : ClassId) (f : Nat → Int32) (h0 : Heap) (n0 : Nat) (Z0 : n0 ≤ h0.size) (A1 : Arf Z h0 a1 k1 .byte n f) (hn : n ≤ 10) :
    Met l (⟨"java/lang/StringUTF16", "coderFromArrayLen", "([BI)B"⟩ : MethodName) jdk_52_method_15_code 2 (some .byte) [] ({ frames := 0, cells := 0, slots := 0, locals := 0 } : Room) Z #[(.ref a1), (.int (Int32.ofNat n))] h0 (fun v h L => v = some (.int (0 : Int32)) ∧ Fr n0 L ∧ h = h0) := by
  refine of_goal (plainFor_of_name (by first | (simp [plainName, overriddenIn]; done) | decide +kernel)) ?_
  intro p e s m below meth c s₁ C X0 e0
  have C0 := C
  obtain ⟨hx, hZ, hby, hml, hret, hown, hnm⟩ := C
  have hown : s.vm.findClass "java/lang/StringUTF16" = some m.cls := hown
  have hret : meth.sig.returnType = (some .byte) := hret
  have N0 := Fr.nil n0
  rw [ef_18]
  refine Goal.step (T' := s₁) (g' := (mkF m 1 #[.val (.ref a1), .val (.int (Int32.ofNat n))] [(.int (Int32.ofNat n))])) ?_ (fun t k => XS.iloadN X0.here hx rfl (hb hby d18_0) rfl k)
  refine Goal.step (T' := s₁) (g' := (mkF m 2 #[.val (.ref a1), .val (.int (Int32.ofNat n))] [(.ref a1), (.int (Int32.ofNat n))])) ?_ (fun t k => XS.aloadN X0.here hx rfl (hb hby d18_1) rfl rfl k)
  obtain ⟨cl1001, Ar1001, q1001, S1001, H1001⟩ := (id A1)
  refine Goal.step (T' := s₁) (g' := (mkF m 3 #[.val (.ref a1), .val (.int (Int32.ofNat n))] [(.int (Int32.ofNat n)), (.int (Int32.ofNat n))])) ?_ (fun t k => X0.arraylength hx (by rw [e0]; exact Ar1001.1) (State.isArrayOf_alike hZ.alike Ar1001.2.1) (g := (mkF m 2 #[.val (.ref a1), .val (.int (Int32.ofNat n))] [(.ref a1), (.int (Int32.ofNat n))])) rfl rfl (hb hby d18_2) _ (by rw [S1001]; exact k))
  refine Goal.step (T' := s₁) (g' := (mkF m 4 #[.val (.ref a1), .val (.int (Int32.ofNat n))] [(.int ((Int32.ofNat n) - (Int32.ofNat n)))])) ?_ (fun t k => XS.isub X0.here hx rfl (hb hby d18_3) rfl k)
  refine Goal.step (T' := s₁) (g' := (mkF m 6 #[.val (.ref a1), .val (.int (Int32.ofNat n))] [(.int (31 : Int32)), (.int ((Int32.ofNat n) - (Int32.ofNat n)))])) ?_ (fun t k => XS.bipush X0.here hx rfl (hb hby d18_4) k)
  refine Goal.step (T' := s₁) (g' := (mkF m 7 #[.val (.ref a1), .val (.int (Int32.ofNat n))] [(.int ((((Int32.ofNat n) - (Int32.ofNat n)).toUInt32 >>> ((31 : Int32) &&& 31).toUInt32).toInt32))])) ?_ (fun t k => XS.iushr X0.here hx rfl (hb hby d18_6) rfl k)
  refine Goal.step (T' := s₁) (g' := (mkF m 8 #[.val (.ref a1), .val (.int (Int32.ofNat n))] [(.int (((((Int32.ofNat n) - (Int32.ofNat n)).toUInt32 >>> ((31 : Int32) &&& 31).toUInt32).toInt32).toInt8.toInt32))])) ?_ (fun t k => XS.i2b X0.here hx rfl (hb hby d18_7) rfl k)
  refine Goal.retN (t := .byte) X0 hx hret (by simp) (hb hby d18_8) ?_
  refine ⟨?_, by decide, by decide⟩
  rw [e0]
  exact ⟨congrArg (fun z => some (Value.int z)) (own_coder0 n), N0, rfl⟩
set_option maxRecDepth 65536 in
set_option maxHeartbeats 40000000 in
theorem rmCF1 (l : Launch) (Z : State) (a0 : Array Value) (hw : ∀ d ∈ tables_1, d.before a0 Z = true) (a1 : Nat) (n : Nat) (k1 : ClassId) (f : Nat → Int32) (h0 : Heap) (n0 : Nat) (Z0 : n0 ≤ h0.size) (A1 : Arf Z h0 a1 k1 .byte (2 * n) f) (hn : n ≤ 10) (h0n : 0 < n) :
    Met l (⟨"java/lang/StringUTF16", "coderFromArrayLen", "([BI)B"⟩ : MethodName) jdk_52_method_15_code 2 (some .byte) [] ({ frames := 0, cells := 0, slots := 0, locals := 0 } : Room) Z #[(.ref a1), (.int (Int32.ofNat n))] h0 (fun v h L => v = some (.int (1 : Int32)) ∧ Fr n0 L ∧ h = h0) := by
  refine of_goal (plainFor_of_name (by first | (simp [plainName, overriddenIn]; done) | decide +kernel)) ?_
  intro p e s m below meth c s₁ C X0 e0
  have C0 := C
  obtain ⟨hx, hZ, hby, hml, hret, hown, hnm⟩ := C
  have hown : s.vm.findClass "java/lang/StringUTF16" = some m.cls := hown
  have hret : meth.sig.returnType = (some .byte) := hret
  have N0 := Fr.nil n0
  rw [ef_18]
  refine Goal.step (T' := s₁) (g' := (mkF m 1 #[.val (.ref a1), .val (.int (Int32.ofNat n))] [(.int (Int32.ofNat n))])) ?_ (fun t k => XS.iloadN X0.here hx rfl (hb hby d18_0) rfl k)
  refine Goal.step (T' := s₁) (g' := (mkF m 2 #[.val (.ref a1), .val (.int (Int32.ofNat n))] [(.ref a1), (.int (Int32.ofNat n))])) ?_ (fun t k => XS.aloadN X0.here hx rfl (hb hby d18_1) rfl rfl k)
  obtain ⟨cl1001, Ar1001, q1001, S1001, H1001⟩ := (id A1)
  refine Goal.step (T' := s₁) (g' := (mkF m 3 #[.val (.ref a1), .val (.int (Int32.ofNat n))] [(.int (Int32.ofNat (2 * n))), (.int (Int32.ofNat n))])) ?_ (fun t k => X0.arraylength hx (by rw [e0]; exact Ar1001.1) (State.isArrayOf_alike hZ.alike Ar1001.2.1) (g := (mkF m 2 #[.val (.ref a1), .val (.int (Int32.ofNat n))] [(.ref a1), (.int (Int32.ofNat n))])) rfl rfl (hb hby d18_2) _ (by rw [S1001]; exact k))
  refine Goal.step (T' := s₁) (g' := (mkF m 4 #[.val (.ref a1), .val (.int (Int32.ofNat n))] [(.int ((Int32.ofNat n) - (Int32.ofNat (2 * n))))])) ?_ (fun t k => XS.isub X0.here hx rfl (hb hby d18_3) rfl k)
  refine Goal.step (T' := s₁) (g' := (mkF m 6 #[.val (.ref a1), .val (.int (Int32.ofNat n))] [(.int (31 : Int32)), (.int ((Int32.ofNat n) - (Int32.ofNat (2 * n))))])) ?_ (fun t k => XS.bipush X0.here hx rfl (hb hby d18_4) k)
  refine Goal.step (T' := s₁) (g' := (mkF m 7 #[.val (.ref a1), .val (.int (Int32.ofNat n))] [(.int ((((Int32.ofNat n) - (Int32.ofNat (2 * n))).toUInt32 >>> ((31 : Int32) &&& 31).toUInt32).toInt32))])) ?_ (fun t k => XS.iushr X0.here hx rfl (hb hby d18_6) rfl k)
  refine Goal.step (T' := s₁) (g' := (mkF m 8 #[.val (.ref a1), .val (.int (Int32.ofNat n))] [(.int (((((Int32.ofNat n) - (Int32.ofNat (2 * n))).toUInt32 >>> ((31 : Int32) &&& 31).toUInt32).toInt32).toInt8.toInt32))])) ?_ (fun t k => XS.i2b X0.here hx rfl (hb hby d18_7) rfl k)
  refine Goal.retN (t := .byte) X0 hx hret (by simp) (hb hby d18_8) ?_
  refine ⟨?_, by decide, by decide⟩
  rw [e0]
  exact ⟨congrArg (fun z => some (Value.int z)) (own_coder1 h0n (by omega)), N0, rfl⟩
theorem d5_0 : decode jdk_42_method_149_code 0 = .ok (.aload_n 0, 1) := by decide +kernel
theorem d5_1 : decode jdk_42_method_149_code 1 = .ok (.invokespecial 1, 3) := by decide +kernel
theorem d5_4 : decode jdk_42_method_149_code 4 = .ok (.iload_n 3, 1) := by decide +kernel
theorem d5_5 : decode jdk_42_method_149_code 5 = .ok (.ifCond .ne 22, 3) := by decide +kernel
theorem d5_8 : decode jdk_42_method_149_code 8 = .ok (.aload_n 0, 1) := by decide +kernel
theorem d5_9 : decode jdk_42_method_149_code 9 = .ok (.ldc 7, 2) := by decide +kernel
theorem d5_11 : decode jdk_42_method_149_code 11 = .ok (.getfield 9, 3) := by decide +kernel
theorem d5_14 : decode jdk_42_method_149_code 14 = .ok (.putfield 9, 3) := by decide +kernel
theorem d5_17 : decode jdk_42_method_149_code 17 = .ok (.aload_n 0, 1) := by decide +kernel
theorem d5_18 : decode jdk_42_method_149_code 18 = .ok (.ldc 7, 2) := by decide +kernel
theorem d5_20 : decode jdk_42_method_149_code 20 = .ok (.getfield 15, 3) := by decide +kernel
theorem d5_23 : decode jdk_42_method_149_code 23 = .ok (.putfield 15, 3) := by decide +kernel
theorem d5_26 : decode jdk_42_method_149_code 26 = .ok (.return_, 1) := by decide +kernel
theorem d5_27 : decode jdk_42_method_149_code 27 = .ok (.getstatic 38, 3) := by decide +kernel
theorem d5_30 : decode jdk_42_method_149_code 30 = .ok (.ifCond .eq 28, 3) := by decide +kernel
theorem d5_33 : decode jdk_42_method_149_code 33 = .ok (.aload_n 1, 1) := by decide +kernel
theorem d5_34 : decode jdk_42_method_149_code 34 = .ok (.iload_n 2, 1) := by decide +kernel
theorem d5_35 : decode jdk_42_method_149_code 35 = .ok (.iload_n 3, 1) := by decide +kernel
theorem d5_36 : decode jdk_42_method_149_code 36 = .ok (.invokestatic 177, 3) := by decide +kernel
theorem d5_39 : decode jdk_42_method_149_code 39 = .ok (.astore 5, 2) := by decide +kernel
theorem d5_41 : decode jdk_42_method_149_code 41 = .ok (.aload_n 0, 1) := by decide +kernel
theorem d5_42 : decode jdk_42_method_149_code 42 = .ok (.aload 5, 2) := by decide +kernel
theorem d5_44 : decode jdk_42_method_149_code 44 = .ok (.iload_n 3, 1) := by decide +kernel
theorem d5_45 : decode jdk_42_method_149_code 45 = .ok (.invokestatic 47, 3) := by decide +kernel
theorem pd_12 : parseMethodDescriptor "([BI)B" = some ⟨[(.array .byte), .int], some .byte⟩ := by decide +kernel
theorem d5_48 : decode jdk_42_method_149_code 48 = .ok (.putfield 15, 3) := by decide +kernel
theorem d5_51 : decode jdk_42_method_149_code 51 = .ok (.aload_n 0, 1) := by decide +kernel
theorem d5_52 : decode jdk_42_method_149_code 52 = .ok (.aload 5, 2) := by decide +kernel
theorem d5_54 : decode jdk_42_method_149_code 54 = .ok (.putfield 9, 3) := by decide +kernel
theorem d5_57 : decode jdk_42_method_149_code 57 = .ok (.return_, 1) := by decide +kernel
theorem ef_5 (m : MethodId) (x0 : Nat) (x1 : Nat) (x3 : Int32) : entryFrame m #[(.ref x0), (.ref x1), (.int (0 : Int32)), (.int x3), .null] 6 = mkF m 0 #[.val (.ref x0), .val (.ref x1), .val (.int (0 : Int32)), .val (.int x3), .val .null, .unset] [] := by first | (simp [entryFrame, mkF, argsToLocals, Value.category]; done) | rfl
set_option maxRecDepth 65536 in
set_option maxHeartbeats 40000000 in
theorem rmI4 (l : Launch) (Z : State) (a0 : Array Value) (hw : ∀ d ∈ tables_1, d.before a0 Z = true) (n : Nat) (a1 a2 : Nat) (k1 : ClassId) (f : Nat → Int32) (u1 u2 : Value) (cs : Int32) (fm : Value) (h0 : Heap) (n0 : Nat) (Z0 : n0 ≤ h0.size) (SE : SEnv Z cs fm) (O0 : Old Z n0 h0) (E1 : Exa Z h0 a1 "java/lang/String") (Fv : Fld Z h0 a1 "java/lang/String" "value" "[B" u1) (Fc : Fld Z h0 a1 "java/lang/String" "coder" "B" u2) (hn : n ≤ 10) (hc : ∀ j, j < n → 0 ≤ (f j).toInt ∧ (f j).toInt ≤ 65535) (A2 : Arf Z h0 a2 k1 .char n f) (lt2 : a2 < h0.size) (lt1 : a1 < h0.size) (g1 : n0 ≤ a1) (ne12 : a1 ≠ a2) :
    MetH l (⟨"java/lang/String", "<init>", "([CIILjava/lang/Void;)V"⟩ : MethodName) jdk_42_method_149_code 6 none [] ({ frames := 4, cells := 4, slots := 30, locals := 57 } : Room) Z consts_1 [a1] #[(.ref a1), (.ref a2), (.int (0 : Int32)), (.int (Int32.ofNat n)), .null] h0 (fun v h L => v = none ∧ Fr n0 L ∧ Keep h0 h [a1] ∧ Str Z h a1 n f) := by
  refine of_goalH (plainFor_of_name (by first | (simp [plainName, overriddenIn]; done) | decide +kernel)) ?_
  intro p e s m below meth c s₁ C X0 hS e0 hCH hSf
  have C0 := C
  obtain ⟨hx, hZ, hby, hml, hret, hown, hnm⟩ := C
  have hown : s.vm.findClass "java/lang/String" = some m.cls := hown
  have hret : meth.sig.returnType = none := hret
  have CH0 := CHr.refl hCH
  have N0 := Fr.nil n0
  rw [ef_5]
  rcases Nat.eq_zero_or_pos n with hz | hpos
  · refine GoalH.step (T' := s₁) (g' := (mkF m 1 #[.val (.ref a1), .val (.ref a2), .val (.int (0 : Int32)), .val (.int (Int32.ofNat n)), .val .null, .unset] [(.ref a1)])) ?_ (fun t k => XS.aloadN X0.here hx rfl (hb hby d5_0) rfl rfl k)
    obtain ⟨T1001, X1001, e1001, st1001⟩ := initO X0 hx hZ hown (hw _ (List.mem_of_getElem? (i := 23) rfl)) (hw _ (List.mem_of_getElem? (i := 24) rfl)) (hw _ (List.mem_of_getElem? (i := 25) rfl)) e0 (g := (mkF m 1 #[.val (.ref a1), .val (.ref a2), .val (.int (0 : Int32)), .val (.int (Int32.ofNat n)), .val .null, .unset] [(.ref a1)])) rfl (by rw [hml]; rfl) rfl (hb hby d5_1) (by decide) (W := 0) (by show 2 * 0 + _ ≤ _; exact Nat.le_of_eq rfl) (by decide)
    refine GoalH.step (T' := T1001) (g' := (mkF m 4 #[.val (.ref a1), .val (.ref a2), .val (.int (0 : Int32)), .val (.int (Int32.ofNat n)), .val .null, .unset] [])) ?_ st1001
    refine GoalH.step (T' := T1001) (g' := (mkF m 5 #[.val (.ref a1), .val (.ref a2), .val (.int (0 : Int32)), .val (.int (Int32.ofNat n)), .val .null, .unset] [(.int (Int32.ofNat n))])) ?_ (fun t k => XS.iloadN X1001.here hx rfl (hb hby d5_4) rfl k)
    refine GoalH.step (T' := T1001) (g' := (mkF m 8 #[.val (.ref a1), .val (.ref a2), .val (.int (0 : Int32)), .val (.int (Int32.ofNat n)), .val .null, .unset] [])) ?_ (fun t k => XS.ifNo X1001.here hx rfl (hb hby d5_5) rfl ((if0 _ _).trans (teq (by rw [hz]; rfl)).2) k)
    refine GoalH.step (T' := T1001) (g' := (mkF m 9 #[.val (.ref a1), .val (.ref a2), .val (.int (0 : Int32)), .val (.int (Int32.ofNat n)), .val .null, .unset] [(.ref a1)])) ?_ (fun t k => XS.aloadN X1001.here hx rfl (hb hby d5_8) rfl rfl k)
    obtain ⟨b1002, T1002, h1002, k1002, bv1002, kv1002, X1002, e1002, E1002, hS, hk1002, hZ, hown, Ex1002, Fc1002, Fv1002, Av1002, lt_b1002, lt_bv1002, C1002, -, ne1002, st1002⟩ := ldcCH X1001 hx hZ hown (hw _ (List.mem_of_getElem? (i := 26) rfl)) (own_atoms hw) e1001 hS (by omega) (own_EW hw) (by simp [consts_1]) CH0.1 (vs := []) (z := 0) ⟨by simp, rfl⟩ (by decide) rfl (g := (mkF m 9 #[.val (.ref a1), .val (.ref a2), .val (.int (0 : Int32)), .val (.int (Int32.ofNat n)), .val .null, .unset] [(.ref a1)])) rfl (hb hby d5_9) (n := 0) (by decide) (by decide) (by decide) (by decide)
    refine GoalH.step (T' := T1002) (g' := (mkF m 11 #[.val (.ref a1), .val (.ref a2), .val (.int (0 : Int32)), .val (.int (Int32.ofNat n)), .val .null, .unset] [(.ref b1002), (.ref a1)])) ?_ st1002
    have sz1003 : h0.size ≤ h1002.size := E1002.1
    have CH1002 := CHr.trans CH0 C1002
    have Sf1002_a1 := C1002.safe (show (a1 : Nat) < h0.size by omega) (hSf a1 (by simp)).2
    have nb1002_a1 : ¬ (a1 : Nat) = b1002 := (ne1002 a1 Sf1002_a1).1
    have nv1002_a1 : ¬ (a1 : Nat) = bv1002 := (ne1002 a1 Sf1002_a1).2
    have Af1002 : Arf Z h1002 bv1002 kv1002 .byte 0 (fun _ => 0) := own_empty Av1002
    obtain ⟨T1004, X1004, e1004, st1004⟩ := getF X1002 hx hZ hown (host := "") (Or.inl (hw _ (List.mem_of_getElem? (i := 32) rfl))) Via.refl e1002 Fv1002 (g := (mkF m 11 #[.val (.ref a1), .val (.ref a2), .val (.int (0 : Int32)), .val (.int (Int32.ofNat n)), .val .null, .unset] [(.ref b1002), (.ref a1)])) rfl rfl (hb hby d5_11)
    refine GoalH.step (T' := T1004) (g' := (mkF m 14 #[.val (.ref a1), .val (.ref a2), .val (.int (0 : Int32)), .val (.int (Int32.ofNat n)), .val .null, .unset] [(.ref bv1002), (.ref a1)])) ?_ st1004
    have f1005 : Fld Z h1002 a1 "java/lang/String" "value" "[B" u1 := (Fv.ext E1002)
    have f1006 : Exa Z h1002 a1 "java/lang/String" := (E1.ext E1002)
    obtain ⟨T1007, h1007, X1007, e1007, W1007, st1007⟩ := putF X1004 hx hZ hown (host := "") (Or.inl (hw _ (List.mem_of_getElem? (i := 32) rfl))) Via.refl e1004 f1005 f1006 (Or.inr ⟨(hw _ (List.mem_of_getElem? (i := 28) rfl)), rfl, hnm⟩) (hw _ (List.mem_of_getElem? (i := 14) rfl)) (ty := (.array .byte)) (by decide) rfl rfl (g := (mkF m 14 #[.val (.ref a1), .val (.ref a2), .val (.int (0 : Int32)), .val (.int (Int32.ofNat n)), .val .null, .unset] [(.ref bv1002), (.ref a1)])) rfl rfl (hb hby d5_14)
    refine GoalH.step (T' := T1007) (g' := (mkF m 17 #[.val (.ref a1), .val (.ref a2), .val (.int (0 : Int32)), .val (.int (Int32.ofNat n)), .val .null, .unset] [])) ?_ st1007
    have sz1008 : h1002.size ≤ h1007.size := Nat.le_of_eq W1007.size.symm
    have F1007 := Fld.same W1007 f1005
    have N1007 := Fr.snoc X1007 N0 (by omega : n0 ≤ a1)
    refine GoalH.step (T' := T1007) (g' := (mkF m 18 #[.val (.ref a1), .val (.ref a2), .val (.int (0 : Int32)), .val (.int (Int32.ofNat n)), .val .null, .unset] [(.ref a1)])) ?_ (fun t k => XS.aloadN X1007.here hx rfl (hb hby d5_17) rfl rfl k)
    have kk1009 : Keep h1002 h1007 [a1] := ((Keep.refl h1002 [a1]).wr W1007 (Or.inl (by simp)))
    have CH1010 := CHr.trans CH1002 (CHr.keep kk1009 (allS Sf1002_a1 all0) CH1002.1)
    have Sf1010_a1 := Safe.keep kk1009 (allS Sf1002_a1 all0) CH1002.1 Sf1002_a1
    obtain ⟨b1011, T1011, h1011, k1011, bv1011, kv1011, X1011, e1011, E1011, hS, hk1011, hZ, hown, Ex1011, Fc1011, Fv1011, Av1011, lt_b1011, lt_bv1011, C1011, -, ne1011, st1011⟩ := ldcCH X1007 hx hZ hown (hw _ (List.mem_of_getElem? (i := 26) rfl)) (own_atoms hw) e1007 hS (by omega) (own_EW hw) (by simp [consts_1]) CH1010.1 (vs := []) (z := 0) ⟨by simp, rfl⟩ (by decide) rfl (g := (mkF m 18 #[.val (.ref a1), .val (.ref a2), .val (.int (0 : Int32)), .val (.int (Int32.ofNat n)), .val .null, .unset] [(.ref a1)])) rfl (hb hby d5_18) (n := 0) (by decide) (by decide) (by decide) (by decide)
    refine GoalH.step (T' := T1011) (g' := (mkF m 20 #[.val (.ref a1), .val (.ref a2), .val (.int (0 : Int32)), .val (.int (Int32.ofNat n)), .val .null, .unset] [(.ref b1011), (.ref a1)])) ?_ st1011
    have sz1012 : h1007.size ≤ h1011.size := E1011.1
    have CH1011 := CHr.trans CH1010 C1011
    have Sf1011_a1 := C1011.safe (show (a1 : Nat) < h1007.size by omega) Sf1010_a1
    have nb1011_a1 : ¬ (a1 : Nat) = b1011 := (ne1011 a1 Sf1011_a1).1
    have nv1011_a1 : ¬ (a1 : Nat) = bv1011 := (ne1011 a1 Sf1011_a1).2
    have Af1011 : Arf Z h1011 bv1011 kv1011 .byte 0 (fun _ => 0) := own_empty Av1011
    obtain ⟨T1013, X1013, e1013, st1013⟩ := getF X1011 hx hZ hown (host := "") (Or.inl (hw _ (List.mem_of_getElem? (i := 33) rfl))) Via.refl e1011 Fc1011 (g := (mkF m 20 #[.val (.ref a1), .val (.ref a2), .val (.int (0 : Int32)), .val (.int (Int32.ofNat n)), .val .null, .unset] [(.ref b1011), (.ref a1)])) rfl rfl (hb hby d5_20)
    refine GoalH.step (T' := T1013) (g' := (mkF m 23 #[.val (.ref a1), .val (.ref a2), .val (.int (0 : Int32)), .val (.int (Int32.ofNat n)), .val .null, .unset] [(.int (0 : Int32)), (.ref a1)])) ?_ st1013
    have f1014 : Fld Z h1011 a1 "java/lang/String" "coder" "B" u2 := ((Fld.other W1007 (Fc.ext E1002) (Or.inr (slot_ne (Or.inr (hw _ (List.mem_of_getElem? (i := 29) rfl))) (Or.inr (hw _ (List.mem_of_getElem? (i := 28) rfl))) (by decide) (t := .byte) (t' := (.array .byte)) (by decide) (by decide)))).ext E1011)
    have f1015 : Exa Z h1011 a1 "java/lang/String" := ((Exa.wr W1007 f1006).ext E1011)
    obtain ⟨T1016, h1016, X1016, e1016, W1016, st1016⟩ := putFN X1013 hx hZ hown (hw _ (List.mem_of_getElem? (i := 33) rfl)) Via.refl e1013 f1014 f1015 (Or.inr ⟨(hw _ (List.mem_of_getElem? (i := 29) rfl)), rfl, hnm⟩) (hw _ (List.mem_of_getElem? (i := 14) rfl)) (ty := .byte) (v' := .int (nar .byte (0 : Int32))) (by decide) rfl (fits_nar_byte _) (g := (mkF m 23 #[.val (.ref a1), .val (.ref a2), .val (.int (0 : Int32)), .val (.int (Int32.ofNat n)), .val .null, .unset] [(.int (0 : Int32)), (.ref a1)])) rfl rfl (hb hby d5_23)
    refine GoalH.step (T' := T1016) (g' := (mkF m 26 #[.val (.ref a1), .val (.ref a2), .val (.int (0 : Int32)), .val (.int (Int32.ofNat n)), .val .null, .unset] [])) ?_ st1016
    have sz1017 : h1011.size ≤ h1016.size := Nat.le_of_eq W1016.size.symm
    have F1016 := Fld.same W1016 f1014
    have N1016 := Fr.snoc X1016 N1007 (by omega : n0 ≤ a1)
    have kk1018 : Keep h1011 h1016 [a1] := ((Keep.refl h1011 [a1]).wr W1016 (Or.inl (by simp)))
    have CH1019 := CHr.trans CH1011 (CHr.keep kk1018 (allS Sf1011_a1 all0) CH1011.1)
    have Sf1019_a1 := Safe.keep kk1018 (allS Sf1011_a1 all0) CH1011.1 Sf1011_a1
    refine GoalH.retV X1016 hS (by rw [e1016]; omega) hZ (own_EW hw) (by rw [e1016]; exact CH1019) hx hret (hb hby d5_26) ?_
    have k1020 : Keep h0 h1016 [a1] := (((((Keep.refl h0 [a1]).ext E1002).wr W1007 (Or.inl (by simp))).ext E1011).wr W1016 (Or.inl (by simp)))
    have f1021 : Arf Z h1016 bv1002 kv1002 .byte 0 (fun _ => 0) := (((Af1002.other W1007 (nne (by omega))).ext E1011).other W1016 (nne (by omega)))
    have f1022 : Exa Z h1016 a1 "java/lang/String" := (Exa.wr W1016 f1015)
    have f1023 : Fld Z h1016 a1 "java/lang/String" "value" "[B" (.ref bv1002) := (Fld.other W1016 (F1007.ext E1011) (Or.inr (slot_ne (Or.inr (hw _ (List.mem_of_getElem? (i := 28) rfl))) (Or.inr (hw _ (List.mem_of_getElem? (i := 29) rfl))) (by decide) (t := (.array .byte)) (t' := .byte) (by decide) (by decide))))
    refine ⟨?_, by decide, by decide⟩
    rw [e1016]
    exact ⟨rfl, N1016, k1020, ⟨by omega, hc⟩, f1022, _, _, f1023, Or.inl ⟨F1016, fun i hi => by omega, by rw [hz]; exact Arf.congr f1021 (fun i hi => absurd hi (Nat.not_lt_zero _))⟩⟩
  · refine GoalH.step (T' := s₁) (g' := (mkF m 1 #[.val (.ref a1), .val (.ref a2), .val (.int (0 : Int32)), .val (.int (Int32.ofNat n)), .val .null, .unset] [(.ref a1)])) ?_ (fun t k => XS.aloadN X0.here hx rfl (hb hby d5_0) rfl rfl k)
    obtain ⟨T1024, X1024, e1024, st1024⟩ := initO X0 hx hZ hown (hw _ (List.mem_of_getElem? (i := 23) rfl)) (hw _ (List.mem_of_getElem? (i := 24) rfl)) (hw _ (List.mem_of_getElem? (i := 25) rfl)) e0 (g := (mkF m 1 #[.val (.ref a1), .val (.ref a2), .val (.int (0 : Int32)), .val (.int (Int32.ofNat n)), .val .null, .unset] [(.ref a1)])) rfl (by rw [hml]; rfl) rfl (hb hby d5_1) (by decide) (W := 0) (by show 2 * 0 + _ ≤ _; exact Nat.le_of_eq rfl) (by decide)
    refine GoalH.step (T' := T1024) (g' := (mkF m 4 #[.val (.ref a1), .val (.ref a2), .val (.int (0 : Int32)), .val (.int (Int32.ofNat n)), .val .null, .unset] [])) ?_ st1024
    refine GoalH.step (T' := T1024) (g' := (mkF m 5 #[.val (.ref a1), .val (.ref a2), .val (.int (0 : Int32)), .val (.int (Int32.ofNat n)), .val .null, .unset] [(.int (Int32.ofNat n))])) ?_ (fun t k => XS.iloadN X1024.here hx rfl (hb hby d5_4) rfl k)
    refine GoalH.step (T' := T1024) (g' := (mkF m 27 #[.val (.ref a1), .val (.ref a2), .val (.int (0 : Int32)), .val (.int (Int32.ofNat n)), .val .null, .unset] [])) ?_ (fun t k => XS.ifYes X1024.here hx rfl (pc0 := 5) (pc' := 27) rfl (hb hby d5_5) rfl ((if0 _ _).trans (feq (nat_pos hpos (by omega))).2) (by decide) (by decide) k)
    have S1025 : Sta Z h0 "java/lang/String" "COMPACT_STRINGS" "Z" (.int cs) := Sta.ext O0.2 SE.1
    obtain ⟨T1026, X1026, e1026, st1026⟩ := getS2 X1024 hx hZ hown (host := "") (Or.inl (hw _ (List.mem_of_getElem? (i := 54) rfl))) Via.refl e1024 S1025 (g := (mkF m 27 #[.val (.ref a1), .val (.ref a2), .val (.int (0 : Int32)), .val (.int (Int32.ofNat n)), .val .null, .unset] [])) rfl (hb hby d5_27)
    refine GoalH.step (T' := T1026) (g' := (mkF m 30 #[.val (.ref a1), .val (.ref a2), .val (.int (0 : Int32)), .val (.int (Int32.ofNat n)), .val .null, .unset] [(.int cs)])) ?_ st1026
    refine GoalH.step (T' := T1026) (g' := (mkF m 33 #[.val (.ref a1), .val (.ref a2), .val (.int (0 : Int32)), .val (.int (Int32.ofNat n)), .val .null, .unset] [])) ?_ (fun t k => XS.ifNo X1026.here hx rfl (hb hby d5_30) rfl ((if0 _ _).trans (feq SE.2.1).1) k)
    refine GoalH.step (T' := T1026) (g' := (mkF m 34 #[.val (.ref a1), .val (.ref a2), .val (.int (0 : Int32)), .val (.int (Int32.ofNat n)), .val .null, .unset] [(.ref a2)])) ?_ (fun t k => XS.aloadN X1026.here hx rfl (hb hby d5_33) rfl rfl k)
    refine GoalH.step (T' := T1026) (g' := (mkF m 35 #[.val (.ref a1), .val (.ref a2), .val (.int (0 : Int32)), .val (.int (Int32.ofNat n)), .val .null, .unset] [(.int (0 : Int32)), (.ref a2)])) ?_ (fun t k => XS.iloadN X1026.here hx rfl (hb hby d5_34) rfl k)
    refine GoalH.step (T' := T1026) (g' := (mkF m 36 #[.val (.ref a1), .val (.ref a2), .val (.int (0 : Int32)), .val (.int (Int32.ofNat n)), .val .null, .unset] [(.int (Int32.ofNat n)), (.int (0 : Int32)), (.ref a2)])) ?_ (fun t k => XS.iloadN X1026.here hx rfl (hb hby d5_35) rfl k)
    obtain ⟨v1027, T1027, h1027, L1027, X1027, e1027, hQ1027, st1027⟩ := callStatic X1026 hx hZ hown (hw _ (List.mem_of_getElem? (i := 55) rfl)) (hw _ (List.mem_of_getElem? (i := 56) rfl)) (hw _ (List.mem_of_getElem? (i := 57) rfl)) (hw _ (List.mem_of_getElem? (i := 58) rfl)) (by decide) (rmC3 l Z a0 hw n a2 k1 f cs fm h0 n0 (by omega) SE O0 hn hc A2 (by omega)) e1026 (W := 0) (by decide) (by decide) (by decide) (by decide) (g := (mkF m 36 #[.val (.ref a1), .val (.ref a2), .val (.int (0 : Int32)), .val (.int (Int32.ofNat n)), .val .null, .unset] [(.int (Int32.ofNat n)), (.int (0 : Int32)), (.ref a2)])) rfl (by rw [hml]; rfl) (argsL := [(.ref a2), (.int (0 : Int32)), (.int (Int32.ofNat n))]) (rest := []) (lenOf pd_11 rfl) rfl (by show 2 * 0 + _ ≤ _; exact Nat.le_of_eq rfl) (hb hby d5_36) rfl
    obtain ⟨b1, k2, rfl, M1027, E1027, lo1027, lt_b1, hr1027⟩ := hQ1027
    have N1027 := Fr.app N0 M1027
    rcases hr1027 with ⟨hlat, V1027⟩ | ⟨-, V1027⟩
    · refine GoalH.step (T' := T1027) (g' := (mkF m 39 #[.val (.ref a1), .val (.ref a2), .val (.int (0 : Int32)), .val (.int (Int32.ofNat n)), .val .null, .unset] [(.ref b1)])) ?_ st1027
      have sz1028 : h0.size ≤ h1027.size := E1027.1
      refine GoalH.step (T' := T1027) (g' := (mkF m 41 #[.val (.ref a1), .val (.ref a2), .val (.int (0 : Int32)), .val (.int (Int32.ofNat n)), .val .null, .val (.ref b1)] [])) ?_ (fun t k => XS.astore X1027.here hx rfl (hb hby d5_39) rfl rfl (l' := #[.val (.ref a1), .val (.ref a2), .val (.int (0 : Int32)), .val (.int (Int32.ofNat n)), .val .null, .val (.ref b1)]) rfl k)
      refine GoalH.step (T' := T1027) (g' := (mkF m 42 #[.val (.ref a1), .val (.ref a2), .val (.int (0 : Int32)), .val (.int (Int32.ofNat n)), .val .null, .val (.ref b1)] [(.ref a1)])) ?_ (fun t k => XS.aloadN X1027.here hx rfl (hb hby d5_41) rfl rfl k)
      refine GoalH.step (T' := T1027) (g' := (mkF m 44 #[.val (.ref a1), .val (.ref a2), .val (.int (0 : Int32)), .val (.int (Int32.ofNat n)), .val .null, .val (.ref b1)] [(.ref b1), (.ref a1)])) ?_ (fun t k => XS.aload X1027.here hx rfl (hb hby d5_42) rfl rfl k)
      refine GoalH.step (T' := T1027) (g' := (mkF m 45 #[.val (.ref a1), .val (.ref a2), .val (.int (0 : Int32)), .val (.int (Int32.ofNat n)), .val .null, .val (.ref b1)] [(.int (Int32.ofNat n)), (.ref b1), (.ref a1)])) ?_ (fun t k => XS.iloadN X1027.here hx rfl (hb hby d5_44) rfl k)
      obtain ⟨v1029, T1029, h1029, L1029, X1029, e1029, hQ1029, st1029⟩ := callStatic X1027 hx hZ hown (hw _ (List.mem_of_getElem? (i := 81) rfl)) (hw _ (List.mem_of_getElem? (i := 82) rfl)) (hw _ (List.mem_of_getElem? (i := 57) rfl)) (hw _ (List.mem_of_getElem? (i := 83) rfl)) (by decide) (rmCF0 l Z a0 hw b1 n k2 (lat f) h1027 n0 (by omega) V1027 hn) e1027 (W := 1) (by decide) (by decide) (by decide) (by decide) (g := (mkF m 45 #[.val (.ref a1), .val (.ref a2), .val (.int (0 : Int32)), .val (.int (Int32.ofNat n)), .val .null, .val (.ref b1)] [(.int (Int32.ofNat n)), (.ref b1), (.ref a1)])) rfl (by rw [hml]; rfl) (argsL := [(.ref b1), (.int (Int32.ofNat n))]) (rest := [(.ref a1)]) (lenOf pd_12 rfl) rfl (by show 2 * 0 + _ ≤ _; exact Nat.le_of_eq rfl) (hb hby d5_45) rfl
      obtain ⟨rfl, M1029, q1029⟩ := hQ1029
      rw [q1029] at e1029
      have N1029 := Fr.app N1027 M1029
      refine GoalH.step (T' := T1029) (g' := (mkF m 48 #[.val (.ref a1), .val (.ref a2), .val (.int (0 : Int32)), .val (.int (Int32.ofNat n)), .val .null, .val (.ref b1)] [(.int (0 : Int32)), (.ref a1)])) ?_ st1029
      have f1030 : Fld Z h1027 a1 "java/lang/String" "coder" "B" u2 := (Fc.ext E1027)
      have f1031 : Exa Z h1027 a1 "java/lang/String" := (E1.ext E1027)
      obtain ⟨T1032, h1032, X1032, e1032, W1032, st1032⟩ := putFN X1029 hx hZ hown (hw _ (List.mem_of_getElem? (i := 33) rfl)) Via.refl e1029 f1030 f1031 (Or.inr ⟨(hw _ (List.mem_of_getElem? (i := 29) rfl)), rfl, hnm⟩) (hw _ (List.mem_of_getElem? (i := 14) rfl)) (ty := .byte) (v' := .int (nar .byte (0 : Int32))) (by decide) rfl (fits_nar_byte _) (g := (mkF m 48 #[.val (.ref a1), .val (.ref a2), .val (.int (0 : Int32)), .val (.int (Int32.ofNat n)), .val .null, .val (.ref b1)] [(.int (0 : Int32)), (.ref a1)])) rfl rfl (hb hby d5_48)
      refine GoalH.step (T' := T1032) (g' := (mkF m 51 #[.val (.ref a1), .val (.ref a2), .val (.int (0 : Int32)), .val (.int (Int32.ofNat n)), .val .null, .val (.ref b1)] [])) ?_ st1032
      have sz1033 : h1027.size ≤ h1032.size := Nat.le_of_eq W1032.size.symm
      have F1032 := Fld.same W1032 f1030
      have N1032 := Fr.snoc X1032 N1029 (by omega : n0 ≤ a1)
      refine GoalH.step (T' := T1032) (g' := (mkF m 52 #[.val (.ref a1), .val (.ref a2), .val (.int (0 : Int32)), .val (.int (Int32.ofNat n)), .val .null, .val (.ref b1)] [(.ref a1)])) ?_ (fun t k => XS.aloadN X1032.here hx rfl (hb hby d5_51) rfl rfl k)
      refine GoalH.step (T' := T1032) (g' := (mkF m 54 #[.val (.ref a1), .val (.ref a2), .val (.int (0 : Int32)), .val (.int (Int32.ofNat n)), .val .null, .val (.ref b1)] [(.ref b1), (.ref a1)])) ?_ (fun t k => XS.aload X1032.here hx rfl (hb hby d5_52) rfl rfl k)
      have f1034 : Fld Z h1032 a1 "java/lang/String" "value" "[B" u1 := (Fld.other W1032 (Fv.ext E1027) (Or.inr (slot_ne (Or.inr (hw _ (List.mem_of_getElem? (i := 28) rfl))) (Or.inr (hw _ (List.mem_of_getElem? (i := 29) rfl))) (by decide) (t := (.array .byte)) (t' := .byte) (by decide) (by decide))))
      have f1035 : Exa Z h1032 a1 "java/lang/String" := (Exa.wr W1032 f1031)
      obtain ⟨T1036, h1036, X1036, e1036, W1036, st1036⟩ := putF X1032 hx hZ hown (host := "") (Or.inl (hw _ (List.mem_of_getElem? (i := 32) rfl))) Via.refl e1032 f1034 f1035 (Or.inr ⟨(hw _ (List.mem_of_getElem? (i := 28) rfl)), rfl, hnm⟩) (hw _ (List.mem_of_getElem? (i := 14) rfl)) (ty := (.array .byte)) (by decide) rfl rfl (g := (mkF m 54 #[.val (.ref a1), .val (.ref a2), .val (.int (0 : Int32)), .val (.int (Int32.ofNat n)), .val .null, .val (.ref b1)] [(.ref b1), (.ref a1)])) rfl rfl (hb hby d5_54)
      refine GoalH.step (T' := T1036) (g' := (mkF m 57 #[.val (.ref a1), .val (.ref a2), .val (.int (0 : Int32)), .val (.int (Int32.ofNat n)), .val .null, .val (.ref b1)] [])) ?_ st1036
      have sz1037 : h1032.size ≤ h1036.size := Nat.le_of_eq W1036.size.symm
      have F1036 := Fld.same W1036 f1034
      have N1036 := Fr.snoc X1036 N1032 (by omega : n0 ≤ a1)
      have kk1038 : Keep h0 h1036 [a1] := ((((Keep.refl h0 [a1]).ext E1027).wr W1032 (Or.inl (by simp))).wr W1036 (Or.inl (by simp)))
      have CH1039 := CHr.trans CH0 (CHr.keep kk1038 (allS (hSf a1 (by simp)).2 all0) CH0.1)
      have Sf1039_a1 := Safe.keep kk1038 (allS (hSf a1 (by simp)).2 all0) CH0.1 (hSf a1 (by simp)).2
      refine GoalH.retV X1036 hS (by rw [e1036]; omega) hZ (own_EW hw) (by rw [e1036]; exact CH1039) hx hret (hb hby d5_57) ?_
      have k1040 : Keep h0 h1036 [a1] := ((((Keep.refl h0 [a1]).ext E1027).wr W1032 (Or.inl (by simp))).wr W1036 (Or.inl (by simp)))
      have f1041 : Arf Z h1036 b1 k2 .byte n (lat f) := ((V1027.other W1032 (nne (by omega))).other W1036 (nne (by omega)))
      have f1042 : Exa Z h1036 a1 "java/lang/String" := (Exa.wr W1036 f1035)
      have f1043 : Fld Z h1036 a1 "java/lang/String" "coder" "B" (.int (nar .byte (0 : Int32))) := (Fld.other W1036 F1032 (Or.inr (slot_ne (Or.inr (hw _ (List.mem_of_getElem? (i := 29) rfl))) (Or.inr (hw _ (List.mem_of_getElem? (i := 28) rfl))) (by decide) (t := .byte) (t' := (.array .byte)) (by decide) (by decide))))
      refine ⟨?_, by decide, by decide⟩
      rw [e1036]
      exact ⟨rfl, N1036, k1040, ⟨by omega, hc⟩, f1042, _, _, F1036, Or.inl ⟨f1043, hlat, f1041⟩⟩
    · refine GoalH.step (T' := T1027) (g' := (mkF m 39 #[.val (.ref a1), .val (.ref a2), .val (.int (0 : Int32)), .val (.int (Int32.ofNat n)), .val .null, .unset] [(.ref b1)])) ?_ st1027
      have sz1044 : h0.size ≤ h1027.size := E1027.1
      refine GoalH.step (T' := T1027) (g' := (mkF m 41 #[.val (.ref a1), .val (.ref a2), .val (.int (0 : Int32)), .val (.int (Int32.ofNat n)), .val .null, .val (.ref b1)] [])) ?_ (fun t k => XS.astore X1027.here hx rfl (hb hby d5_39) rfl rfl (l' := #[.val (.ref a1), .val (.ref a2), .val (.int (0 : Int32)), .val (.int (Int32.ofNat n)), .val .null, .val (.ref b1)]) rfl k)
      refine GoalH.step (T' := T1027) (g' := (mkF m 42 #[.val (.ref a1), .val (.ref a2), .val (.int (0 : Int32)), .val (.int (Int32.ofNat n)), .val .null, .val (.ref b1)] [(.ref a1)])) ?_ (fun t k => XS.aloadN X1027.here hx rfl (hb hby d5_41) rfl rfl k)
      refine GoalH.step (T' := T1027) (g' := (mkF m 44 #[.val (.ref a1), .val (.ref a2), .val (.int (0 : Int32)), .val (.int (Int32.ofNat n)), .val .null, .val (.ref b1)] [(.ref b1), (.ref a1)])) ?_ (fun t k => XS.aload X1027.here hx rfl (hb hby d5_42) rfl rfl k)
      refine GoalH.step (T' := T1027) (g' := (mkF m 45 #[.val (.ref a1), .val (.ref a2), .val (.int (0 : Int32)), .val (.int (Int32.ofNat n)), .val .null, .val (.ref b1)] [(.int (Int32.ofNat n)), (.ref b1), (.ref a1)])) ?_ (fun t k => XS.iloadN X1027.here hx rfl (hb hby d5_44) rfl k)
      obtain ⟨v1045, T1045, h1045, L1045, X1045, e1045, hQ1045, st1045⟩ := callStatic X1027 hx hZ hown (hw _ (List.mem_of_getElem? (i := 81) rfl)) (hw _ (List.mem_of_getElem? (i := 82) rfl)) (hw _ (List.mem_of_getElem? (i := 57) rfl)) (hw _ (List.mem_of_getElem? (i := 83) rfl)) (by decide) (rmCF1 l Z a0 hw b1 n k2 (utf f) h1027 n0 (by omega) V1027 hn hpos) e1027 (W := 1) (by decide) (by decide) (by decide) (by decide) (g := (mkF m 45 #[.val (.ref a1), .val (.ref a2), .val (.int (0 : Int32)), .val (.int (Int32.ofNat n)), .val .null, .val (.ref b1)] [(.int (Int32.ofNat n)), (.ref b1), (.ref a1)])) rfl (by rw [hml]; rfl) (argsL := [(.ref b1), (.int (Int32.ofNat n))]) (rest := [(.ref a1)]) (lenOf pd_12 rfl) rfl (by show 2 * 0 + _ ≤ _; exact Nat.le_of_eq rfl) (hb hby d5_45) rfl
      obtain ⟨rfl, M1045, q1045⟩ := hQ1045
      rw [q1045] at e1045
      have N1045 := Fr.app N1027 M1045
      refine GoalH.step (T' := T1045) (g' := (mkF m 48 #[.val (.ref a1), .val (.ref a2), .val (.int (0 : Int32)), .val (.int (Int32.ofNat n)), .val .null, .val (.ref b1)] [(.int (1 : Int32)), (.ref a1)])) ?_ st1045
      have f1046 : Fld Z h1027 a1 "java/lang/String" "coder" "B" u2 := (Fc.ext E1027)
      have f1047 : Exa Z h1027 a1 "java/lang/String" := (E1.ext E1027)
      obtain ⟨T1048, h1048, X1048, e1048, W1048, st1048⟩ := putFN X1045 hx hZ hown (hw _ (List.mem_of_getElem? (i := 33) rfl)) Via.refl e1045 f1046 f1047 (Or.inr ⟨(hw _ (List.mem_of_getElem? (i := 29) rfl)), rfl, hnm⟩) (hw _ (List.mem_of_getElem? (i := 14) rfl)) (ty := .byte) (v' := .int (nar .byte (1 : Int32))) (by decide) rfl (fits_nar_byte _) (g := (mkF m 48 #[.val (.ref a1), .val (.ref a2), .val (.int (0 : Int32)), .val (.int (Int32.ofNat n)), .val .null, .val (.ref b1)] [(.int (1 : Int32)), (.ref a1)])) rfl rfl (hb hby d5_48)
      refine GoalH.step (T' := T1048) (g' := (mkF m 51 #[.val (.ref a1), .val (.ref a2), .val (.int (0 : Int32)), .val (.int (Int32.ofNat n)), .val .null, .val (.ref b1)] [])) ?_ st1048
      have sz1049 : h1027.size ≤ h1048.size := Nat.le_of_eq W1048.size.symm
      have F1048 := Fld.same W1048 f1046
      have N1048 := Fr.snoc X1048 N1045 (by omega : n0 ≤ a1)
      refine GoalH.step (T' := T1048) (g' := (mkF m 52 #[.val (.ref a1), .val (.ref a2), .val (.int (0 : Int32)), .val (.int (Int32.ofNat n)), .val .null, .val (.ref b1)] [(.ref a1)])) ?_ (fun t k => XS.aloadN X1048.here hx rfl (hb hby d5_51) rfl rfl k)
      refine GoalH.step (T' := T1048) (g' := (mkF m 54 #[.val (.ref a1), .val (.ref a2), .val (.int (0 : Int32)), .val (.int (Int32.ofNat n)), .val .null, .val (.ref b1)] [(.ref b1), (.ref a1)])) ?_ (fun t k => XS.aload X1048.here hx rfl (hb hby d5_52) rfl rfl k)
      have f1050 : Fld Z h1048 a1 "java/lang/String" "value" "[B" u1 := (Fld.other W1048 (Fv.ext E1027) (Or.inr (slot_ne (Or.inr (hw _ (List.mem_of_getElem? (i := 28) rfl))) (Or.inr (hw _ (List.mem_of_getElem? (i := 29) rfl))) (by decide) (t := (.array .byte)) (t' := .byte) (by decide) (by decide))))
      have f1051 : Exa Z h1048 a1 "java/lang/String" := (Exa.wr W1048 f1047)
      obtain ⟨T1052, h1052, X1052, e1052, W1052, st1052⟩ := putF X1048 hx hZ hown (host := "") (Or.inl (hw _ (List.mem_of_getElem? (i := 32) rfl))) Via.refl e1048 f1050 f1051 (Or.inr ⟨(hw _ (List.mem_of_getElem? (i := 28) rfl)), rfl, hnm⟩) (hw _ (List.mem_of_getElem? (i := 14) rfl)) (ty := (.array .byte)) (by decide) rfl rfl (g := (mkF m 54 #[.val (.ref a1), .val (.ref a2), .val (.int (0 : Int32)), .val (.int (Int32.ofNat n)), .val .null, .val (.ref b1)] [(.ref b1), (.ref a1)])) rfl rfl (hb hby d5_54)
      refine GoalH.step (T' := T1052) (g' := (mkF m 57 #[.val (.ref a1), .val (.ref a2), .val (.int (0 : Int32)), .val (.int (Int32.ofNat n)), .val .null, .val (.ref b1)] [])) ?_ st1052
      have sz1053 : h1048.size ≤ h1052.size := Nat.le_of_eq W1052.size.symm
      have F1052 := Fld.same W1052 f1050
      have N1052 := Fr.snoc X1052 N1048 (by omega : n0 ≤ a1)
      have kk1054 : Keep h0 h1052 [a1] := ((((Keep.refl h0 [a1]).ext E1027).wr W1048 (Or.inl (by simp))).wr W1052 (Or.inl (by simp)))
      have CH1055 := CHr.trans CH0 (CHr.keep kk1054 (allS (hSf a1 (by simp)).2 all0) CH0.1)
      have Sf1055_a1 := Safe.keep kk1054 (allS (hSf a1 (by simp)).2 all0) CH0.1 (hSf a1 (by simp)).2
      refine GoalH.retV X1052 hS (by rw [e1052]; omega) hZ (own_EW hw) (by rw [e1052]; exact CH1055) hx hret (hb hby d5_57) ?_
      have k1056 : Keep h0 h1052 [a1] := ((((Keep.refl h0 [a1]).ext E1027).wr W1048 (Or.inl (by simp))).wr W1052 (Or.inl (by simp)))
      have f1057 : Arf Z h1052 b1 k2 .byte (2 * n) (utf f) := ((V1027.other W1048 (nne (by omega))).other W1052 (nne (by omega)))
      have f1058 : Exa Z h1052 a1 "java/lang/String" := (Exa.wr W1052 f1051)
      have f1059 : Fld Z h1052 a1 "java/lang/String" "coder" "B" (.int (nar .byte (1 : Int32))) := (Fld.other W1052 F1048 (Or.inr (slot_ne (Or.inr (hw _ (List.mem_of_getElem? (i := 29) rfl))) (Or.inr (hw _ (List.mem_of_getElem? (i := 28) rfl))) (by decide) (t := .byte) (t' := (.array .byte)) (by decide) (by decide))))
      refine ⟨?_, by decide, by decide⟩
      rw [e1052]
      exact ⟨rfl, N1052, k1056, ⟨by omega, hc⟩, f1058, _, _, F1052, Or.inr ⟨f1059, f1057⟩⟩
theorem d4_0 : decode jdk_42_method_3_code 0 = .ok (.aload_n 0, 1) := by decide +kernel
theorem d4_1 : decode jdk_42_method_3_code 1 = .ok (.aload_n 1, 1) := by decide +kernel
theorem d4_2 : decode jdk_42_method_3_code 2 = .ok (.iconst 0, 1) := by decide +kernel
theorem d4_3 : decode jdk_42_method_3_code 3 = .ok (.aload_n 1, 1) := by decide +kernel
theorem d4_4 : decode jdk_42_method_3_code 4 = .ok (.arraylength, 1) := by decide +kernel
theorem d4_5 : decode jdk_42_method_3_code 5 = .ok (.aconst_null, 1) := by decide +kernel
theorem d4_6 : decode jdk_42_method_3_code 6 = .ok (.invokespecial 27, 3) := by decide +kernel
theorem pd_13 : parseMethodDescriptor "([CIILjava/lang/Void;)V" = some ⟨[(.array .char), .int, .int, (.object "java/lang/Void")], none⟩ := by decide +kernel
theorem d4_9 : decode jdk_42_method_3_code 9 = .ok (.return_, 1) := by decide +kernel
theorem ef_4 (m : MethodId) (x0 : Nat) (x1 : Nat) : entryFrame m #[(.ref x0), (.ref x1)] 2 = mkF m 0 #[.val (.ref x0), .val (.ref x1)] [] := by first | (simp [entryFrame, mkF, argsToLocals, Value.category]; done) | rfl
set_option maxRecDepth 65536 in
set_option maxHeartbeats 40000000 in
theorem rmI1 (l : Launch) (Z : State) (a0 : Array Value) (hw : ∀ d ∈ tables_1, d.before a0 Z = true) (n : Nat) (a1 a2 : Nat) (k1 : ClassId) (f : Nat → Int32) (u1 u2 : Value) (cs : Int32) (fm : Value) (h0 : Heap) (n0 : Nat) (Z0 : n0 ≤ h0.size) (SE : SEnv Z cs fm) (O0 : Old Z n0 h0) (E1 : Exa Z h0 a1 "java/lang/String") (Fv : Fld Z h0 a1 "java/lang/String" "value" "[B" u1) (Fc : Fld Z h0 a1 "java/lang/String" "coder" "B" u2) (hn : n ≤ 10) (hc : ∀ j, j < n → 0 ≤ (f j).toInt ∧ (f j).toInt ≤ 65535) (A2 : Arf Z h0 a2 k1 .char n f) (lt2 : a2 < h0.size) (lt1 : a1 < h0.size) (g1 : n0 ≤ a1) (ne12 : a1 ≠ a2) :
    MetH l (⟨"java/lang/String", "<init>", "([C)V"⟩ : MethodName) jdk_42_method_3_code 2 none [] ({ frames := 5, cells := 4, slots := 30, locals := 74 } : Room) Z consts_1 [a1] #[(.ref a1), (.ref a2)] h0 (fun v h L => v = none ∧ Fr n0 L ∧ Keep h0 h [a1] ∧ Str Z h a1 n f) := by
  refine of_goalH (plainFor_of_name (by first | (simp [plainName, overriddenIn]; done) | decide +kernel)) ?_
  intro p e s m below meth c s₁ C X0 hS e0 hCH hSf
  have C0 := C
  obtain ⟨hx, hZ, hby, hml, hret, hown, hnm⟩ := C
  have hown : s.vm.findClass "java/lang/String" = some m.cls := hown
  have hret : meth.sig.returnType = none := hret
  have CH0 := CHr.refl hCH
  have N0 := Fr.nil n0
  rw [ef_4]
  refine GoalH.step (T' := s₁) (g' := (mkF m 1 #[.val (.ref a1), .val (.ref a2)] [(.ref a1)])) ?_ (fun t k => XS.aloadN X0.here hx rfl (hb hby d4_0) rfl rfl k)
  refine GoalH.step (T' := s₁) (g' := (mkF m 2 #[.val (.ref a1), .val (.ref a2)] [(.ref a2), (.ref a1)])) ?_ (fun t k => XS.aloadN X0.here hx rfl (hb hby d4_1) rfl rfl k)
  refine GoalH.step (T' := s₁) (g' := (mkF m 3 #[.val (.ref a1), .val (.ref a2)] [(.int (0 : Int32)), (.ref a2), (.ref a1)])) ?_ (fun t k => XS.iconst X0.here hx rfl (hb hby d4_2) k)
  refine GoalH.step (T' := s₁) (g' := (mkF m 4 #[.val (.ref a1), .val (.ref a2)] [(.ref a2), (.int (0 : Int32)), (.ref a2), (.ref a1)])) ?_ (fun t k => XS.aloadN X0.here hx rfl (hb hby d4_3) rfl rfl k)
  obtain ⟨cl1001, Ar1001, q1001, S1001, H1001⟩ := (id A2)
  refine GoalH.step (T' := s₁) (g' := (mkF m 5 #[.val (.ref a1), .val (.ref a2)] [(.int (Int32.ofNat n)), (.int (0 : Int32)), (.ref a2), (.ref a1)])) ?_ (fun t k => X0.arraylength hx (by rw [e0]; exact Ar1001.1) (State.isArrayOf_alike hZ.alike Ar1001.2.1) (g := (mkF m 4 #[.val (.ref a1), .val (.ref a2)] [(.ref a2), (.int (0 : Int32)), (.ref a2), (.ref a1)])) rfl rfl (hb hby d4_4) _ (by rw [S1001]; exact k))
  refine GoalH.step (T' := s₁) (g' := (mkF m 6 #[.val (.ref a1), .val (.ref a2)] [.null, (.int (Int32.ofNat n)), (.int (0 : Int32)), (.ref a2), (.ref a1)])) ?_ (fun t k => XS.aconstNull X0.here hx rfl (hb hby d4_5) k)
  obtain ⟨v1002, T1002, h1002, L1002, k1002, X1002, e1002, hQ1002, hS, hk1002, hsz1002, C1002, hZ, hown, st1002⟩ := callInitH X0 hx hZ hown hS (by omega) (own_EW hw) CH0.1 (allS ⟨show (a1 : Nat) < h0.size by omega, (hSf a1 (by simp)).2⟩ all0) rfl (hw _ (List.mem_of_getElem? (i := 19) rfl)) (hw _ (List.mem_of_getElem? (i := 20) rfl)) (hw _ (List.mem_of_getElem? (i := 15) rfl)) (hw _ (List.mem_of_getElem? (i := 22) rfl)) (by decide) (rmI4 l Z a0 hw n a1 a2 k1 f u1 u2 cs fm h0 n0 (by omega) SE O0 E1 Fv Fc hn hc A2 (by omega) (by omega) (by omega) (by omega)) e0 (W := 0) (by decide) (by decide) (by decide) (by decide) (g := (mkF m 6 #[.val (.ref a1), .val (.ref a2)] [.null, (.int (Int32.ofNat n)), (.int (0 : Int32)), (.ref a2), (.ref a1)])) rfl (by rw [hml]; rfl) (a := a1) (argsL := [(.ref a2), (.int (0 : Int32)), (.int (Int32.ofNat n)), .null]) (rest := []) (lenOf pd_13 rfl) rfl (by show 2 * 0 + _ ≤ _; exact Nat.le_of_eq rfl) (hb hby d4_6) rfl
  obtain ⟨rfl, M1002, K1002, Z1002⟩ := hQ1002
  have N1002 := Fr.app N0 M1002
  refine GoalH.step (T' := T1002) (g' := (mkF m 9 #[.val (.ref a1), .val (.ref a2)] [])) ?_ st1002
  have sz1003 : h0.size ≤ h1002.size := K1002.1
  have CH1002 := CHr.trans CH0 C1002
  have Sf1002_a1 := C1002.safe (show (a1 : Nat) < h0.size by omega) (hSf a1 (by simp)).2
  refine GoalH.retV X1002 hS (by rw [e1002]; omega) hZ (own_EW hw) (by rw [e1002]; exact CH1002) hx hret (hb hby d4_9) ?_
  have k1004 : Keep h0 h1002 [a1] := ((Keep.refl h0 [a1]).trans K1002 (allS (Or.inl (by simp)) all0))
  refine ⟨?_, by decide, by decide⟩
  rw [e1002]
  exact ⟨rfl, N1002, k1004, Z1002⟩
theorem d27_0 : decode prog_7_method_4_code 0 = .ok (.iload_n 0, 1) := by decide +kernel
theorem d27_1 : decode prog_7_method_4_code 1 = .ok (.bipush 65, 2) := by decide +kernel
theorem d27_3 : decode prog_7_method_4_code 3 = .ok (.if_icmp .lt 17, 3) := by decide +kernel
theorem d27_20 : decode prog_7_method_4_code 20 = .ok (.iload_n 0, 1) := by decide +kernel
theorem d27_21 : decode prog_7_method_4_code 21 = .ok (.ireturn, 1) := by decide +kernel
theorem d27_6 : decode prog_7_method_4_code 6 = .ok (.iload_n 0, 1) := by decide +kernel
theorem d27_7 : decode prog_7_method_4_code 7 = .ok (.bipush 90, 2) := by decide +kernel
theorem d27_9 : decode prog_7_method_4_code 9 = .ok (.if_icmp .gt 11, 3) := by decide +kernel
theorem d27_12 : decode prog_7_method_4_code 12 = .ok (.iload_n 0, 1) := by decide +kernel
theorem d27_13 : decode prog_7_method_4_code 13 = .ok (.bipush 32, 2) := by decide +kernel
theorem d27_15 : decode prog_7_method_4_code 15 = .ok (.iadd, 1) := by decide +kernel
theorem d27_16 : decode prog_7_method_4_code 16 = .ok (.i2c, 1) := by decide +kernel
theorem d27_17 : decode prog_7_method_4_code 17 = .ok (.goto 4, 3) := by decide +kernel
theorem ef_27 (m : MethodId) (x0 : Int32) : entryFrame m #[(.int x0)] 1 = mkF m 0 #[.val (.int x0)] [] := by first | (simp [entryFrame, mkF, argsToLocals, Value.category]; done) | rfl
set_option maxRecDepth 65536 in
set_option maxHeartbeats 40000000 in
theorem rmTL (l : Launch) (Z : State) (a0 : Array Value) (hw : ∀ d ∈ tables_1, d.before a0 Z = true) (p1 : Int32) (h0 : Heap) (n0 : Nat) (Z0 : n0 ≤ h0.size) (hr : rng p1) :
    Met l (⟨"com/example/gids/gids/Ascii", "toLowerCase", "(C)C"⟩ : MethodName) prog_7_method_4_code 1 (some .char) [] ({ frames := 0, cells := 0, slots := 0, locals := 0 } : Room) Z #[(.int p1)] h0 (fun v h L => v = some (.int (low p1)) ∧ Fr n0 L ∧ h = h0) := by
  refine of_goal (plainFor_of_name (by first | (simp [plainName, overriddenIn]; done) | decide +kernel)) ?_
  intro p e s m below meth c s₁ C X0 e0
  have C0 := C
  obtain ⟨hx, hZ, hby, hml, hret, hown, hnm⟩ := C
  have hown : s.vm.findClass "com/example/gids/gids/Ascii" = some m.cls := hown
  have hret : meth.sig.returnType = (some .char) := hret
  have N0 := Fr.nil n0
  rw [ef_27]
  refine Goal.step (T' := s₁) (g' := (mkF m 1 #[.val (.int p1)] [(.int p1)])) ?_ (fun t k => XS.iloadN X0.here hx rfl (hb hby d27_0) rfl k)
  refine Goal.step (T' := s₁) (g' := (mkF m 3 #[.val (.int p1)] [(.int (65 : Int32)), (.int p1)])) ?_ (fun t k => XS.bipush X0.here hx rfl (hb hby d27_1) k)
  by_cases c1001 : p1 < (65 : Int32)
  · refine Goal.step (T' := s₁) (g' := (mkF m 20 #[.val (.int p1)] [])) ?_ (fun t k => XS.icmpYes X0.here hx rfl (pc0 := 3) (pc' := 20) rfl (hb hby d27_3) rfl (tlt c1001).1 (by decide) (by decide) k)
    refine Goal.step (T' := s₁) (g' := (mkF m 21 #[.val (.int p1)] [(.int p1)])) ?_ (fun t k => XS.iloadN X0.here hx rfl (hb hby d27_20) rfl k)
    refine Goal.retN (t := .char) X0 hx hret (by simp) (hb hby d27_21) ?_
    refine ⟨?_, by decide, by decide⟩
    rw [e0]
    exact ⟨congrArg (fun z => some (Value.int z)) (by rw [low, if_pos c1001]; exact own_i2c _ hr.1 hr.2), N0, rfl⟩
  · refine Goal.step (T' := s₁) (g' := (mkF m 6 #[.val (.int p1)] [])) ?_ (fun t k => XS.icmpNo X0.here hx rfl (hb hby d27_3) rfl (flt c1001).1 k)
    refine Goal.step (T' := s₁) (g' := (mkF m 7 #[.val (.int p1)] [(.int p1)])) ?_ (fun t k => XS.iloadN X0.here hx rfl (hb hby d27_6) rfl k)
    refine Goal.step (T' := s₁) (g' := (mkF m 9 #[.val (.int p1)] [(.int (90 : Int32)), (.int p1)])) ?_ (fun t k => XS.bipush X0.here hx rfl (hb hby d27_7) k)
    by_cases c1002 : (90 : Int32) < p1
    · refine Goal.step (T' := s₁) (g' := (mkF m 20 #[.val (.int p1)] [])) ?_ (fun t k => XS.icmpYes X0.here hx rfl (pc0 := 9) (pc' := 20) rfl (hb hby d27_9) rfl (tlt c1002).2.2.1 (by decide) (by decide) k)
      refine Goal.step (T' := s₁) (g' := (mkF m 21 #[.val (.int p1)] [(.int p1)])) ?_ (fun t k => XS.iloadN X0.here hx rfl (hb hby d27_20) rfl k)
      refine Goal.retN (t := .char) X0 hx hret (by simp) (hb hby d27_21) ?_
      refine ⟨?_, by decide, by decide⟩
      rw [e0]
      exact ⟨congrArg (fun z => some (Value.int z)) (by rw [low, if_neg c1001, if_pos c1002]; exact own_i2c _ hr.1 hr.2), N0, rfl⟩
    · refine Goal.step (T' := s₁) (g' := (mkF m 12 #[.val (.int p1)] [])) ?_ (fun t k => XS.icmpNo X0.here hx rfl (hb hby d27_9) rfl (flt c1002).2.2.1 k)
      refine Goal.step (T' := s₁) (g' := (mkF m 13 #[.val (.int p1)] [(.int p1)])) ?_ (fun t k => XS.iloadN X0.here hx rfl (hb hby d27_12) rfl k)
      refine Goal.step (T' := s₁) (g' := (mkF m 15 #[.val (.int p1)] [(.int (32 : Int32)), (.int p1)])) ?_ (fun t k => XS.bipush X0.here hx rfl (hb hby d27_13) k)
      refine Goal.step (T' := s₁) (g' := (mkF m 16 #[.val (.int p1)] [(.int (p1 + (32 : Int32)))])) ?_ (fun t k => XS.iadd X0.here hx rfl (hb hby d27_15) rfl k)
      refine Goal.step (T' := s₁) (g' := (mkF m 17 #[.val (.int p1)] [(.int ((p1 + (32 : Int32)).toUInt32.toUInt16.toUInt32.toInt32))])) ?_ (fun t k => XS.i2c X0.here hx rfl (hb hby d27_16) rfl k)
      refine Goal.step (T' := s₁) (g' := (mkF m 21 #[.val (.int p1)] [(.int ((p1 + (32 : Int32)).toUInt32.toUInt16.toUInt32.toInt32))])) ?_ (fun t k => XS.goto X0.here hx rfl (pc0 := 17) (pc' := 21) rfl (hb hby d27_17) (by decide) (by decide) k)
      refine Goal.retN (t := .char) X0 hx hret (by simp) (hb hby d27_21) ?_
      refine ⟨?_, by decide, by decide⟩
      rw [e0]
      exact ⟨congrArg (fun z => some (Value.int z)) (by rw [low, if_neg c1001, if_neg c1002]; exact (own_low c1001 c1002).1), N0, rfl⟩
theorem d8_15 : decode prog_7_method_2_code 15 = .ok (.iload_n 2, 1) := by decide +kernel
theorem d8_16 : decode prog_7_method_2_code 16 = .ok (.aload_n 1, 1) := by decide +kernel
theorem d8_17 : decode prog_7_method_2_code 17 = .ok (.invokevirtual 7, 3) := by decide +kernel
theorem pd_14 : parseMethodDescriptor "()I" = some ⟨[], some .int⟩ := by decide +kernel
theorem d8_20 : decode prog_7_method_2_code 20 = .ok (.if_icmp .ge 27, 3) := by decide +kernel
theorem d8_23 : decode prog_7_method_2_code 23 = .ok (.aload_n 0, 1) := by decide +kernel
theorem d8_24 : decode prog_7_method_2_code 24 = .ok (.iload_n 2, 1) := by decide +kernel
theorem d8_25 : decode prog_7_method_2_code 25 = .ok (.invokevirtual 13, 3) := by decide +kernel
theorem pd_15 : parseMethodDescriptor "(I)C" = some ⟨[.int], some .char⟩ := by decide +kernel
theorem d8_28 : decode prog_7_method_2_code 28 = .ok (.invokestatic 17, 3) := by decide +kernel
theorem pd_16 : parseMethodDescriptor "(C)C" = some ⟨[.char], some .char⟩ := by decide +kernel
theorem d8_31 : decode prog_7_method_2_code 31 = .ok (.aload_n 1, 1) := by decide +kernel
theorem d8_32 : decode prog_7_method_2_code 32 = .ok (.iload_n 2, 1) := by decide +kernel
theorem d8_33 : decode prog_7_method_2_code 33 = .ok (.invokevirtual 13, 3) := by decide +kernel
theorem d8_36 : decode prog_7_method_2_code 36 = .ok (.if_icmp .eq 5, 3) := by decide +kernel
theorem d8_41 : decode prog_7_method_2_code 41 = .ok (.iinc 2 1, 3) := by decide +kernel
theorem d8_44 : decode prog_7_method_2_code 44 = .ok (.goto (-29), 3) := by decide +kernel
theorem d8_39 : decode prog_7_method_2_code 39 = .ok (.iconst 0, 1) := by decide +kernel
theorem d8_40 : decode prog_7_method_2_code 40 = .ok (.ireturn, 1) := by decide +kernel
theorem d8_47 : decode prog_7_method_2_code 47 = .ok (.iconst 1, 1) := by decide +kernel
theorem d8_48 : decode prog_7_method_2_code 48 = .ok (.ireturn, 1) := by decide +kernel
set_option maxRecDepth 65536 in
set_option maxHeartbeats 40000000 in
theorem segSW {p : Program} {l : Launch} {e : Env} {s : State} {m : MethodId} {args : Array Value} {below : List Frame} {meth : Method} {c : Code} {Z : State} {a0 : Array Value} {T0 : State} {locs : List Loc} (hw : ∀ d ∈ tables_1, d.before a0 Z = true) (C0 : Ctx p s m meth c Z prog_7_method_2_code 3 (some .boolean) "com/example/gids/gids/Ascii" "startsWithIgnoringCase") (d i : Nat) (a1 a2 : Nat) (n1 n2 : Nat) (f1 f2 : Nat → Int32) (cs : Int32) (fm : Value) (h0 : Heap) (n0 : Nat) (Z0 : n0 ≤ h0.size) (X0 : Stand p l e ({ frames := 5, cells := 0, slots := 0, locals := 76 } : Room) s m args below meth c T0 locs 0 0) (e0 : T0.heap = h0) (N0 : Fr n0 locs) (hd : i + d = n2) (SE : SEnv Z cs fm) (O0 : Old Z n0 h0) (S1 : Str Z h0 a1 n1 f1) (S2 : Str Z h0 a2 n2 f2) (hle : n2 ≤ n1) (hg : ∀ j, j < i → low (f1 j) = f2 j) :
    Goal p l e ({ frames := 5, cells := 0, slots := 0, locals := 76 } : Room) s m args below meth c (In ({ frames := 5, cells := 0, slots := 0, locals := 76 } : Room) (fun v h L => ((n2 ≤ n1 ∧ ∀ j, j < n2 → low (f1 j) = f2 j) ∧ v = some (.int 1) ∧ Fr n0 L ∧ h = h0) ∨ (¬ (n2 ≤ n1 ∧ ∀ j, j < n2 → low (f1 j) = f2 j) ∧ v = some (.int 0) ∧ Fr n0 L ∧ h = h0))) T0 (mkF m 15 #[.val (.ref a1), .val (.ref a2), .val (.int (Int32.ofNat i))] []) := by
  have C := C0
  obtain ⟨hx, hZ, hby, hml, hret, hown, hnm⟩ := C
  have hown : s.vm.findClass "com/example/gids/gids/Ascii" = some m.cls := hown
  have hret : meth.sig.returnType = (some .boolean) := hret
  have hb1 := S1.1.1
  have hb2 := S2.1.1
  refine Goal.step (T' := T0) (g' := (mkF m 16 #[.val (.ref a1), .val (.ref a2), .val (.int (Int32.ofNat i))] [(.int (Int32.ofNat i))])) ?_ (fun t k => XS.iloadN X0.here hx rfl (hb hby d8_15) rfl k)
  refine Goal.step (T' := T0) (g' := (mkF m 17 #[.val (.ref a1), .val (.ref a2), .val (.int (Int32.ofNat i))] [(.ref a2), (.int (Int32.ofNat i))])) ?_ (fun t k => XS.aloadN X0.here hx rfl (hb hby d8_16) rfl rfl k)
  obtain ⟨v1001, T1001, h1001, L1001, X1001, e1001, hQ1001, st1001⟩ := callVirt X0 hx hZ hown (hw _ (List.mem_of_getElem? (i := 44) rfl)) (hw _ (List.mem_of_getElem? (i := 45) rfl)) (notFace_of_selects (args := #[]) (mvT hZ (hw _ (List.mem_of_getElem? (i := 47) rfl)))) (hw _ (List.mem_of_getElem? (i := 47) rfl)) (hw _ (List.mem_of_getElem? (i := 46) rfl)) (hw _ (List.mem_of_getElem? (i := 15) rfl)) (hw _ (List.mem_of_getElem? (i := 48) rfl)) (by decide) (rmLEN l Z a0 hw a2 n2 f2 cs fm h0 n0 (by omega) SE O0 S2) e0 S2.2.1 (W := 1) (by decide) (by decide) (by decide) (by decide) (g := (mkF m 17 #[.val (.ref a1), .val (.ref a2), .val (.int (Int32.ofNat i))] [(.ref a2), (.int (Int32.ofNat i))])) rfl (by rw [hml]; rfl) (argsL := []) (rest := [(.int (Int32.ofNat i))]) (lenOf pd_14 rfl) rfl (by show 2 * 0 + _ ≤ _; exact Nat.le_of_eq rfl) (hb hby d8_17) rfl
  obtain ⟨rfl, M1001, q1001⟩ := hQ1001
  rw [q1001] at e1001
  have N1001 := Fr.app N0 M1001
  refine Goal.step (T' := T1001) (g' := (mkF m 20 #[.val (.ref a1), .val (.ref a2), .val (.int (Int32.ofNat i))] [(.int (Int32.ofNat n2)), (.int (Int32.ofNat i))])) ?_ st1001
  by_cases c1002 : (Int32.ofNat i) < (Int32.ofNat n2)
  · refine Goal.step (T' := T1001) (g' := (mkF m 23 #[.val (.ref a1), .val (.ref a2), .val (.int (Int32.ofNat i))] [])) ?_ (fun t k => XS.icmpNo X1001.here hx rfl (hb hby d8_20) rfl (tlt c1002).2.1 k)
    have hin : i < n2 := (nat_lt (by omega) (by omega)).mp c1002
    refine Goal.step (T' := T1001) (g' := (mkF m 24 #[.val (.ref a1), .val (.ref a2), .val (.int (Int32.ofNat i))] [(.ref a1)])) ?_ (fun t k => XS.aloadN X1001.here hx rfl (hb hby d8_23) rfl rfl k)
    refine Goal.step (T' := T1001) (g' := (mkF m 25 #[.val (.ref a1), .val (.ref a2), .val (.int (Int32.ofNat i))] [(.int (Int32.ofNat i)), (.ref a1)])) ?_ (fun t k => XS.iloadN X1001.here hx rfl (hb hby d8_24) rfl k)
    obtain ⟨v1003, T1003, h1003, L1003, X1003, e1003, hQ1003, st1003⟩ := callVirt X1001 hx hZ hown (hw _ (List.mem_of_getElem? (i := 87) rfl)) (hw _ (List.mem_of_getElem? (i := 88) rfl)) (notFace_of_selects (args := #[]) (mvT hZ (hw _ (List.mem_of_getElem? (i := 90) rfl)))) (hw _ (List.mem_of_getElem? (i := 90) rfl)) (hw _ (List.mem_of_getElem? (i := 89) rfl)) (hw _ (List.mem_of_getElem? (i := 15) rfl)) (hw _ (List.mem_of_getElem? (i := 91) rfl)) (by decide) (rmCHA l Z a0 hw a1 i n1 f1 cs fm h0 n0 (by omega) SE O0 S1 (by omega)) e1001 S1.2.1 (W := 0) (by decide) (by decide) (by decide) (by decide) (g := (mkF m 25 #[.val (.ref a1), .val (.ref a2), .val (.int (Int32.ofNat i))] [(.int (Int32.ofNat i)), (.ref a1)])) rfl (by rw [hml]; rfl) (argsL := [(.int (Int32.ofNat i))]) (rest := []) (lenOf pd_15 rfl) rfl (by show 2 * 0 + _ ≤ _; exact Nat.le_of_eq rfl) (hb hby d8_25) rfl
    obtain ⟨rfl, M1003, q1003⟩ := hQ1003
    rw [q1003] at e1003
    have N1003 := Fr.app N1001 M1003
    refine Goal.step (T' := T1003) (g' := (mkF m 28 #[.val (.ref a1), .val (.ref a2), .val (.int (Int32.ofNat i))] [(.int (f1 i))])) ?_ st1003
    obtain ⟨v1004, T1004, h1004, L1004, X1004, e1004, hQ1004, st1004⟩ := callStatic X1003 hx hZ hown (hw _ (List.mem_of_getElem? (i := 114) rfl)) (hw _ (List.mem_of_getElem? (i := 115) rfl)) (hw _ (List.mem_of_getElem? (i := 42) rfl)) (hw _ (List.mem_of_getElem? (i := 116) rfl)) (by decide) (rmTL l Z a0 hw (f1 i) h0 n0 (by omega) (S1.1.2 i (by omega))) e1003 (W := 0) (by decide) (by decide) (by decide) (by decide) (g := (mkF m 28 #[.val (.ref a1), .val (.ref a2), .val (.int (Int32.ofNat i))] [(.int (f1 i))])) rfl (by rw [hml]; rfl) (argsL := [(.int (f1 i))]) (rest := []) (lenOf pd_16 rfl) rfl (by show 2 * 0 + _ ≤ _; exact Nat.le_of_eq rfl) (hb hby d8_28) rfl
    obtain ⟨rfl, M1004, q1004⟩ := hQ1004
    rw [q1004] at e1004
    have N1004 := Fr.app N1003 M1004
    refine Goal.step (T' := T1004) (g' := (mkF m 31 #[.val (.ref a1), .val (.ref a2), .val (.int (Int32.ofNat i))] [(.int (low (f1 i)))])) ?_ st1004
    refine Goal.step (T' := T1004) (g' := (mkF m 32 #[.val (.ref a1), .val (.ref a2), .val (.int (Int32.ofNat i))] [(.ref a2), (.int (low (f1 i)))])) ?_ (fun t k => XS.aloadN X1004.here hx rfl (hb hby d8_31) rfl rfl k)
    refine Goal.step (T' := T1004) (g' := (mkF m 33 #[.val (.ref a1), .val (.ref a2), .val (.int (Int32.ofNat i))] [(.int (Int32.ofNat i)), (.ref a2), (.int (low (f1 i)))])) ?_ (fun t k => XS.iloadN X1004.here hx rfl (hb hby d8_32) rfl k)
    obtain ⟨v1005, T1005, h1005, L1005, X1005, e1005, hQ1005, st1005⟩ := callVirt X1004 hx hZ hown (hw _ (List.mem_of_getElem? (i := 87) rfl)) (hw _ (List.mem_of_getElem? (i := 88) rfl)) (notFace_of_selects (args := #[]) (mvT hZ (hw _ (List.mem_of_getElem? (i := 90) rfl)))) (hw _ (List.mem_of_getElem? (i := 90) rfl)) (hw _ (List.mem_of_getElem? (i := 89) rfl)) (hw _ (List.mem_of_getElem? (i := 15) rfl)) (hw _ (List.mem_of_getElem? (i := 91) rfl)) (by decide) (rmCHA l Z a0 hw a2 i n2 f2 cs fm h0 n0 (by omega) SE O0 S2 (by omega)) e1004 S2.2.1 (W := 1) (by decide) (by decide) (by decide) (by decide) (g := (mkF m 33 #[.val (.ref a1), .val (.ref a2), .val (.int (Int32.ofNat i))] [(.int (Int32.ofNat i)), (.ref a2), (.int (low (f1 i)))])) rfl (by rw [hml]; rfl) (argsL := [(.int (Int32.ofNat i))]) (rest := [(.int (low (f1 i)))]) (lenOf pd_15 rfl) rfl (by show 2 * 0 + _ ≤ _; exact Nat.le_of_eq rfl) (hb hby d8_33) rfl
    obtain ⟨rfl, M1005, q1005⟩ := hQ1005
    rw [q1005] at e1005
    have N1005 := Fr.app N1004 M1005
    refine Goal.step (T' := T1005) (g' := (mkF m 36 #[.val (.ref a1), .val (.ref a2), .val (.int (Int32.ofNat i))] [(.int (f2 i)), (.int (low (f1 i)))])) ?_ st1005
    by_cases c1006 : (low (f1 i)) = (f2 i)
    · refine Goal.step (T' := T1005) (g' := (mkF m 41 #[.val (.ref a1), .val (.ref a2), .val (.int (Int32.ofNat i))] [])) ?_ (fun t k => XS.icmpYes X1005.here hx rfl (pc0 := 36) (pc' := 41) rfl (hb hby d8_36) rfl (teq c1006).1 (by decide) (by decide) k)
      refine Goal.step (T' := T1005) (g' := (mkF m 44 #[.val (.ref a1), .val (.ref a2), .val (.int ((Int32.ofNat i) + (1 : Int32)))] [])) ?_ (fun t k => XS.iinc X1005.here hx rfl (hb hby d8_41) rfl (l' := #[.val (.ref a1), .val (.ref a2), .val (.int ((Int32.ofNat i) + (1 : Int32)))]) rfl k)
      refine Goal.step (T' := T1005) (g' := (mkF m 15 #[.val (.ref a1), .val (.ref a2), .val (.int ((Int32.ofNat i) + (1 : Int32)))] [])) ?_ (fun t k => XS.goto X1005.here hx rfl (pc0 := 44) (pc' := 15) rfl (hb hby d8_44) (by decide) (by decide) k)
      rw [nat_one]
      exact segSW hw C0 (d - 1) (i + 1) a1 a2 n1 n2 f1 f2 cs fm h0 n0 Z0 X1005 e1005 N1005 (by omega) SE O0 S1 S2 hle (own_step (P := fun j => low (f1 j) = f2 j) hg c1006)
    · refine Goal.step (T' := T1005) (g' := (mkF m 39 #[.val (.ref a1), .val (.ref a2), .val (.int (Int32.ofNat i))] [])) ?_ (fun t k => XS.icmpNo X1005.here hx rfl (hb hby d8_36) rfl (feq c1006).1 k)
      refine Goal.step (T' := T1005) (g' := (mkF m 40 #[.val (.ref a1), .val (.ref a2), .val (.int (Int32.ofNat i))] [(.int (0 : Int32))])) ?_ (fun t k => XS.iconst X1005.here hx rfl (hb hby d8_39) k)
      refine Goal.retN (t := .boolean) X1005 hx hret (by simp) (hb hby d8_40) ?_
      refine ⟨?_, by decide, by decide⟩
      rw [e1005]
      exact Or.inr ⟨fun q => c1006 (q.2 i hin), rfl, N1005, rfl⟩
  · refine Goal.step (T' := T1001) (g' := (mkF m 47 #[.val (.ref a1), .val (.ref a2), .val (.int (Int32.ofNat i))] [])) ?_ (fun t k => XS.icmpYes X1001.here hx rfl (pc0 := 20) (pc' := 47) rfl (hb hby d8_20) rfl (flt c1002).2.1 (by decide) (by decide) k)
    have hin : ¬ i < n2 := fun q => c1002 ((nat_lt (by omega) (by omega)).mpr q)
    refine Goal.step (T' := T1001) (g' := (mkF m 48 #[.val (.ref a1), .val (.ref a2), .val (.int (Int32.ofNat i))] [(.int (1 : Int32))])) ?_ (fun t k => XS.iconst X1001.here hx rfl (hb hby d8_47) k)
    refine Goal.retN (t := .boolean) X1001 hx hret (by simp) (hb hby d8_48) ?_
    refine ⟨?_, by decide, by decide⟩
    rw [e1001]
    exact Or.inl ⟨⟨hle, fun j hj => hg j (by omega)⟩, rfl, N1001, rfl⟩
termination_by d
decreasing_by all_goals omega
theorem d8_0 : decode prog_7_method_2_code 0 = .ok (.aload_n 0, 1) := by decide +kernel
theorem d8_1 : decode prog_7_method_2_code 1 = .ok (.invokevirtual 7, 3) := by decide +kernel
theorem d8_4 : decode prog_7_method_2_code 4 = .ok (.aload_n 1, 1) := by decide +kernel
theorem d8_5 : decode prog_7_method_2_code 5 = .ok (.invokevirtual 7, 3) := by decide +kernel
theorem d8_8 : decode prog_7_method_2_code 8 = .ok (.if_icmp .ge 5, 3) := by decide +kernel
theorem d8_11 : decode prog_7_method_2_code 11 = .ok (.iconst 0, 1) := by decide +kernel
theorem d8_12 : decode prog_7_method_2_code 12 = .ok (.ireturn, 1) := by decide +kernel
theorem d8_13 : decode prog_7_method_2_code 13 = .ok (.iconst 0, 1) := by decide +kernel
theorem d8_14 : decode prog_7_method_2_code 14 = .ok (.istore_n 2, 1) := by decide +kernel
theorem ef_8 (m : MethodId) (x0 : Nat) (x1 : Nat) : entryFrame m #[(.ref x0), (.ref x1)] 3 = mkF m 0 #[.val (.ref x0), .val (.ref x1), .unset] [] := by first | (simp [entryFrame, mkF, argsToLocals, Value.category]; done) | rfl
set_option maxRecDepth 65536 in
set_option maxHeartbeats 40000000 in
theorem rmSW (l : Launch) (Z : State) (a0 : Array Value) (hw : ∀ d ∈ tables_1, d.before a0 Z = true) (a1 a2 : Nat) (n1 n2 : Nat) (f1 f2 : Nat → Int32) (cs : Int32) (fm : Value) (h0 : Heap) (n0 : Nat) (Z0 : n0 ≤ h0.size) (SE : SEnv Z cs fm) (O0 : Old Z n0 h0) (S1 : Str Z h0 a1 n1 f1) (S2 : Str Z h0 a2 n2 f2) :
    Met l (⟨"com/example/gids/gids/Ascii", "startsWithIgnoringCase", "(Ljava/lang/String;Ljava/lang/String;)Z"⟩ : MethodName) prog_7_method_2_code 3 (some .boolean) [] ({ frames := 5, cells := 0, slots := 0, locals := 76 } : Room) Z #[(.ref a1), (.ref a2)] h0 (fun v h L => ((n2 ≤ n1 ∧ ∀ j, j < n2 → low (f1 j) = f2 j) ∧ v = some (.int 1) ∧ Fr n0 L ∧ h = h0) ∨ (¬ (n2 ≤ n1 ∧ ∀ j, j < n2 → low (f1 j) = f2 j) ∧ v = some (.int 0) ∧ Fr n0 L ∧ h = h0)) := by
  refine of_goal (plainFor_of_name (by first | (simp [plainName, overriddenIn]; done) | decide +kernel)) ?_
  intro p e s m below meth c s₁ C X0 e0
  have C0 := C
  obtain ⟨hx, hZ, hby, hml, hret, hown, hnm⟩ := C
  have hown : s.vm.findClass "com/example/gids/gids/Ascii" = some m.cls := hown
  have hret : meth.sig.returnType = (some .boolean) := hret
  have N0 := Fr.nil n0
  rw [ef_8]
  have hb1 := S1.1.1
  have hb2 := S2.1.1
  refine Goal.step (T' := s₁) (g' := (mkF m 1 #[.val (.ref a1), .val (.ref a2), .unset] [(.ref a1)])) ?_ (fun t k => XS.aloadN X0.here hx rfl (hb hby d8_0) rfl rfl k)
  obtain ⟨v1001, T1001, h1001, L1001, X1001, e1001, hQ1001, st1001⟩ := callVirt X0 hx hZ hown (hw _ (List.mem_of_getElem? (i := 44) rfl)) (hw _ (List.mem_of_getElem? (i := 45) rfl)) (notFace_of_selects (args := #[]) (mvT hZ (hw _ (List.mem_of_getElem? (i := 47) rfl)))) (hw _ (List.mem_of_getElem? (i := 47) rfl)) (hw _ (List.mem_of_getElem? (i := 46) rfl)) (hw _ (List.mem_of_getElem? (i := 15) rfl)) (hw _ (List.mem_of_getElem? (i := 48) rfl)) (by decide) (rmLEN l Z a0 hw a1 n1 f1 cs fm h0 n0 (by omega) SE O0 S1) e0 S1.2.1 (W := 0) (by decide) (by decide) (by decide) (by decide) (g := (mkF m 1 #[.val (.ref a1), .val (.ref a2), .unset] [(.ref a1)])) rfl (by rw [hml]; rfl) (argsL := []) (rest := []) (lenOf pd_14 rfl) rfl (by show 2 * 0 + _ ≤ _; exact Nat.le_of_eq rfl) (hb hby d8_1) rfl
  obtain ⟨rfl, M1001, q1001⟩ := hQ1001
  rw [q1001] at e1001
  have N1001 := Fr.app N0 M1001
  refine Goal.step (T' := T1001) (g' := (mkF m 4 #[.val (.ref a1), .val (.ref a2), .unset] [(.int (Int32.ofNat n1))])) ?_ st1001
  refine Goal.step (T' := T1001) (g' := (mkF m 5 #[.val (.ref a1), .val (.ref a2), .unset] [(.ref a2), (.int (Int32.ofNat n1))])) ?_ (fun t k => XS.aloadN X1001.here hx rfl (hb hby d8_4) rfl rfl k)
  obtain ⟨v1002, T1002, h1002, L1002, X1002, e1002, hQ1002, st1002⟩ := callVirt X1001 hx hZ hown (hw _ (List.mem_of_getElem? (i := 44) rfl)) (hw _ (List.mem_of_getElem? (i := 45) rfl)) (notFace_of_selects (args := #[]) (mvT hZ (hw _ (List.mem_of_getElem? (i := 47) rfl)))) (hw _ (List.mem_of_getElem? (i := 47) rfl)) (hw _ (List.mem_of_getElem? (i := 46) rfl)) (hw _ (List.mem_of_getElem? (i := 15) rfl)) (hw _ (List.mem_of_getElem? (i := 48) rfl)) (by decide) (rmLEN l Z a0 hw a2 n2 f2 cs fm h0 n0 (by omega) SE O0 S2) e1001 S2.2.1 (W := 1) (by decide) (by decide) (by decide) (by decide) (g := (mkF m 5 #[.val (.ref a1), .val (.ref a2), .unset] [(.ref a2), (.int (Int32.ofNat n1))])) rfl (by rw [hml]; rfl) (argsL := []) (rest := [(.int (Int32.ofNat n1))]) (lenOf pd_14 rfl) rfl (by show 2 * 0 + _ ≤ _; exact Nat.le_of_eq rfl) (hb hby d8_5) rfl
  obtain ⟨rfl, M1002, q1002⟩ := hQ1002
  rw [q1002] at e1002
  have N1002 := Fr.app N1001 M1002
  refine Goal.step (T' := T1002) (g' := (mkF m 8 #[.val (.ref a1), .val (.ref a2), .unset] [(.int (Int32.ofNat n2)), (.int (Int32.ofNat n1))])) ?_ st1002
  by_cases c1003 : (Int32.ofNat n1) < (Int32.ofNat n2)
  · refine Goal.step (T' := T1002) (g' := (mkF m 11 #[.val (.ref a1), .val (.ref a2), .unset] [])) ?_ (fun t k => XS.icmpNo X1002.here hx rfl (hb hby d8_8) rfl (tlt c1003).2.1 k)
    refine Goal.step (T' := T1002) (g' := (mkF m 12 #[.val (.ref a1), .val (.ref a2), .unset] [(.int (0 : Int32))])) ?_ (fun t k => XS.iconst X1002.here hx rfl (hb hby d8_11) k)
    refine Goal.retN (t := .boolean) X1002 hx hret (by simp) (hb hby d8_12) ?_
    refine ⟨?_, by decide, by decide⟩
    rw [e1002]
    exact Or.inr ⟨fun q => absurd ((nat_lt (by omega) (by omega)).mp c1003) (by omega), rfl, N1002, rfl⟩
  · refine Goal.step (T' := T1002) (g' := (mkF m 13 #[.val (.ref a1), .val (.ref a2), .unset] [])) ?_ (fun t k => XS.icmpYes X1002.here hx rfl (pc0 := 8) (pc' := 13) rfl (hb hby d8_8) rfl (flt c1003).2.1 (by decide) (by decide) k)
    refine Goal.step (T' := T1002) (g' := (mkF m 14 #[.val (.ref a1), .val (.ref a2), .unset] [(.int (0 : Int32))])) ?_ (fun t k => XS.iconst X1002.here hx rfl (hb hby d8_13) k)
    refine Goal.step (T' := T1002) (g' := (mkF m 15 #[.val (.ref a1), .val (.ref a2), .val (.int (0 : Int32))] [])) ?_ (fun t k => XS.istoreN X1002.here hx rfl (hb hby d8_14) rfl (l' := #[.val (.ref a1), .val (.ref a2), .val (.int (0 : Int32))]) rfl k)
    have hle : n2 ≤ n1 := Nat.le_of_not_lt (fun q => c1003 ((nat_lt (by omega) (by omega)).mpr q))
    exact segSW hw C0 n2 0 a1 a2 n1 n2 f1 f2 cs fm h0 n0 Z0 X1002 e1002 N1002 (by omega) SE O0 S1 S2 hle (fun j hj => absurd hj (Nat.not_lt_zero _))
theorem d2_0 : decode method_5_code 0 = .ok (.iload_n 0, 1) := by decide +kernel
theorem d2_1 : decode method_5_code 1 = .ok (.ifCond .ne 6, 3) := by decide +kernel
theorem d2_4 : decode method_5_code 4 = .ok (.bipush 104, 2) := by decide +kernel
theorem d2_6 : decode method_5_code 6 = .ok (.ireturn, 1) := by decide +kernel
theorem d2_7 : decode method_5_code 7 = .ok (.iload_n 0, 1) := by decide +kernel
theorem d2_8 : decode method_5_code 8 = .ok (.iconst 1, 1) := by decide +kernel
theorem d2_9 : decode method_5_code 9 = .ok (.if_icmp .eq 8, 3) := by decide +kernel
theorem d2_17 : decode method_5_code 17 = .ok (.bipush 116, 2) := by decide +kernel
theorem d2_19 : decode method_5_code 19 = .ok (.ireturn, 1) := by decide +kernel
theorem d2_12 : decode method_5_code 12 = .ok (.iload_n 0, 1) := by decide +kernel
theorem d2_13 : decode method_5_code 13 = .ok (.iconst 2, 1) := by decide +kernel
theorem d2_14 : decode method_5_code 14 = .ok (.if_icmp .ne 6, 3) := by decide +kernel
theorem d2_20 : decode method_5_code 20 = .ok (.iload_n 0, 1) := by decide +kernel
theorem d2_21 : decode method_5_code 21 = .ok (.iconst 3, 1) := by decide +kernel
theorem d2_22 : decode method_5_code 22 = .ok (.if_icmp .ne 6, 3) := by decide +kernel
theorem d2_25 : decode method_5_code 25 = .ok (.bipush 112, 2) := by decide +kernel
theorem d2_27 : decode method_5_code 27 = .ok (.ireturn, 1) := by decide +kernel
theorem d2_28 : decode method_5_code 28 = .ok (.iload_n 1, 1) := by decide +kernel
theorem d2_29 : decode method_5_code 29 = .ok (.ifCond .eq 22, 3) := by decide +kernel
theorem d2_51 : decode method_5_code 51 = .ok (.iload_n 0, 1) := by decide +kernel
theorem d2_52 : decode method_5_code 52 = .ok (.iconst 4, 1) := by decide +kernel
theorem d2_53 : decode method_5_code 53 = .ok (.if_icmp .ne 6, 3) := by decide +kernel
theorem d2_56 : decode method_5_code 56 = .ok (.bipush 58, 2) := by decide +kernel
theorem d2_58 : decode method_5_code 58 = .ok (.ireturn, 1) := by decide +kernel
theorem d2_59 : decode method_5_code 59 = .ok (.bipush 47, 2) := by decide +kernel
theorem d2_61 : decode method_5_code 61 = .ok (.ireturn, 1) := by decide +kernel
theorem d2_32 : decode method_5_code 32 = .ok (.iload_n 0, 1) := by decide +kernel
theorem d2_33 : decode method_5_code 33 = .ok (.iconst 4, 1) := by decide +kernel
theorem d2_34 : decode method_5_code 34 = .ok (.if_icmp .ne 6, 3) := by decide +kernel
theorem d2_37 : decode method_5_code 37 = .ok (.bipush 115, 2) := by decide +kernel
theorem d2_39 : decode method_5_code 39 = .ok (.ireturn, 1) := by decide +kernel
theorem d2_40 : decode method_5_code 40 = .ok (.iload_n 0, 1) := by decide +kernel
theorem d2_41 : decode method_5_code 41 = .ok (.iconst 5, 1) := by decide +kernel
theorem d2_42 : decode method_5_code 42 = .ok (.if_icmp .ne 6, 3) := by decide +kernel
theorem d2_45 : decode method_5_code 45 = .ok (.bipush 58, 2) := by decide +kernel
theorem d2_47 : decode method_5_code 47 = .ok (.ireturn, 1) := by decide +kernel
theorem d2_48 : decode method_5_code 48 = .ok (.bipush 47, 2) := by decide +kernel
theorem d2_50 : decode method_5_code 50 = .ok (.ireturn, 1) := by decide +kernel
theorem ef_2 (m : MethodId) (x0 : Int32) (x1 : Int32) : entryFrame m #[(.int x0), (.int x1)] 2 = mkF m 0 #[.val (.int x0), .val (.int x1)] [] := by first | (simp [entryFrame, mkF, argsToLocals, Value.category]; done) | rfl
set_option maxRecDepth 65536 in
set_option maxHeartbeats 40000000 in
theorem rmPT (l : Launch) (Z : State) (a0 : Array Value) (hw : ∀ d ∈ tables_1, d.before a0 Z = true) (p1 p2 : Int32) (h0 : Heap) (n0 : Nat) (Z0 : n0 ≤ h0.size) :
    Met l (⟨"com/example/gids/gids/LocRuleAuthorityStartPinLaw", "pat", "(IZ)C"⟩ : MethodName) method_5_code 2 (some .char) [] ({ frames := 0, cells := 0, slots := 0, locals := 0 } : Room) Z #[(.int p1), (.int p2)] h0 (fun v h L => ∃ z : Int32, v = some (.int z) ∧ rng z ∧ Fr n0 L ∧ h = h0) := by
  refine of_goal (plainFor_of_name (by first | (simp [plainName, overriddenIn]; done) | decide +kernel)) ?_
  intro p e s m below meth c s₁ C X0 e0
  have C0 := C
  obtain ⟨hx, hZ, hby, hml, hret, hown, hnm⟩ := C
  have hown : s.vm.findClass "com/example/gids/gids/LocRuleAuthorityStartPinLaw" = some m.cls := hown
  have hret : meth.sig.returnType = (some .char) := hret
  have N0 := Fr.nil n0
  rw [ef_2]
  refine Goal.step (T' := s₁) (g' := (mkF m 1 #[.val (.int p1), .val (.int p2)] [(.int p1)])) ?_ (fun t k => XS.iloadN X0.here hx rfl (hb hby d2_0) rfl k)
  by_cases c1001 : p1 = (0 : Int32)
  · refine Goal.step (T' := s₁) (g' := (mkF m 4 #[.val (.int p1), .val (.int p2)] [])) ?_ (fun t k => XS.ifNo X0.here hx rfl (hb hby d2_1) rfl ((if0 _ _).trans (teq c1001).2) k)
    refine Goal.step (T' := s₁) (g' := (mkF m 6 #[.val (.int p1), .val (.int p2)] [(.int (104 : Int32))])) ?_ (fun t k => XS.bipush X0.here hx rfl (hb hby d2_4) k)
    refine Goal.retN (t := .char) X0 hx hret (by simp) (hb hby d2_6) ?_
    refine ⟨?_, by decide, by decide⟩
    rw [e0]
    exact ⟨_, rfl, own_i2cr _, N0, rfl⟩
  · refine Goal.step (T' := s₁) (g' := (mkF m 7 #[.val (.int p1), .val (.int p2)] [])) ?_ (fun t k => XS.ifYes X0.here hx rfl (pc0 := 1) (pc' := 7) rfl (hb hby d2_1) rfl ((if0 _ _).trans (feq c1001).2) (by decide) (by decide) k)
    refine Goal.step (T' := s₁) (g' := (mkF m 8 #[.val (.int p1), .val (.int p2)] [(.int p1)])) ?_ (fun t k => XS.iloadN X0.here hx rfl (hb hby d2_7) rfl k)
    refine Goal.step (T' := s₁) (g' := (mkF m 9 #[.val (.int p1), .val (.int p2)] [(.int (1 : Int32)), (.int p1)])) ?_ (fun t k => XS.iconst X0.here hx rfl (hb hby d2_8) k)
    by_cases c1002 : p1 = (1 : Int32)
    · refine Goal.step (T' := s₁) (g' := (mkF m 17 #[.val (.int p1), .val (.int p2)] [])) ?_ (fun t k => XS.icmpYes X0.here hx rfl (pc0 := 9) (pc' := 17) rfl (hb hby d2_9) rfl (teq c1002).1 (by decide) (by decide) k)
      refine Goal.step (T' := s₁) (g' := (mkF m 19 #[.val (.int p1), .val (.int p2)] [(.int (116 : Int32))])) ?_ (fun t k => XS.bipush X0.here hx rfl (hb hby d2_17) k)
      refine Goal.retN (t := .char) X0 hx hret (by simp) (hb hby d2_19) ?_
      refine ⟨?_, by decide, by decide⟩
      rw [e0]
      exact ⟨_, rfl, own_i2cr _, N0, rfl⟩
    · refine Goal.step (T' := s₁) (g' := (mkF m 12 #[.val (.int p1), .val (.int p2)] [])) ?_ (fun t k => XS.icmpNo X0.here hx rfl (hb hby d2_9) rfl (feq c1002).1 k)
      refine Goal.step (T' := s₁) (g' := (mkF m 13 #[.val (.int p1), .val (.int p2)] [(.int p1)])) ?_ (fun t k => XS.iloadN X0.here hx rfl (hb hby d2_12) rfl k)
      refine Goal.step (T' := s₁) (g' := (mkF m 14 #[.val (.int p1), .val (.int p2)] [(.int (2 : Int32)), (.int p1)])) ?_ (fun t k => XS.iconst X0.here hx rfl (hb hby d2_13) k)
      by_cases c1003 : p1 = (2 : Int32)
      · refine Goal.step (T' := s₁) (g' := (mkF m 17 #[.val (.int p1), .val (.int p2)] [])) ?_ (fun t k => XS.icmpNo X0.here hx rfl (hb hby d2_14) rfl (teq c1003).2 k)
        refine Goal.step (T' := s₁) (g' := (mkF m 19 #[.val (.int p1), .val (.int p2)] [(.int (116 : Int32))])) ?_ (fun t k => XS.bipush X0.here hx rfl (hb hby d2_17) k)
        refine Goal.retN (t := .char) X0 hx hret (by simp) (hb hby d2_19) ?_
        refine ⟨?_, by decide, by decide⟩
        rw [e0]
        exact ⟨_, rfl, own_i2cr _, N0, rfl⟩
      · refine Goal.step (T' := s₁) (g' := (mkF m 20 #[.val (.int p1), .val (.int p2)] [])) ?_ (fun t k => XS.icmpYes X0.here hx rfl (pc0 := 14) (pc' := 20) rfl (hb hby d2_14) rfl (feq c1003).2 (by decide) (by decide) k)
        refine Goal.step (T' := s₁) (g' := (mkF m 21 #[.val (.int p1), .val (.int p2)] [(.int p1)])) ?_ (fun t k => XS.iloadN X0.here hx rfl (hb hby d2_20) rfl k)
        refine Goal.step (T' := s₁) (g' := (mkF m 22 #[.val (.int p1), .val (.int p2)] [(.int (3 : Int32)), (.int p1)])) ?_ (fun t k => XS.iconst X0.here hx rfl (hb hby d2_21) k)
        by_cases c1004 : p1 = (3 : Int32)
        · refine Goal.step (T' := s₁) (g' := (mkF m 25 #[.val (.int p1), .val (.int p2)] [])) ?_ (fun t k => XS.icmpNo X0.here hx rfl (hb hby d2_22) rfl (teq c1004).2 k)
          refine Goal.step (T' := s₁) (g' := (mkF m 27 #[.val (.int p1), .val (.int p2)] [(.int (112 : Int32))])) ?_ (fun t k => XS.bipush X0.here hx rfl (hb hby d2_25) k)
          refine Goal.retN (t := .char) X0 hx hret (by simp) (hb hby d2_27) ?_
          refine ⟨?_, by decide, by decide⟩
          rw [e0]
          exact ⟨_, rfl, own_i2cr _, N0, rfl⟩
        · refine Goal.step (T' := s₁) (g' := (mkF m 28 #[.val (.int p1), .val (.int p2)] [])) ?_ (fun t k => XS.icmpYes X0.here hx rfl (pc0 := 22) (pc' := 28) rfl (hb hby d2_22) rfl (feq c1004).2 (by decide) (by decide) k)
          refine Goal.step (T' := s₁) (g' := (mkF m 29 #[.val (.int p1), .val (.int p2)] [(.int p2)])) ?_ (fun t k => XS.iloadN X0.here hx rfl (hb hby d2_28) rfl k)
          by_cases c1005 : p2 = (0 : Int32)
          · refine Goal.step (T' := s₁) (g' := (mkF m 51 #[.val (.int p1), .val (.int p2)] [])) ?_ (fun t k => XS.ifYes X0.here hx rfl (pc0 := 29) (pc' := 51) rfl (hb hby d2_29) rfl ((if0 _ _).trans (teq c1005).1) (by decide) (by decide) k)
            refine Goal.step (T' := s₁) (g' := (mkF m 52 #[.val (.int p1), .val (.int p2)] [(.int p1)])) ?_ (fun t k => XS.iloadN X0.here hx rfl (hb hby d2_51) rfl k)
            refine Goal.step (T' := s₁) (g' := (mkF m 53 #[.val (.int p1), .val (.int p2)] [(.int (4 : Int32)), (.int p1)])) ?_ (fun t k => XS.iconst X0.here hx rfl (hb hby d2_52) k)
            by_cases c1006 : p1 = (4 : Int32)
            · refine Goal.step (T' := s₁) (g' := (mkF m 56 #[.val (.int p1), .val (.int p2)] [])) ?_ (fun t k => XS.icmpNo X0.here hx rfl (hb hby d2_53) rfl (teq c1006).2 k)
              refine Goal.step (T' := s₁) (g' := (mkF m 58 #[.val (.int p1), .val (.int p2)] [(.int (58 : Int32))])) ?_ (fun t k => XS.bipush X0.here hx rfl (hb hby d2_56) k)
              refine Goal.retN (t := .char) X0 hx hret (by simp) (hb hby d2_58) ?_
              refine ⟨?_, by decide, by decide⟩
              rw [e0]
              exact ⟨_, rfl, own_i2cr _, N0, rfl⟩
            · refine Goal.step (T' := s₁) (g' := (mkF m 59 #[.val (.int p1), .val (.int p2)] [])) ?_ (fun t k => XS.icmpYes X0.here hx rfl (pc0 := 53) (pc' := 59) rfl (hb hby d2_53) rfl (feq c1006).2 (by decide) (by decide) k)
              refine Goal.step (T' := s₁) (g' := (mkF m 61 #[.val (.int p1), .val (.int p2)] [(.int (47 : Int32))])) ?_ (fun t k => XS.bipush X0.here hx rfl (hb hby d2_59) k)
              refine Goal.retN (t := .char) X0 hx hret (by simp) (hb hby d2_61) ?_
              refine ⟨?_, by decide, by decide⟩
              rw [e0]
              exact ⟨_, rfl, own_i2cr _, N0, rfl⟩
          · refine Goal.step (T' := s₁) (g' := (mkF m 32 #[.val (.int p1), .val (.int p2)] [])) ?_ (fun t k => XS.ifNo X0.here hx rfl (hb hby d2_29) rfl ((if0 _ _).trans (feq c1005).1) k)
            refine Goal.step (T' := s₁) (g' := (mkF m 33 #[.val (.int p1), .val (.int p2)] [(.int p1)])) ?_ (fun t k => XS.iloadN X0.here hx rfl (hb hby d2_32) rfl k)
            refine Goal.step (T' := s₁) (g' := (mkF m 34 #[.val (.int p1), .val (.int p2)] [(.int (4 : Int32)), (.int p1)])) ?_ (fun t k => XS.iconst X0.here hx rfl (hb hby d2_33) k)
            by_cases c1007 : p1 = (4 : Int32)
            · refine Goal.step (T' := s₁) (g' := (mkF m 37 #[.val (.int p1), .val (.int p2)] [])) ?_ (fun t k => XS.icmpNo X0.here hx rfl (hb hby d2_34) rfl (teq c1007).2 k)
              refine Goal.step (T' := s₁) (g' := (mkF m 39 #[.val (.int p1), .val (.int p2)] [(.int (115 : Int32))])) ?_ (fun t k => XS.bipush X0.here hx rfl (hb hby d2_37) k)
              refine Goal.retN (t := .char) X0 hx hret (by simp) (hb hby d2_39) ?_
              refine ⟨?_, by decide, by decide⟩
              rw [e0]
              exact ⟨_, rfl, own_i2cr _, N0, rfl⟩
            · refine Goal.step (T' := s₁) (g' := (mkF m 40 #[.val (.int p1), .val (.int p2)] [])) ?_ (fun t k => XS.icmpYes X0.here hx rfl (pc0 := 34) (pc' := 40) rfl (hb hby d2_34) rfl (feq c1007).2 (by decide) (by decide) k)
              refine Goal.step (T' := s₁) (g' := (mkF m 41 #[.val (.int p1), .val (.int p2)] [(.int p1)])) ?_ (fun t k => XS.iloadN X0.here hx rfl (hb hby d2_40) rfl k)
              refine Goal.step (T' := s₁) (g' := (mkF m 42 #[.val (.int p1), .val (.int p2)] [(.int (5 : Int32)), (.int p1)])) ?_ (fun t k => XS.iconst X0.here hx rfl (hb hby d2_41) k)
              by_cases c1008 : p1 = (5 : Int32)
              · refine Goal.step (T' := s₁) (g' := (mkF m 45 #[.val (.int p1), .val (.int p2)] [])) ?_ (fun t k => XS.icmpNo X0.here hx rfl (hb hby d2_42) rfl (teq c1008).2 k)
                refine Goal.step (T' := s₁) (g' := (mkF m 47 #[.val (.int p1), .val (.int p2)] [(.int (58 : Int32))])) ?_ (fun t k => XS.bipush X0.here hx rfl (hb hby d2_45) k)
                refine Goal.retN (t := .char) X0 hx hret (by simp) (hb hby d2_47) ?_
                refine ⟨?_, by decide, by decide⟩
                rw [e0]
                exact ⟨_, rfl, own_i2cr _, N0, rfl⟩
              · refine Goal.step (T' := s₁) (g' := (mkF m 48 #[.val (.int p1), .val (.int p2)] [])) ?_ (fun t k => XS.icmpYes X0.here hx rfl (pc0 := 42) (pc' := 48) rfl (hb hby d2_42) rfl (feq c1008).2 (by decide) (by decide) k)
                refine Goal.step (T' := s₁) (g' := (mkF m 50 #[.val (.int p1), .val (.int p2)] [(.int (47 : Int32))])) ?_ (fun t k => XS.bipush X0.here hx rfl (hb hby d2_48) k)
                refine Goal.retN (t := .char) X0 hx hret (by simp) (hb hby d2_50) ?_
                refine ⟨?_, by decide, by decide⟩
                rw [e0]
                exact ⟨_, rfl, own_i2cr _, N0, rfl⟩
theorem d1_0 : decode method_4_code 0 = .ok (.iload_n 1, 1) := by decide +kernel
theorem d1_1 : decode method_4_code 1 = .ok (.iconst 2, 1) := by decide +kernel
theorem d1_2 : decode method_4_code 2 = .ok (.iload_n 0, 1) := by decide +kernel
theorem d1_3 : decode method_4_code 3 = .ok (.imul, 1) := by decide +kernel
theorem d1_4 : decode method_4_code 4 = .ok (.iushr, 1) := by decide +kernel
theorem d1_5 : decode method_4_code 5 = .ok (.iconst 3, 1) := by decide +kernel
theorem d1_6 : decode method_4_code 6 = .ok (.iand, 1) := by decide +kernel
theorem d1_7 : decode method_4_code 7 = .ok (.istore 5, 2) := by decide +kernel
theorem d1_9 : decode method_4_code 9 = .ok (.lload_n 3, 1) := by decide +kernel
theorem d1_10 : decode method_4_code 10 = .ok (.bipush 16, 2) := by decide +kernel
theorem d1_12 : decode method_4_code 12 = .ok (.iload_n 0, 1) := by decide +kernel
theorem d1_13 : decode method_4_code 13 = .ok (.iconst 3, 1) := by decide +kernel
theorem d1_14 : decode method_4_code 14 = .ok (.iand, 1) := by decide +kernel
theorem d1_15 : decode method_4_code 15 = .ok (.imul, 1) := by decide +kernel
theorem d1_16 : decode method_4_code 16 = .ok (.lushr, 1) := by decide +kernel
theorem d1_17 : decode method_4_code 17 = .ok (.ldc2_w 28, 3) := by decide +kernel
theorem d1_20 : decode method_4_code 20 = .ok (.land, 1) := by decide +kernel
theorem d1_21 : decode method_4_code 21 = .ok (.l2i, 1) := by decide +kernel
theorem d1_22 : decode method_4_code 22 = .ok (.i2c, 1) := by decide +kernel
theorem d1_23 : decode method_4_code 23 = .ok (.istore 6, 2) := by decide +kernel
theorem d1_25 : decode method_4_code 25 = .ok (.iload_n 2, 1) := by decide +kernel
theorem d1_26 : decode method_4_code 26 = .ok (.ifCond .eq 8, 3) := by decide +kernel
theorem d1_34 : decode method_4_code 34 = .ok (.bipush 7, 2) := by decide +kernel
theorem d1_36 : decode method_4_code 36 = .ok (.istore 7, 2) := by decide +kernel
theorem d1_38 : decode method_4_code 38 = .ok (.iload_n 0, 1) := by decide +kernel
theorem d1_39 : decode method_4_code 39 = .ok (.iload 7, 2) := by decide +kernel
theorem d1_41 : decode method_4_code 41 = .ok (.if_icmp .ge 9, 3) := by decide +kernel
theorem d1_44 : decode method_4_code 44 = .ok (.iload 5, 2) := by decide +kernel
theorem d1_46 : decode method_4_code 46 = .ok (.iconst 2, 1) := by decide +kernel
theorem d1_47 : decode method_4_code 47 = .ok (.if_icmp .lt 6, 3) := by decide +kernel
theorem d1_53 : decode method_4_code 53 = .ok (.iload_n 0, 1) := by decide +kernel
theorem d1_54 : decode method_4_code 54 = .ok (.iload_n 2, 1) := by decide +kernel
theorem d1_55 : decode method_4_code 55 = .ok (.invokestatic 30, 3) := by decide +kernel
theorem pd_17 : parseMethodDescriptor "(IZ)C" = some ⟨[.int, .boolean], some .char⟩ := by decide +kernel
theorem d1_58 : decode method_4_code 58 = .ok (.istore 8, 2) := by decide +kernel
theorem d1_60 : decode method_4_code 60 = .ok (.iload 5, 2) := by decide +kernel
theorem d1_62 : decode method_4_code 62 = .ok (.ifCond .ne 6, 3) := by decide +kernel
theorem d1_65 : decode method_4_code 65 = .ok (.iload 8, 2) := by decide +kernel
theorem d1_67 : decode method_4_code 67 = .ok (.ireturn, 1) := by decide +kernel
theorem d1_68 : decode method_4_code 68 = .ok (.iload 8, 2) := by decide +kernel
theorem d1_70 : decode method_4_code 70 = .ok (.bipush 97, 2) := by decide +kernel
theorem d1_72 : decode method_4_code 72 = .ok (.if_icmp .lt 17, 3) := by decide +kernel
theorem d1_89 : decode method_4_code 89 = .ok (.iload 8, 2) := by decide +kernel
theorem d1_91 : decode method_4_code 91 = .ok (.ireturn, 1) := by decide +kernel
theorem d1_75 : decode method_4_code 75 = .ok (.iload 8, 2) := by decide +kernel
theorem d1_77 : decode method_4_code 77 = .ok (.bipush 122, 2) := by decide +kernel
theorem d1_79 : decode method_4_code 79 = .ok (.if_icmp .gt 10, 3) := by decide +kernel
theorem d1_82 : decode method_4_code 82 = .ok (.iload 8, 2) := by decide +kernel
theorem d1_84 : decode method_4_code 84 = .ok (.bipush 32, 2) := by decide +kernel
theorem d1_86 : decode method_4_code 86 = .ok (.isub, 1) := by decide +kernel
theorem d1_87 : decode method_4_code 87 = .ok (.i2c, 1) := by decide +kernel
theorem d1_88 : decode method_4_code 88 = .ok (.ireturn, 1) := by decide +kernel
theorem d1_50 : decode method_4_code 50 = .ok (.iload 6, 2) := by decide +kernel
theorem d1_52 : decode method_4_code 52 = .ok (.ireturn, 1) := by decide +kernel
theorem d1_29 : decode method_4_code 29 = .ok (.bipush 8, 2) := by decide +kernel
theorem d1_31 : decode method_4_code 31 = .ok (.goto 5, 3) := by decide +kernel
theorem ef_1 (m : MethodId) (x0 : Int32) (x1 : Int32) (x2 : Int32) (x3 : Int64) : entryFrame m #[(.int x0), (.int x1), (.int x2), (.long x3)] 9 = mkF m 0 #[.val (.int x0), .val (.int x1), .val (.int x2), .val (.long x3), .second, .unset, .unset, .unset, .unset] [] := by first | (simp [entryFrame, mkF, argsToLocals, Value.category]; done) | rfl
set_option maxRecDepth 65536 in
set_option maxHeartbeats 40000000 in
theorem rmPK (l : Launch) (Z : State) (a0 : Array Value) (hw : ∀ d ∈ tables_1, d.before a0 Z = true) (p1 p2 p3 : Int32) (q4 : Int64) (h0 : Heap) (n0 : Nat) (Z0 : n0 ≤ h0.size) :
    Met l (⟨"com/example/gids/gids/LocRuleAuthorityStartPinLaw", "pick", "(IIZJ)C"⟩ : MethodName) method_4_code 9 (some .char) [] ({ frames := 1, cells := 0, slots := 0, locals := 13 } : Room) Z #[(.int p1), (.int p2), (.int p3), (.long q4)] h0 (fun v h L => ∃ z : Int32, v = some (.int z) ∧ rng z ∧ Fr n0 L ∧ h = h0) := by
  refine of_goal (plainFor_of_name (by first | (simp [plainName, overriddenIn]; done) | decide +kernel)) ?_
  intro p e s m below meth c s₁ C X0 e0
  have C0 := C
  obtain ⟨hx, hZ, hby, hml, hret, hown, hnm⟩ := C
  have hown : s.vm.findClass "com/example/gids/gids/LocRuleAuthorityStartPinLaw" = some m.cls := hown
  have hret : meth.sig.returnType = (some .char) := hret
  have N0 := Fr.nil n0
  rw [ef_1]
  refine Goal.step (T' := s₁) (g' := (mkF m 1 #[.val (.int p1), .val (.int p2), .val (.int p3), .val (.long q4), .second, .unset, .unset, .unset, .unset] [(.int p2)])) ?_ (fun t k => XS.iloadN X0.here hx rfl (hb hby d1_0) rfl k)
  refine Goal.step (T' := s₁) (g' := (mkF m 2 #[.val (.int p1), .val (.int p2), .val (.int p3), .val (.long q4), .second, .unset, .unset, .unset, .unset] [(.int (2 : Int32)), (.int p2)])) ?_ (fun t k => XS.iconst X0.here hx rfl (hb hby d1_1) k)
  refine Goal.step (T' := s₁) (g' := (mkF m 3 #[.val (.int p1), .val (.int p2), .val (.int p3), .val (.long q4), .second, .unset, .unset, .unset, .unset] [(.int p1), (.int (2 : Int32)), (.int p2)])) ?_ (fun t k => XS.iloadN X0.here hx rfl (hb hby d1_2) rfl k)
  refine Goal.step (T' := s₁) (g' := (mkF m 4 #[.val (.int p1), .val (.int p2), .val (.int p3), .val (.long q4), .second, .unset, .unset, .unset, .unset] [(.int ((2 : Int32) * p1)), (.int p2)])) ?_ (fun t k => XS.imul X0.here hx rfl (hb hby d1_3) rfl k)
  refine Goal.step (T' := s₁) (g' := (mkF m 5 #[.val (.int p1), .val (.int p2), .val (.int p3), .val (.long q4), .second, .unset, .unset, .unset, .unset] [(.int ((p2.toUInt32 >>> (((2 : Int32) * p1) &&& 31).toUInt32).toInt32))])) ?_ (fun t k => XS.iushr X0.here hx rfl (hb hby d1_4) rfl k)
  refine Goal.step (T' := s₁) (g' := (mkF m 6 #[.val (.int p1), .val (.int p2), .val (.int p3), .val (.long q4), .second, .unset, .unset, .unset, .unset] [(.int (3 : Int32)), (.int ((p2.toUInt32 >>> (((2 : Int32) * p1) &&& 31).toUInt32).toInt32))])) ?_ (fun t k => XS.iconst X0.here hx rfl (hb hby d1_5) k)
  refine Goal.step (T' := s₁) (g' := (mkF m 7 #[.val (.int p1), .val (.int p2), .val (.int p3), .val (.long q4), .second, .unset, .unset, .unset, .unset] [(.int (((p2.toUInt32 >>> (((2 : Int32) * p1) &&& 31).toUInt32).toInt32) &&& (3 : Int32)))])) ?_ (fun t k => XS.iand X0.here hx rfl (hb hby d1_6) rfl k)
  refine Goal.step (T' := s₁) (g' := (mkF m 9 #[.val (.int p1), .val (.int p2), .val (.int p3), .val (.long q4), .second, .val (.int (((p2.toUInt32 >>> (((2 : Int32) * p1) &&& 31).toUInt32).toInt32) &&& (3 : Int32))), .unset, .unset, .unset] [])) ?_ (fun t k => XS.istore X0.here hx rfl (hb hby d1_7) rfl (l' := #[.val (.int p1), .val (.int p2), .val (.int p3), .val (.long q4), .second, .val (.int (((p2.toUInt32 >>> (((2 : Int32) * p1) &&& 31).toUInt32).toInt32) &&& (3 : Int32))), .unset, .unset, .unset]) rfl k)
  refine Goal.step (T' := s₁) (g' := (mkF m 10 #[.val (.int p1), .val (.int p2), .val (.int p3), .val (.long q4), .second, .val (.int (((p2.toUInt32 >>> (((2 : Int32) * p1) &&& 31).toUInt32).toInt32) &&& (3 : Int32))), .unset, .unset, .unset] [(.long q4)])) ?_ (fun t k => XS.lloadN X0.here hx rfl (hb hby d1_9) rfl k)
  refine Goal.step (T' := s₁) (g' := (mkF m 12 #[.val (.int p1), .val (.int p2), .val (.int p3), .val (.long q4), .second, .val (.int (((p2.toUInt32 >>> (((2 : Int32) * p1) &&& 31).toUInt32).toInt32) &&& (3 : Int32))), .unset, .unset, .unset] [(.int (16 : Int32)), (.long q4)])) ?_ (fun t k => XS.bipush X0.here hx rfl (hb hby d1_10) k)
  refine Goal.step (T' := s₁) (g' := (mkF m 13 #[.val (.int p1), .val (.int p2), .val (.int p3), .val (.long q4), .second, .val (.int (((p2.toUInt32 >>> (((2 : Int32) * p1) &&& 31).toUInt32).toInt32) &&& (3 : Int32))), .unset, .unset, .unset] [(.int p1), (.int (16 : Int32)), (.long q4)])) ?_ (fun t k => XS.iloadN X0.here hx rfl (hb hby d1_12) rfl k)
  refine Goal.step (T' := s₁) (g' := (mkF m 14 #[.val (.int p1), .val (.int p2), .val (.int p3), .val (.long q4), .second, .val (.int (((p2.toUInt32 >>> (((2 : Int32) * p1) &&& 31).toUInt32).toInt32) &&& (3 : Int32))), .unset, .unset, .unset] [(.int (3 : Int32)), (.int p1), (.int (16 : Int32)), (.long q4)])) ?_ (fun t k => XS.iconst X0.here hx rfl (hb hby d1_13) k)
  refine Goal.step (T' := s₁) (g' := (mkF m 15 #[.val (.int p1), .val (.int p2), .val (.int p3), .val (.long q4), .second, .val (.int (((p2.toUInt32 >>> (((2 : Int32) * p1) &&& 31).toUInt32).toInt32) &&& (3 : Int32))), .unset, .unset, .unset] [(.int (p1 &&& (3 : Int32))), (.int (16 : Int32)), (.long q4)])) ?_ (fun t k => XS.iand X0.here hx rfl (hb hby d1_14) rfl k)
  refine Goal.step (T' := s₁) (g' := (mkF m 16 #[.val (.int p1), .val (.int p2), .val (.int p3), .val (.long q4), .second, .val (.int (((p2.toUInt32 >>> (((2 : Int32) * p1) &&& 31).toUInt32).toInt32) &&& (3 : Int32))), .unset, .unset, .unset] [(.int ((16 : Int32) * (p1 &&& (3 : Int32)))), (.long q4)])) ?_ (fun t k => XS.imul X0.here hx rfl (hb hby d1_15) rfl k)
  refine Goal.step (T' := s₁) (g' := (mkF m 17 #[.val (.int p1), .val (.int p2), .val (.int p3), .val (.long q4), .second, .val (.int (((p2.toUInt32 >>> (((2 : Int32) * p1) &&& 31).toUInt32).toInt32) &&& (3 : Int32))), .unset, .unset, .unset] [(.long ((q4.toUInt64 >>> (((16 : Int32) * (p1 &&& (3 : Int32))) &&& 0x3f).toInt64.toUInt64).toInt64))])) ?_ (fun t k => XS.lushr X0.here hx rfl (hb hby d1_16) rfl k)
  refine Goal.step (T' := s₁) (g' := (mkF m 20 #[.val (.int p1), .val (.int p2), .val (.int p3), .val (.long q4), .second, .val (.int (((p2.toUInt32 >>> (((2 : Int32) * p1) &&& 31).toUInt32).toInt32) &&& (3 : Int32))), .unset, .unset, .unset] [(.long (65535 : Int64)), (.long ((q4.toUInt64 >>> (((16 : Int32) * (p1 &&& (3 : Int32))) &&& 0x3f).toInt64.toUInt64).toInt64))])) ?_ (fun t k => X0.ldc2Long hx hown (mvT hZ (hw _ (List.mem_of_getElem? (i := 6) rfl))) (g := (mkF m 17 #[.val (.int p1), .val (.int p2), .val (.int p3), .val (.long q4), .second, .val (.int (((p2.toUInt32 >>> (((2 : Int32) * p1) &&& 31).toUInt32).toInt32) &&& (3 : Int32))), .unset, .unset, .unset] [(.long ((q4.toUInt64 >>> (((16 : Int32) * (p1 &&& (3 : Int32))) &&& 0x3f).toInt64.toUInt64).toInt64))])) rfl (hb hby d1_17) _ k)
  refine Goal.step (T' := s₁) (g' := (mkF m 21 #[.val (.int p1), .val (.int p2), .val (.int p3), .val (.long q4), .second, .val (.int (((p2.toUInt32 >>> (((2 : Int32) * p1) &&& 31).toUInt32).toInt32) &&& (3 : Int32))), .unset, .unset, .unset] [(.long (((q4.toUInt64 >>> (((16 : Int32) * (p1 &&& (3 : Int32))) &&& 0x3f).toInt64.toUInt64).toInt64) &&& (65535 : Int64)))])) ?_ (fun t k => XS.land X0.here hx rfl (hb hby d1_20) rfl k)
  refine Goal.step (T' := s₁) (g' := (mkF m 22 #[.val (.int p1), .val (.int p2), .val (.int p3), .val (.long q4), .second, .val (.int (((p2.toUInt32 >>> (((2 : Int32) * p1) &&& 31).toUInt32).toInt32) &&& (3 : Int32))), .unset, .unset, .unset] [(.int ((((q4.toUInt64 >>> (((16 : Int32) * (p1 &&& (3 : Int32))) &&& 0x3f).toInt64.toUInt64).toInt64) &&& (65535 : Int64)).toInt32))])) ?_ (fun t k => XS.l2i X0.here hx rfl (hb hby d1_21) rfl k)
  refine Goal.step (T' := s₁) (g' := (mkF m 23 #[.val (.int p1), .val (.int p2), .val (.int p3), .val (.long q4), .second, .val (.int (((p2.toUInt32 >>> (((2 : Int32) * p1) &&& 31).toUInt32).toInt32) &&& (3 : Int32))), .unset, .unset, .unset] [(.int (((((q4.toUInt64 >>> (((16 : Int32) * (p1 &&& (3 : Int32))) &&& 0x3f).toInt64.toUInt64).toInt64) &&& (65535 : Int64)).toInt32).toUInt32.toUInt16.toUInt32.toInt32))])) ?_ (fun t k => XS.i2c X0.here hx rfl (hb hby d1_22) rfl k)
  refine Goal.step (T' := s₁) (g' := (mkF m 25 #[.val (.int p1), .val (.int p2), .val (.int p3), .val (.long q4), .second, .val (.int (((p2.toUInt32 >>> (((2 : Int32) * p1) &&& 31).toUInt32).toInt32) &&& (3 : Int32))), .val (.int (((((q4.toUInt64 >>> (((16 : Int32) * (p1 &&& (3 : Int32))) &&& 0x3f).toInt64.toUInt64).toInt64) &&& (65535 : Int64)).toInt32).toUInt32.toUInt16.toUInt32.toInt32)), .unset, .unset] [])) ?_ (fun t k => XS.istore X0.here hx rfl (hb hby d1_23) rfl (l' := #[.val (.int p1), .val (.int p2), .val (.int p3), .val (.long q4), .second, .val (.int (((p2.toUInt32 >>> (((2 : Int32) * p1) &&& 31).toUInt32).toInt32) &&& (3 : Int32))), .val (.int (((((q4.toUInt64 >>> (((16 : Int32) * (p1 &&& (3 : Int32))) &&& 0x3f).toInt64.toUInt64).toInt64) &&& (65535 : Int64)).toInt32).toUInt32.toUInt16.toUInt32.toInt32)), .unset, .unset]) rfl k)
  refine Goal.step (T' := s₁) (g' := (mkF m 26 #[.val (.int p1), .val (.int p2), .val (.int p3), .val (.long q4), .second, .val (.int (((p2.toUInt32 >>> (((2 : Int32) * p1) &&& 31).toUInt32).toInt32) &&& (3 : Int32))), .val (.int (((((q4.toUInt64 >>> (((16 : Int32) * (p1 &&& (3 : Int32))) &&& 0x3f).toInt64.toUInt64).toInt64) &&& (65535 : Int64)).toInt32).toUInt32.toUInt16.toUInt32.toInt32)), .unset, .unset] [(.int p3)])) ?_ (fun t k => XS.iloadN X0.here hx rfl (hb hby d1_25) rfl k)
  by_cases c1001 : p3 = (0 : Int32)
  · refine Goal.step (T' := s₁) (g' := (mkF m 34 #[.val (.int p1), .val (.int p2), .val (.int p3), .val (.long q4), .second, .val (.int (((p2.toUInt32 >>> (((2 : Int32) * p1) &&& 31).toUInt32).toInt32) &&& (3 : Int32))), .val (.int (((((q4.toUInt64 >>> (((16 : Int32) * (p1 &&& (3 : Int32))) &&& 0x3f).toInt64.toUInt64).toInt64) &&& (65535 : Int64)).toInt32).toUInt32.toUInt16.toUInt32.toInt32)), .unset, .unset] [])) ?_ (fun t k => XS.ifYes X0.here hx rfl (pc0 := 26) (pc' := 34) rfl (hb hby d1_26) rfl ((if0 _ _).trans (teq c1001).1) (by decide) (by decide) k)
    refine Goal.step (T' := s₁) (g' := (mkF m 36 #[.val (.int p1), .val (.int p2), .val (.int p3), .val (.long q4), .second, .val (.int (((p2.toUInt32 >>> (((2 : Int32) * p1) &&& 31).toUInt32).toInt32) &&& (3 : Int32))), .val (.int (((((q4.toUInt64 >>> (((16 : Int32) * (p1 &&& (3 : Int32))) &&& 0x3f).toInt64.toUInt64).toInt64) &&& (65535 : Int64)).toInt32).toUInt32.toUInt16.toUInt32.toInt32)), .unset, .unset] [(.int (7 : Int32))])) ?_ (fun t k => XS.bipush X0.here hx rfl (hb hby d1_34) k)
    refine Goal.step (T' := s₁) (g' := (mkF m 38 #[.val (.int p1), .val (.int p2), .val (.int p3), .val (.long q4), .second, .val (.int (((p2.toUInt32 >>> (((2 : Int32) * p1) &&& 31).toUInt32).toInt32) &&& (3 : Int32))), .val (.int (((((q4.toUInt64 >>> (((16 : Int32) * (p1 &&& (3 : Int32))) &&& 0x3f).toInt64.toUInt64).toInt64) &&& (65535 : Int64)).toInt32).toUInt32.toUInt16.toUInt32.toInt32)), .val (.int (7 : Int32)), .unset] [])) ?_ (fun t k => XS.istore X0.here hx rfl (hb hby d1_36) rfl (l' := #[.val (.int p1), .val (.int p2), .val (.int p3), .val (.long q4), .second, .val (.int (((p2.toUInt32 >>> (((2 : Int32) * p1) &&& 31).toUInt32).toInt32) &&& (3 : Int32))), .val (.int (((((q4.toUInt64 >>> (((16 : Int32) * (p1 &&& (3 : Int32))) &&& 0x3f).toInt64.toUInt64).toInt64) &&& (65535 : Int64)).toInt32).toUInt32.toUInt16.toUInt32.toInt32)), .val (.int (7 : Int32)), .unset]) rfl k)
    refine Goal.step (T' := s₁) (g' := (mkF m 39 #[.val (.int p1), .val (.int p2), .val (.int p3), .val (.long q4), .second, .val (.int (((p2.toUInt32 >>> (((2 : Int32) * p1) &&& 31).toUInt32).toInt32) &&& (3 : Int32))), .val (.int (((((q4.toUInt64 >>> (((16 : Int32) * (p1 &&& (3 : Int32))) &&& 0x3f).toInt64.toUInt64).toInt64) &&& (65535 : Int64)).toInt32).toUInt32.toUInt16.toUInt32.toInt32)), .val (.int (7 : Int32)), .unset] [(.int p1)])) ?_ (fun t k => XS.iloadN X0.here hx rfl (hb hby d1_38) rfl k)
    refine Goal.step (T' := s₁) (g' := (mkF m 41 #[.val (.int p1), .val (.int p2), .val (.int p3), .val (.long q4), .second, .val (.int (((p2.toUInt32 >>> (((2 : Int32) * p1) &&& 31).toUInt32).toInt32) &&& (3 : Int32))), .val (.int (((((q4.toUInt64 >>> (((16 : Int32) * (p1 &&& (3 : Int32))) &&& 0x3f).toInt64.toUInt64).toInt64) &&& (65535 : Int64)).toInt32).toUInt32.toUInt16.toUInt32.toInt32)), .val (.int (7 : Int32)), .unset] [(.int (7 : Int32)), (.int p1)])) ?_ (fun t k => XS.iload X0.here hx rfl (hb hby d1_39) rfl k)
    by_cases c1002 : p1 < (7 : Int32)
    · refine Goal.step (T' := s₁) (g' := (mkF m 44 #[.val (.int p1), .val (.int p2), .val (.int p3), .val (.long q4), .second, .val (.int (((p2.toUInt32 >>> (((2 : Int32) * p1) &&& 31).toUInt32).toInt32) &&& (3 : Int32))), .val (.int (((((q4.toUInt64 >>> (((16 : Int32) * (p1 &&& (3 : Int32))) &&& 0x3f).toInt64.toUInt64).toInt64) &&& (65535 : Int64)).toInt32).toUInt32.toUInt16.toUInt32.toInt32)), .val (.int (7 : Int32)), .unset] [])) ?_ (fun t k => XS.icmpNo X0.here hx rfl (hb hby d1_41) rfl (tlt c1002).2.1 k)
      refine Goal.step (T' := s₁) (g' := (mkF m 46 #[.val (.int p1), .val (.int p2), .val (.int p3), .val (.long q4), .second, .val (.int (((p2.toUInt32 >>> (((2 : Int32) * p1) &&& 31).toUInt32).toInt32) &&& (3 : Int32))), .val (.int (((((q4.toUInt64 >>> (((16 : Int32) * (p1 &&& (3 : Int32))) &&& 0x3f).toInt64.toUInt64).toInt64) &&& (65535 : Int64)).toInt32).toUInt32.toUInt16.toUInt32.toInt32)), .val (.int (7 : Int32)), .unset] [(.int (((p2.toUInt32 >>> (((2 : Int32) * p1) &&& 31).toUInt32).toInt32) &&& (3 : Int32)))])) ?_ (fun t k => XS.iload X0.here hx rfl (hb hby d1_44) rfl k)
      refine Goal.step (T' := s₁) (g' := (mkF m 47 #[.val (.int p1), .val (.int p2), .val (.int p3), .val (.long q4), .second, .val (.int (((p2.toUInt32 >>> (((2 : Int32) * p1) &&& 31).toUInt32).toInt32) &&& (3 : Int32))), .val (.int (((((q4.toUInt64 >>> (((16 : Int32) * (p1 &&& (3 : Int32))) &&& 0x3f).toInt64.toUInt64).toInt64) &&& (65535 : Int64)).toInt32).toUInt32.toUInt16.toUInt32.toInt32)), .val (.int (7 : Int32)), .unset] [(.int (2 : Int32)), (.int (((p2.toUInt32 >>> (((2 : Int32) * p1) &&& 31).toUInt32).toInt32) &&& (3 : Int32)))])) ?_ (fun t k => XS.iconst X0.here hx rfl (hb hby d1_46) k)
      by_cases c1003 : (((p2.toUInt32 >>> (((2 : Int32) * p1) &&& 31).toUInt32).toInt32) &&& (3 : Int32)) < (2 : Int32)
      · refine Goal.step (T' := s₁) (g' := (mkF m 53 #[.val (.int p1), .val (.int p2), .val (.int p3), .val (.long q4), .second, .val (.int (((p2.toUInt32 >>> (((2 : Int32) * p1) &&& 31).toUInt32).toInt32) &&& (3 : Int32))), .val (.int (((((q4.toUInt64 >>> (((16 : Int32) * (p1 &&& (3 : Int32))) &&& 0x3f).toInt64.toUInt64).toInt64) &&& (65535 : Int64)).toInt32).toUInt32.toUInt16.toUInt32.toInt32)), .val (.int (7 : Int32)), .unset] [])) ?_ (fun t k => XS.icmpYes X0.here hx rfl (pc0 := 47) (pc' := 53) rfl (hb hby d1_47) rfl (tlt c1003).1 (by decide) (by decide) k)
        refine Goal.step (T' := s₁) (g' := (mkF m 54 #[.val (.int p1), .val (.int p2), .val (.int p3), .val (.long q4), .second, .val (.int (((p2.toUInt32 >>> (((2 : Int32) * p1) &&& 31).toUInt32).toInt32) &&& (3 : Int32))), .val (.int (((((q4.toUInt64 >>> (((16 : Int32) * (p1 &&& (3 : Int32))) &&& 0x3f).toInt64.toUInt64).toInt64) &&& (65535 : Int64)).toInt32).toUInt32.toUInt16.toUInt32.toInt32)), .val (.int (7 : Int32)), .unset] [(.int p1)])) ?_ (fun t k => XS.iloadN X0.here hx rfl (hb hby d1_53) rfl k)
        refine Goal.step (T' := s₁) (g' := (mkF m 55 #[.val (.int p1), .val (.int p2), .val (.int p3), .val (.long q4), .second, .val (.int (((p2.toUInt32 >>> (((2 : Int32) * p1) &&& 31).toUInt32).toInt32) &&& (3 : Int32))), .val (.int (((((q4.toUInt64 >>> (((16 : Int32) * (p1 &&& (3 : Int32))) &&& 0x3f).toInt64.toUInt64).toInt64) &&& (65535 : Int64)).toInt32).toUInt32.toUInt16.toUInt32.toInt32)), .val (.int (7 : Int32)), .unset] [(.int p3), (.int p1)])) ?_ (fun t k => XS.iloadN X0.here hx rfl (hb hby d1_54) rfl k)
        obtain ⟨v1004, T1004, h1004, L1004, X1004, e1004, hQ1004, st1004⟩ := callStatic X0 hx hZ hown (hw _ (List.mem_of_getElem? (i := 7) rfl)) (hw _ (List.mem_of_getElem? (i := 8) rfl)) (hw _ (List.mem_of_getElem? (i := 4) rfl)) (hw _ (List.mem_of_getElem? (i := 9) rfl)) (by decide) (rmPT l Z a0 hw p1 p3 h0 n0 (by omega)) e0 (W := 0) (by decide) (by decide) (by decide) (by decide) (g := (mkF m 55 #[.val (.int p1), .val (.int p2), .val (.int p3), .val (.long q4), .second, .val (.int (((p2.toUInt32 >>> (((2 : Int32) * p1) &&& 31).toUInt32).toInt32) &&& (3 : Int32))), .val (.int (((((q4.toUInt64 >>> (((16 : Int32) * (p1 &&& (3 : Int32))) &&& 0x3f).toInt64.toUInt64).toInt64) &&& (65535 : Int64)).toInt32).toUInt32.toUInt16.toUInt32.toInt32)), .val (.int (7 : Int32)), .unset] [(.int p3), (.int p1)])) rfl (by rw [hml]; rfl) (argsL := [(.int p1), (.int p3)]) (rest := []) (lenOf pd_17 rfl) rfl (by show 2 * 0 + _ ≤ _; exact Nat.le_of_eq rfl) (hb hby d1_55) rfl
        obtain ⟨z1004, rfl, rz1004, M1004, q1004⟩ := hQ1004
        rw [q1004] at e1004
        have N1004 := Fr.app N0 M1004
        refine Goal.step (T' := T1004) (g' := (mkF m 58 #[.val (.int p1), .val (.int p2), .val (.int p3), .val (.long q4), .second, .val (.int (((p2.toUInt32 >>> (((2 : Int32) * p1) &&& 31).toUInt32).toInt32) &&& (3 : Int32))), .val (.int (((((q4.toUInt64 >>> (((16 : Int32) * (p1 &&& (3 : Int32))) &&& 0x3f).toInt64.toUInt64).toInt64) &&& (65535 : Int64)).toInt32).toUInt32.toUInt16.toUInt32.toInt32)), .val (.int (7 : Int32)), .unset] [(.int z1004)])) ?_ st1004
        refine Goal.step (T' := T1004) (g' := (mkF m 60 #[.val (.int p1), .val (.int p2), .val (.int p3), .val (.long q4), .second, .val (.int (((p2.toUInt32 >>> (((2 : Int32) * p1) &&& 31).toUInt32).toInt32) &&& (3 : Int32))), .val (.int (((((q4.toUInt64 >>> (((16 : Int32) * (p1 &&& (3 : Int32))) &&& 0x3f).toInt64.toUInt64).toInt64) &&& (65535 : Int64)).toInt32).toUInt32.toUInt16.toUInt32.toInt32)), .val (.int (7 : Int32)), .val (.int z1004)] [])) ?_ (fun t k => XS.istore X1004.here hx rfl (hb hby d1_58) rfl (l' := #[.val (.int p1), .val (.int p2), .val (.int p3), .val (.long q4), .second, .val (.int (((p2.toUInt32 >>> (((2 : Int32) * p1) &&& 31).toUInt32).toInt32) &&& (3 : Int32))), .val (.int (((((q4.toUInt64 >>> (((16 : Int32) * (p1 &&& (3 : Int32))) &&& 0x3f).toInt64.toUInt64).toInt64) &&& (65535 : Int64)).toInt32).toUInt32.toUInt16.toUInt32.toInt32)), .val (.int (7 : Int32)), .val (.int z1004)]) rfl k)
        refine Goal.step (T' := T1004) (g' := (mkF m 62 #[.val (.int p1), .val (.int p2), .val (.int p3), .val (.long q4), .second, .val (.int (((p2.toUInt32 >>> (((2 : Int32) * p1) &&& 31).toUInt32).toInt32) &&& (3 : Int32))), .val (.int (((((q4.toUInt64 >>> (((16 : Int32) * (p1 &&& (3 : Int32))) &&& 0x3f).toInt64.toUInt64).toInt64) &&& (65535 : Int64)).toInt32).toUInt32.toUInt16.toUInt32.toInt32)), .val (.int (7 : Int32)), .val (.int z1004)] [(.int (((p2.toUInt32 >>> (((2 : Int32) * p1) &&& 31).toUInt32).toInt32) &&& (3 : Int32)))])) ?_ (fun t k => XS.iload X1004.here hx rfl (hb hby d1_60) rfl k)
        by_cases c1005 : (((p2.toUInt32 >>> (((2 : Int32) * p1) &&& 31).toUInt32).toInt32) &&& (3 : Int32)) = (0 : Int32)
        · refine Goal.step (T' := T1004) (g' := (mkF m 65 #[.val (.int p1), .val (.int p2), .val (.int p3), .val (.long q4), .second, .val (.int (((p2.toUInt32 >>> (((2 : Int32) * p1) &&& 31).toUInt32).toInt32) &&& (3 : Int32))), .val (.int (((((q4.toUInt64 >>> (((16 : Int32) * (p1 &&& (3 : Int32))) &&& 0x3f).toInt64.toUInt64).toInt64) &&& (65535 : Int64)).toInt32).toUInt32.toUInt16.toUInt32.toInt32)), .val (.int (7 : Int32)), .val (.int z1004)] [])) ?_ (fun t k => XS.ifNo X1004.here hx rfl (hb hby d1_62) rfl ((if0 _ _).trans (teq c1005).2) k)
          refine Goal.step (T' := T1004) (g' := (mkF m 67 #[.val (.int p1), .val (.int p2), .val (.int p3), .val (.long q4), .second, .val (.int (((p2.toUInt32 >>> (((2 : Int32) * p1) &&& 31).toUInt32).toInt32) &&& (3 : Int32))), .val (.int (((((q4.toUInt64 >>> (((16 : Int32) * (p1 &&& (3 : Int32))) &&& 0x3f).toInt64.toUInt64).toInt64) &&& (65535 : Int64)).toInt32).toUInt32.toUInt16.toUInt32.toInt32)), .val (.int (7 : Int32)), .val (.int z1004)] [(.int z1004)])) ?_ (fun t k => XS.iload X1004.here hx rfl (hb hby d1_65) rfl k)
          refine Goal.retN (t := .char) X1004 hx hret (by simp) (hb hby d1_67) ?_
          refine ⟨?_, by decide, by decide⟩
          rw [e1004]
          exact ⟨_, rfl, own_i2cr _, N1004, rfl⟩
        · refine Goal.step (T' := T1004) (g' := (mkF m 68 #[.val (.int p1), .val (.int p2), .val (.int p3), .val (.long q4), .second, .val (.int (((p2.toUInt32 >>> (((2 : Int32) * p1) &&& 31).toUInt32).toInt32) &&& (3 : Int32))), .val (.int (((((q4.toUInt64 >>> (((16 : Int32) * (p1 &&& (3 : Int32))) &&& 0x3f).toInt64.toUInt64).toInt64) &&& (65535 : Int64)).toInt32).toUInt32.toUInt16.toUInt32.toInt32)), .val (.int (7 : Int32)), .val (.int z1004)] [])) ?_ (fun t k => XS.ifYes X1004.here hx rfl (pc0 := 62) (pc' := 68) rfl (hb hby d1_62) rfl ((if0 _ _).trans (feq c1005).2) (by decide) (by decide) k)
          refine Goal.step (T' := T1004) (g' := (mkF m 70 #[.val (.int p1), .val (.int p2), .val (.int p3), .val (.long q4), .second, .val (.int (((p2.toUInt32 >>> (((2 : Int32) * p1) &&& 31).toUInt32).toInt32) &&& (3 : Int32))), .val (.int (((((q4.toUInt64 >>> (((16 : Int32) * (p1 &&& (3 : Int32))) &&& 0x3f).toInt64.toUInt64).toInt64) &&& (65535 : Int64)).toInt32).toUInt32.toUInt16.toUInt32.toInt32)), .val (.int (7 : Int32)), .val (.int z1004)] [(.int z1004)])) ?_ (fun t k => XS.iload X1004.here hx rfl (hb hby d1_68) rfl k)
          refine Goal.step (T' := T1004) (g' := (mkF m 72 #[.val (.int p1), .val (.int p2), .val (.int p3), .val (.long q4), .second, .val (.int (((p2.toUInt32 >>> (((2 : Int32) * p1) &&& 31).toUInt32).toInt32) &&& (3 : Int32))), .val (.int (((((q4.toUInt64 >>> (((16 : Int32) * (p1 &&& (3 : Int32))) &&& 0x3f).toInt64.toUInt64).toInt64) &&& (65535 : Int64)).toInt32).toUInt32.toUInt16.toUInt32.toInt32)), .val (.int (7 : Int32)), .val (.int z1004)] [(.int (97 : Int32)), (.int z1004)])) ?_ (fun t k => XS.bipush X1004.here hx rfl (hb hby d1_70) k)
          by_cases c1006 : z1004 < (97 : Int32)
          · refine Goal.step (T' := T1004) (g' := (mkF m 89 #[.val (.int p1), .val (.int p2), .val (.int p3), .val (.long q4), .second, .val (.int (((p2.toUInt32 >>> (((2 : Int32) * p1) &&& 31).toUInt32).toInt32) &&& (3 : Int32))), .val (.int (((((q4.toUInt64 >>> (((16 : Int32) * (p1 &&& (3 : Int32))) &&& 0x3f).toInt64.toUInt64).toInt64) &&& (65535 : Int64)).toInt32).toUInt32.toUInt16.toUInt32.toInt32)), .val (.int (7 : Int32)), .val (.int z1004)] [])) ?_ (fun t k => XS.icmpYes X1004.here hx rfl (pc0 := 72) (pc' := 89) rfl (hb hby d1_72) rfl (tlt c1006).1 (by decide) (by decide) k)
            refine Goal.step (T' := T1004) (g' := (mkF m 91 #[.val (.int p1), .val (.int p2), .val (.int p3), .val (.long q4), .second, .val (.int (((p2.toUInt32 >>> (((2 : Int32) * p1) &&& 31).toUInt32).toInt32) &&& (3 : Int32))), .val (.int (((((q4.toUInt64 >>> (((16 : Int32) * (p1 &&& (3 : Int32))) &&& 0x3f).toInt64.toUInt64).toInt64) &&& (65535 : Int64)).toInt32).toUInt32.toUInt16.toUInt32.toInt32)), .val (.int (7 : Int32)), .val (.int z1004)] [(.int z1004)])) ?_ (fun t k => XS.iload X1004.here hx rfl (hb hby d1_89) rfl k)
            refine Goal.retN (t := .char) X1004 hx hret (by simp) (hb hby d1_91) ?_
            refine ⟨?_, by decide, by decide⟩
            rw [e1004]
            exact ⟨_, rfl, own_i2cr _, N1004, rfl⟩
          · refine Goal.step (T' := T1004) (g' := (mkF m 75 #[.val (.int p1), .val (.int p2), .val (.int p3), .val (.long q4), .second, .val (.int (((p2.toUInt32 >>> (((2 : Int32) * p1) &&& 31).toUInt32).toInt32) &&& (3 : Int32))), .val (.int (((((q4.toUInt64 >>> (((16 : Int32) * (p1 &&& (3 : Int32))) &&& 0x3f).toInt64.toUInt64).toInt64) &&& (65535 : Int64)).toInt32).toUInt32.toUInt16.toUInt32.toInt32)), .val (.int (7 : Int32)), .val (.int z1004)] [])) ?_ (fun t k => XS.icmpNo X1004.here hx rfl (hb hby d1_72) rfl (flt c1006).1 k)
            refine Goal.step (T' := T1004) (g' := (mkF m 77 #[.val (.int p1), .val (.int p2), .val (.int p3), .val (.long q4), .second, .val (.int (((p2.toUInt32 >>> (((2 : Int32) * p1) &&& 31).toUInt32).toInt32) &&& (3 : Int32))), .val (.int (((((q4.toUInt64 >>> (((16 : Int32) * (p1 &&& (3 : Int32))) &&& 0x3f).toInt64.toUInt64).toInt64) &&& (65535 : Int64)).toInt32).toUInt32.toUInt16.toUInt32.toInt32)), .val (.int (7 : Int32)), .val (.int z1004)] [(.int z1004)])) ?_ (fun t k => XS.iload X1004.here hx rfl (hb hby d1_75) rfl k)
            refine Goal.step (T' := T1004) (g' := (mkF m 79 #[.val (.int p1), .val (.int p2), .val (.int p3), .val (.long q4), .second, .val (.int (((p2.toUInt32 >>> (((2 : Int32) * p1) &&& 31).toUInt32).toInt32) &&& (3 : Int32))), .val (.int (((((q4.toUInt64 >>> (((16 : Int32) * (p1 &&& (3 : Int32))) &&& 0x3f).toInt64.toUInt64).toInt64) &&& (65535 : Int64)).toInt32).toUInt32.toUInt16.toUInt32.toInt32)), .val (.int (7 : Int32)), .val (.int z1004)] [(.int (122 : Int32)), (.int z1004)])) ?_ (fun t k => XS.bipush X1004.here hx rfl (hb hby d1_77) k)
            by_cases c1007 : (122 : Int32) < z1004
            · refine Goal.step (T' := T1004) (g' := (mkF m 89 #[.val (.int p1), .val (.int p2), .val (.int p3), .val (.long q4), .second, .val (.int (((p2.toUInt32 >>> (((2 : Int32) * p1) &&& 31).toUInt32).toInt32) &&& (3 : Int32))), .val (.int (((((q4.toUInt64 >>> (((16 : Int32) * (p1 &&& (3 : Int32))) &&& 0x3f).toInt64.toUInt64).toInt64) &&& (65535 : Int64)).toInt32).toUInt32.toUInt16.toUInt32.toInt32)), .val (.int (7 : Int32)), .val (.int z1004)] [])) ?_ (fun t k => XS.icmpYes X1004.here hx rfl (pc0 := 79) (pc' := 89) rfl (hb hby d1_79) rfl (tlt c1007).2.2.1 (by decide) (by decide) k)
              refine Goal.step (T' := T1004) (g' := (mkF m 91 #[.val (.int p1), .val (.int p2), .val (.int p3), .val (.long q4), .second, .val (.int (((p2.toUInt32 >>> (((2 : Int32) * p1) &&& 31).toUInt32).toInt32) &&& (3 : Int32))), .val (.int (((((q4.toUInt64 >>> (((16 : Int32) * (p1 &&& (3 : Int32))) &&& 0x3f).toInt64.toUInt64).toInt64) &&& (65535 : Int64)).toInt32).toUInt32.toUInt16.toUInt32.toInt32)), .val (.int (7 : Int32)), .val (.int z1004)] [(.int z1004)])) ?_ (fun t k => XS.iload X1004.here hx rfl (hb hby d1_89) rfl k)
              refine Goal.retN (t := .char) X1004 hx hret (by simp) (hb hby d1_91) ?_
              refine ⟨?_, by decide, by decide⟩
              rw [e1004]
              exact ⟨_, rfl, own_i2cr _, N1004, rfl⟩
            · refine Goal.step (T' := T1004) (g' := (mkF m 82 #[.val (.int p1), .val (.int p2), .val (.int p3), .val (.long q4), .second, .val (.int (((p2.toUInt32 >>> (((2 : Int32) * p1) &&& 31).toUInt32).toInt32) &&& (3 : Int32))), .val (.int (((((q4.toUInt64 >>> (((16 : Int32) * (p1 &&& (3 : Int32))) &&& 0x3f).toInt64.toUInt64).toInt64) &&& (65535 : Int64)).toInt32).toUInt32.toUInt16.toUInt32.toInt32)), .val (.int (7 : Int32)), .val (.int z1004)] [])) ?_ (fun t k => XS.icmpNo X1004.here hx rfl (hb hby d1_79) rfl (flt c1007).2.2.1 k)
              refine Goal.step (T' := T1004) (g' := (mkF m 84 #[.val (.int p1), .val (.int p2), .val (.int p3), .val (.long q4), .second, .val (.int (((p2.toUInt32 >>> (((2 : Int32) * p1) &&& 31).toUInt32).toInt32) &&& (3 : Int32))), .val (.int (((((q4.toUInt64 >>> (((16 : Int32) * (p1 &&& (3 : Int32))) &&& 0x3f).toInt64.toUInt64).toInt64) &&& (65535 : Int64)).toInt32).toUInt32.toUInt16.toUInt32.toInt32)), .val (.int (7 : Int32)), .val (.int z1004)] [(.int z1004)])) ?_ (fun t k => XS.iload X1004.here hx rfl (hb hby d1_82) rfl k)
              refine Goal.step (T' := T1004) (g' := (mkF m 86 #[.val (.int p1), .val (.int p2), .val (.int p3), .val (.long q4), .second, .val (.int (((p2.toUInt32 >>> (((2 : Int32) * p1) &&& 31).toUInt32).toInt32) &&& (3 : Int32))), .val (.int (((((q4.toUInt64 >>> (((16 : Int32) * (p1 &&& (3 : Int32))) &&& 0x3f).toInt64.toUInt64).toInt64) &&& (65535 : Int64)).toInt32).toUInt32.toUInt16.toUInt32.toInt32)), .val (.int (7 : Int32)), .val (.int z1004)] [(.int (32 : Int32)), (.int z1004)])) ?_ (fun t k => XS.bipush X1004.here hx rfl (hb hby d1_84) k)
              refine Goal.step (T' := T1004) (g' := (mkF m 87 #[.val (.int p1), .val (.int p2), .val (.int p3), .val (.long q4), .second, .val (.int (((p2.toUInt32 >>> (((2 : Int32) * p1) &&& 31).toUInt32).toInt32) &&& (3 : Int32))), .val (.int (((((q4.toUInt64 >>> (((16 : Int32) * (p1 &&& (3 : Int32))) &&& 0x3f).toInt64.toUInt64).toInt64) &&& (65535 : Int64)).toInt32).toUInt32.toUInt16.toUInt32.toInt32)), .val (.int (7 : Int32)), .val (.int z1004)] [(.int (z1004 - (32 : Int32)))])) ?_ (fun t k => XS.isub X1004.here hx rfl (hb hby d1_86) rfl k)
              refine Goal.step (T' := T1004) (g' := (mkF m 88 #[.val (.int p1), .val (.int p2), .val (.int p3), .val (.long q4), .second, .val (.int (((p2.toUInt32 >>> (((2 : Int32) * p1) &&& 31).toUInt32).toInt32) &&& (3 : Int32))), .val (.int (((((q4.toUInt64 >>> (((16 : Int32) * (p1 &&& (3 : Int32))) &&& 0x3f).toInt64.toUInt64).toInt64) &&& (65535 : Int64)).toInt32).toUInt32.toUInt16.toUInt32.toInt32)), .val (.int (7 : Int32)), .val (.int z1004)] [(.int ((z1004 - (32 : Int32)).toUInt32.toUInt16.toUInt32.toInt32))])) ?_ (fun t k => XS.i2c X1004.here hx rfl (hb hby d1_87) rfl k)
              refine Goal.retN (t := .char) X1004 hx hret (by simp) (hb hby d1_88) ?_
              refine ⟨?_, by decide, by decide⟩
              rw [e1004]
              exact ⟨_, rfl, own_i2cr _, N1004, rfl⟩
      · refine Goal.step (T' := s₁) (g' := (mkF m 50 #[.val (.int p1), .val (.int p2), .val (.int p3), .val (.long q4), .second, .val (.int (((p2.toUInt32 >>> (((2 : Int32) * p1) &&& 31).toUInt32).toInt32) &&& (3 : Int32))), .val (.int (((((q4.toUInt64 >>> (((16 : Int32) * (p1 &&& (3 : Int32))) &&& 0x3f).toInt64.toUInt64).toInt64) &&& (65535 : Int64)).toInt32).toUInt32.toUInt16.toUInt32.toInt32)), .val (.int (7 : Int32)), .unset] [])) ?_ (fun t k => XS.icmpNo X0.here hx rfl (hb hby d1_47) rfl (flt c1003).1 k)
        refine Goal.step (T' := s₁) (g' := (mkF m 52 #[.val (.int p1), .val (.int p2), .val (.int p3), .val (.long q4), .second, .val (.int (((p2.toUInt32 >>> (((2 : Int32) * p1) &&& 31).toUInt32).toInt32) &&& (3 : Int32))), .val (.int (((((q4.toUInt64 >>> (((16 : Int32) * (p1 &&& (3 : Int32))) &&& 0x3f).toInt64.toUInt64).toInt64) &&& (65535 : Int64)).toInt32).toUInt32.toUInt16.toUInt32.toInt32)), .val (.int (7 : Int32)), .unset] [(.int (((((q4.toUInt64 >>> (((16 : Int32) * (p1 &&& (3 : Int32))) &&& 0x3f).toInt64.toUInt64).toInt64) &&& (65535 : Int64)).toInt32).toUInt32.toUInt16.toUInt32.toInt32))])) ?_ (fun t k => XS.iload X0.here hx rfl (hb hby d1_50) rfl k)
        refine Goal.retN (t := .char) X0 hx hret (by simp) (hb hby d1_52) ?_
        refine ⟨?_, by decide, by decide⟩
        rw [e0]
        exact ⟨_, rfl, own_i2cr _, N0, rfl⟩
    · refine Goal.step (T' := s₁) (g' := (mkF m 50 #[.val (.int p1), .val (.int p2), .val (.int p3), .val (.long q4), .second, .val (.int (((p2.toUInt32 >>> (((2 : Int32) * p1) &&& 31).toUInt32).toInt32) &&& (3 : Int32))), .val (.int (((((q4.toUInt64 >>> (((16 : Int32) * (p1 &&& (3 : Int32))) &&& 0x3f).toInt64.toUInt64).toInt64) &&& (65535 : Int64)).toInt32).toUInt32.toUInt16.toUInt32.toInt32)), .val (.int (7 : Int32)), .unset] [])) ?_ (fun t k => XS.icmpYes X0.here hx rfl (pc0 := 41) (pc' := 50) rfl (hb hby d1_41) rfl (flt c1002).2.1 (by decide) (by decide) k)
      refine Goal.step (T' := s₁) (g' := (mkF m 52 #[.val (.int p1), .val (.int p2), .val (.int p3), .val (.long q4), .second, .val (.int (((p2.toUInt32 >>> (((2 : Int32) * p1) &&& 31).toUInt32).toInt32) &&& (3 : Int32))), .val (.int (((((q4.toUInt64 >>> (((16 : Int32) * (p1 &&& (3 : Int32))) &&& 0x3f).toInt64.toUInt64).toInt64) &&& (65535 : Int64)).toInt32).toUInt32.toUInt16.toUInt32.toInt32)), .val (.int (7 : Int32)), .unset] [(.int (((((q4.toUInt64 >>> (((16 : Int32) * (p1 &&& (3 : Int32))) &&& 0x3f).toInt64.toUInt64).toInt64) &&& (65535 : Int64)).toInt32).toUInt32.toUInt16.toUInt32.toInt32))])) ?_ (fun t k => XS.iload X0.here hx rfl (hb hby d1_50) rfl k)
      refine Goal.retN (t := .char) X0 hx hret (by simp) (hb hby d1_52) ?_
      refine ⟨?_, by decide, by decide⟩
      rw [e0]
      exact ⟨_, rfl, own_i2cr _, N0, rfl⟩
  · refine Goal.step (T' := s₁) (g' := (mkF m 29 #[.val (.int p1), .val (.int p2), .val (.int p3), .val (.long q4), .second, .val (.int (((p2.toUInt32 >>> (((2 : Int32) * p1) &&& 31).toUInt32).toInt32) &&& (3 : Int32))), .val (.int (((((q4.toUInt64 >>> (((16 : Int32) * (p1 &&& (3 : Int32))) &&& 0x3f).toInt64.toUInt64).toInt64) &&& (65535 : Int64)).toInt32).toUInt32.toUInt16.toUInt32.toInt32)), .unset, .unset] [])) ?_ (fun t k => XS.ifNo X0.here hx rfl (hb hby d1_26) rfl ((if0 _ _).trans (feq c1001).1) k)
    refine Goal.step (T' := s₁) (g' := (mkF m 31 #[.val (.int p1), .val (.int p2), .val (.int p3), .val (.long q4), .second, .val (.int (((p2.toUInt32 >>> (((2 : Int32) * p1) &&& 31).toUInt32).toInt32) &&& (3 : Int32))), .val (.int (((((q4.toUInt64 >>> (((16 : Int32) * (p1 &&& (3 : Int32))) &&& 0x3f).toInt64.toUInt64).toInt64) &&& (65535 : Int64)).toInt32).toUInt32.toUInt16.toUInt32.toInt32)), .unset, .unset] [(.int (8 : Int32))])) ?_ (fun t k => XS.bipush X0.here hx rfl (hb hby d1_29) k)
    refine Goal.step (T' := s₁) (g' := (mkF m 36 #[.val (.int p1), .val (.int p2), .val (.int p3), .val (.long q4), .second, .val (.int (((p2.toUInt32 >>> (((2 : Int32) * p1) &&& 31).toUInt32).toInt32) &&& (3 : Int32))), .val (.int (((((q4.toUInt64 >>> (((16 : Int32) * (p1 &&& (3 : Int32))) &&& 0x3f).toInt64.toUInt64).toInt64) &&& (65535 : Int64)).toInt32).toUInt32.toUInt16.toUInt32.toInt32)), .unset, .unset] [(.int (8 : Int32))])) ?_ (fun t k => XS.goto X0.here hx rfl (pc0 := 31) (pc' := 36) rfl (hb hby d1_31) (by decide) (by decide) k)
    refine Goal.step (T' := s₁) (g' := (mkF m 38 #[.val (.int p1), .val (.int p2), .val (.int p3), .val (.long q4), .second, .val (.int (((p2.toUInt32 >>> (((2 : Int32) * p1) &&& 31).toUInt32).toInt32) &&& (3 : Int32))), .val (.int (((((q4.toUInt64 >>> (((16 : Int32) * (p1 &&& (3 : Int32))) &&& 0x3f).toInt64.toUInt64).toInt64) &&& (65535 : Int64)).toInt32).toUInt32.toUInt16.toUInt32.toInt32)), .val (.int (8 : Int32)), .unset] [])) ?_ (fun t k => XS.istore X0.here hx rfl (hb hby d1_36) rfl (l' := #[.val (.int p1), .val (.int p2), .val (.int p3), .val (.long q4), .second, .val (.int (((p2.toUInt32 >>> (((2 : Int32) * p1) &&& 31).toUInt32).toInt32) &&& (3 : Int32))), .val (.int (((((q4.toUInt64 >>> (((16 : Int32) * (p1 &&& (3 : Int32))) &&& 0x3f).toInt64.toUInt64).toInt64) &&& (65535 : Int64)).toInt32).toUInt32.toUInt16.toUInt32.toInt32)), .val (.int (8 : Int32)), .unset]) rfl k)
    refine Goal.step (T' := s₁) (g' := (mkF m 39 #[.val (.int p1), .val (.int p2), .val (.int p3), .val (.long q4), .second, .val (.int (((p2.toUInt32 >>> (((2 : Int32) * p1) &&& 31).toUInt32).toInt32) &&& (3 : Int32))), .val (.int (((((q4.toUInt64 >>> (((16 : Int32) * (p1 &&& (3 : Int32))) &&& 0x3f).toInt64.toUInt64).toInt64) &&& (65535 : Int64)).toInt32).toUInt32.toUInt16.toUInt32.toInt32)), .val (.int (8 : Int32)), .unset] [(.int p1)])) ?_ (fun t k => XS.iloadN X0.here hx rfl (hb hby d1_38) rfl k)
    refine Goal.step (T' := s₁) (g' := (mkF m 41 #[.val (.int p1), .val (.int p2), .val (.int p3), .val (.long q4), .second, .val (.int (((p2.toUInt32 >>> (((2 : Int32) * p1) &&& 31).toUInt32).toInt32) &&& (3 : Int32))), .val (.int (((((q4.toUInt64 >>> (((16 : Int32) * (p1 &&& (3 : Int32))) &&& 0x3f).toInt64.toUInt64).toInt64) &&& (65535 : Int64)).toInt32).toUInt32.toUInt16.toUInt32.toInt32)), .val (.int (8 : Int32)), .unset] [(.int (8 : Int32)), (.int p1)])) ?_ (fun t k => XS.iload X0.here hx rfl (hb hby d1_39) rfl k)
    by_cases c1008 : p1 < (8 : Int32)
    · refine Goal.step (T' := s₁) (g' := (mkF m 44 #[.val (.int p1), .val (.int p2), .val (.int p3), .val (.long q4), .second, .val (.int (((p2.toUInt32 >>> (((2 : Int32) * p1) &&& 31).toUInt32).toInt32) &&& (3 : Int32))), .val (.int (((((q4.toUInt64 >>> (((16 : Int32) * (p1 &&& (3 : Int32))) &&& 0x3f).toInt64.toUInt64).toInt64) &&& (65535 : Int64)).toInt32).toUInt32.toUInt16.toUInt32.toInt32)), .val (.int (8 : Int32)), .unset] [])) ?_ (fun t k => XS.icmpNo X0.here hx rfl (hb hby d1_41) rfl (tlt c1008).2.1 k)
      refine Goal.step (T' := s₁) (g' := (mkF m 46 #[.val (.int p1), .val (.int p2), .val (.int p3), .val (.long q4), .second, .val (.int (((p2.toUInt32 >>> (((2 : Int32) * p1) &&& 31).toUInt32).toInt32) &&& (3 : Int32))), .val (.int (((((q4.toUInt64 >>> (((16 : Int32) * (p1 &&& (3 : Int32))) &&& 0x3f).toInt64.toUInt64).toInt64) &&& (65535 : Int64)).toInt32).toUInt32.toUInt16.toUInt32.toInt32)), .val (.int (8 : Int32)), .unset] [(.int (((p2.toUInt32 >>> (((2 : Int32) * p1) &&& 31).toUInt32).toInt32) &&& (3 : Int32)))])) ?_ (fun t k => XS.iload X0.here hx rfl (hb hby d1_44) rfl k)
      refine Goal.step (T' := s₁) (g' := (mkF m 47 #[.val (.int p1), .val (.int p2), .val (.int p3), .val (.long q4), .second, .val (.int (((p2.toUInt32 >>> (((2 : Int32) * p1) &&& 31).toUInt32).toInt32) &&& (3 : Int32))), .val (.int (((((q4.toUInt64 >>> (((16 : Int32) * (p1 &&& (3 : Int32))) &&& 0x3f).toInt64.toUInt64).toInt64) &&& (65535 : Int64)).toInt32).toUInt32.toUInt16.toUInt32.toInt32)), .val (.int (8 : Int32)), .unset] [(.int (2 : Int32)), (.int (((p2.toUInt32 >>> (((2 : Int32) * p1) &&& 31).toUInt32).toInt32) &&& (3 : Int32)))])) ?_ (fun t k => XS.iconst X0.here hx rfl (hb hby d1_46) k)
      by_cases c1009 : (((p2.toUInt32 >>> (((2 : Int32) * p1) &&& 31).toUInt32).toInt32) &&& (3 : Int32)) < (2 : Int32)
      · refine Goal.step (T' := s₁) (g' := (mkF m 53 #[.val (.int p1), .val (.int p2), .val (.int p3), .val (.long q4), .second, .val (.int (((p2.toUInt32 >>> (((2 : Int32) * p1) &&& 31).toUInt32).toInt32) &&& (3 : Int32))), .val (.int (((((q4.toUInt64 >>> (((16 : Int32) * (p1 &&& (3 : Int32))) &&& 0x3f).toInt64.toUInt64).toInt64) &&& (65535 : Int64)).toInt32).toUInt32.toUInt16.toUInt32.toInt32)), .val (.int (8 : Int32)), .unset] [])) ?_ (fun t k => XS.icmpYes X0.here hx rfl (pc0 := 47) (pc' := 53) rfl (hb hby d1_47) rfl (tlt c1009).1 (by decide) (by decide) k)
        refine Goal.step (T' := s₁) (g' := (mkF m 54 #[.val (.int p1), .val (.int p2), .val (.int p3), .val (.long q4), .second, .val (.int (((p2.toUInt32 >>> (((2 : Int32) * p1) &&& 31).toUInt32).toInt32) &&& (3 : Int32))), .val (.int (((((q4.toUInt64 >>> (((16 : Int32) * (p1 &&& (3 : Int32))) &&& 0x3f).toInt64.toUInt64).toInt64) &&& (65535 : Int64)).toInt32).toUInt32.toUInt16.toUInt32.toInt32)), .val (.int (8 : Int32)), .unset] [(.int p1)])) ?_ (fun t k => XS.iloadN X0.here hx rfl (hb hby d1_53) rfl k)
        refine Goal.step (T' := s₁) (g' := (mkF m 55 #[.val (.int p1), .val (.int p2), .val (.int p3), .val (.long q4), .second, .val (.int (((p2.toUInt32 >>> (((2 : Int32) * p1) &&& 31).toUInt32).toInt32) &&& (3 : Int32))), .val (.int (((((q4.toUInt64 >>> (((16 : Int32) * (p1 &&& (3 : Int32))) &&& 0x3f).toInt64.toUInt64).toInt64) &&& (65535 : Int64)).toInt32).toUInt32.toUInt16.toUInt32.toInt32)), .val (.int (8 : Int32)), .unset] [(.int p3), (.int p1)])) ?_ (fun t k => XS.iloadN X0.here hx rfl (hb hby d1_54) rfl k)
        obtain ⟨v1010, T1010, h1010, L1010, X1010, e1010, hQ1010, st1010⟩ := callStatic X0 hx hZ hown (hw _ (List.mem_of_getElem? (i := 7) rfl)) (hw _ (List.mem_of_getElem? (i := 8) rfl)) (hw _ (List.mem_of_getElem? (i := 4) rfl)) (hw _ (List.mem_of_getElem? (i := 9) rfl)) (by decide) (rmPT l Z a0 hw p1 p3 h0 n0 (by omega)) e0 (W := 0) (by decide) (by decide) (by decide) (by decide) (g := (mkF m 55 #[.val (.int p1), .val (.int p2), .val (.int p3), .val (.long q4), .second, .val (.int (((p2.toUInt32 >>> (((2 : Int32) * p1) &&& 31).toUInt32).toInt32) &&& (3 : Int32))), .val (.int (((((q4.toUInt64 >>> (((16 : Int32) * (p1 &&& (3 : Int32))) &&& 0x3f).toInt64.toUInt64).toInt64) &&& (65535 : Int64)).toInt32).toUInt32.toUInt16.toUInt32.toInt32)), .val (.int (8 : Int32)), .unset] [(.int p3), (.int p1)])) rfl (by rw [hml]; rfl) (argsL := [(.int p1), (.int p3)]) (rest := []) (lenOf pd_17 rfl) rfl (by show 2 * 0 + _ ≤ _; exact Nat.le_of_eq rfl) (hb hby d1_55) rfl
        obtain ⟨z1010, rfl, rz1010, M1010, q1010⟩ := hQ1010
        rw [q1010] at e1010
        have N1010 := Fr.app N0 M1010
        refine Goal.step (T' := T1010) (g' := (mkF m 58 #[.val (.int p1), .val (.int p2), .val (.int p3), .val (.long q4), .second, .val (.int (((p2.toUInt32 >>> (((2 : Int32) * p1) &&& 31).toUInt32).toInt32) &&& (3 : Int32))), .val (.int (((((q4.toUInt64 >>> (((16 : Int32) * (p1 &&& (3 : Int32))) &&& 0x3f).toInt64.toUInt64).toInt64) &&& (65535 : Int64)).toInt32).toUInt32.toUInt16.toUInt32.toInt32)), .val (.int (8 : Int32)), .unset] [(.int z1010)])) ?_ st1010
        refine Goal.step (T' := T1010) (g' := (mkF m 60 #[.val (.int p1), .val (.int p2), .val (.int p3), .val (.long q4), .second, .val (.int (((p2.toUInt32 >>> (((2 : Int32) * p1) &&& 31).toUInt32).toInt32) &&& (3 : Int32))), .val (.int (((((q4.toUInt64 >>> (((16 : Int32) * (p1 &&& (3 : Int32))) &&& 0x3f).toInt64.toUInt64).toInt64) &&& (65535 : Int64)).toInt32).toUInt32.toUInt16.toUInt32.toInt32)), .val (.int (8 : Int32)), .val (.int z1010)] [])) ?_ (fun t k => XS.istore X1010.here hx rfl (hb hby d1_58) rfl (l' := #[.val (.int p1), .val (.int p2), .val (.int p3), .val (.long q4), .second, .val (.int (((p2.toUInt32 >>> (((2 : Int32) * p1) &&& 31).toUInt32).toInt32) &&& (3 : Int32))), .val (.int (((((q4.toUInt64 >>> (((16 : Int32) * (p1 &&& (3 : Int32))) &&& 0x3f).toInt64.toUInt64).toInt64) &&& (65535 : Int64)).toInt32).toUInt32.toUInt16.toUInt32.toInt32)), .val (.int (8 : Int32)), .val (.int z1010)]) rfl k)
        refine Goal.step (T' := T1010) (g' := (mkF m 62 #[.val (.int p1), .val (.int p2), .val (.int p3), .val (.long q4), .second, .val (.int (((p2.toUInt32 >>> (((2 : Int32) * p1) &&& 31).toUInt32).toInt32) &&& (3 : Int32))), .val (.int (((((q4.toUInt64 >>> (((16 : Int32) * (p1 &&& (3 : Int32))) &&& 0x3f).toInt64.toUInt64).toInt64) &&& (65535 : Int64)).toInt32).toUInt32.toUInt16.toUInt32.toInt32)), .val (.int (8 : Int32)), .val (.int z1010)] [(.int (((p2.toUInt32 >>> (((2 : Int32) * p1) &&& 31).toUInt32).toInt32) &&& (3 : Int32)))])) ?_ (fun t k => XS.iload X1010.here hx rfl (hb hby d1_60) rfl k)
        by_cases c1011 : (((p2.toUInt32 >>> (((2 : Int32) * p1) &&& 31).toUInt32).toInt32) &&& (3 : Int32)) = (0 : Int32)
        · refine Goal.step (T' := T1010) (g' := (mkF m 65 #[.val (.int p1), .val (.int p2), .val (.int p3), .val (.long q4), .second, .val (.int (((p2.toUInt32 >>> (((2 : Int32) * p1) &&& 31).toUInt32).toInt32) &&& (3 : Int32))), .val (.int (((((q4.toUInt64 >>> (((16 : Int32) * (p1 &&& (3 : Int32))) &&& 0x3f).toInt64.toUInt64).toInt64) &&& (65535 : Int64)).toInt32).toUInt32.toUInt16.toUInt32.toInt32)), .val (.int (8 : Int32)), .val (.int z1010)] [])) ?_ (fun t k => XS.ifNo X1010.here hx rfl (hb hby d1_62) rfl ((if0 _ _).trans (teq c1011).2) k)
          refine Goal.step (T' := T1010) (g' := (mkF m 67 #[.val (.int p1), .val (.int p2), .val (.int p3), .val (.long q4), .second, .val (.int (((p2.toUInt32 >>> (((2 : Int32) * p1) &&& 31).toUInt32).toInt32) &&& (3 : Int32))), .val (.int (((((q4.toUInt64 >>> (((16 : Int32) * (p1 &&& (3 : Int32))) &&& 0x3f).toInt64.toUInt64).toInt64) &&& (65535 : Int64)).toInt32).toUInt32.toUInt16.toUInt32.toInt32)), .val (.int (8 : Int32)), .val (.int z1010)] [(.int z1010)])) ?_ (fun t k => XS.iload X1010.here hx rfl (hb hby d1_65) rfl k)
          refine Goal.retN (t := .char) X1010 hx hret (by simp) (hb hby d1_67) ?_
          refine ⟨?_, by decide, by decide⟩
          rw [e1010]
          exact ⟨_, rfl, own_i2cr _, N1010, rfl⟩
        · refine Goal.step (T' := T1010) (g' := (mkF m 68 #[.val (.int p1), .val (.int p2), .val (.int p3), .val (.long q4), .second, .val (.int (((p2.toUInt32 >>> (((2 : Int32) * p1) &&& 31).toUInt32).toInt32) &&& (3 : Int32))), .val (.int (((((q4.toUInt64 >>> (((16 : Int32) * (p1 &&& (3 : Int32))) &&& 0x3f).toInt64.toUInt64).toInt64) &&& (65535 : Int64)).toInt32).toUInt32.toUInt16.toUInt32.toInt32)), .val (.int (8 : Int32)), .val (.int z1010)] [])) ?_ (fun t k => XS.ifYes X1010.here hx rfl (pc0 := 62) (pc' := 68) rfl (hb hby d1_62) rfl ((if0 _ _).trans (feq c1011).2) (by decide) (by decide) k)
          refine Goal.step (T' := T1010) (g' := (mkF m 70 #[.val (.int p1), .val (.int p2), .val (.int p3), .val (.long q4), .second, .val (.int (((p2.toUInt32 >>> (((2 : Int32) * p1) &&& 31).toUInt32).toInt32) &&& (3 : Int32))), .val (.int (((((q4.toUInt64 >>> (((16 : Int32) * (p1 &&& (3 : Int32))) &&& 0x3f).toInt64.toUInt64).toInt64) &&& (65535 : Int64)).toInt32).toUInt32.toUInt16.toUInt32.toInt32)), .val (.int (8 : Int32)), .val (.int z1010)] [(.int z1010)])) ?_ (fun t k => XS.iload X1010.here hx rfl (hb hby d1_68) rfl k)
          refine Goal.step (T' := T1010) (g' := (mkF m 72 #[.val (.int p1), .val (.int p2), .val (.int p3), .val (.long q4), .second, .val (.int (((p2.toUInt32 >>> (((2 : Int32) * p1) &&& 31).toUInt32).toInt32) &&& (3 : Int32))), .val (.int (((((q4.toUInt64 >>> (((16 : Int32) * (p1 &&& (3 : Int32))) &&& 0x3f).toInt64.toUInt64).toInt64) &&& (65535 : Int64)).toInt32).toUInt32.toUInt16.toUInt32.toInt32)), .val (.int (8 : Int32)), .val (.int z1010)] [(.int (97 : Int32)), (.int z1010)])) ?_ (fun t k => XS.bipush X1010.here hx rfl (hb hby d1_70) k)
          by_cases c1012 : z1010 < (97 : Int32)
          · refine Goal.step (T' := T1010) (g' := (mkF m 89 #[.val (.int p1), .val (.int p2), .val (.int p3), .val (.long q4), .second, .val (.int (((p2.toUInt32 >>> (((2 : Int32) * p1) &&& 31).toUInt32).toInt32) &&& (3 : Int32))), .val (.int (((((q4.toUInt64 >>> (((16 : Int32) * (p1 &&& (3 : Int32))) &&& 0x3f).toInt64.toUInt64).toInt64) &&& (65535 : Int64)).toInt32).toUInt32.toUInt16.toUInt32.toInt32)), .val (.int (8 : Int32)), .val (.int z1010)] [])) ?_ (fun t k => XS.icmpYes X1010.here hx rfl (pc0 := 72) (pc' := 89) rfl (hb hby d1_72) rfl (tlt c1012).1 (by decide) (by decide) k)
            refine Goal.step (T' := T1010) (g' := (mkF m 91 #[.val (.int p1), .val (.int p2), .val (.int p3), .val (.long q4), .second, .val (.int (((p2.toUInt32 >>> (((2 : Int32) * p1) &&& 31).toUInt32).toInt32) &&& (3 : Int32))), .val (.int (((((q4.toUInt64 >>> (((16 : Int32) * (p1 &&& (3 : Int32))) &&& 0x3f).toInt64.toUInt64).toInt64) &&& (65535 : Int64)).toInt32).toUInt32.toUInt16.toUInt32.toInt32)), .val (.int (8 : Int32)), .val (.int z1010)] [(.int z1010)])) ?_ (fun t k => XS.iload X1010.here hx rfl (hb hby d1_89) rfl k)
            refine Goal.retN (t := .char) X1010 hx hret (by simp) (hb hby d1_91) ?_
            refine ⟨?_, by decide, by decide⟩
            rw [e1010]
            exact ⟨_, rfl, own_i2cr _, N1010, rfl⟩
          · refine Goal.step (T' := T1010) (g' := (mkF m 75 #[.val (.int p1), .val (.int p2), .val (.int p3), .val (.long q4), .second, .val (.int (((p2.toUInt32 >>> (((2 : Int32) * p1) &&& 31).toUInt32).toInt32) &&& (3 : Int32))), .val (.int (((((q4.toUInt64 >>> (((16 : Int32) * (p1 &&& (3 : Int32))) &&& 0x3f).toInt64.toUInt64).toInt64) &&& (65535 : Int64)).toInt32).toUInt32.toUInt16.toUInt32.toInt32)), .val (.int (8 : Int32)), .val (.int z1010)] [])) ?_ (fun t k => XS.icmpNo X1010.here hx rfl (hb hby d1_72) rfl (flt c1012).1 k)
            refine Goal.step (T' := T1010) (g' := (mkF m 77 #[.val (.int p1), .val (.int p2), .val (.int p3), .val (.long q4), .second, .val (.int (((p2.toUInt32 >>> (((2 : Int32) * p1) &&& 31).toUInt32).toInt32) &&& (3 : Int32))), .val (.int (((((q4.toUInt64 >>> (((16 : Int32) * (p1 &&& (3 : Int32))) &&& 0x3f).toInt64.toUInt64).toInt64) &&& (65535 : Int64)).toInt32).toUInt32.toUInt16.toUInt32.toInt32)), .val (.int (8 : Int32)), .val (.int z1010)] [(.int z1010)])) ?_ (fun t k => XS.iload X1010.here hx rfl (hb hby d1_75) rfl k)
            refine Goal.step (T' := T1010) (g' := (mkF m 79 #[.val (.int p1), .val (.int p2), .val (.int p3), .val (.long q4), .second, .val (.int (((p2.toUInt32 >>> (((2 : Int32) * p1) &&& 31).toUInt32).toInt32) &&& (3 : Int32))), .val (.int (((((q4.toUInt64 >>> (((16 : Int32) * (p1 &&& (3 : Int32))) &&& 0x3f).toInt64.toUInt64).toInt64) &&& (65535 : Int64)).toInt32).toUInt32.toUInt16.toUInt32.toInt32)), .val (.int (8 : Int32)), .val (.int z1010)] [(.int (122 : Int32)), (.int z1010)])) ?_ (fun t k => XS.bipush X1010.here hx rfl (hb hby d1_77) k)
            by_cases c1013 : (122 : Int32) < z1010
            · refine Goal.step (T' := T1010) (g' := (mkF m 89 #[.val (.int p1), .val (.int p2), .val (.int p3), .val (.long q4), .second, .val (.int (((p2.toUInt32 >>> (((2 : Int32) * p1) &&& 31).toUInt32).toInt32) &&& (3 : Int32))), .val (.int (((((q4.toUInt64 >>> (((16 : Int32) * (p1 &&& (3 : Int32))) &&& 0x3f).toInt64.toUInt64).toInt64) &&& (65535 : Int64)).toInt32).toUInt32.toUInt16.toUInt32.toInt32)), .val (.int (8 : Int32)), .val (.int z1010)] [])) ?_ (fun t k => XS.icmpYes X1010.here hx rfl (pc0 := 79) (pc' := 89) rfl (hb hby d1_79) rfl (tlt c1013).2.2.1 (by decide) (by decide) k)
              refine Goal.step (T' := T1010) (g' := (mkF m 91 #[.val (.int p1), .val (.int p2), .val (.int p3), .val (.long q4), .second, .val (.int (((p2.toUInt32 >>> (((2 : Int32) * p1) &&& 31).toUInt32).toInt32) &&& (3 : Int32))), .val (.int (((((q4.toUInt64 >>> (((16 : Int32) * (p1 &&& (3 : Int32))) &&& 0x3f).toInt64.toUInt64).toInt64) &&& (65535 : Int64)).toInt32).toUInt32.toUInt16.toUInt32.toInt32)), .val (.int (8 : Int32)), .val (.int z1010)] [(.int z1010)])) ?_ (fun t k => XS.iload X1010.here hx rfl (hb hby d1_89) rfl k)
              refine Goal.retN (t := .char) X1010 hx hret (by simp) (hb hby d1_91) ?_
              refine ⟨?_, by decide, by decide⟩
              rw [e1010]
              exact ⟨_, rfl, own_i2cr _, N1010, rfl⟩
            · refine Goal.step (T' := T1010) (g' := (mkF m 82 #[.val (.int p1), .val (.int p2), .val (.int p3), .val (.long q4), .second, .val (.int (((p2.toUInt32 >>> (((2 : Int32) * p1) &&& 31).toUInt32).toInt32) &&& (3 : Int32))), .val (.int (((((q4.toUInt64 >>> (((16 : Int32) * (p1 &&& (3 : Int32))) &&& 0x3f).toInt64.toUInt64).toInt64) &&& (65535 : Int64)).toInt32).toUInt32.toUInt16.toUInt32.toInt32)), .val (.int (8 : Int32)), .val (.int z1010)] [])) ?_ (fun t k => XS.icmpNo X1010.here hx rfl (hb hby d1_79) rfl (flt c1013).2.2.1 k)
              refine Goal.step (T' := T1010) (g' := (mkF m 84 #[.val (.int p1), .val (.int p2), .val (.int p3), .val (.long q4), .second, .val (.int (((p2.toUInt32 >>> (((2 : Int32) * p1) &&& 31).toUInt32).toInt32) &&& (3 : Int32))), .val (.int (((((q4.toUInt64 >>> (((16 : Int32) * (p1 &&& (3 : Int32))) &&& 0x3f).toInt64.toUInt64).toInt64) &&& (65535 : Int64)).toInt32).toUInt32.toUInt16.toUInt32.toInt32)), .val (.int (8 : Int32)), .val (.int z1010)] [(.int z1010)])) ?_ (fun t k => XS.iload X1010.here hx rfl (hb hby d1_82) rfl k)
              refine Goal.step (T' := T1010) (g' := (mkF m 86 #[.val (.int p1), .val (.int p2), .val (.int p3), .val (.long q4), .second, .val (.int (((p2.toUInt32 >>> (((2 : Int32) * p1) &&& 31).toUInt32).toInt32) &&& (3 : Int32))), .val (.int (((((q4.toUInt64 >>> (((16 : Int32) * (p1 &&& (3 : Int32))) &&& 0x3f).toInt64.toUInt64).toInt64) &&& (65535 : Int64)).toInt32).toUInt32.toUInt16.toUInt32.toInt32)), .val (.int (8 : Int32)), .val (.int z1010)] [(.int (32 : Int32)), (.int z1010)])) ?_ (fun t k => XS.bipush X1010.here hx rfl (hb hby d1_84) k)
              refine Goal.step (T' := T1010) (g' := (mkF m 87 #[.val (.int p1), .val (.int p2), .val (.int p3), .val (.long q4), .second, .val (.int (((p2.toUInt32 >>> (((2 : Int32) * p1) &&& 31).toUInt32).toInt32) &&& (3 : Int32))), .val (.int (((((q4.toUInt64 >>> (((16 : Int32) * (p1 &&& (3 : Int32))) &&& 0x3f).toInt64.toUInt64).toInt64) &&& (65535 : Int64)).toInt32).toUInt32.toUInt16.toUInt32.toInt32)), .val (.int (8 : Int32)), .val (.int z1010)] [(.int (z1010 - (32 : Int32)))])) ?_ (fun t k => XS.isub X1010.here hx rfl (hb hby d1_86) rfl k)
              refine Goal.step (T' := T1010) (g' := (mkF m 88 #[.val (.int p1), .val (.int p2), .val (.int p3), .val (.long q4), .second, .val (.int (((p2.toUInt32 >>> (((2 : Int32) * p1) &&& 31).toUInt32).toInt32) &&& (3 : Int32))), .val (.int (((((q4.toUInt64 >>> (((16 : Int32) * (p1 &&& (3 : Int32))) &&& 0x3f).toInt64.toUInt64).toInt64) &&& (65535 : Int64)).toInt32).toUInt32.toUInt16.toUInt32.toInt32)), .val (.int (8 : Int32)), .val (.int z1010)] [(.int ((z1010 - (32 : Int32)).toUInt32.toUInt16.toUInt32.toInt32))])) ?_ (fun t k => XS.i2c X1010.here hx rfl (hb hby d1_87) rfl k)
              refine Goal.retN (t := .char) X1010 hx hret (by simp) (hb hby d1_88) ?_
              refine ⟨?_, by decide, by decide⟩
              rw [e1010]
              exact ⟨_, rfl, own_i2cr _, N1010, rfl⟩
      · refine Goal.step (T' := s₁) (g' := (mkF m 50 #[.val (.int p1), .val (.int p2), .val (.int p3), .val (.long q4), .second, .val (.int (((p2.toUInt32 >>> (((2 : Int32) * p1) &&& 31).toUInt32).toInt32) &&& (3 : Int32))), .val (.int (((((q4.toUInt64 >>> (((16 : Int32) * (p1 &&& (3 : Int32))) &&& 0x3f).toInt64.toUInt64).toInt64) &&& (65535 : Int64)).toInt32).toUInt32.toUInt16.toUInt32.toInt32)), .val (.int (8 : Int32)), .unset] [])) ?_ (fun t k => XS.icmpNo X0.here hx rfl (hb hby d1_47) rfl (flt c1009).1 k)
        refine Goal.step (T' := s₁) (g' := (mkF m 52 #[.val (.int p1), .val (.int p2), .val (.int p3), .val (.long q4), .second, .val (.int (((p2.toUInt32 >>> (((2 : Int32) * p1) &&& 31).toUInt32).toInt32) &&& (3 : Int32))), .val (.int (((((q4.toUInt64 >>> (((16 : Int32) * (p1 &&& (3 : Int32))) &&& 0x3f).toInt64.toUInt64).toInt64) &&& (65535 : Int64)).toInt32).toUInt32.toUInt16.toUInt32.toInt32)), .val (.int (8 : Int32)), .unset] [(.int (((((q4.toUInt64 >>> (((16 : Int32) * (p1 &&& (3 : Int32))) &&& 0x3f).toInt64.toUInt64).toInt64) &&& (65535 : Int64)).toInt32).toUInt32.toUInt16.toUInt32.toInt32))])) ?_ (fun t k => XS.iload X0.here hx rfl (hb hby d1_50) rfl k)
        refine Goal.retN (t := .char) X0 hx hret (by simp) (hb hby d1_52) ?_
        refine ⟨?_, by decide, by decide⟩
        rw [e0]
        exact ⟨_, rfl, own_i2cr _, N0, rfl⟩
    · refine Goal.step (T' := s₁) (g' := (mkF m 50 #[.val (.int p1), .val (.int p2), .val (.int p3), .val (.long q4), .second, .val (.int (((p2.toUInt32 >>> (((2 : Int32) * p1) &&& 31).toUInt32).toInt32) &&& (3 : Int32))), .val (.int (((((q4.toUInt64 >>> (((16 : Int32) * (p1 &&& (3 : Int32))) &&& 0x3f).toInt64.toUInt64).toInt64) &&& (65535 : Int64)).toInt32).toUInt32.toUInt16.toUInt32.toInt32)), .val (.int (8 : Int32)), .unset] [])) ?_ (fun t k => XS.icmpYes X0.here hx rfl (pc0 := 41) (pc' := 50) rfl (hb hby d1_41) rfl (flt c1008).2.1 (by decide) (by decide) k)
      refine Goal.step (T' := s₁) (g' := (mkF m 52 #[.val (.int p1), .val (.int p2), .val (.int p3), .val (.long q4), .second, .val (.int (((p2.toUInt32 >>> (((2 : Int32) * p1) &&& 31).toUInt32).toInt32) &&& (3 : Int32))), .val (.int (((((q4.toUInt64 >>> (((16 : Int32) * (p1 &&& (3 : Int32))) &&& 0x3f).toInt64.toUInt64).toInt64) &&& (65535 : Int64)).toInt32).toUInt32.toUInt16.toUInt32.toInt32)), .val (.int (8 : Int32)), .unset] [(.int (((((q4.toUInt64 >>> (((16 : Int32) * (p1 &&& (3 : Int32))) &&& 0x3f).toInt64.toUInt64).toInt64) &&& (65535 : Int64)).toInt32).toUInt32.toUInt16.toUInt32.toInt32))])) ?_ (fun t k => XS.iload X0.here hx rfl (hb hby d1_50) rfl k)
      refine Goal.retN (t := .char) X0 hx hret (by simp) (hb hby d1_52) ?_
      refine ⟨?_, by decide, by decide⟩
      rw [e0]
      exact ⟨_, rfl, own_i2cr _, N0, rfl⟩
theorem d19_0 : decode method_3_code 0 = .ok (.iload_n 0, 1) := by decide +kernel
theorem d19_1 : decode method_3_code 1 = .ok (.iload_n 1, 1) := by decide +kernel
theorem d19_2 : decode method_3_code 2 = .ok (.if_icmp .eq 8, 3) := by decide +kernel
theorem d19_10 : decode method_3_code 10 = .ok (.iconst 1, 1) := by decide +kernel
theorem d19_11 : decode method_3_code 11 = .ok (.goto 4, 3) := by decide +kernel
theorem d19_15 : decode method_3_code 15 = .ok (.ireturn, 1) := by decide +kernel
theorem d19_5 : decode method_3_code 5 = .ok (.iload_n 0, 1) := by decide +kernel
theorem d19_6 : decode method_3_code 6 = .ok (.iload_n 2, 1) := by decide +kernel
theorem d19_7 : decode method_3_code 7 = .ok (.if_icmp .ne 7, 3) := by decide +kernel
theorem d19_14 : decode method_3_code 14 = .ok (.iconst 0, 1) := by decide +kernel
theorem ef_19 (m : MethodId) (x0 : Int32) (x1 : Int32) (x2 : Int32) : entryFrame m #[(.int x0), (.int x1), (.int x2)] 3 = mkF m 0 #[.val (.int x0), .val (.int x1), .val (.int x2)] [] := by first | (simp [entryFrame, mkF, argsToLocals, Value.category]; done) | rfl
set_option maxRecDepth 65536 in
set_option maxHeartbeats 40000000 in
theorem rmIS (l : Launch) (Z : State) (a0 : Array Value) (hw : ∀ d ∈ tables_1, d.before a0 Z = true) (p1 p2 p3 : Int32) (h0 : Heap) (n0 : Nat) (Z0 : n0 ≤ h0.size) :
    Met l (⟨"com/example/gids/gids/LocRuleAuthorityStartPinLaw", "is", "(CCC)Z"⟩ : MethodName) method_3_code 3 (some .boolean) [] ({ frames := 0, cells := 0, slots := 0, locals := 0 } : Room) Z #[(.int p1), (.int p2), (.int p3)] h0 (fun v h L => ((p1 = p2 ∨ p1 = p3) ∧ v = some (.int 1) ∧ Fr n0 L ∧ h = h0) ∨ (¬ (p1 = p2 ∨ p1 = p3) ∧ v = some (.int 0) ∧ Fr n0 L ∧ h = h0)) := by
  refine of_goal (plainFor_of_name (by first | (simp [plainName, overriddenIn]; done) | decide +kernel)) ?_
  intro p e s m below meth c s₁ C X0 e0
  have C0 := C
  obtain ⟨hx, hZ, hby, hml, hret, hown, hnm⟩ := C
  have hown : s.vm.findClass "com/example/gids/gids/LocRuleAuthorityStartPinLaw" = some m.cls := hown
  have hret : meth.sig.returnType = (some .boolean) := hret
  have N0 := Fr.nil n0
  rw [ef_19]
  refine Goal.step (T' := s₁) (g' := (mkF m 1 #[.val (.int p1), .val (.int p2), .val (.int p3)] [(.int p1)])) ?_ (fun t k => XS.iloadN X0.here hx rfl (hb hby d19_0) rfl k)
  refine Goal.step (T' := s₁) (g' := (mkF m 2 #[.val (.int p1), .val (.int p2), .val (.int p3)] [(.int p2), (.int p1)])) ?_ (fun t k => XS.iloadN X0.here hx rfl (hb hby d19_1) rfl k)
  by_cases c1001 : p1 = p2
  · refine Goal.step (T' := s₁) (g' := (mkF m 10 #[.val (.int p1), .val (.int p2), .val (.int p3)] [])) ?_ (fun t k => XS.icmpYes X0.here hx rfl (pc0 := 2) (pc' := 10) rfl (hb hby d19_2) rfl (teq c1001).1 (by decide) (by decide) k)
    refine Goal.step (T' := s₁) (g' := (mkF m 11 #[.val (.int p1), .val (.int p2), .val (.int p3)] [(.int (1 : Int32))])) ?_ (fun t k => XS.iconst X0.here hx rfl (hb hby d19_10) k)
    refine Goal.step (T' := s₁) (g' := (mkF m 15 #[.val (.int p1), .val (.int p2), .val (.int p3)] [(.int (1 : Int32))])) ?_ (fun t k => XS.goto X0.here hx rfl (pc0 := 11) (pc' := 15) rfl (hb hby d19_11) (by decide) (by decide) k)
    refine Goal.retN (t := .boolean) X0 hx hret (by simp) (hb hby d19_15) ?_
    refine ⟨?_, by decide, by decide⟩
    rw [e0]
    exact Or.inl ⟨Or.inl c1001, rfl, N0, rfl⟩
  · refine Goal.step (T' := s₁) (g' := (mkF m 5 #[.val (.int p1), .val (.int p2), .val (.int p3)] [])) ?_ (fun t k => XS.icmpNo X0.here hx rfl (hb hby d19_2) rfl (feq c1001).1 k)
    refine Goal.step (T' := s₁) (g' := (mkF m 6 #[.val (.int p1), .val (.int p2), .val (.int p3)] [(.int p1)])) ?_ (fun t k => XS.iloadN X0.here hx rfl (hb hby d19_5) rfl k)
    refine Goal.step (T' := s₁) (g' := (mkF m 7 #[.val (.int p1), .val (.int p2), .val (.int p3)] [(.int p3), (.int p1)])) ?_ (fun t k => XS.iloadN X0.here hx rfl (hb hby d19_6) rfl k)
    by_cases c1002 : p1 = p3
    · refine Goal.step (T' := s₁) (g' := (mkF m 10 #[.val (.int p1), .val (.int p2), .val (.int p3)] [])) ?_ (fun t k => XS.icmpNo X0.here hx rfl (hb hby d19_7) rfl (teq c1002).2 k)
      refine Goal.step (T' := s₁) (g' := (mkF m 11 #[.val (.int p1), .val (.int p2), .val (.int p3)] [(.int (1 : Int32))])) ?_ (fun t k => XS.iconst X0.here hx rfl (hb hby d19_10) k)
      refine Goal.step (T' := s₁) (g' := (mkF m 15 #[.val (.int p1), .val (.int p2), .val (.int p3)] [(.int (1 : Int32))])) ?_ (fun t k => XS.goto X0.here hx rfl (pc0 := 11) (pc' := 15) rfl (hb hby d19_11) (by decide) (by decide) k)
      refine Goal.retN (t := .boolean) X0 hx hret (by simp) (hb hby d19_15) ?_
      refine ⟨?_, by decide, by decide⟩
      rw [e0]
      exact Or.inl ⟨Or.inr c1002, rfl, N0, rfl⟩
    · refine Goal.step (T' := s₁) (g' := (mkF m 14 #[.val (.int p1), .val (.int p2), .val (.int p3)] [])) ?_ (fun t k => XS.icmpYes X0.here hx rfl (pc0 := 7) (pc' := 14) rfl (hb hby d19_7) rfl (feq c1002).2 (by decide) (by decide) k)
      refine Goal.step (T' := s₁) (g' := (mkF m 15 #[.val (.int p1), .val (.int p2), .val (.int p3)] [(.int (0 : Int32))])) ?_ (fun t k => XS.iconst X0.here hx rfl (hb hby d19_14) k)
      refine Goal.retN (t := .boolean) X0 hx hret (by simp) (hb hby d19_15) ?_
      refine ⟨?_, by decide, by decide⟩
      rw [e0]
      exact Or.inr ⟨fun q => q.elim c1001 c1002, rfl, N0, rfl⟩
theorem d3_0 : decode method_6_code 0 = .ok (.iload_n 0, 1) := by decide +kernel
theorem d3_1 : decode method_6_code 1 = .ok (.tableswitch 451 0 9 #[55, 66, 83, 106, 135, 170, 211, 259, 315, 379], 55) := by decide +kernel
theorem d3_56 : decode method_6_code 56 = .ok (.new 34, 3) := by decide +kernel
theorem d3_59 : decode method_6_code 59 = .ok (.dup, 1) := by decide +kernel
theorem d3_60 : decode method_6_code 60 = .ok (.iconst 0, 1) := by decide +kernel
theorem d3_61 : decode method_6_code 61 = .ok (.newarray .char, 2) := by decide +kernel
theorem d3_63 : decode method_6_code 63 = .ok (.invokespecial 36, 3) := by decide +kernel
theorem pd_18 : parseMethodDescriptor "([C)V" = some ⟨[(.array .char)], none⟩ := by decide +kernel
theorem d3_66 : decode method_6_code 66 = .ok (.areturn, 1) := by decide +kernel
theorem d3_67 : decode method_6_code 67 = .ok (.new 34, 3) := by decide +kernel
theorem d3_70 : decode method_6_code 70 = .ok (.dup, 1) := by decide +kernel
theorem d3_71 : decode method_6_code 71 = .ok (.iconst 1, 1) := by decide +kernel
theorem d3_72 : decode method_6_code 72 = .ok (.newarray .char, 2) := by decide +kernel
theorem d3_74 : decode method_6_code 74 = .ok (.dup, 1) := by decide +kernel
theorem d3_75 : decode method_6_code 75 = .ok (.iconst 0, 1) := by decide +kernel
theorem d3_76 : decode method_6_code 76 = .ok (.aload_n 1, 1) := by decide +kernel
theorem d3_77 : decode method_6_code 77 = .ok (.iconst 0, 1) := by decide +kernel
theorem d3_78 : decode method_6_code 78 = .ok (.caload, 1) := by decide +kernel
theorem d3_79 : decode method_6_code 79 = .ok (.castore, 1) := by decide +kernel
theorem d3_80 : decode method_6_code 80 = .ok (.invokespecial 36, 3) := by decide +kernel
theorem d3_83 : decode method_6_code 83 = .ok (.areturn, 1) := by decide +kernel
theorem d3_84 : decode method_6_code 84 = .ok (.new 34, 3) := by decide +kernel
theorem d3_87 : decode method_6_code 87 = .ok (.dup, 1) := by decide +kernel
theorem d3_88 : decode method_6_code 88 = .ok (.iconst 2, 1) := by decide +kernel
theorem d3_89 : decode method_6_code 89 = .ok (.newarray .char, 2) := by decide +kernel
theorem d3_91 : decode method_6_code 91 = .ok (.dup, 1) := by decide +kernel
theorem d3_92 : decode method_6_code 92 = .ok (.iconst 0, 1) := by decide +kernel
theorem d3_93 : decode method_6_code 93 = .ok (.aload_n 1, 1) := by decide +kernel
theorem d3_94 : decode method_6_code 94 = .ok (.iconst 0, 1) := by decide +kernel
theorem d3_95 : decode method_6_code 95 = .ok (.caload, 1) := by decide +kernel
theorem d3_96 : decode method_6_code 96 = .ok (.castore, 1) := by decide +kernel
theorem d3_97 : decode method_6_code 97 = .ok (.dup, 1) := by decide +kernel
theorem d3_98 : decode method_6_code 98 = .ok (.iconst 1, 1) := by decide +kernel
theorem d3_99 : decode method_6_code 99 = .ok (.aload_n 1, 1) := by decide +kernel
theorem d3_100 : decode method_6_code 100 = .ok (.iconst 1, 1) := by decide +kernel
theorem d3_101 : decode method_6_code 101 = .ok (.caload, 1) := by decide +kernel
theorem d3_102 : decode method_6_code 102 = .ok (.castore, 1) := by decide +kernel
theorem d3_103 : decode method_6_code 103 = .ok (.invokespecial 36, 3) := by decide +kernel
theorem d3_106 : decode method_6_code 106 = .ok (.areturn, 1) := by decide +kernel
theorem d3_107 : decode method_6_code 107 = .ok (.new 34, 3) := by decide +kernel
theorem d3_110 : decode method_6_code 110 = .ok (.dup, 1) := by decide +kernel
theorem d3_111 : decode method_6_code 111 = .ok (.iconst 3, 1) := by decide +kernel
theorem d3_112 : decode method_6_code 112 = .ok (.newarray .char, 2) := by decide +kernel
theorem d3_114 : decode method_6_code 114 = .ok (.dup, 1) := by decide +kernel
theorem d3_115 : decode method_6_code 115 = .ok (.iconst 0, 1) := by decide +kernel
theorem d3_116 : decode method_6_code 116 = .ok (.aload_n 1, 1) := by decide +kernel
theorem d3_117 : decode method_6_code 117 = .ok (.iconst 0, 1) := by decide +kernel
theorem d3_118 : decode method_6_code 118 = .ok (.caload, 1) := by decide +kernel
theorem d3_119 : decode method_6_code 119 = .ok (.castore, 1) := by decide +kernel
theorem d3_120 : decode method_6_code 120 = .ok (.dup, 1) := by decide +kernel
theorem d3_121 : decode method_6_code 121 = .ok (.iconst 1, 1) := by decide +kernel
theorem d3_122 : decode method_6_code 122 = .ok (.aload_n 1, 1) := by decide +kernel
theorem d3_123 : decode method_6_code 123 = .ok (.iconst 1, 1) := by decide +kernel
theorem d3_124 : decode method_6_code 124 = .ok (.caload, 1) := by decide +kernel
theorem d3_125 : decode method_6_code 125 = .ok (.castore, 1) := by decide +kernel
theorem d3_126 : decode method_6_code 126 = .ok (.dup, 1) := by decide +kernel
theorem d3_127 : decode method_6_code 127 = .ok (.iconst 2, 1) := by decide +kernel
theorem d3_128 : decode method_6_code 128 = .ok (.aload_n 1, 1) := by decide +kernel
theorem d3_129 : decode method_6_code 129 = .ok (.iconst 2, 1) := by decide +kernel
theorem d3_130 : decode method_6_code 130 = .ok (.caload, 1) := by decide +kernel
theorem d3_131 : decode method_6_code 131 = .ok (.castore, 1) := by decide +kernel
theorem d3_132 : decode method_6_code 132 = .ok (.invokespecial 36, 3) := by decide +kernel
theorem d3_135 : decode method_6_code 135 = .ok (.areturn, 1) := by decide +kernel
theorem d3_136 : decode method_6_code 136 = .ok (.new 34, 3) := by decide +kernel
theorem d3_139 : decode method_6_code 139 = .ok (.dup, 1) := by decide +kernel
theorem d3_140 : decode method_6_code 140 = .ok (.iconst 4, 1) := by decide +kernel
theorem d3_141 : decode method_6_code 141 = .ok (.newarray .char, 2) := by decide +kernel
theorem d3_143 : decode method_6_code 143 = .ok (.dup, 1) := by decide +kernel
theorem d3_144 : decode method_6_code 144 = .ok (.iconst 0, 1) := by decide +kernel
theorem d3_145 : decode method_6_code 145 = .ok (.aload_n 1, 1) := by decide +kernel
theorem d3_146 : decode method_6_code 146 = .ok (.iconst 0, 1) := by decide +kernel
theorem d3_147 : decode method_6_code 147 = .ok (.caload, 1) := by decide +kernel
theorem d3_148 : decode method_6_code 148 = .ok (.castore, 1) := by decide +kernel
theorem d3_149 : decode method_6_code 149 = .ok (.dup, 1) := by decide +kernel
theorem d3_150 : decode method_6_code 150 = .ok (.iconst 1, 1) := by decide +kernel
theorem d3_151 : decode method_6_code 151 = .ok (.aload_n 1, 1) := by decide +kernel
theorem d3_152 : decode method_6_code 152 = .ok (.iconst 1, 1) := by decide +kernel
theorem d3_153 : decode method_6_code 153 = .ok (.caload, 1) := by decide +kernel
theorem d3_154 : decode method_6_code 154 = .ok (.castore, 1) := by decide +kernel
theorem d3_155 : decode method_6_code 155 = .ok (.dup, 1) := by decide +kernel
theorem d3_156 : decode method_6_code 156 = .ok (.iconst 2, 1) := by decide +kernel
theorem d3_157 : decode method_6_code 157 = .ok (.aload_n 1, 1) := by decide +kernel
theorem d3_158 : decode method_6_code 158 = .ok (.iconst 2, 1) := by decide +kernel
theorem d3_159 : decode method_6_code 159 = .ok (.caload, 1) := by decide +kernel
theorem d3_160 : decode method_6_code 160 = .ok (.castore, 1) := by decide +kernel
theorem d3_161 : decode method_6_code 161 = .ok (.dup, 1) := by decide +kernel
theorem d3_162 : decode method_6_code 162 = .ok (.iconst 3, 1) := by decide +kernel
theorem d3_163 : decode method_6_code 163 = .ok (.aload_n 1, 1) := by decide +kernel
theorem d3_164 : decode method_6_code 164 = .ok (.iconst 3, 1) := by decide +kernel
theorem d3_165 : decode method_6_code 165 = .ok (.caload, 1) := by decide +kernel
theorem d3_166 : decode method_6_code 166 = .ok (.castore, 1) := by decide +kernel
theorem d3_167 : decode method_6_code 167 = .ok (.invokespecial 36, 3) := by decide +kernel
theorem d3_170 : decode method_6_code 170 = .ok (.areturn, 1) := by decide +kernel
theorem d3_171 : decode method_6_code 171 = .ok (.new 34, 3) := by decide +kernel
theorem d3_174 : decode method_6_code 174 = .ok (.dup, 1) := by decide +kernel
theorem d3_175 : decode method_6_code 175 = .ok (.iconst 5, 1) := by decide +kernel
theorem d3_176 : decode method_6_code 176 = .ok (.newarray .char, 2) := by decide +kernel
theorem d3_178 : decode method_6_code 178 = .ok (.dup, 1) := by decide +kernel
theorem d3_179 : decode method_6_code 179 = .ok (.iconst 0, 1) := by decide +kernel
theorem d3_180 : decode method_6_code 180 = .ok (.aload_n 1, 1) := by decide +kernel
theorem d3_181 : decode method_6_code 181 = .ok (.iconst 0, 1) := by decide +kernel
theorem d3_182 : decode method_6_code 182 = .ok (.caload, 1) := by decide +kernel
theorem d3_183 : decode method_6_code 183 = .ok (.castore, 1) := by decide +kernel
theorem d3_184 : decode method_6_code 184 = .ok (.dup, 1) := by decide +kernel
theorem d3_185 : decode method_6_code 185 = .ok (.iconst 1, 1) := by decide +kernel
theorem d3_186 : decode method_6_code 186 = .ok (.aload_n 1, 1) := by decide +kernel
theorem d3_187 : decode method_6_code 187 = .ok (.iconst 1, 1) := by decide +kernel
theorem d3_188 : decode method_6_code 188 = .ok (.caload, 1) := by decide +kernel
theorem d3_189 : decode method_6_code 189 = .ok (.castore, 1) := by decide +kernel
theorem d3_190 : decode method_6_code 190 = .ok (.dup, 1) := by decide +kernel
theorem d3_191 : decode method_6_code 191 = .ok (.iconst 2, 1) := by decide +kernel
theorem d3_192 : decode method_6_code 192 = .ok (.aload_n 1, 1) := by decide +kernel
theorem d3_193 : decode method_6_code 193 = .ok (.iconst 2, 1) := by decide +kernel
theorem d3_194 : decode method_6_code 194 = .ok (.caload, 1) := by decide +kernel
theorem d3_195 : decode method_6_code 195 = .ok (.castore, 1) := by decide +kernel
theorem d3_196 : decode method_6_code 196 = .ok (.dup, 1) := by decide +kernel
theorem d3_197 : decode method_6_code 197 = .ok (.iconst 3, 1) := by decide +kernel
theorem d3_198 : decode method_6_code 198 = .ok (.aload_n 1, 1) := by decide +kernel
theorem d3_199 : decode method_6_code 199 = .ok (.iconst 3, 1) := by decide +kernel
theorem d3_200 : decode method_6_code 200 = .ok (.caload, 1) := by decide +kernel
theorem d3_201 : decode method_6_code 201 = .ok (.castore, 1) := by decide +kernel
theorem d3_202 : decode method_6_code 202 = .ok (.dup, 1) := by decide +kernel
theorem d3_203 : decode method_6_code 203 = .ok (.iconst 4, 1) := by decide +kernel
theorem d3_204 : decode method_6_code 204 = .ok (.aload_n 1, 1) := by decide +kernel
theorem d3_205 : decode method_6_code 205 = .ok (.iconst 4, 1) := by decide +kernel
theorem d3_206 : decode method_6_code 206 = .ok (.caload, 1) := by decide +kernel
theorem d3_207 : decode method_6_code 207 = .ok (.castore, 1) := by decide +kernel
theorem d3_208 : decode method_6_code 208 = .ok (.invokespecial 36, 3) := by decide +kernel
theorem d3_211 : decode method_6_code 211 = .ok (.areturn, 1) := by decide +kernel
theorem d3_212 : decode method_6_code 212 = .ok (.new 34, 3) := by decide +kernel
theorem d3_215 : decode method_6_code 215 = .ok (.dup, 1) := by decide +kernel
theorem d3_216 : decode method_6_code 216 = .ok (.bipush 6, 2) := by decide +kernel
theorem d3_218 : decode method_6_code 218 = .ok (.newarray .char, 2) := by decide +kernel
theorem d3_220 : decode method_6_code 220 = .ok (.dup, 1) := by decide +kernel
theorem d3_221 : decode method_6_code 221 = .ok (.iconst 0, 1) := by decide +kernel
theorem d3_222 : decode method_6_code 222 = .ok (.aload_n 1, 1) := by decide +kernel
theorem d3_223 : decode method_6_code 223 = .ok (.iconst 0, 1) := by decide +kernel
theorem d3_224 : decode method_6_code 224 = .ok (.caload, 1) := by decide +kernel
theorem d3_225 : decode method_6_code 225 = .ok (.castore, 1) := by decide +kernel
theorem d3_226 : decode method_6_code 226 = .ok (.dup, 1) := by decide +kernel
theorem d3_227 : decode method_6_code 227 = .ok (.iconst 1, 1) := by decide +kernel
theorem d3_228 : decode method_6_code 228 = .ok (.aload_n 1, 1) := by decide +kernel
theorem d3_229 : decode method_6_code 229 = .ok (.iconst 1, 1) := by decide +kernel
theorem d3_230 : decode method_6_code 230 = .ok (.caload, 1) := by decide +kernel
theorem d3_231 : decode method_6_code 231 = .ok (.castore, 1) := by decide +kernel
theorem d3_232 : decode method_6_code 232 = .ok (.dup, 1) := by decide +kernel
theorem d3_233 : decode method_6_code 233 = .ok (.iconst 2, 1) := by decide +kernel
theorem d3_234 : decode method_6_code 234 = .ok (.aload_n 1, 1) := by decide +kernel
theorem d3_235 : decode method_6_code 235 = .ok (.iconst 2, 1) := by decide +kernel
theorem d3_236 : decode method_6_code 236 = .ok (.caload, 1) := by decide +kernel
theorem d3_237 : decode method_6_code 237 = .ok (.castore, 1) := by decide +kernel
theorem d3_238 : decode method_6_code 238 = .ok (.dup, 1) := by decide +kernel
theorem d3_239 : decode method_6_code 239 = .ok (.iconst 3, 1) := by decide +kernel
theorem d3_240 : decode method_6_code 240 = .ok (.aload_n 1, 1) := by decide +kernel
theorem d3_241 : decode method_6_code 241 = .ok (.iconst 3, 1) := by decide +kernel
theorem d3_242 : decode method_6_code 242 = .ok (.caload, 1) := by decide +kernel
theorem d3_243 : decode method_6_code 243 = .ok (.castore, 1) := by decide +kernel
theorem d3_244 : decode method_6_code 244 = .ok (.dup, 1) := by decide +kernel
theorem d3_245 : decode method_6_code 245 = .ok (.iconst 4, 1) := by decide +kernel
theorem d3_246 : decode method_6_code 246 = .ok (.aload_n 1, 1) := by decide +kernel
theorem d3_247 : decode method_6_code 247 = .ok (.iconst 4, 1) := by decide +kernel
theorem d3_248 : decode method_6_code 248 = .ok (.caload, 1) := by decide +kernel
theorem d3_249 : decode method_6_code 249 = .ok (.castore, 1) := by decide +kernel
theorem d3_250 : decode method_6_code 250 = .ok (.dup, 1) := by decide +kernel
theorem d3_251 : decode method_6_code 251 = .ok (.iconst 5, 1) := by decide +kernel
theorem d3_252 : decode method_6_code 252 = .ok (.aload_n 1, 1) := by decide +kernel
theorem d3_253 : decode method_6_code 253 = .ok (.iconst 5, 1) := by decide +kernel
theorem d3_254 : decode method_6_code 254 = .ok (.caload, 1) := by decide +kernel
theorem d3_255 : decode method_6_code 255 = .ok (.castore, 1) := by decide +kernel
theorem d3_256 : decode method_6_code 256 = .ok (.invokespecial 36, 3) := by decide +kernel
theorem d3_259 : decode method_6_code 259 = .ok (.areturn, 1) := by decide +kernel
theorem d3_260 : decode method_6_code 260 = .ok (.new 34, 3) := by decide +kernel
theorem d3_263 : decode method_6_code 263 = .ok (.dup, 1) := by decide +kernel
theorem d3_264 : decode method_6_code 264 = .ok (.bipush 7, 2) := by decide +kernel
theorem d3_266 : decode method_6_code 266 = .ok (.newarray .char, 2) := by decide +kernel
theorem d3_268 : decode method_6_code 268 = .ok (.dup, 1) := by decide +kernel
theorem d3_269 : decode method_6_code 269 = .ok (.iconst 0, 1) := by decide +kernel
theorem d3_270 : decode method_6_code 270 = .ok (.aload_n 1, 1) := by decide +kernel
theorem d3_271 : decode method_6_code 271 = .ok (.iconst 0, 1) := by decide +kernel
theorem d3_272 : decode method_6_code 272 = .ok (.caload, 1) := by decide +kernel
theorem d3_273 : decode method_6_code 273 = .ok (.castore, 1) := by decide +kernel
theorem d3_274 : decode method_6_code 274 = .ok (.dup, 1) := by decide +kernel
theorem d3_275 : decode method_6_code 275 = .ok (.iconst 1, 1) := by decide +kernel
theorem d3_276 : decode method_6_code 276 = .ok (.aload_n 1, 1) := by decide +kernel
theorem d3_277 : decode method_6_code 277 = .ok (.iconst 1, 1) := by decide +kernel
theorem d3_278 : decode method_6_code 278 = .ok (.caload, 1) := by decide +kernel
theorem d3_279 : decode method_6_code 279 = .ok (.castore, 1) := by decide +kernel
theorem d3_280 : decode method_6_code 280 = .ok (.dup, 1) := by decide +kernel
theorem d3_281 : decode method_6_code 281 = .ok (.iconst 2, 1) := by decide +kernel
theorem d3_282 : decode method_6_code 282 = .ok (.aload_n 1, 1) := by decide +kernel
theorem d3_283 : decode method_6_code 283 = .ok (.iconst 2, 1) := by decide +kernel
theorem d3_284 : decode method_6_code 284 = .ok (.caload, 1) := by decide +kernel
theorem d3_285 : decode method_6_code 285 = .ok (.castore, 1) := by decide +kernel
theorem d3_286 : decode method_6_code 286 = .ok (.dup, 1) := by decide +kernel
theorem d3_287 : decode method_6_code 287 = .ok (.iconst 3, 1) := by decide +kernel
theorem d3_288 : decode method_6_code 288 = .ok (.aload_n 1, 1) := by decide +kernel
theorem d3_289 : decode method_6_code 289 = .ok (.iconst 3, 1) := by decide +kernel
theorem d3_290 : decode method_6_code 290 = .ok (.caload, 1) := by decide +kernel
theorem d3_291 : decode method_6_code 291 = .ok (.castore, 1) := by decide +kernel
theorem d3_292 : decode method_6_code 292 = .ok (.dup, 1) := by decide +kernel
theorem d3_293 : decode method_6_code 293 = .ok (.iconst 4, 1) := by decide +kernel
theorem d3_294 : decode method_6_code 294 = .ok (.aload_n 1, 1) := by decide +kernel
theorem d3_295 : decode method_6_code 295 = .ok (.iconst 4, 1) := by decide +kernel
theorem d3_296 : decode method_6_code 296 = .ok (.caload, 1) := by decide +kernel
theorem d3_297 : decode method_6_code 297 = .ok (.castore, 1) := by decide +kernel
theorem d3_298 : decode method_6_code 298 = .ok (.dup, 1) := by decide +kernel
theorem d3_299 : decode method_6_code 299 = .ok (.iconst 5, 1) := by decide +kernel
theorem d3_300 : decode method_6_code 300 = .ok (.aload_n 1, 1) := by decide +kernel
theorem d3_301 : decode method_6_code 301 = .ok (.iconst 5, 1) := by decide +kernel
theorem d3_302 : decode method_6_code 302 = .ok (.caload, 1) := by decide +kernel
theorem d3_303 : decode method_6_code 303 = .ok (.castore, 1) := by decide +kernel
theorem d3_304 : decode method_6_code 304 = .ok (.dup, 1) := by decide +kernel
theorem d3_305 : decode method_6_code 305 = .ok (.bipush 6, 2) := by decide +kernel
theorem d3_307 : decode method_6_code 307 = .ok (.aload_n 1, 1) := by decide +kernel
theorem d3_308 : decode method_6_code 308 = .ok (.bipush 6, 2) := by decide +kernel
theorem d3_310 : decode method_6_code 310 = .ok (.caload, 1) := by decide +kernel
theorem d3_311 : decode method_6_code 311 = .ok (.castore, 1) := by decide +kernel
theorem d3_312 : decode method_6_code 312 = .ok (.invokespecial 36, 3) := by decide +kernel
theorem d3_315 : decode method_6_code 315 = .ok (.areturn, 1) := by decide +kernel
theorem d3_316 : decode method_6_code 316 = .ok (.new 34, 3) := by decide +kernel
theorem d3_319 : decode method_6_code 319 = .ok (.dup, 1) := by decide +kernel
theorem d3_320 : decode method_6_code 320 = .ok (.bipush 8, 2) := by decide +kernel
theorem d3_322 : decode method_6_code 322 = .ok (.newarray .char, 2) := by decide +kernel
theorem d3_324 : decode method_6_code 324 = .ok (.dup, 1) := by decide +kernel
theorem d3_325 : decode method_6_code 325 = .ok (.iconst 0, 1) := by decide +kernel
theorem d3_326 : decode method_6_code 326 = .ok (.aload_n 1, 1) := by decide +kernel
theorem d3_327 : decode method_6_code 327 = .ok (.iconst 0, 1) := by decide +kernel
theorem d3_328 : decode method_6_code 328 = .ok (.caload, 1) := by decide +kernel
theorem d3_329 : decode method_6_code 329 = .ok (.castore, 1) := by decide +kernel
theorem d3_330 : decode method_6_code 330 = .ok (.dup, 1) := by decide +kernel
theorem d3_331 : decode method_6_code 331 = .ok (.iconst 1, 1) := by decide +kernel
theorem d3_332 : decode method_6_code 332 = .ok (.aload_n 1, 1) := by decide +kernel
theorem d3_333 : decode method_6_code 333 = .ok (.iconst 1, 1) := by decide +kernel
theorem d3_334 : decode method_6_code 334 = .ok (.caload, 1) := by decide +kernel
theorem d3_335 : decode method_6_code 335 = .ok (.castore, 1) := by decide +kernel
theorem d3_336 : decode method_6_code 336 = .ok (.dup, 1) := by decide +kernel
theorem d3_337 : decode method_6_code 337 = .ok (.iconst 2, 1) := by decide +kernel
theorem d3_338 : decode method_6_code 338 = .ok (.aload_n 1, 1) := by decide +kernel
theorem d3_339 : decode method_6_code 339 = .ok (.iconst 2, 1) := by decide +kernel
theorem d3_340 : decode method_6_code 340 = .ok (.caload, 1) := by decide +kernel
theorem d3_341 : decode method_6_code 341 = .ok (.castore, 1) := by decide +kernel
theorem d3_342 : decode method_6_code 342 = .ok (.dup, 1) := by decide +kernel
theorem d3_343 : decode method_6_code 343 = .ok (.iconst 3, 1) := by decide +kernel
theorem d3_344 : decode method_6_code 344 = .ok (.aload_n 1, 1) := by decide +kernel
theorem d3_345 : decode method_6_code 345 = .ok (.iconst 3, 1) := by decide +kernel
theorem d3_346 : decode method_6_code 346 = .ok (.caload, 1) := by decide +kernel
theorem d3_347 : decode method_6_code 347 = .ok (.castore, 1) := by decide +kernel
theorem d3_348 : decode method_6_code 348 = .ok (.dup, 1) := by decide +kernel
theorem d3_349 : decode method_6_code 349 = .ok (.iconst 4, 1) := by decide +kernel
theorem d3_350 : decode method_6_code 350 = .ok (.aload_n 1, 1) := by decide +kernel
theorem d3_351 : decode method_6_code 351 = .ok (.iconst 4, 1) := by decide +kernel
theorem d3_352 : decode method_6_code 352 = .ok (.caload, 1) := by decide +kernel
theorem d3_353 : decode method_6_code 353 = .ok (.castore, 1) := by decide +kernel
theorem d3_354 : decode method_6_code 354 = .ok (.dup, 1) := by decide +kernel
theorem d3_355 : decode method_6_code 355 = .ok (.iconst 5, 1) := by decide +kernel
theorem d3_356 : decode method_6_code 356 = .ok (.aload_n 1, 1) := by decide +kernel
theorem d3_357 : decode method_6_code 357 = .ok (.iconst 5, 1) := by decide +kernel
theorem d3_358 : decode method_6_code 358 = .ok (.caload, 1) := by decide +kernel
theorem d3_359 : decode method_6_code 359 = .ok (.castore, 1) := by decide +kernel
theorem d3_360 : decode method_6_code 360 = .ok (.dup, 1) := by decide +kernel
theorem d3_361 : decode method_6_code 361 = .ok (.bipush 6, 2) := by decide +kernel
theorem d3_363 : decode method_6_code 363 = .ok (.aload_n 1, 1) := by decide +kernel
theorem d3_364 : decode method_6_code 364 = .ok (.bipush 6, 2) := by decide +kernel
theorem d3_366 : decode method_6_code 366 = .ok (.caload, 1) := by decide +kernel
theorem d3_367 : decode method_6_code 367 = .ok (.castore, 1) := by decide +kernel
theorem d3_368 : decode method_6_code 368 = .ok (.dup, 1) := by decide +kernel
theorem d3_369 : decode method_6_code 369 = .ok (.bipush 7, 2) := by decide +kernel
theorem d3_371 : decode method_6_code 371 = .ok (.aload_n 1, 1) := by decide +kernel
theorem d3_372 : decode method_6_code 372 = .ok (.bipush 7, 2) := by decide +kernel
theorem d3_374 : decode method_6_code 374 = .ok (.caload, 1) := by decide +kernel
theorem d3_375 : decode method_6_code 375 = .ok (.castore, 1) := by decide +kernel
theorem d3_376 : decode method_6_code 376 = .ok (.invokespecial 36, 3) := by decide +kernel
theorem d3_379 : decode method_6_code 379 = .ok (.areturn, 1) := by decide +kernel
theorem d3_380 : decode method_6_code 380 = .ok (.new 34, 3) := by decide +kernel
theorem d3_383 : decode method_6_code 383 = .ok (.dup, 1) := by decide +kernel
theorem d3_384 : decode method_6_code 384 = .ok (.bipush 9, 2) := by decide +kernel
theorem d3_386 : decode method_6_code 386 = .ok (.newarray .char, 2) := by decide +kernel
theorem d3_388 : decode method_6_code 388 = .ok (.dup, 1) := by decide +kernel
theorem d3_389 : decode method_6_code 389 = .ok (.iconst 0, 1) := by decide +kernel
theorem d3_390 : decode method_6_code 390 = .ok (.aload_n 1, 1) := by decide +kernel
theorem d3_391 : decode method_6_code 391 = .ok (.iconst 0, 1) := by decide +kernel
theorem d3_392 : decode method_6_code 392 = .ok (.caload, 1) := by decide +kernel
theorem d3_393 : decode method_6_code 393 = .ok (.castore, 1) := by decide +kernel
theorem d3_394 : decode method_6_code 394 = .ok (.dup, 1) := by decide +kernel
theorem d3_395 : decode method_6_code 395 = .ok (.iconst 1, 1) := by decide +kernel
theorem d3_396 : decode method_6_code 396 = .ok (.aload_n 1, 1) := by decide +kernel
theorem d3_397 : decode method_6_code 397 = .ok (.iconst 1, 1) := by decide +kernel
theorem d3_398 : decode method_6_code 398 = .ok (.caload, 1) := by decide +kernel
theorem d3_399 : decode method_6_code 399 = .ok (.castore, 1) := by decide +kernel
theorem d3_400 : decode method_6_code 400 = .ok (.dup, 1) := by decide +kernel
theorem d3_401 : decode method_6_code 401 = .ok (.iconst 2, 1) := by decide +kernel
theorem d3_402 : decode method_6_code 402 = .ok (.aload_n 1, 1) := by decide +kernel
theorem d3_403 : decode method_6_code 403 = .ok (.iconst 2, 1) := by decide +kernel
theorem d3_404 : decode method_6_code 404 = .ok (.caload, 1) := by decide +kernel
theorem d3_405 : decode method_6_code 405 = .ok (.castore, 1) := by decide +kernel
theorem d3_406 : decode method_6_code 406 = .ok (.dup, 1) := by decide +kernel
theorem d3_407 : decode method_6_code 407 = .ok (.iconst 3, 1) := by decide +kernel
theorem d3_408 : decode method_6_code 408 = .ok (.aload_n 1, 1) := by decide +kernel
theorem d3_409 : decode method_6_code 409 = .ok (.iconst 3, 1) := by decide +kernel
theorem d3_410 : decode method_6_code 410 = .ok (.caload, 1) := by decide +kernel
theorem d3_411 : decode method_6_code 411 = .ok (.castore, 1) := by decide +kernel
theorem d3_412 : decode method_6_code 412 = .ok (.dup, 1) := by decide +kernel
theorem d3_413 : decode method_6_code 413 = .ok (.iconst 4, 1) := by decide +kernel
theorem d3_414 : decode method_6_code 414 = .ok (.aload_n 1, 1) := by decide +kernel
theorem d3_415 : decode method_6_code 415 = .ok (.iconst 4, 1) := by decide +kernel
theorem d3_416 : decode method_6_code 416 = .ok (.caload, 1) := by decide +kernel
theorem d3_417 : decode method_6_code 417 = .ok (.castore, 1) := by decide +kernel
theorem d3_418 : decode method_6_code 418 = .ok (.dup, 1) := by decide +kernel
theorem d3_419 : decode method_6_code 419 = .ok (.iconst 5, 1) := by decide +kernel
theorem d3_420 : decode method_6_code 420 = .ok (.aload_n 1, 1) := by decide +kernel
theorem d3_421 : decode method_6_code 421 = .ok (.iconst 5, 1) := by decide +kernel
theorem d3_422 : decode method_6_code 422 = .ok (.caload, 1) := by decide +kernel
theorem d3_423 : decode method_6_code 423 = .ok (.castore, 1) := by decide +kernel
theorem d3_424 : decode method_6_code 424 = .ok (.dup, 1) := by decide +kernel
theorem d3_425 : decode method_6_code 425 = .ok (.bipush 6, 2) := by decide +kernel
theorem d3_427 : decode method_6_code 427 = .ok (.aload_n 1, 1) := by decide +kernel
theorem d3_428 : decode method_6_code 428 = .ok (.bipush 6, 2) := by decide +kernel
theorem d3_430 : decode method_6_code 430 = .ok (.caload, 1) := by decide +kernel
theorem d3_431 : decode method_6_code 431 = .ok (.castore, 1) := by decide +kernel
theorem d3_432 : decode method_6_code 432 = .ok (.dup, 1) := by decide +kernel
theorem d3_433 : decode method_6_code 433 = .ok (.bipush 7, 2) := by decide +kernel
theorem d3_435 : decode method_6_code 435 = .ok (.aload_n 1, 1) := by decide +kernel
theorem d3_436 : decode method_6_code 436 = .ok (.bipush 7, 2) := by decide +kernel
theorem d3_438 : decode method_6_code 438 = .ok (.caload, 1) := by decide +kernel
theorem d3_439 : decode method_6_code 439 = .ok (.castore, 1) := by decide +kernel
theorem d3_440 : decode method_6_code 440 = .ok (.dup, 1) := by decide +kernel
theorem d3_441 : decode method_6_code 441 = .ok (.bipush 8, 2) := by decide +kernel
theorem d3_443 : decode method_6_code 443 = .ok (.aload_n 1, 1) := by decide +kernel
theorem d3_444 : decode method_6_code 444 = .ok (.bipush 8, 2) := by decide +kernel
theorem d3_446 : decode method_6_code 446 = .ok (.caload, 1) := by decide +kernel
theorem d3_447 : decode method_6_code 447 = .ok (.castore, 1) := by decide +kernel
theorem d3_448 : decode method_6_code 448 = .ok (.invokespecial 36, 3) := by decide +kernel
theorem d3_451 : decode method_6_code 451 = .ok (.areturn, 1) := by decide +kernel
theorem d3_452 : decode method_6_code 452 = .ok (.new 34, 3) := by decide +kernel
theorem d3_455 : decode method_6_code 455 = .ok (.dup, 1) := by decide +kernel
theorem d3_456 : decode method_6_code 456 = .ok (.bipush 10, 2) := by decide +kernel
theorem d3_458 : decode method_6_code 458 = .ok (.newarray .char, 2) := by decide +kernel
theorem d3_460 : decode method_6_code 460 = .ok (.dup, 1) := by decide +kernel
theorem d3_461 : decode method_6_code 461 = .ok (.iconst 0, 1) := by decide +kernel
theorem d3_462 : decode method_6_code 462 = .ok (.aload_n 1, 1) := by decide +kernel
theorem d3_463 : decode method_6_code 463 = .ok (.iconst 0, 1) := by decide +kernel
theorem d3_464 : decode method_6_code 464 = .ok (.caload, 1) := by decide +kernel
theorem d3_465 : decode method_6_code 465 = .ok (.castore, 1) := by decide +kernel
theorem d3_466 : decode method_6_code 466 = .ok (.dup, 1) := by decide +kernel
theorem d3_467 : decode method_6_code 467 = .ok (.iconst 1, 1) := by decide +kernel
theorem d3_468 : decode method_6_code 468 = .ok (.aload_n 1, 1) := by decide +kernel
theorem d3_469 : decode method_6_code 469 = .ok (.iconst 1, 1) := by decide +kernel
theorem d3_470 : decode method_6_code 470 = .ok (.caload, 1) := by decide +kernel
theorem d3_471 : decode method_6_code 471 = .ok (.castore, 1) := by decide +kernel
theorem d3_472 : decode method_6_code 472 = .ok (.dup, 1) := by decide +kernel
theorem d3_473 : decode method_6_code 473 = .ok (.iconst 2, 1) := by decide +kernel
theorem d3_474 : decode method_6_code 474 = .ok (.aload_n 1, 1) := by decide +kernel
theorem d3_475 : decode method_6_code 475 = .ok (.iconst 2, 1) := by decide +kernel
theorem d3_476 : decode method_6_code 476 = .ok (.caload, 1) := by decide +kernel
theorem d3_477 : decode method_6_code 477 = .ok (.castore, 1) := by decide +kernel
theorem d3_478 : decode method_6_code 478 = .ok (.dup, 1) := by decide +kernel
theorem d3_479 : decode method_6_code 479 = .ok (.iconst 3, 1) := by decide +kernel
theorem d3_480 : decode method_6_code 480 = .ok (.aload_n 1, 1) := by decide +kernel
theorem d3_481 : decode method_6_code 481 = .ok (.iconst 3, 1) := by decide +kernel
theorem d3_482 : decode method_6_code 482 = .ok (.caload, 1) := by decide +kernel
theorem d3_483 : decode method_6_code 483 = .ok (.castore, 1) := by decide +kernel
theorem d3_484 : decode method_6_code 484 = .ok (.dup, 1) := by decide +kernel
theorem d3_485 : decode method_6_code 485 = .ok (.iconst 4, 1) := by decide +kernel
theorem d3_486 : decode method_6_code 486 = .ok (.aload_n 1, 1) := by decide +kernel
theorem d3_487 : decode method_6_code 487 = .ok (.iconst 4, 1) := by decide +kernel
theorem d3_488 : decode method_6_code 488 = .ok (.caload, 1) := by decide +kernel
theorem d3_489 : decode method_6_code 489 = .ok (.castore, 1) := by decide +kernel
theorem d3_490 : decode method_6_code 490 = .ok (.dup, 1) := by decide +kernel
theorem d3_491 : decode method_6_code 491 = .ok (.iconst 5, 1) := by decide +kernel
theorem d3_492 : decode method_6_code 492 = .ok (.aload_n 1, 1) := by decide +kernel
theorem d3_493 : decode method_6_code 493 = .ok (.iconst 5, 1) := by decide +kernel
theorem d3_494 : decode method_6_code 494 = .ok (.caload, 1) := by decide +kernel
theorem d3_495 : decode method_6_code 495 = .ok (.castore, 1) := by decide +kernel
theorem d3_496 : decode method_6_code 496 = .ok (.dup, 1) := by decide +kernel
theorem d3_497 : decode method_6_code 497 = .ok (.bipush 6, 2) := by decide +kernel
theorem d3_499 : decode method_6_code 499 = .ok (.aload_n 1, 1) := by decide +kernel
theorem d3_500 : decode method_6_code 500 = .ok (.bipush 6, 2) := by decide +kernel
theorem d3_502 : decode method_6_code 502 = .ok (.caload, 1) := by decide +kernel
theorem d3_503 : decode method_6_code 503 = .ok (.castore, 1) := by decide +kernel
theorem d3_504 : decode method_6_code 504 = .ok (.dup, 1) := by decide +kernel
theorem d3_505 : decode method_6_code 505 = .ok (.bipush 7, 2) := by decide +kernel
theorem d3_507 : decode method_6_code 507 = .ok (.aload_n 1, 1) := by decide +kernel
theorem d3_508 : decode method_6_code 508 = .ok (.bipush 7, 2) := by decide +kernel
theorem d3_510 : decode method_6_code 510 = .ok (.caload, 1) := by decide +kernel
theorem d3_511 : decode method_6_code 511 = .ok (.castore, 1) := by decide +kernel
theorem d3_512 : decode method_6_code 512 = .ok (.dup, 1) := by decide +kernel
theorem d3_513 : decode method_6_code 513 = .ok (.bipush 8, 2) := by decide +kernel
theorem d3_515 : decode method_6_code 515 = .ok (.aload_n 1, 1) := by decide +kernel
theorem d3_516 : decode method_6_code 516 = .ok (.bipush 8, 2) := by decide +kernel
theorem d3_518 : decode method_6_code 518 = .ok (.caload, 1) := by decide +kernel
theorem d3_519 : decode method_6_code 519 = .ok (.castore, 1) := by decide +kernel
theorem d3_520 : decode method_6_code 520 = .ok (.dup, 1) := by decide +kernel
theorem d3_521 : decode method_6_code 521 = .ok (.bipush 9, 2) := by decide +kernel
theorem d3_523 : decode method_6_code 523 = .ok (.aload_n 1, 1) := by decide +kernel
theorem d3_524 : decode method_6_code 524 = .ok (.bipush 9, 2) := by decide +kernel
theorem d3_526 : decode method_6_code 526 = .ok (.caload, 1) := by decide +kernel
theorem d3_527 : decode method_6_code 527 = .ok (.castore, 1) := by decide +kernel
theorem d3_528 : decode method_6_code 528 = .ok (.invokespecial 36, 3) := by decide +kernel
theorem d3_531 : decode method_6_code 531 = .ok (.areturn, 1) := by decide +kernel
theorem ef_3 (m : MethodId) (x0 : Int32) (x1 : Nat) : entryFrame m #[(.int x0), (.ref x1)] 2 = mkF m 0 #[.val (.int x0), .val (.ref x1)] [] := by first | (simp [entryFrame, mkF, argsToLocals, Value.category]; done) | rfl
set_option maxRecDepth 65536 in
set_option maxHeartbeats 40000000 in
theorem rmMK (l : Launch) (Z : State) (a0 : Array Value) (hw : ∀ d ∈ tables_1, d.before a0 Z = true) (n : Nat) (a2 : Nat) (k1 : ClassId) (f : Nat → Int32) (cs : Int32) (fm : Value) (h0 : Heap) (n0 : Nat) (Z0 : n0 ≤ h0.size) (SE : SEnv Z cs fm) (O0 : Old Z n0 h0) (hn : n ≤ 10) (hc : ∀ j, j < 10 → 0 ≤ (f j).toInt ∧ (f j).toInt ≤ 65535) (A2 : Arf Z h0 a2 k1 .char 10 f) (lt2 : a2 < h0.size) :
    MetH l (⟨"com/example/gids/gids/LocRuleAuthorityStartPinLaw", "make", "(I[C)Ljava/lang/String;"⟩ : MethodName) method_6_code 2 (some (.object "java/lang/String")) [] ({ frames := 6, cells := 6, slots := 44, locals := 88 } : Room) Z consts_1 [] #[(.int (Int32.ofNat n)), (.ref a2)] h0 (fun v h L => ∃ b : Nat, v = some (.ref b) ∧ Fr n0 L ∧ Ext h0 h ∧ Str Z h b n f) := by
  refine of_goalH (plainFor_of_name (by first | (simp [plainName, overriddenIn]; done) | decide +kernel)) ?_
  intro p e s m below meth c s₁ C X0 hS e0 hCH hSf
  have C0 := C
  obtain ⟨hx, hZ, hby, hml, hret, hown, hnm⟩ := C
  have hown : s.vm.findClass "com/example/gids/gids/LocRuleAuthorityStartPinLaw" = some m.cls := hown
  have hret : meth.sig.returnType = (some (.object "java/lang/String")) := hret
  have CH0 := CHr.refl hCH
  have N0 := Fr.nil n0
  rw [ef_3]
  have hq : n = 0 ∨ n = 1 ∨ n = 2 ∨ n = 3 ∨ n = 4 ∨ n = 5 ∨ n = 6 ∨ n = 7 ∨ n = 8 ∨ n = 9 ∨ n = 10 := by omega
  rcases hq with rfl | rfl | rfl | rfl | rfl | rfl | rfl | rfl | rfl | rfl | rfl
  · refine GoalH.step (T' := s₁) (g' := (mkF m 1 #[.val (.int (Int32.ofNat 0)), .val (.ref a2)] [(.int (Int32.ofNat 0))])) ?_ (fun t k => XS.iloadN X0.here hx rfl (hb hby d3_0) rfl k)
    refine GoalH.step (T' := s₁) (g' := (mkF m 56 #[.val (.int (Int32.ofNat 0)), .val (.ref a2)] [])) ?_ (fun t k => XS.tswIn X0.here hx rfl (o := 55) (pc0 := 1) (pc' := 56) rfl (hb hby d3_1) rfl (by decide) (by decide) (by decide) (by decide) k)
    obtain ⟨T1001, h1001, X1001, e1001, E1001, A1001, D1001, -, st1001⟩ := newO X0 hx hZ hown (hw _ (List.mem_of_getElem? (i := 13) rfl)) (hw _ (List.mem_of_getElem? (i := 14) rfl)) (hw _ (List.mem_of_getElem? (i := 15) rfl)) e0 (g := (mkF m 56 #[.val (.int (Int32.ofNat 0)), .val (.ref a2)] [])) rfl (hb hby d3_56) (by decide) (by decide)
    obtain ⟨b1001, g1001⟩ : ∃ z, z = h0.size := ⟨_, rfl⟩
    rw [← g1001] at A1001 D1001 st1001
    refine GoalH.step (T' := T1001) (g' := (mkF m 59 #[.val (.int (Int32.ofNat 0)), .val (.ref a2)] [(.ref b1001)])) ?_ st1001
    have sz1002 : h0.size ≤ h1001.size := E1001.1
    have lt_b1001 : b1001 < h1001.size := A1001.lt
    refine GoalH.step (T' := T1001) (g' := (mkF m 60 #[.val (.int (Int32.ofNat 0)), .val (.ref a2)] [(.ref b1001), (.ref b1001)])) ?_ (fun t k => XS.dup X1001.here hx rfl (hb hby d3_59) rfl rfl k)
    refine GoalH.step (T' := T1001) (g' := (mkF m 61 #[.val (.int (Int32.ofNat 0)), .val (.ref a2)] [(.int (Int32.ofNat 0)), (.ref b1001), (.ref b1001)])) ?_ (fun t k => XS.iconst X1001.here hx rfl (hb hby d3_60) k)
    obtain ⟨T1003, h1003, k1003, X1003, e1003, E1003, A1003, st1003⟩ := newP X1001 hx hZ (hw _ (List.mem_of_getElem? (i := 1) rfl)) e1001 (g := (mkF m 61 #[.val (.int (Int32.ofNat 0)), .val (.ref a2)] [(.int (Int32.ofNat 0)), (.ref b1001), (.ref b1001)])) rfl (hb hby d3_61) rfl (by decide) (cap := 0) (by decide) (by decide) (by decide) (by decide)
    obtain ⟨b1003, g1003⟩ : ∃ z, z = h1001.size := ⟨_, rfl⟩
    rw [← g1003] at A1003 st1003
    refine GoalH.step (T' := T1003) (g' := (mkF m 63 #[.val (.int (Int32.ofNat 0)), .val (.ref a2)] [(.ref b1003), (.ref b1001), (.ref b1001)])) ?_ st1003
    have sz1004 : h1001.size ≤ h1003.size := E1003.1
    have lt_b1003 : b1003 < h1003.size := A1003.lt
    have V1003 : Arf Z h1003 b1003 k1003 .char 0 (fun _ => 0) := Arf.new A1003 rfl rfl
    have AC1006 : Arf Z h1003 b1003 k1003 .char 0 f := Arf.congr V1003 (fun j hj => absurd hj (Nat.not_lt_zero _))
    have f1007 : Old Z n0 h1003 := ((O0.ext E1001).ext E1003)
    have f1008 : Exa Z h1003 b1001 "java/lang/String" := (A1001.ext E1003)
    have f1009 : Fld Z h1003 b1001 "java/lang/String" "value" "[B" .null := ((D1001 (Or.inr (hw _ (List.mem_of_getElem? (i := 28) rfl))) (ty := (.array .byte)) (by decide)).ext E1003)
    have f1010 : Fld Z h1003 b1001 "java/lang/String" "coder" "B" (.int (0 : Int32)) := ((D1001 (Or.inr (hw _ (List.mem_of_getElem? (i := 29) rfl))) (ty := .byte) (by decide)).ext E1003)
    have kk1011 : Keep h0 h1003 [] := (((Keep.refl h0 []).ext E1001).ext E1003)
    have CH1012 := CHr.trans CH0 (CHr.keep kk1011 all0 CH0.1)
    have kk1013 : Keep h0 h1003 [] := (((Keep.refl h0 []).ext E1001).ext E1003)
    have Sf1014 := safeFresh (EL := consts_1) kk1013 CH0.1 (show h0.size ≤ b1001 by omega)
    obtain ⟨v1005, T1005, h1005, L1005, k1005, X1005, e1005, hQ1005, hS, hk1005, hsz1005, C1005, hZ, hown, st1005⟩ := callInitH X1003 hx hZ hown hS (by omega) (own_EW hw) CH1012.1 (allS ⟨show (b1001 : Nat) < h1003.size by omega, Sf1014⟩ all0) rfl (hw _ (List.mem_of_getElem? (i := 16) rfl)) (hw _ (List.mem_of_getElem? (i := 17) rfl)) (hw _ (List.mem_of_getElem? (i := 15) rfl)) (hw _ (List.mem_of_getElem? (i := 18) rfl)) (by decide) (rmI1 l Z a0 hw 0 b1001 b1003 k1003 f .null (.int (0 : Int32)) cs fm h1003 n0 (by omega) SE f1007 f1008 f1009 f1010 (by omega) (fun j hj => hc j (by omega)) AC1006 (by omega) (by omega) (by omega) (by omega)) e1003 (W := 1) (by decide) (by decide) (by decide) (by decide) (g := (mkF m 63 #[.val (.int (Int32.ofNat 0)), .val (.ref a2)] [(.ref b1003), (.ref b1001), (.ref b1001)])) rfl (by rw [hml]; rfl) (a := b1001) (argsL := [(.ref b1003)]) (rest := [(.ref b1001)]) (lenOf pd_18 rfl) rfl (by show 2 * 0 + _ ≤ _; exact Nat.le_of_eq rfl) (hb hby d3_63) rfl
    obtain ⟨rfl, M1005, K1005, Z1005⟩ := hQ1005
    have N1005 := Fr.app N0 M1005
    refine GoalH.step (T' := T1005) (g' := (mkF m 66 #[.val (.int (Int32.ofNat 0)), .val (.ref a2)] [(.ref b1001)])) ?_ st1005
    have sz1015 : h1003.size ≤ h1005.size := K1005.1
    have CH1005 := CHr.trans CH1012 C1005
    have Sf1005_b1001 := C1005.safe (show (b1001 : Nat) < h1003.size by omega) Sf1014
    refine GoalH.retA X1005 hS (by rw [e1005]; omega) hZ (own_EW hw) (by rw [e1005]; exact CH1005) hx hret rfl rfl rfl (hb hby d3_66) ?_
    have k1016 : Keep h0 h1005 [] := ((((Keep.refl h0 []).ext E1001).ext E1003).trans K1005 (allS (Or.inr (by omega)) all0))
    refine ⟨?_, by decide, by decide⟩
    rw [e1005]
    exact ⟨b1001, rfl, N1005, extKp (extRefl _) k1016 all0, Z1005⟩
  · refine GoalH.step (T' := s₁) (g' := (mkF m 1 #[.val (.int (Int32.ofNat 1)), .val (.ref a2)] [(.int (Int32.ofNat 1))])) ?_ (fun t k => XS.iloadN X0.here hx rfl (hb hby d3_0) rfl k)
    refine GoalH.step (T' := s₁) (g' := (mkF m 67 #[.val (.int (Int32.ofNat 1)), .val (.ref a2)] [])) ?_ (fun t k => XS.tswIn X0.here hx rfl (o := 66) (pc0 := 1) (pc' := 67) rfl (hb hby d3_1) rfl (by decide) (by decide) (by decide) (by decide) k)
    obtain ⟨T1017, h1017, X1017, e1017, E1017, A1017, D1017, -, st1017⟩ := newO X0 hx hZ hown (hw _ (List.mem_of_getElem? (i := 13) rfl)) (hw _ (List.mem_of_getElem? (i := 14) rfl)) (hw _ (List.mem_of_getElem? (i := 15) rfl)) e0 (g := (mkF m 67 #[.val (.int (Int32.ofNat 1)), .val (.ref a2)] [])) rfl (hb hby d3_67) (by decide) (by decide)
    obtain ⟨b1017, g1017⟩ : ∃ z, z = h0.size := ⟨_, rfl⟩
    rw [← g1017] at A1017 D1017 st1017
    refine GoalH.step (T' := T1017) (g' := (mkF m 70 #[.val (.int (Int32.ofNat 1)), .val (.ref a2)] [(.ref b1017)])) ?_ st1017
    have sz1018 : h0.size ≤ h1017.size := E1017.1
    have lt_b1017 : b1017 < h1017.size := A1017.lt
    refine GoalH.step (T' := T1017) (g' := (mkF m 71 #[.val (.int (Int32.ofNat 1)), .val (.ref a2)] [(.ref b1017), (.ref b1017)])) ?_ (fun t k => XS.dup X1017.here hx rfl (hb hby d3_70) rfl rfl k)
    refine GoalH.step (T' := T1017) (g' := (mkF m 72 #[.val (.int (Int32.ofNat 1)), .val (.ref a2)] [(.int (Int32.ofNat 1)), (.ref b1017), (.ref b1017)])) ?_ (fun t k => XS.iconst X1017.here hx rfl (hb hby d3_71) k)
    obtain ⟨T1019, h1019, k1019, X1019, e1019, E1019, A1019, st1019⟩ := newP X1017 hx hZ (hw _ (List.mem_of_getElem? (i := 1) rfl)) e1017 (g := (mkF m 72 #[.val (.int (Int32.ofNat 1)), .val (.ref a2)] [(.int (Int32.ofNat 1)), (.ref b1017), (.ref b1017)])) rfl (hb hby d3_72) rfl (by decide) (cap := 1) (by decide) (by decide) (by decide) (by decide)
    obtain ⟨b1019, g1019⟩ : ∃ z, z = h1017.size := ⟨_, rfl⟩
    rw [← g1019] at A1019 st1019
    refine GoalH.step (T' := T1019) (g' := (mkF m 74 #[.val (.int (Int32.ofNat 1)), .val (.ref a2)] [(.ref b1019), (.ref b1017), (.ref b1017)])) ?_ st1019
    have sz1020 : h1017.size ≤ h1019.size := E1019.1
    have lt_b1019 : b1019 < h1019.size := A1019.lt
    have V1019 : Arf Z h1019 b1019 k1019 .char 1 (fun _ => 0) := Arf.new A1019 rfl rfl
    refine GoalH.step (T' := T1019) (g' := (mkF m 75 #[.val (.int (Int32.ofNat 1)), .val (.ref a2)] [(.ref b1019), (.ref b1019), (.ref b1017), (.ref b1017)])) ?_ (fun t k => XS.dup X1019.here hx rfl (hb hby d3_74) rfl rfl k)
    refine GoalH.step (T' := T1019) (g' := (mkF m 76 #[.val (.int (Int32.ofNat 1)), .val (.ref a2)] [(.int (Int32.ofNat 0)), (.ref b1019), (.ref b1019), (.ref b1017), (.ref b1017)])) ?_ (fun t k => XS.iconst X1019.here hx rfl (hb hby d3_75) k)
    refine GoalH.step (T' := T1019) (g' := (mkF m 77 #[.val (.int (Int32.ofNat 1)), .val (.ref a2)] [(.ref a2), (.int (Int32.ofNat 0)), (.ref b1019), (.ref b1019), (.ref b1017), (.ref b1017)])) ?_ (fun t k => XS.aloadN X1019.here hx rfl (hb hby d3_76) rfl rfl k)
    refine GoalH.step (T' := T1019) (g' := (mkF m 78 #[.val (.int (Int32.ofNat 1)), .val (.ref a2)] [(.int (Int32.ofNat 0)), (.ref a2), (.int (Int32.ofNat 0)), (.ref b1019), (.ref b1019), (.ref b1017), (.ref b1017)])) ?_ (fun t k => XS.iconst X1019.here hx rfl (hb hby d3_77) k)
    have f1022 : Arf Z h1019 a2 k1 .char 10 f := ((A2.ext E1017).ext E1019)
    obtain ⟨cl1021, Ar1021, q1021, S1021, H1021⟩ := (id f1022)
    have hlt1021 : 0 < 10 := by omega
    have hn1021 : 10 < 2 ^ 31 := by omega
    have hin1021 : ¬ ((Int32.ofNat 0) < 0 ∨ cl1021.slots.size ≤ ((Int32.ofNat 0)).toNatClampNeg) := nat_inb S1021 hlt1021 hn1021
    have hat1021 : cl1021.slots[((Int32.ofNat 0)).toNatClampNeg]? = some (.int (f 0)) := by rw [nat_clamp (show 0 < 2 ^ 31 by omega)]; exact H1021 _ hlt1021
    refine GoalH.step (T' := T1019) (g' := (mkF m 79 #[.val (.int (Int32.ofNat 1)), .val (.ref a2)] [(.int (f 0)), (.int (Int32.ofNat 0)), (.ref b1019), (.ref b1019), (.ref b1017), (.ref b1017)])) ?_ (fun t k => X1019.caload hx (j := (Int32.ofNat 0)) (v := (.int (f 0))) (by rw [e1019]; exact Ar1021.1) (State.isArrayOf_alike hZ.alike Ar1021.2.1) Ar1021.2.2 hin1021 hat1021 (g := (mkF m 78 #[.val (.int (Int32.ofNat 1)), .val (.ref a2)] [(.int (Int32.ofNat 0)), (.ref a2), (.int (Int32.ofNat 0)), (.ref b1019), (.ref b1019), (.ref b1017), (.ref b1017)])) rfl rfl (hb hby d3_78) _ k)
    obtain ⟨cl1023, Ar1023, q1023, S1023, H1023⟩ := (id V1019)
    have hlt1023 : 0 < 1 := by omega
    have hn1023 : 1 < 2 ^ 31 := by omega
    have hin1023 : ¬ ((Int32.ofNat 0) < 0 ∨ cl1023.slots.size ≤ ((Int32.ofNat 0)).toNatClampNeg) := nat_inb S1023 hlt1023 hn1023
    obtain ⟨T1023, h1023, X1023, e1023, W1023, st1023⟩ := stC X1019 hx hZ e1019 Ar1023 (j := (Int32.ofNat 0)) hin1023 (g := (mkF m 79 #[.val (.int (Int32.ofNat 1)), .val (.ref a2)] [(.int (f 0)), (.int (Int32.ofNat 0)), (.ref b1019), (.ref b1019), (.ref b1017), (.ref b1017)])) rfl rfl (hb hby d3_79)
    rw [nat_clamp (show 0 < 2 ^ 31 by omega)] at W1023 X1023
    refine GoalH.step (T' := T1023) (g' := (mkF m 80 #[.val (.int (Int32.ofNat 1)), .val (.ref a2)] [(.ref b1019), (.ref b1017), (.ref b1017)])) ?_ st1023
    have sz1024 : h1019.size ≤ h1023.size := Nat.le_of_eq W1023.size.symm
    have V1023 : Arf Z h1023 b1019 k1019 .char 1 (fun z => if z = 0 then (nar .char (f 0)) else ((fun _ => 0)) z) := Arf.set Ar1023 q1023 S1023 H1023 W1023
    have N1023 := Fr.snoc X1023 N0 (by omega : n0 ≤ b1019)
    have AC1026 : Arf Z h1023 b1019 k1019 .char 1 f := Arf.congr V1023 (own_st (i := 0) (fun j hj => absurd hj (Nat.not_lt_zero _)) (hc 0 (by decide)))
    have f1027 : Old Z n0 h1023 := (((O0.ext E1017).ext E1019).wr W1023 (by omega))
    have f1028 : Exa Z h1023 b1017 "java/lang/String" := (Exa.wr W1023 (A1017.ext E1019))
    have f1029 : Fld Z h1023 b1017 "java/lang/String" "value" "[B" .null := (Fld.other W1023 ((D1017 (Or.inr (hw _ (List.mem_of_getElem? (i := 28) rfl))) (ty := (.array .byte)) (by decide)).ext E1019) (Or.inl (nne (by omega))))
    have f1030 : Fld Z h1023 b1017 "java/lang/String" "coder" "B" (.int (0 : Int32)) := (Fld.other W1023 ((D1017 (Or.inr (hw _ (List.mem_of_getElem? (i := 29) rfl))) (ty := .byte) (by decide)).ext E1019) (Or.inl (nne (by omega))))
    have kk1031 : Keep h0 h1023 [] := ((((Keep.refl h0 []).ext E1017).ext E1019).wr W1023 (Or.inr (by omega)))
    have CH1032 := CHr.trans CH0 (CHr.keep kk1031 all0 CH0.1)
    have kk1033 : Keep h0 h1023 [] := ((((Keep.refl h0 []).ext E1017).ext E1019).wr W1023 (Or.inr (by omega)))
    have Sf1034 := safeFresh (EL := consts_1) kk1033 CH0.1 (show h0.size ≤ b1017 by omega)
    obtain ⟨v1025, T1025, h1025, L1025, k1025, X1025, e1025, hQ1025, hS, hk1025, hsz1025, C1025, hZ, hown, st1025⟩ := callInitH X1023 hx hZ hown hS (by omega) (own_EW hw) CH1032.1 (allS ⟨show (b1017 : Nat) < h1023.size by omega, Sf1034⟩ all0) rfl (hw _ (List.mem_of_getElem? (i := 16) rfl)) (hw _ (List.mem_of_getElem? (i := 17) rfl)) (hw _ (List.mem_of_getElem? (i := 15) rfl)) (hw _ (List.mem_of_getElem? (i := 18) rfl)) (by decide) (rmI1 l Z a0 hw 1 b1017 b1019 k1019 f .null (.int (0 : Int32)) cs fm h1023 n0 (by omega) SE f1027 f1028 f1029 f1030 (by omega) (fun j hj => hc j (by omega)) AC1026 (by omega) (by omega) (by omega) (by omega)) e1023 (W := 1) (by decide) (by decide) (by decide) (by decide) (g := (mkF m 80 #[.val (.int (Int32.ofNat 1)), .val (.ref a2)] [(.ref b1019), (.ref b1017), (.ref b1017)])) rfl (by rw [hml]; rfl) (a := b1017) (argsL := [(.ref b1019)]) (rest := [(.ref b1017)]) (lenOf pd_18 rfl) rfl (by show 2 * 0 + _ ≤ _; exact Nat.le_of_eq rfl) (hb hby d3_80) rfl
    obtain ⟨rfl, M1025, K1025, Z1025⟩ := hQ1025
    have N1025 := Fr.app N1023 M1025
    refine GoalH.step (T' := T1025) (g' := (mkF m 83 #[.val (.int (Int32.ofNat 1)), .val (.ref a2)] [(.ref b1017)])) ?_ st1025
    have sz1035 : h1023.size ≤ h1025.size := K1025.1
    have CH1025 := CHr.trans CH1032 C1025
    have Sf1025_b1017 := C1025.safe (show (b1017 : Nat) < h1023.size by omega) Sf1034
    refine GoalH.retA X1025 hS (by rw [e1025]; omega) hZ (own_EW hw) (by rw [e1025]; exact CH1025) hx hret rfl rfl rfl (hb hby d3_83) ?_
    have k1036 : Keep h0 h1025 [] := (((((Keep.refl h0 []).ext E1017).ext E1019).wr W1023 (Or.inr (by omega))).trans K1025 (allS (Or.inr (by omega)) all0))
    refine ⟨?_, by decide, by decide⟩
    rw [e1025]
    exact ⟨b1017, rfl, N1025, extKp (extRefl _) k1036 all0, Z1025⟩
  · refine GoalH.step (T' := s₁) (g' := (mkF m 1 #[.val (.int (Int32.ofNat 2)), .val (.ref a2)] [(.int (Int32.ofNat 2))])) ?_ (fun t k => XS.iloadN X0.here hx rfl (hb hby d3_0) rfl k)
    refine GoalH.step (T' := s₁) (g' := (mkF m 84 #[.val (.int (Int32.ofNat 2)), .val (.ref a2)] [])) ?_ (fun t k => XS.tswIn X0.here hx rfl (o := 83) (pc0 := 1) (pc' := 84) rfl (hb hby d3_1) rfl (by decide) (by decide) (by decide) (by decide) k)
    obtain ⟨T1037, h1037, X1037, e1037, E1037, A1037, D1037, -, st1037⟩ := newO X0 hx hZ hown (hw _ (List.mem_of_getElem? (i := 13) rfl)) (hw _ (List.mem_of_getElem? (i := 14) rfl)) (hw _ (List.mem_of_getElem? (i := 15) rfl)) e0 (g := (mkF m 84 #[.val (.int (Int32.ofNat 2)), .val (.ref a2)] [])) rfl (hb hby d3_84) (by decide) (by decide)
    obtain ⟨b1037, g1037⟩ : ∃ z, z = h0.size := ⟨_, rfl⟩
    rw [← g1037] at A1037 D1037 st1037
    refine GoalH.step (T' := T1037) (g' := (mkF m 87 #[.val (.int (Int32.ofNat 2)), .val (.ref a2)] [(.ref b1037)])) ?_ st1037
    have sz1038 : h0.size ≤ h1037.size := E1037.1
    have lt_b1037 : b1037 < h1037.size := A1037.lt
    refine GoalH.step (T' := T1037) (g' := (mkF m 88 #[.val (.int (Int32.ofNat 2)), .val (.ref a2)] [(.ref b1037), (.ref b1037)])) ?_ (fun t k => XS.dup X1037.here hx rfl (hb hby d3_87) rfl rfl k)
    refine GoalH.step (T' := T1037) (g' := (mkF m 89 #[.val (.int (Int32.ofNat 2)), .val (.ref a2)] [(.int (Int32.ofNat 2)), (.ref b1037), (.ref b1037)])) ?_ (fun t k => XS.iconst X1037.here hx rfl (hb hby d3_88) k)
    obtain ⟨T1039, h1039, k1039, X1039, e1039, E1039, A1039, st1039⟩ := newP X1037 hx hZ (hw _ (List.mem_of_getElem? (i := 1) rfl)) e1037 (g := (mkF m 89 #[.val (.int (Int32.ofNat 2)), .val (.ref a2)] [(.int (Int32.ofNat 2)), (.ref b1037), (.ref b1037)])) rfl (hb hby d3_89) rfl (by decide) (cap := 2) (by decide) (by decide) (by decide) (by decide)
    obtain ⟨b1039, g1039⟩ : ∃ z, z = h1037.size := ⟨_, rfl⟩
    rw [← g1039] at A1039 st1039
    refine GoalH.step (T' := T1039) (g' := (mkF m 91 #[.val (.int (Int32.ofNat 2)), .val (.ref a2)] [(.ref b1039), (.ref b1037), (.ref b1037)])) ?_ st1039
    have sz1040 : h1037.size ≤ h1039.size := E1039.1
    have lt_b1039 : b1039 < h1039.size := A1039.lt
    have V1039 : Arf Z h1039 b1039 k1039 .char 2 (fun _ => 0) := Arf.new A1039 rfl rfl
    refine GoalH.step (T' := T1039) (g' := (mkF m 92 #[.val (.int (Int32.ofNat 2)), .val (.ref a2)] [(.ref b1039), (.ref b1039), (.ref b1037), (.ref b1037)])) ?_ (fun t k => XS.dup X1039.here hx rfl (hb hby d3_91) rfl rfl k)
    refine GoalH.step (T' := T1039) (g' := (mkF m 93 #[.val (.int (Int32.ofNat 2)), .val (.ref a2)] [(.int (Int32.ofNat 0)), (.ref b1039), (.ref b1039), (.ref b1037), (.ref b1037)])) ?_ (fun t k => XS.iconst X1039.here hx rfl (hb hby d3_92) k)
    refine GoalH.step (T' := T1039) (g' := (mkF m 94 #[.val (.int (Int32.ofNat 2)), .val (.ref a2)] [(.ref a2), (.int (Int32.ofNat 0)), (.ref b1039), (.ref b1039), (.ref b1037), (.ref b1037)])) ?_ (fun t k => XS.aloadN X1039.here hx rfl (hb hby d3_93) rfl rfl k)
    refine GoalH.step (T' := T1039) (g' := (mkF m 95 #[.val (.int (Int32.ofNat 2)), .val (.ref a2)] [(.int (Int32.ofNat 0)), (.ref a2), (.int (Int32.ofNat 0)), (.ref b1039), (.ref b1039), (.ref b1037), (.ref b1037)])) ?_ (fun t k => XS.iconst X1039.here hx rfl (hb hby d3_94) k)
    have f1042 : Arf Z h1039 a2 k1 .char 10 f := ((A2.ext E1037).ext E1039)
    obtain ⟨cl1041, Ar1041, q1041, S1041, H1041⟩ := (id f1042)
    have hlt1041 : 0 < 10 := by omega
    have hn1041 : 10 < 2 ^ 31 := by omega
    have hin1041 : ¬ ((Int32.ofNat 0) < 0 ∨ cl1041.slots.size ≤ ((Int32.ofNat 0)).toNatClampNeg) := nat_inb S1041 hlt1041 hn1041
    have hat1041 : cl1041.slots[((Int32.ofNat 0)).toNatClampNeg]? = some (.int (f 0)) := by rw [nat_clamp (show 0 < 2 ^ 31 by omega)]; exact H1041 _ hlt1041
    refine GoalH.step (T' := T1039) (g' := (mkF m 96 #[.val (.int (Int32.ofNat 2)), .val (.ref a2)] [(.int (f 0)), (.int (Int32.ofNat 0)), (.ref b1039), (.ref b1039), (.ref b1037), (.ref b1037)])) ?_ (fun t k => X1039.caload hx (j := (Int32.ofNat 0)) (v := (.int (f 0))) (by rw [e1039]; exact Ar1041.1) (State.isArrayOf_alike hZ.alike Ar1041.2.1) Ar1041.2.2 hin1041 hat1041 (g := (mkF m 95 #[.val (.int (Int32.ofNat 2)), .val (.ref a2)] [(.int (Int32.ofNat 0)), (.ref a2), (.int (Int32.ofNat 0)), (.ref b1039), (.ref b1039), (.ref b1037), (.ref b1037)])) rfl rfl (hb hby d3_95) _ k)
    obtain ⟨cl1043, Ar1043, q1043, S1043, H1043⟩ := (id V1039)
    have hlt1043 : 0 < 2 := by omega
    have hn1043 : 2 < 2 ^ 31 := by omega
    have hin1043 : ¬ ((Int32.ofNat 0) < 0 ∨ cl1043.slots.size ≤ ((Int32.ofNat 0)).toNatClampNeg) := nat_inb S1043 hlt1043 hn1043
    obtain ⟨T1043, h1043, X1043, e1043, W1043, st1043⟩ := stC X1039 hx hZ e1039 Ar1043 (j := (Int32.ofNat 0)) hin1043 (g := (mkF m 96 #[.val (.int (Int32.ofNat 2)), .val (.ref a2)] [(.int (f 0)), (.int (Int32.ofNat 0)), (.ref b1039), (.ref b1039), (.ref b1037), (.ref b1037)])) rfl rfl (hb hby d3_96)
    rw [nat_clamp (show 0 < 2 ^ 31 by omega)] at W1043 X1043
    refine GoalH.step (T' := T1043) (g' := (mkF m 97 #[.val (.int (Int32.ofNat 2)), .val (.ref a2)] [(.ref b1039), (.ref b1037), (.ref b1037)])) ?_ st1043
    have sz1044 : h1039.size ≤ h1043.size := Nat.le_of_eq W1043.size.symm
    have V1043 : Arf Z h1043 b1039 k1039 .char 2 (fun z => if z = 0 then (nar .char (f 0)) else ((fun _ => 0)) z) := Arf.set Ar1043 q1043 S1043 H1043 W1043
    have N1043 := Fr.snoc X1043 N0 (by omega : n0 ≤ b1039)
    refine GoalH.step (T' := T1043) (g' := (mkF m 98 #[.val (.int (Int32.ofNat 2)), .val (.ref a2)] [(.ref b1039), (.ref b1039), (.ref b1037), (.ref b1037)])) ?_ (fun t k => XS.dup X1043.here hx rfl (hb hby d3_97) rfl rfl k)
    refine GoalH.step (T' := T1043) (g' := (mkF m 99 #[.val (.int (Int32.ofNat 2)), .val (.ref a2)] [(.int (Int32.ofNat 1)), (.ref b1039), (.ref b1039), (.ref b1037), (.ref b1037)])) ?_ (fun t k => XS.iconst X1043.here hx rfl (hb hby d3_98) k)
    refine GoalH.step (T' := T1043) (g' := (mkF m 100 #[.val (.int (Int32.ofNat 2)), .val (.ref a2)] [(.ref a2), (.int (Int32.ofNat 1)), (.ref b1039), (.ref b1039), (.ref b1037), (.ref b1037)])) ?_ (fun t k => XS.aloadN X1043.here hx rfl (hb hby d3_99) rfl rfl k)
    refine GoalH.step (T' := T1043) (g' := (mkF m 101 #[.val (.int (Int32.ofNat 2)), .val (.ref a2)] [(.int (Int32.ofNat 1)), (.ref a2), (.int (Int32.ofNat 1)), (.ref b1039), (.ref b1039), (.ref b1037), (.ref b1037)])) ?_ (fun t k => XS.iconst X1043.here hx rfl (hb hby d3_100) k)
    have f1046 : Arf Z h1043 a2 k1 .char 10 f := (f1042.other W1043 (nne (by omega)))
    obtain ⟨cl1045, Ar1045, q1045, S1045, H1045⟩ := (id f1046)
    have hlt1045 : 1 < 10 := by omega
    have hn1045 : 10 < 2 ^ 31 := by omega
    have hin1045 : ¬ ((Int32.ofNat 1) < 0 ∨ cl1045.slots.size ≤ ((Int32.ofNat 1)).toNatClampNeg) := nat_inb S1045 hlt1045 hn1045
    have hat1045 : cl1045.slots[((Int32.ofNat 1)).toNatClampNeg]? = some (.int (f 1)) := by rw [nat_clamp (show 1 < 2 ^ 31 by omega)]; exact H1045 _ hlt1045
    refine GoalH.step (T' := T1043) (g' := (mkF m 102 #[.val (.int (Int32.ofNat 2)), .val (.ref a2)] [(.int (f 1)), (.int (Int32.ofNat 1)), (.ref b1039), (.ref b1039), (.ref b1037), (.ref b1037)])) ?_ (fun t k => X1043.caload hx (j := (Int32.ofNat 1)) (v := (.int (f 1))) (by rw [e1043]; exact Ar1045.1) (State.isArrayOf_alike hZ.alike Ar1045.2.1) Ar1045.2.2 hin1045 hat1045 (g := (mkF m 101 #[.val (.int (Int32.ofNat 2)), .val (.ref a2)] [(.int (Int32.ofNat 1)), (.ref a2), (.int (Int32.ofNat 1)), (.ref b1039), (.ref b1039), (.ref b1037), (.ref b1037)])) rfl rfl (hb hby d3_101) _ k)
    obtain ⟨cl1047, Ar1047, q1047, S1047, H1047⟩ := (id V1043)
    have hlt1047 : 1 < 2 := by omega
    have hn1047 : 2 < 2 ^ 31 := by omega
    have hin1047 : ¬ ((Int32.ofNat 1) < 0 ∨ cl1047.slots.size ≤ ((Int32.ofNat 1)).toNatClampNeg) := nat_inb S1047 hlt1047 hn1047
    obtain ⟨T1047, h1047, X1047, e1047, W1047, st1047⟩ := stC X1043 hx hZ e1043 Ar1047 (j := (Int32.ofNat 1)) hin1047 (g := (mkF m 102 #[.val (.int (Int32.ofNat 2)), .val (.ref a2)] [(.int (f 1)), (.int (Int32.ofNat 1)), (.ref b1039), (.ref b1039), (.ref b1037), (.ref b1037)])) rfl rfl (hb hby d3_102)
    rw [nat_clamp (show 1 < 2 ^ 31 by omega)] at W1047 X1047
    refine GoalH.step (T' := T1047) (g' := (mkF m 103 #[.val (.int (Int32.ofNat 2)), .val (.ref a2)] [(.ref b1039), (.ref b1037), (.ref b1037)])) ?_ st1047
    have sz1048 : h1043.size ≤ h1047.size := Nat.le_of_eq W1047.size.symm
    have V1047 : Arf Z h1047 b1039 k1039 .char 2 (fun z => if z = 1 then (nar .char (f 1)) else ((fun z => if z = 0 then (nar .char (f 0)) else ((fun _ => 0)) z)) z) := Arf.set Ar1047 q1047 S1047 H1047 W1047
    have N1047 := Fr.snoc X1047 N1043 (by omega : n0 ≤ b1039)
    have AC1050 : Arf Z h1047 b1039 k1039 .char 2 f := Arf.congr V1047 (own_st (i := 1) (own_st (i := 0) (fun j hj => absurd hj (Nat.not_lt_zero _)) (hc 0 (by decide))) (hc 1 (by decide)))
    have f1051 : Old Z n0 h1047 := ((((O0.ext E1037).ext E1039).wr W1043 (by omega)).wr W1047 (by omega))
    have f1052 : Exa Z h1047 b1037 "java/lang/String" := (Exa.wr W1047 (Exa.wr W1043 (A1037.ext E1039)))
    have f1053 : Fld Z h1047 b1037 "java/lang/String" "value" "[B" .null := (Fld.other W1047 (Fld.other W1043 ((D1037 (Or.inr (hw _ (List.mem_of_getElem? (i := 28) rfl))) (ty := (.array .byte)) (by decide)).ext E1039) (Or.inl (nne (by omega)))) (Or.inl (nne (by omega))))
    have f1054 : Fld Z h1047 b1037 "java/lang/String" "coder" "B" (.int (0 : Int32)) := (Fld.other W1047 (Fld.other W1043 ((D1037 (Or.inr (hw _ (List.mem_of_getElem? (i := 29) rfl))) (ty := .byte) (by decide)).ext E1039) (Or.inl (nne (by omega)))) (Or.inl (nne (by omega))))
    have kk1055 : Keep h0 h1047 [] := (((((Keep.refl h0 []).ext E1037).ext E1039).wr W1043 (Or.inr (by omega))).wr W1047 (Or.inr (by omega)))
    have CH1056 := CHr.trans CH0 (CHr.keep kk1055 all0 CH0.1)
    have kk1057 : Keep h0 h1047 [] := (((((Keep.refl h0 []).ext E1037).ext E1039).wr W1043 (Or.inr (by omega))).wr W1047 (Or.inr (by omega)))
    have Sf1058 := safeFresh (EL := consts_1) kk1057 CH0.1 (show h0.size ≤ b1037 by omega)
    obtain ⟨v1049, T1049, h1049, L1049, k1049, X1049, e1049, hQ1049, hS, hk1049, hsz1049, C1049, hZ, hown, st1049⟩ := callInitH X1047 hx hZ hown hS (by omega) (own_EW hw) CH1056.1 (allS ⟨show (b1037 : Nat) < h1047.size by omega, Sf1058⟩ all0) rfl (hw _ (List.mem_of_getElem? (i := 16) rfl)) (hw _ (List.mem_of_getElem? (i := 17) rfl)) (hw _ (List.mem_of_getElem? (i := 15) rfl)) (hw _ (List.mem_of_getElem? (i := 18) rfl)) (by decide) (rmI1 l Z a0 hw 2 b1037 b1039 k1039 f .null (.int (0 : Int32)) cs fm h1047 n0 (by omega) SE f1051 f1052 f1053 f1054 (by omega) (fun j hj => hc j (by omega)) AC1050 (by omega) (by omega) (by omega) (by omega)) e1047 (W := 1) (by decide) (by decide) (by decide) (by decide) (g := (mkF m 103 #[.val (.int (Int32.ofNat 2)), .val (.ref a2)] [(.ref b1039), (.ref b1037), (.ref b1037)])) rfl (by rw [hml]; rfl) (a := b1037) (argsL := [(.ref b1039)]) (rest := [(.ref b1037)]) (lenOf pd_18 rfl) rfl (by show 2 * 0 + _ ≤ _; exact Nat.le_of_eq rfl) (hb hby d3_103) rfl
    obtain ⟨rfl, M1049, K1049, Z1049⟩ := hQ1049
    have N1049 := Fr.app N1047 M1049
    refine GoalH.step (T' := T1049) (g' := (mkF m 106 #[.val (.int (Int32.ofNat 2)), .val (.ref a2)] [(.ref b1037)])) ?_ st1049
    have sz1059 : h1047.size ≤ h1049.size := K1049.1
    have CH1049 := CHr.trans CH1056 C1049
    have Sf1049_b1037 := C1049.safe (show (b1037 : Nat) < h1047.size by omega) Sf1058
    refine GoalH.retA X1049 hS (by rw [e1049]; omega) hZ (own_EW hw) (by rw [e1049]; exact CH1049) hx hret rfl rfl rfl (hb hby d3_106) ?_
    have k1060 : Keep h0 h1049 [] := ((((((Keep.refl h0 []).ext E1037).ext E1039).wr W1043 (Or.inr (by omega))).wr W1047 (Or.inr (by omega))).trans K1049 (allS (Or.inr (by omega)) all0))
    refine ⟨?_, by decide, by decide⟩
    rw [e1049]
    exact ⟨b1037, rfl, N1049, extKp (extRefl _) k1060 all0, Z1049⟩
  · refine GoalH.step (T' := s₁) (g' := (mkF m 1 #[.val (.int (Int32.ofNat 3)), .val (.ref a2)] [(.int (Int32.ofNat 3))])) ?_ (fun t k => XS.iloadN X0.here hx rfl (hb hby d3_0) rfl k)
    refine GoalH.step (T' := s₁) (g' := (mkF m 107 #[.val (.int (Int32.ofNat 3)), .val (.ref a2)] [])) ?_ (fun t k => XS.tswIn X0.here hx rfl (o := 106) (pc0 := 1) (pc' := 107) rfl (hb hby d3_1) rfl (by decide) (by decide) (by decide) (by decide) k)
    obtain ⟨T1061, h1061, X1061, e1061, E1061, A1061, D1061, -, st1061⟩ := newO X0 hx hZ hown (hw _ (List.mem_of_getElem? (i := 13) rfl)) (hw _ (List.mem_of_getElem? (i := 14) rfl)) (hw _ (List.mem_of_getElem? (i := 15) rfl)) e0 (g := (mkF m 107 #[.val (.int (Int32.ofNat 3)), .val (.ref a2)] [])) rfl (hb hby d3_107) (by decide) (by decide)
    obtain ⟨b1061, g1061⟩ : ∃ z, z = h0.size := ⟨_, rfl⟩
    rw [← g1061] at A1061 D1061 st1061
    refine GoalH.step (T' := T1061) (g' := (mkF m 110 #[.val (.int (Int32.ofNat 3)), .val (.ref a2)] [(.ref b1061)])) ?_ st1061
    have sz1062 : h0.size ≤ h1061.size := E1061.1
    have lt_b1061 : b1061 < h1061.size := A1061.lt
    refine GoalH.step (T' := T1061) (g' := (mkF m 111 #[.val (.int (Int32.ofNat 3)), .val (.ref a2)] [(.ref b1061), (.ref b1061)])) ?_ (fun t k => XS.dup X1061.here hx rfl (hb hby d3_110) rfl rfl k)
    refine GoalH.step (T' := T1061) (g' := (mkF m 112 #[.val (.int (Int32.ofNat 3)), .val (.ref a2)] [(.int (Int32.ofNat 3)), (.ref b1061), (.ref b1061)])) ?_ (fun t k => XS.iconst X1061.here hx rfl (hb hby d3_111) k)
    obtain ⟨T1063, h1063, k1063, X1063, e1063, E1063, A1063, st1063⟩ := newP X1061 hx hZ (hw _ (List.mem_of_getElem? (i := 1) rfl)) e1061 (g := (mkF m 112 #[.val (.int (Int32.ofNat 3)), .val (.ref a2)] [(.int (Int32.ofNat 3)), (.ref b1061), (.ref b1061)])) rfl (hb hby d3_112) rfl (by decide) (cap := 3) (by decide) (by decide) (by decide) (by decide)
    obtain ⟨b1063, g1063⟩ : ∃ z, z = h1061.size := ⟨_, rfl⟩
    rw [← g1063] at A1063 st1063
    refine GoalH.step (T' := T1063) (g' := (mkF m 114 #[.val (.int (Int32.ofNat 3)), .val (.ref a2)] [(.ref b1063), (.ref b1061), (.ref b1061)])) ?_ st1063
    have sz1064 : h1061.size ≤ h1063.size := E1063.1
    have lt_b1063 : b1063 < h1063.size := A1063.lt
    have V1063 : Arf Z h1063 b1063 k1063 .char 3 (fun _ => 0) := Arf.new A1063 rfl rfl
    refine GoalH.step (T' := T1063) (g' := (mkF m 115 #[.val (.int (Int32.ofNat 3)), .val (.ref a2)] [(.ref b1063), (.ref b1063), (.ref b1061), (.ref b1061)])) ?_ (fun t k => XS.dup X1063.here hx rfl (hb hby d3_114) rfl rfl k)
    refine GoalH.step (T' := T1063) (g' := (mkF m 116 #[.val (.int (Int32.ofNat 3)), .val (.ref a2)] [(.int (Int32.ofNat 0)), (.ref b1063), (.ref b1063), (.ref b1061), (.ref b1061)])) ?_ (fun t k => XS.iconst X1063.here hx rfl (hb hby d3_115) k)
    refine GoalH.step (T' := T1063) (g' := (mkF m 117 #[.val (.int (Int32.ofNat 3)), .val (.ref a2)] [(.ref a2), (.int (Int32.ofNat 0)), (.ref b1063), (.ref b1063), (.ref b1061), (.ref b1061)])) ?_ (fun t k => XS.aloadN X1063.here hx rfl (hb hby d3_116) rfl rfl k)
    refine GoalH.step (T' := T1063) (g' := (mkF m 118 #[.val (.int (Int32.ofNat 3)), .val (.ref a2)] [(.int (Int32.ofNat 0)), (.ref a2), (.int (Int32.ofNat 0)), (.ref b1063), (.ref b1063), (.ref b1061), (.ref b1061)])) ?_ (fun t k => XS.iconst X1063.here hx rfl (hb hby d3_117) k)
    have f1066 : Arf Z h1063 a2 k1 .char 10 f := ((A2.ext E1061).ext E1063)
    obtain ⟨cl1065, Ar1065, q1065, S1065, H1065⟩ := (id f1066)
    have hlt1065 : 0 < 10 := by omega
    have hn1065 : 10 < 2 ^ 31 := by omega
    have hin1065 : ¬ ((Int32.ofNat 0) < 0 ∨ cl1065.slots.size ≤ ((Int32.ofNat 0)).toNatClampNeg) := nat_inb S1065 hlt1065 hn1065
    have hat1065 : cl1065.slots[((Int32.ofNat 0)).toNatClampNeg]? = some (.int (f 0)) := by rw [nat_clamp (show 0 < 2 ^ 31 by omega)]; exact H1065 _ hlt1065
    refine GoalH.step (T' := T1063) (g' := (mkF m 119 #[.val (.int (Int32.ofNat 3)), .val (.ref a2)] [(.int (f 0)), (.int (Int32.ofNat 0)), (.ref b1063), (.ref b1063), (.ref b1061), (.ref b1061)])) ?_ (fun t k => X1063.caload hx (j := (Int32.ofNat 0)) (v := (.int (f 0))) (by rw [e1063]; exact Ar1065.1) (State.isArrayOf_alike hZ.alike Ar1065.2.1) Ar1065.2.2 hin1065 hat1065 (g := (mkF m 118 #[.val (.int (Int32.ofNat 3)), .val (.ref a2)] [(.int (Int32.ofNat 0)), (.ref a2), (.int (Int32.ofNat 0)), (.ref b1063), (.ref b1063), (.ref b1061), (.ref b1061)])) rfl rfl (hb hby d3_118) _ k)
    obtain ⟨cl1067, Ar1067, q1067, S1067, H1067⟩ := (id V1063)
    have hlt1067 : 0 < 3 := by omega
    have hn1067 : 3 < 2 ^ 31 := by omega
    have hin1067 : ¬ ((Int32.ofNat 0) < 0 ∨ cl1067.slots.size ≤ ((Int32.ofNat 0)).toNatClampNeg) := nat_inb S1067 hlt1067 hn1067
    obtain ⟨T1067, h1067, X1067, e1067, W1067, st1067⟩ := stC X1063 hx hZ e1063 Ar1067 (j := (Int32.ofNat 0)) hin1067 (g := (mkF m 119 #[.val (.int (Int32.ofNat 3)), .val (.ref a2)] [(.int (f 0)), (.int (Int32.ofNat 0)), (.ref b1063), (.ref b1063), (.ref b1061), (.ref b1061)])) rfl rfl (hb hby d3_119)
    rw [nat_clamp (show 0 < 2 ^ 31 by omega)] at W1067 X1067
    refine GoalH.step (T' := T1067) (g' := (mkF m 120 #[.val (.int (Int32.ofNat 3)), .val (.ref a2)] [(.ref b1063), (.ref b1061), (.ref b1061)])) ?_ st1067
    have sz1068 : h1063.size ≤ h1067.size := Nat.le_of_eq W1067.size.symm
    have V1067 : Arf Z h1067 b1063 k1063 .char 3 (fun z => if z = 0 then (nar .char (f 0)) else ((fun _ => 0)) z) := Arf.set Ar1067 q1067 S1067 H1067 W1067
    have N1067 := Fr.snoc X1067 N0 (by omega : n0 ≤ b1063)
    refine GoalH.step (T' := T1067) (g' := (mkF m 121 #[.val (.int (Int32.ofNat 3)), .val (.ref a2)] [(.ref b1063), (.ref b1063), (.ref b1061), (.ref b1061)])) ?_ (fun t k => XS.dup X1067.here hx rfl (hb hby d3_120) rfl rfl k)
    refine GoalH.step (T' := T1067) (g' := (mkF m 122 #[.val (.int (Int32.ofNat 3)), .val (.ref a2)] [(.int (Int32.ofNat 1)), (.ref b1063), (.ref b1063), (.ref b1061), (.ref b1061)])) ?_ (fun t k => XS.iconst X1067.here hx rfl (hb hby d3_121) k)
    refine GoalH.step (T' := T1067) (g' := (mkF m 123 #[.val (.int (Int32.ofNat 3)), .val (.ref a2)] [(.ref a2), (.int (Int32.ofNat 1)), (.ref b1063), (.ref b1063), (.ref b1061), (.ref b1061)])) ?_ (fun t k => XS.aloadN X1067.here hx rfl (hb hby d3_122) rfl rfl k)
    refine GoalH.step (T' := T1067) (g' := (mkF m 124 #[.val (.int (Int32.ofNat 3)), .val (.ref a2)] [(.int (Int32.ofNat 1)), (.ref a2), (.int (Int32.ofNat 1)), (.ref b1063), (.ref b1063), (.ref b1061), (.ref b1061)])) ?_ (fun t k => XS.iconst X1067.here hx rfl (hb hby d3_123) k)
    have f1070 : Arf Z h1067 a2 k1 .char 10 f := (f1066.other W1067 (nne (by omega)))
    obtain ⟨cl1069, Ar1069, q1069, S1069, H1069⟩ := (id f1070)
    have hlt1069 : 1 < 10 := by omega
    have hn1069 : 10 < 2 ^ 31 := by omega
    have hin1069 : ¬ ((Int32.ofNat 1) < 0 ∨ cl1069.slots.size ≤ ((Int32.ofNat 1)).toNatClampNeg) := nat_inb S1069 hlt1069 hn1069
    have hat1069 : cl1069.slots[((Int32.ofNat 1)).toNatClampNeg]? = some (.int (f 1)) := by rw [nat_clamp (show 1 < 2 ^ 31 by omega)]; exact H1069 _ hlt1069
    refine GoalH.step (T' := T1067) (g' := (mkF m 125 #[.val (.int (Int32.ofNat 3)), .val (.ref a2)] [(.int (f 1)), (.int (Int32.ofNat 1)), (.ref b1063), (.ref b1063), (.ref b1061), (.ref b1061)])) ?_ (fun t k => X1067.caload hx (j := (Int32.ofNat 1)) (v := (.int (f 1))) (by rw [e1067]; exact Ar1069.1) (State.isArrayOf_alike hZ.alike Ar1069.2.1) Ar1069.2.2 hin1069 hat1069 (g := (mkF m 124 #[.val (.int (Int32.ofNat 3)), .val (.ref a2)] [(.int (Int32.ofNat 1)), (.ref a2), (.int (Int32.ofNat 1)), (.ref b1063), (.ref b1063), (.ref b1061), (.ref b1061)])) rfl rfl (hb hby d3_124) _ k)
    obtain ⟨cl1071, Ar1071, q1071, S1071, H1071⟩ := (id V1067)
    have hlt1071 : 1 < 3 := by omega
    have hn1071 : 3 < 2 ^ 31 := by omega
    have hin1071 : ¬ ((Int32.ofNat 1) < 0 ∨ cl1071.slots.size ≤ ((Int32.ofNat 1)).toNatClampNeg) := nat_inb S1071 hlt1071 hn1071
    obtain ⟨T1071, h1071, X1071, e1071, W1071, st1071⟩ := stC X1067 hx hZ e1067 Ar1071 (j := (Int32.ofNat 1)) hin1071 (g := (mkF m 125 #[.val (.int (Int32.ofNat 3)), .val (.ref a2)] [(.int (f 1)), (.int (Int32.ofNat 1)), (.ref b1063), (.ref b1063), (.ref b1061), (.ref b1061)])) rfl rfl (hb hby d3_125)
    rw [nat_clamp (show 1 < 2 ^ 31 by omega)] at W1071 X1071
    refine GoalH.step (T' := T1071) (g' := (mkF m 126 #[.val (.int (Int32.ofNat 3)), .val (.ref a2)] [(.ref b1063), (.ref b1061), (.ref b1061)])) ?_ st1071
    have sz1072 : h1067.size ≤ h1071.size := Nat.le_of_eq W1071.size.symm
    have V1071 : Arf Z h1071 b1063 k1063 .char 3 (fun z => if z = 1 then (nar .char (f 1)) else ((fun z => if z = 0 then (nar .char (f 0)) else ((fun _ => 0)) z)) z) := Arf.set Ar1071 q1071 S1071 H1071 W1071
    have N1071 := Fr.snoc X1071 N1067 (by omega : n0 ≤ b1063)
    refine GoalH.step (T' := T1071) (g' := (mkF m 127 #[.val (.int (Int32.ofNat 3)), .val (.ref a2)] [(.ref b1063), (.ref b1063), (.ref b1061), (.ref b1061)])) ?_ (fun t k => XS.dup X1071.here hx rfl (hb hby d3_126) rfl rfl k)
    refine GoalH.step (T' := T1071) (g' := (mkF m 128 #[.val (.int (Int32.ofNat 3)), .val (.ref a2)] [(.int (Int32.ofNat 2)), (.ref b1063), (.ref b1063), (.ref b1061), (.ref b1061)])) ?_ (fun t k => XS.iconst X1071.here hx rfl (hb hby d3_127) k)
    refine GoalH.step (T' := T1071) (g' := (mkF m 129 #[.val (.int (Int32.ofNat 3)), .val (.ref a2)] [(.ref a2), (.int (Int32.ofNat 2)), (.ref b1063), (.ref b1063), (.ref b1061), (.ref b1061)])) ?_ (fun t k => XS.aloadN X1071.here hx rfl (hb hby d3_128) rfl rfl k)
    refine GoalH.step (T' := T1071) (g' := (mkF m 130 #[.val (.int (Int32.ofNat 3)), .val (.ref a2)] [(.int (Int32.ofNat 2)), (.ref a2), (.int (Int32.ofNat 2)), (.ref b1063), (.ref b1063), (.ref b1061), (.ref b1061)])) ?_ (fun t k => XS.iconst X1071.here hx rfl (hb hby d3_129) k)
    have f1074 : Arf Z h1071 a2 k1 .char 10 f := (f1070.other W1071 (nne (by omega)))
    obtain ⟨cl1073, Ar1073, q1073, S1073, H1073⟩ := (id f1074)
    have hlt1073 : 2 < 10 := by omega
    have hn1073 : 10 < 2 ^ 31 := by omega
    have hin1073 : ¬ ((Int32.ofNat 2) < 0 ∨ cl1073.slots.size ≤ ((Int32.ofNat 2)).toNatClampNeg) := nat_inb S1073 hlt1073 hn1073
    have hat1073 : cl1073.slots[((Int32.ofNat 2)).toNatClampNeg]? = some (.int (f 2)) := by rw [nat_clamp (show 2 < 2 ^ 31 by omega)]; exact H1073 _ hlt1073
    refine GoalH.step (T' := T1071) (g' := (mkF m 131 #[.val (.int (Int32.ofNat 3)), .val (.ref a2)] [(.int (f 2)), (.int (Int32.ofNat 2)), (.ref b1063), (.ref b1063), (.ref b1061), (.ref b1061)])) ?_ (fun t k => X1071.caload hx (j := (Int32.ofNat 2)) (v := (.int (f 2))) (by rw [e1071]; exact Ar1073.1) (State.isArrayOf_alike hZ.alike Ar1073.2.1) Ar1073.2.2 hin1073 hat1073 (g := (mkF m 130 #[.val (.int (Int32.ofNat 3)), .val (.ref a2)] [(.int (Int32.ofNat 2)), (.ref a2), (.int (Int32.ofNat 2)), (.ref b1063), (.ref b1063), (.ref b1061), (.ref b1061)])) rfl rfl (hb hby d3_130) _ k)
    obtain ⟨cl1075, Ar1075, q1075, S1075, H1075⟩ := (id V1071)
    have hlt1075 : 2 < 3 := by omega
    have hn1075 : 3 < 2 ^ 31 := by omega
    have hin1075 : ¬ ((Int32.ofNat 2) < 0 ∨ cl1075.slots.size ≤ ((Int32.ofNat 2)).toNatClampNeg) := nat_inb S1075 hlt1075 hn1075
    obtain ⟨T1075, h1075, X1075, e1075, W1075, st1075⟩ := stC X1071 hx hZ e1071 Ar1075 (j := (Int32.ofNat 2)) hin1075 (g := (mkF m 131 #[.val (.int (Int32.ofNat 3)), .val (.ref a2)] [(.int (f 2)), (.int (Int32.ofNat 2)), (.ref b1063), (.ref b1063), (.ref b1061), (.ref b1061)])) rfl rfl (hb hby d3_131)
    rw [nat_clamp (show 2 < 2 ^ 31 by omega)] at W1075 X1075
    refine GoalH.step (T' := T1075) (g' := (mkF m 132 #[.val (.int (Int32.ofNat 3)), .val (.ref a2)] [(.ref b1063), (.ref b1061), (.ref b1061)])) ?_ st1075
    have sz1076 : h1071.size ≤ h1075.size := Nat.le_of_eq W1075.size.symm
    have V1075 : Arf Z h1075 b1063 k1063 .char 3 (fun z => if z = 2 then (nar .char (f 2)) else ((fun z => if z = 1 then (nar .char (f 1)) else ((fun z => if z = 0 then (nar .char (f 0)) else ((fun _ => 0)) z)) z)) z) := Arf.set Ar1075 q1075 S1075 H1075 W1075
    have N1075 := Fr.snoc X1075 N1071 (by omega : n0 ≤ b1063)
    have AC1078 : Arf Z h1075 b1063 k1063 .char 3 f := Arf.congr V1075 (own_st (i := 2) (own_st (i := 1) (own_st (i := 0) (fun j hj => absurd hj (Nat.not_lt_zero _)) (hc 0 (by decide))) (hc 1 (by decide))) (hc 2 (by decide)))
    have f1079 : Old Z n0 h1075 := (((((O0.ext E1061).ext E1063).wr W1067 (by omega)).wr W1071 (by omega)).wr W1075 (by omega))
    have f1080 : Exa Z h1075 b1061 "java/lang/String" := (Exa.wr W1075 (Exa.wr W1071 (Exa.wr W1067 (A1061.ext E1063))))
    have f1081 : Fld Z h1075 b1061 "java/lang/String" "value" "[B" .null := (Fld.other W1075 (Fld.other W1071 (Fld.other W1067 ((D1061 (Or.inr (hw _ (List.mem_of_getElem? (i := 28) rfl))) (ty := (.array .byte)) (by decide)).ext E1063) (Or.inl (nne (by omega)))) (Or.inl (nne (by omega)))) (Or.inl (nne (by omega))))
    have f1082 : Fld Z h1075 b1061 "java/lang/String" "coder" "B" (.int (0 : Int32)) := (Fld.other W1075 (Fld.other W1071 (Fld.other W1067 ((D1061 (Or.inr (hw _ (List.mem_of_getElem? (i := 29) rfl))) (ty := .byte) (by decide)).ext E1063) (Or.inl (nne (by omega)))) (Or.inl (nne (by omega)))) (Or.inl (nne (by omega))))
    have kk1083 : Keep h0 h1075 [] := ((((((Keep.refl h0 []).ext E1061).ext E1063).wr W1067 (Or.inr (by omega))).wr W1071 (Or.inr (by omega))).wr W1075 (Or.inr (by omega)))
    have CH1084 := CHr.trans CH0 (CHr.keep kk1083 all0 CH0.1)
    have kk1085 : Keep h0 h1075 [] := ((((((Keep.refl h0 []).ext E1061).ext E1063).wr W1067 (Or.inr (by omega))).wr W1071 (Or.inr (by omega))).wr W1075 (Or.inr (by omega)))
    have Sf1086 := safeFresh (EL := consts_1) kk1085 CH0.1 (show h0.size ≤ b1061 by omega)
    obtain ⟨v1077, T1077, h1077, L1077, k1077, X1077, e1077, hQ1077, hS, hk1077, hsz1077, C1077, hZ, hown, st1077⟩ := callInitH X1075 hx hZ hown hS (by omega) (own_EW hw) CH1084.1 (allS ⟨show (b1061 : Nat) < h1075.size by omega, Sf1086⟩ all0) rfl (hw _ (List.mem_of_getElem? (i := 16) rfl)) (hw _ (List.mem_of_getElem? (i := 17) rfl)) (hw _ (List.mem_of_getElem? (i := 15) rfl)) (hw _ (List.mem_of_getElem? (i := 18) rfl)) (by decide) (rmI1 l Z a0 hw 3 b1061 b1063 k1063 f .null (.int (0 : Int32)) cs fm h1075 n0 (by omega) SE f1079 f1080 f1081 f1082 (by omega) (fun j hj => hc j (by omega)) AC1078 (by omega) (by omega) (by omega) (by omega)) e1075 (W := 1) (by decide) (by decide) (by decide) (by decide) (g := (mkF m 132 #[.val (.int (Int32.ofNat 3)), .val (.ref a2)] [(.ref b1063), (.ref b1061), (.ref b1061)])) rfl (by rw [hml]; rfl) (a := b1061) (argsL := [(.ref b1063)]) (rest := [(.ref b1061)]) (lenOf pd_18 rfl) rfl (by show 2 * 0 + _ ≤ _; exact Nat.le_of_eq rfl) (hb hby d3_132) rfl
    obtain ⟨rfl, M1077, K1077, Z1077⟩ := hQ1077
    have N1077 := Fr.app N1075 M1077
    refine GoalH.step (T' := T1077) (g' := (mkF m 135 #[.val (.int (Int32.ofNat 3)), .val (.ref a2)] [(.ref b1061)])) ?_ st1077
    have sz1087 : h1075.size ≤ h1077.size := K1077.1
    have CH1077 := CHr.trans CH1084 C1077
    have Sf1077_b1061 := C1077.safe (show (b1061 : Nat) < h1075.size by omega) Sf1086
    refine GoalH.retA X1077 hS (by rw [e1077]; omega) hZ (own_EW hw) (by rw [e1077]; exact CH1077) hx hret rfl rfl rfl (hb hby d3_135) ?_
    have k1088 : Keep h0 h1077 [] := (((((((Keep.refl h0 []).ext E1061).ext E1063).wr W1067 (Or.inr (by omega))).wr W1071 (Or.inr (by omega))).wr W1075 (Or.inr (by omega))).trans K1077 (allS (Or.inr (by omega)) all0))
    refine ⟨?_, by decide, by decide⟩
    rw [e1077]
    exact ⟨b1061, rfl, N1077, extKp (extRefl _) k1088 all0, Z1077⟩
  · refine GoalH.step (T' := s₁) (g' := (mkF m 1 #[.val (.int (Int32.ofNat 4)), .val (.ref a2)] [(.int (Int32.ofNat 4))])) ?_ (fun t k => XS.iloadN X0.here hx rfl (hb hby d3_0) rfl k)
    refine GoalH.step (T' := s₁) (g' := (mkF m 136 #[.val (.int (Int32.ofNat 4)), .val (.ref a2)] [])) ?_ (fun t k => XS.tswIn X0.here hx rfl (o := 135) (pc0 := 1) (pc' := 136) rfl (hb hby d3_1) rfl (by decide) (by decide) (by decide) (by decide) k)
    obtain ⟨T1089, h1089, X1089, e1089, E1089, A1089, D1089, -, st1089⟩ := newO X0 hx hZ hown (hw _ (List.mem_of_getElem? (i := 13) rfl)) (hw _ (List.mem_of_getElem? (i := 14) rfl)) (hw _ (List.mem_of_getElem? (i := 15) rfl)) e0 (g := (mkF m 136 #[.val (.int (Int32.ofNat 4)), .val (.ref a2)] [])) rfl (hb hby d3_136) (by decide) (by decide)
    obtain ⟨b1089, g1089⟩ : ∃ z, z = h0.size := ⟨_, rfl⟩
    rw [← g1089] at A1089 D1089 st1089
    refine GoalH.step (T' := T1089) (g' := (mkF m 139 #[.val (.int (Int32.ofNat 4)), .val (.ref a2)] [(.ref b1089)])) ?_ st1089
    have sz1090 : h0.size ≤ h1089.size := E1089.1
    have lt_b1089 : b1089 < h1089.size := A1089.lt
    refine GoalH.step (T' := T1089) (g' := (mkF m 140 #[.val (.int (Int32.ofNat 4)), .val (.ref a2)] [(.ref b1089), (.ref b1089)])) ?_ (fun t k => XS.dup X1089.here hx rfl (hb hby d3_139) rfl rfl k)
    refine GoalH.step (T' := T1089) (g' := (mkF m 141 #[.val (.int (Int32.ofNat 4)), .val (.ref a2)] [(.int (Int32.ofNat 4)), (.ref b1089), (.ref b1089)])) ?_ (fun t k => XS.iconst X1089.here hx rfl (hb hby d3_140) k)
    obtain ⟨T1091, h1091, k1091, X1091, e1091, E1091, A1091, st1091⟩ := newP X1089 hx hZ (hw _ (List.mem_of_getElem? (i := 1) rfl)) e1089 (g := (mkF m 141 #[.val (.int (Int32.ofNat 4)), .val (.ref a2)] [(.int (Int32.ofNat 4)), (.ref b1089), (.ref b1089)])) rfl (hb hby d3_141) rfl (by decide) (cap := 4) (by decide) (by decide) (by decide) (by decide)
    obtain ⟨b1091, g1091⟩ : ∃ z, z = h1089.size := ⟨_, rfl⟩
    rw [← g1091] at A1091 st1091
    refine GoalH.step (T' := T1091) (g' := (mkF m 143 #[.val (.int (Int32.ofNat 4)), .val (.ref a2)] [(.ref b1091), (.ref b1089), (.ref b1089)])) ?_ st1091
    have sz1092 : h1089.size ≤ h1091.size := E1091.1
    have lt_b1091 : b1091 < h1091.size := A1091.lt
    have V1091 : Arf Z h1091 b1091 k1091 .char 4 (fun _ => 0) := Arf.new A1091 rfl rfl
    refine GoalH.step (T' := T1091) (g' := (mkF m 144 #[.val (.int (Int32.ofNat 4)), .val (.ref a2)] [(.ref b1091), (.ref b1091), (.ref b1089), (.ref b1089)])) ?_ (fun t k => XS.dup X1091.here hx rfl (hb hby d3_143) rfl rfl k)
    refine GoalH.step (T' := T1091) (g' := (mkF m 145 #[.val (.int (Int32.ofNat 4)), .val (.ref a2)] [(.int (Int32.ofNat 0)), (.ref b1091), (.ref b1091), (.ref b1089), (.ref b1089)])) ?_ (fun t k => XS.iconst X1091.here hx rfl (hb hby d3_144) k)
    refine GoalH.step (T' := T1091) (g' := (mkF m 146 #[.val (.int (Int32.ofNat 4)), .val (.ref a2)] [(.ref a2), (.int (Int32.ofNat 0)), (.ref b1091), (.ref b1091), (.ref b1089), (.ref b1089)])) ?_ (fun t k => XS.aloadN X1091.here hx rfl (hb hby d3_145) rfl rfl k)
    refine GoalH.step (T' := T1091) (g' := (mkF m 147 #[.val (.int (Int32.ofNat 4)), .val (.ref a2)] [(.int (Int32.ofNat 0)), (.ref a2), (.int (Int32.ofNat 0)), (.ref b1091), (.ref b1091), (.ref b1089), (.ref b1089)])) ?_ (fun t k => XS.iconst X1091.here hx rfl (hb hby d3_146) k)
    have f1094 : Arf Z h1091 a2 k1 .char 10 f := ((A2.ext E1089).ext E1091)
    obtain ⟨cl1093, Ar1093, q1093, S1093, H1093⟩ := (id f1094)
    have hlt1093 : 0 < 10 := by omega
    have hn1093 : 10 < 2 ^ 31 := by omega
    have hin1093 : ¬ ((Int32.ofNat 0) < 0 ∨ cl1093.slots.size ≤ ((Int32.ofNat 0)).toNatClampNeg) := nat_inb S1093 hlt1093 hn1093
    have hat1093 : cl1093.slots[((Int32.ofNat 0)).toNatClampNeg]? = some (.int (f 0)) := by rw [nat_clamp (show 0 < 2 ^ 31 by omega)]; exact H1093 _ hlt1093
    refine GoalH.step (T' := T1091) (g' := (mkF m 148 #[.val (.int (Int32.ofNat 4)), .val (.ref a2)] [(.int (f 0)), (.int (Int32.ofNat 0)), (.ref b1091), (.ref b1091), (.ref b1089), (.ref b1089)])) ?_ (fun t k => X1091.caload hx (j := (Int32.ofNat 0)) (v := (.int (f 0))) (by rw [e1091]; exact Ar1093.1) (State.isArrayOf_alike hZ.alike Ar1093.2.1) Ar1093.2.2 hin1093 hat1093 (g := (mkF m 147 #[.val (.int (Int32.ofNat 4)), .val (.ref a2)] [(.int (Int32.ofNat 0)), (.ref a2), (.int (Int32.ofNat 0)), (.ref b1091), (.ref b1091), (.ref b1089), (.ref b1089)])) rfl rfl (hb hby d3_147) _ k)
    obtain ⟨cl1095, Ar1095, q1095, S1095, H1095⟩ := (id V1091)
    have hlt1095 : 0 < 4 := by omega
    have hn1095 : 4 < 2 ^ 31 := by omega
    have hin1095 : ¬ ((Int32.ofNat 0) < 0 ∨ cl1095.slots.size ≤ ((Int32.ofNat 0)).toNatClampNeg) := nat_inb S1095 hlt1095 hn1095
    obtain ⟨T1095, h1095, X1095, e1095, W1095, st1095⟩ := stC X1091 hx hZ e1091 Ar1095 (j := (Int32.ofNat 0)) hin1095 (g := (mkF m 148 #[.val (.int (Int32.ofNat 4)), .val (.ref a2)] [(.int (f 0)), (.int (Int32.ofNat 0)), (.ref b1091), (.ref b1091), (.ref b1089), (.ref b1089)])) rfl rfl (hb hby d3_148)
    rw [nat_clamp (show 0 < 2 ^ 31 by omega)] at W1095 X1095
    refine GoalH.step (T' := T1095) (g' := (mkF m 149 #[.val (.int (Int32.ofNat 4)), .val (.ref a2)] [(.ref b1091), (.ref b1089), (.ref b1089)])) ?_ st1095
    have sz1096 : h1091.size ≤ h1095.size := Nat.le_of_eq W1095.size.symm
    have V1095 : Arf Z h1095 b1091 k1091 .char 4 (fun z => if z = 0 then (nar .char (f 0)) else ((fun _ => 0)) z) := Arf.set Ar1095 q1095 S1095 H1095 W1095
    have N1095 := Fr.snoc X1095 N0 (by omega : n0 ≤ b1091)
    refine GoalH.step (T' := T1095) (g' := (mkF m 150 #[.val (.int (Int32.ofNat 4)), .val (.ref a2)] [(.ref b1091), (.ref b1091), (.ref b1089), (.ref b1089)])) ?_ (fun t k => XS.dup X1095.here hx rfl (hb hby d3_149) rfl rfl k)
    refine GoalH.step (T' := T1095) (g' := (mkF m 151 #[.val (.int (Int32.ofNat 4)), .val (.ref a2)] [(.int (Int32.ofNat 1)), (.ref b1091), (.ref b1091), (.ref b1089), (.ref b1089)])) ?_ (fun t k => XS.iconst X1095.here hx rfl (hb hby d3_150) k)
    refine GoalH.step (T' := T1095) (g' := (mkF m 152 #[.val (.int (Int32.ofNat 4)), .val (.ref a2)] [(.ref a2), (.int (Int32.ofNat 1)), (.ref b1091), (.ref b1091), (.ref b1089), (.ref b1089)])) ?_ (fun t k => XS.aloadN X1095.here hx rfl (hb hby d3_151) rfl rfl k)
    refine GoalH.step (T' := T1095) (g' := (mkF m 153 #[.val (.int (Int32.ofNat 4)), .val (.ref a2)] [(.int (Int32.ofNat 1)), (.ref a2), (.int (Int32.ofNat 1)), (.ref b1091), (.ref b1091), (.ref b1089), (.ref b1089)])) ?_ (fun t k => XS.iconst X1095.here hx rfl (hb hby d3_152) k)
    have f1098 : Arf Z h1095 a2 k1 .char 10 f := (f1094.other W1095 (nne (by omega)))
    obtain ⟨cl1097, Ar1097, q1097, S1097, H1097⟩ := (id f1098)
    have hlt1097 : 1 < 10 := by omega
    have hn1097 : 10 < 2 ^ 31 := by omega
    have hin1097 : ¬ ((Int32.ofNat 1) < 0 ∨ cl1097.slots.size ≤ ((Int32.ofNat 1)).toNatClampNeg) := nat_inb S1097 hlt1097 hn1097
    have hat1097 : cl1097.slots[((Int32.ofNat 1)).toNatClampNeg]? = some (.int (f 1)) := by rw [nat_clamp (show 1 < 2 ^ 31 by omega)]; exact H1097 _ hlt1097
    refine GoalH.step (T' := T1095) (g' := (mkF m 154 #[.val (.int (Int32.ofNat 4)), .val (.ref a2)] [(.int (f 1)), (.int (Int32.ofNat 1)), (.ref b1091), (.ref b1091), (.ref b1089), (.ref b1089)])) ?_ (fun t k => X1095.caload hx (j := (Int32.ofNat 1)) (v := (.int (f 1))) (by rw [e1095]; exact Ar1097.1) (State.isArrayOf_alike hZ.alike Ar1097.2.1) Ar1097.2.2 hin1097 hat1097 (g := (mkF m 153 #[.val (.int (Int32.ofNat 4)), .val (.ref a2)] [(.int (Int32.ofNat 1)), (.ref a2), (.int (Int32.ofNat 1)), (.ref b1091), (.ref b1091), (.ref b1089), (.ref b1089)])) rfl rfl (hb hby d3_153) _ k)
    obtain ⟨cl1099, Ar1099, q1099, S1099, H1099⟩ := (id V1095)
    have hlt1099 : 1 < 4 := by omega
    have hn1099 : 4 < 2 ^ 31 := by omega
    have hin1099 : ¬ ((Int32.ofNat 1) < 0 ∨ cl1099.slots.size ≤ ((Int32.ofNat 1)).toNatClampNeg) := nat_inb S1099 hlt1099 hn1099
    obtain ⟨T1099, h1099, X1099, e1099, W1099, st1099⟩ := stC X1095 hx hZ e1095 Ar1099 (j := (Int32.ofNat 1)) hin1099 (g := (mkF m 154 #[.val (.int (Int32.ofNat 4)), .val (.ref a2)] [(.int (f 1)), (.int (Int32.ofNat 1)), (.ref b1091), (.ref b1091), (.ref b1089), (.ref b1089)])) rfl rfl (hb hby d3_154)
    rw [nat_clamp (show 1 < 2 ^ 31 by omega)] at W1099 X1099
    refine GoalH.step (T' := T1099) (g' := (mkF m 155 #[.val (.int (Int32.ofNat 4)), .val (.ref a2)] [(.ref b1091), (.ref b1089), (.ref b1089)])) ?_ st1099
    have sz1100 : h1095.size ≤ h1099.size := Nat.le_of_eq W1099.size.symm
    have V1099 : Arf Z h1099 b1091 k1091 .char 4 (fun z => if z = 1 then (nar .char (f 1)) else ((fun z => if z = 0 then (nar .char (f 0)) else ((fun _ => 0)) z)) z) := Arf.set Ar1099 q1099 S1099 H1099 W1099
    have N1099 := Fr.snoc X1099 N1095 (by omega : n0 ≤ b1091)
    refine GoalH.step (T' := T1099) (g' := (mkF m 156 #[.val (.int (Int32.ofNat 4)), .val (.ref a2)] [(.ref b1091), (.ref b1091), (.ref b1089), (.ref b1089)])) ?_ (fun t k => XS.dup X1099.here hx rfl (hb hby d3_155) rfl rfl k)
    refine GoalH.step (T' := T1099) (g' := (mkF m 157 #[.val (.int (Int32.ofNat 4)), .val (.ref a2)] [(.int (Int32.ofNat 2)), (.ref b1091), (.ref b1091), (.ref b1089), (.ref b1089)])) ?_ (fun t k => XS.iconst X1099.here hx rfl (hb hby d3_156) k)
    refine GoalH.step (T' := T1099) (g' := (mkF m 158 #[.val (.int (Int32.ofNat 4)), .val (.ref a2)] [(.ref a2), (.int (Int32.ofNat 2)), (.ref b1091), (.ref b1091), (.ref b1089), (.ref b1089)])) ?_ (fun t k => XS.aloadN X1099.here hx rfl (hb hby d3_157) rfl rfl k)
    refine GoalH.step (T' := T1099) (g' := (mkF m 159 #[.val (.int (Int32.ofNat 4)), .val (.ref a2)] [(.int (Int32.ofNat 2)), (.ref a2), (.int (Int32.ofNat 2)), (.ref b1091), (.ref b1091), (.ref b1089), (.ref b1089)])) ?_ (fun t k => XS.iconst X1099.here hx rfl (hb hby d3_158) k)
    have f1102 : Arf Z h1099 a2 k1 .char 10 f := (f1098.other W1099 (nne (by omega)))
    obtain ⟨cl1101, Ar1101, q1101, S1101, H1101⟩ := (id f1102)
    have hlt1101 : 2 < 10 := by omega
    have hn1101 : 10 < 2 ^ 31 := by omega
    have hin1101 : ¬ ((Int32.ofNat 2) < 0 ∨ cl1101.slots.size ≤ ((Int32.ofNat 2)).toNatClampNeg) := nat_inb S1101 hlt1101 hn1101
    have hat1101 : cl1101.slots[((Int32.ofNat 2)).toNatClampNeg]? = some (.int (f 2)) := by rw [nat_clamp (show 2 < 2 ^ 31 by omega)]; exact H1101 _ hlt1101
    refine GoalH.step (T' := T1099) (g' := (mkF m 160 #[.val (.int (Int32.ofNat 4)), .val (.ref a2)] [(.int (f 2)), (.int (Int32.ofNat 2)), (.ref b1091), (.ref b1091), (.ref b1089), (.ref b1089)])) ?_ (fun t k => X1099.caload hx (j := (Int32.ofNat 2)) (v := (.int (f 2))) (by rw [e1099]; exact Ar1101.1) (State.isArrayOf_alike hZ.alike Ar1101.2.1) Ar1101.2.2 hin1101 hat1101 (g := (mkF m 159 #[.val (.int (Int32.ofNat 4)), .val (.ref a2)] [(.int (Int32.ofNat 2)), (.ref a2), (.int (Int32.ofNat 2)), (.ref b1091), (.ref b1091), (.ref b1089), (.ref b1089)])) rfl rfl (hb hby d3_159) _ k)
    obtain ⟨cl1103, Ar1103, q1103, S1103, H1103⟩ := (id V1099)
    have hlt1103 : 2 < 4 := by omega
    have hn1103 : 4 < 2 ^ 31 := by omega
    have hin1103 : ¬ ((Int32.ofNat 2) < 0 ∨ cl1103.slots.size ≤ ((Int32.ofNat 2)).toNatClampNeg) := nat_inb S1103 hlt1103 hn1103
    obtain ⟨T1103, h1103, X1103, e1103, W1103, st1103⟩ := stC X1099 hx hZ e1099 Ar1103 (j := (Int32.ofNat 2)) hin1103 (g := (mkF m 160 #[.val (.int (Int32.ofNat 4)), .val (.ref a2)] [(.int (f 2)), (.int (Int32.ofNat 2)), (.ref b1091), (.ref b1091), (.ref b1089), (.ref b1089)])) rfl rfl (hb hby d3_160)
    rw [nat_clamp (show 2 < 2 ^ 31 by omega)] at W1103 X1103
    refine GoalH.step (T' := T1103) (g' := (mkF m 161 #[.val (.int (Int32.ofNat 4)), .val (.ref a2)] [(.ref b1091), (.ref b1089), (.ref b1089)])) ?_ st1103
    have sz1104 : h1099.size ≤ h1103.size := Nat.le_of_eq W1103.size.symm
    have V1103 : Arf Z h1103 b1091 k1091 .char 4 (fun z => if z = 2 then (nar .char (f 2)) else ((fun z => if z = 1 then (nar .char (f 1)) else ((fun z => if z = 0 then (nar .char (f 0)) else ((fun _ => 0)) z)) z)) z) := Arf.set Ar1103 q1103 S1103 H1103 W1103
    have N1103 := Fr.snoc X1103 N1099 (by omega : n0 ≤ b1091)
    refine GoalH.step (T' := T1103) (g' := (mkF m 162 #[.val (.int (Int32.ofNat 4)), .val (.ref a2)] [(.ref b1091), (.ref b1091), (.ref b1089), (.ref b1089)])) ?_ (fun t k => XS.dup X1103.here hx rfl (hb hby d3_161) rfl rfl k)
    refine GoalH.step (T' := T1103) (g' := (mkF m 163 #[.val (.int (Int32.ofNat 4)), .val (.ref a2)] [(.int (Int32.ofNat 3)), (.ref b1091), (.ref b1091), (.ref b1089), (.ref b1089)])) ?_ (fun t k => XS.iconst X1103.here hx rfl (hb hby d3_162) k)
    refine GoalH.step (T' := T1103) (g' := (mkF m 164 #[.val (.int (Int32.ofNat 4)), .val (.ref a2)] [(.ref a2), (.int (Int32.ofNat 3)), (.ref b1091), (.ref b1091), (.ref b1089), (.ref b1089)])) ?_ (fun t k => XS.aloadN X1103.here hx rfl (hb hby d3_163) rfl rfl k)
    refine GoalH.step (T' := T1103) (g' := (mkF m 165 #[.val (.int (Int32.ofNat 4)), .val (.ref a2)] [(.int (Int32.ofNat 3)), (.ref a2), (.int (Int32.ofNat 3)), (.ref b1091), (.ref b1091), (.ref b1089), (.ref b1089)])) ?_ (fun t k => XS.iconst X1103.here hx rfl (hb hby d3_164) k)
    have f1106 : Arf Z h1103 a2 k1 .char 10 f := (f1102.other W1103 (nne (by omega)))
    obtain ⟨cl1105, Ar1105, q1105, S1105, H1105⟩ := (id f1106)
    have hlt1105 : 3 < 10 := by omega
    have hn1105 : 10 < 2 ^ 31 := by omega
    have hin1105 : ¬ ((Int32.ofNat 3) < 0 ∨ cl1105.slots.size ≤ ((Int32.ofNat 3)).toNatClampNeg) := nat_inb S1105 hlt1105 hn1105
    have hat1105 : cl1105.slots[((Int32.ofNat 3)).toNatClampNeg]? = some (.int (f 3)) := by rw [nat_clamp (show 3 < 2 ^ 31 by omega)]; exact H1105 _ hlt1105
    refine GoalH.step (T' := T1103) (g' := (mkF m 166 #[.val (.int (Int32.ofNat 4)), .val (.ref a2)] [(.int (f 3)), (.int (Int32.ofNat 3)), (.ref b1091), (.ref b1091), (.ref b1089), (.ref b1089)])) ?_ (fun t k => X1103.caload hx (j := (Int32.ofNat 3)) (v := (.int (f 3))) (by rw [e1103]; exact Ar1105.1) (State.isArrayOf_alike hZ.alike Ar1105.2.1) Ar1105.2.2 hin1105 hat1105 (g := (mkF m 165 #[.val (.int (Int32.ofNat 4)), .val (.ref a2)] [(.int (Int32.ofNat 3)), (.ref a2), (.int (Int32.ofNat 3)), (.ref b1091), (.ref b1091), (.ref b1089), (.ref b1089)])) rfl rfl (hb hby d3_165) _ k)
    obtain ⟨cl1107, Ar1107, q1107, S1107, H1107⟩ := (id V1103)
    have hlt1107 : 3 < 4 := by omega
    have hn1107 : 4 < 2 ^ 31 := by omega
    have hin1107 : ¬ ((Int32.ofNat 3) < 0 ∨ cl1107.slots.size ≤ ((Int32.ofNat 3)).toNatClampNeg) := nat_inb S1107 hlt1107 hn1107
    obtain ⟨T1107, h1107, X1107, e1107, W1107, st1107⟩ := stC X1103 hx hZ e1103 Ar1107 (j := (Int32.ofNat 3)) hin1107 (g := (mkF m 166 #[.val (.int (Int32.ofNat 4)), .val (.ref a2)] [(.int (f 3)), (.int (Int32.ofNat 3)), (.ref b1091), (.ref b1091), (.ref b1089), (.ref b1089)])) rfl rfl (hb hby d3_166)
    rw [nat_clamp (show 3 < 2 ^ 31 by omega)] at W1107 X1107
    refine GoalH.step (T' := T1107) (g' := (mkF m 167 #[.val (.int (Int32.ofNat 4)), .val (.ref a2)] [(.ref b1091), (.ref b1089), (.ref b1089)])) ?_ st1107
    have sz1108 : h1103.size ≤ h1107.size := Nat.le_of_eq W1107.size.symm
    have V1107 : Arf Z h1107 b1091 k1091 .char 4 (fun z => if z = 3 then (nar .char (f 3)) else ((fun z => if z = 2 then (nar .char (f 2)) else ((fun z => if z = 1 then (nar .char (f 1)) else ((fun z => if z = 0 then (nar .char (f 0)) else ((fun _ => 0)) z)) z)) z)) z) := Arf.set Ar1107 q1107 S1107 H1107 W1107
    have N1107 := Fr.snoc X1107 N1103 (by omega : n0 ≤ b1091)
    have AC1110 : Arf Z h1107 b1091 k1091 .char 4 f := Arf.congr V1107 (own_st (i := 3) (own_st (i := 2) (own_st (i := 1) (own_st (i := 0) (fun j hj => absurd hj (Nat.not_lt_zero _)) (hc 0 (by decide))) (hc 1 (by decide))) (hc 2 (by decide))) (hc 3 (by decide)))
    have f1111 : Old Z n0 h1107 := ((((((O0.ext E1089).ext E1091).wr W1095 (by omega)).wr W1099 (by omega)).wr W1103 (by omega)).wr W1107 (by omega))
    have f1112 : Exa Z h1107 b1089 "java/lang/String" := (Exa.wr W1107 (Exa.wr W1103 (Exa.wr W1099 (Exa.wr W1095 (A1089.ext E1091)))))
    have f1113 : Fld Z h1107 b1089 "java/lang/String" "value" "[B" .null := (Fld.other W1107 (Fld.other W1103 (Fld.other W1099 (Fld.other W1095 ((D1089 (Or.inr (hw _ (List.mem_of_getElem? (i := 28) rfl))) (ty := (.array .byte)) (by decide)).ext E1091) (Or.inl (nne (by omega)))) (Or.inl (nne (by omega)))) (Or.inl (nne (by omega)))) (Or.inl (nne (by omega))))
    have f1114 : Fld Z h1107 b1089 "java/lang/String" "coder" "B" (.int (0 : Int32)) := (Fld.other W1107 (Fld.other W1103 (Fld.other W1099 (Fld.other W1095 ((D1089 (Or.inr (hw _ (List.mem_of_getElem? (i := 29) rfl))) (ty := .byte) (by decide)).ext E1091) (Or.inl (nne (by omega)))) (Or.inl (nne (by omega)))) (Or.inl (nne (by omega)))) (Or.inl (nne (by omega))))
    have kk1115 : Keep h0 h1107 [] := (((((((Keep.refl h0 []).ext E1089).ext E1091).wr W1095 (Or.inr (by omega))).wr W1099 (Or.inr (by omega))).wr W1103 (Or.inr (by omega))).wr W1107 (Or.inr (by omega)))
    have CH1116 := CHr.trans CH0 (CHr.keep kk1115 all0 CH0.1)
    have kk1117 : Keep h0 h1107 [] := (((((((Keep.refl h0 []).ext E1089).ext E1091).wr W1095 (Or.inr (by omega))).wr W1099 (Or.inr (by omega))).wr W1103 (Or.inr (by omega))).wr W1107 (Or.inr (by omega)))
    have Sf1118 := safeFresh (EL := consts_1) kk1117 CH0.1 (show h0.size ≤ b1089 by omega)
    obtain ⟨v1109, T1109, h1109, L1109, k1109, X1109, e1109, hQ1109, hS, hk1109, hsz1109, C1109, hZ, hown, st1109⟩ := callInitH X1107 hx hZ hown hS (by omega) (own_EW hw) CH1116.1 (allS ⟨show (b1089 : Nat) < h1107.size by omega, Sf1118⟩ all0) rfl (hw _ (List.mem_of_getElem? (i := 16) rfl)) (hw _ (List.mem_of_getElem? (i := 17) rfl)) (hw _ (List.mem_of_getElem? (i := 15) rfl)) (hw _ (List.mem_of_getElem? (i := 18) rfl)) (by decide) (rmI1 l Z a0 hw 4 b1089 b1091 k1091 f .null (.int (0 : Int32)) cs fm h1107 n0 (by omega) SE f1111 f1112 f1113 f1114 (by omega) (fun j hj => hc j (by omega)) AC1110 (by omega) (by omega) (by omega) (by omega)) e1107 (W := 1) (by decide) (by decide) (by decide) (by decide) (g := (mkF m 167 #[.val (.int (Int32.ofNat 4)), .val (.ref a2)] [(.ref b1091), (.ref b1089), (.ref b1089)])) rfl (by rw [hml]; rfl) (a := b1089) (argsL := [(.ref b1091)]) (rest := [(.ref b1089)]) (lenOf pd_18 rfl) rfl (by show 2 * 0 + _ ≤ _; exact Nat.le_of_eq rfl) (hb hby d3_167) rfl
    obtain ⟨rfl, M1109, K1109, Z1109⟩ := hQ1109
    have N1109 := Fr.app N1107 M1109
    refine GoalH.step (T' := T1109) (g' := (mkF m 170 #[.val (.int (Int32.ofNat 4)), .val (.ref a2)] [(.ref b1089)])) ?_ st1109
    have sz1119 : h1107.size ≤ h1109.size := K1109.1
    have CH1109 := CHr.trans CH1116 C1109
    have Sf1109_b1089 := C1109.safe (show (b1089 : Nat) < h1107.size by omega) Sf1118
    refine GoalH.retA X1109 hS (by rw [e1109]; omega) hZ (own_EW hw) (by rw [e1109]; exact CH1109) hx hret rfl rfl rfl (hb hby d3_170) ?_
    have k1120 : Keep h0 h1109 [] := ((((((((Keep.refl h0 []).ext E1089).ext E1091).wr W1095 (Or.inr (by omega))).wr W1099 (Or.inr (by omega))).wr W1103 (Or.inr (by omega))).wr W1107 (Or.inr (by omega))).trans K1109 (allS (Or.inr (by omega)) all0))
    refine ⟨?_, by decide, by decide⟩
    rw [e1109]
    exact ⟨b1089, rfl, N1109, extKp (extRefl _) k1120 all0, Z1109⟩
  · refine GoalH.step (T' := s₁) (g' := (mkF m 1 #[.val (.int (Int32.ofNat 5)), .val (.ref a2)] [(.int (Int32.ofNat 5))])) ?_ (fun t k => XS.iloadN X0.here hx rfl (hb hby d3_0) rfl k)
    refine GoalH.step (T' := s₁) (g' := (mkF m 171 #[.val (.int (Int32.ofNat 5)), .val (.ref a2)] [])) ?_ (fun t k => XS.tswIn X0.here hx rfl (o := 170) (pc0 := 1) (pc' := 171) rfl (hb hby d3_1) rfl (by decide) (by decide) (by decide) (by decide) k)
    obtain ⟨T1121, h1121, X1121, e1121, E1121, A1121, D1121, -, st1121⟩ := newO X0 hx hZ hown (hw _ (List.mem_of_getElem? (i := 13) rfl)) (hw _ (List.mem_of_getElem? (i := 14) rfl)) (hw _ (List.mem_of_getElem? (i := 15) rfl)) e0 (g := (mkF m 171 #[.val (.int (Int32.ofNat 5)), .val (.ref a2)] [])) rfl (hb hby d3_171) (by decide) (by decide)
    obtain ⟨b1121, g1121⟩ : ∃ z, z = h0.size := ⟨_, rfl⟩
    rw [← g1121] at A1121 D1121 st1121
    refine GoalH.step (T' := T1121) (g' := (mkF m 174 #[.val (.int (Int32.ofNat 5)), .val (.ref a2)] [(.ref b1121)])) ?_ st1121
    have sz1122 : h0.size ≤ h1121.size := E1121.1
    have lt_b1121 : b1121 < h1121.size := A1121.lt
    refine GoalH.step (T' := T1121) (g' := (mkF m 175 #[.val (.int (Int32.ofNat 5)), .val (.ref a2)] [(.ref b1121), (.ref b1121)])) ?_ (fun t k => XS.dup X1121.here hx rfl (hb hby d3_174) rfl rfl k)
    refine GoalH.step (T' := T1121) (g' := (mkF m 176 #[.val (.int (Int32.ofNat 5)), .val (.ref a2)] [(.int (Int32.ofNat 5)), (.ref b1121), (.ref b1121)])) ?_ (fun t k => XS.iconst X1121.here hx rfl (hb hby d3_175) k)
    obtain ⟨T1123, h1123, k1123, X1123, e1123, E1123, A1123, st1123⟩ := newP X1121 hx hZ (hw _ (List.mem_of_getElem? (i := 1) rfl)) e1121 (g := (mkF m 176 #[.val (.int (Int32.ofNat 5)), .val (.ref a2)] [(.int (Int32.ofNat 5)), (.ref b1121), (.ref b1121)])) rfl (hb hby d3_176) rfl (by decide) (cap := 5) (by decide) (by decide) (by decide) (by decide)
    obtain ⟨b1123, g1123⟩ : ∃ z, z = h1121.size := ⟨_, rfl⟩
    rw [← g1123] at A1123 st1123
    refine GoalH.step (T' := T1123) (g' := (mkF m 178 #[.val (.int (Int32.ofNat 5)), .val (.ref a2)] [(.ref b1123), (.ref b1121), (.ref b1121)])) ?_ st1123
    have sz1124 : h1121.size ≤ h1123.size := E1123.1
    have lt_b1123 : b1123 < h1123.size := A1123.lt
    have V1123 : Arf Z h1123 b1123 k1123 .char 5 (fun _ => 0) := Arf.new A1123 rfl rfl
    refine GoalH.step (T' := T1123) (g' := (mkF m 179 #[.val (.int (Int32.ofNat 5)), .val (.ref a2)] [(.ref b1123), (.ref b1123), (.ref b1121), (.ref b1121)])) ?_ (fun t k => XS.dup X1123.here hx rfl (hb hby d3_178) rfl rfl k)
    refine GoalH.step (T' := T1123) (g' := (mkF m 180 #[.val (.int (Int32.ofNat 5)), .val (.ref a2)] [(.int (Int32.ofNat 0)), (.ref b1123), (.ref b1123), (.ref b1121), (.ref b1121)])) ?_ (fun t k => XS.iconst X1123.here hx rfl (hb hby d3_179) k)
    refine GoalH.step (T' := T1123) (g' := (mkF m 181 #[.val (.int (Int32.ofNat 5)), .val (.ref a2)] [(.ref a2), (.int (Int32.ofNat 0)), (.ref b1123), (.ref b1123), (.ref b1121), (.ref b1121)])) ?_ (fun t k => XS.aloadN X1123.here hx rfl (hb hby d3_180) rfl rfl k)
    refine GoalH.step (T' := T1123) (g' := (mkF m 182 #[.val (.int (Int32.ofNat 5)), .val (.ref a2)] [(.int (Int32.ofNat 0)), (.ref a2), (.int (Int32.ofNat 0)), (.ref b1123), (.ref b1123), (.ref b1121), (.ref b1121)])) ?_ (fun t k => XS.iconst X1123.here hx rfl (hb hby d3_181) k)
    have f1126 : Arf Z h1123 a2 k1 .char 10 f := ((A2.ext E1121).ext E1123)
    obtain ⟨cl1125, Ar1125, q1125, S1125, H1125⟩ := (id f1126)
    have hlt1125 : 0 < 10 := by omega
    have hn1125 : 10 < 2 ^ 31 := by omega
    have hin1125 : ¬ ((Int32.ofNat 0) < 0 ∨ cl1125.slots.size ≤ ((Int32.ofNat 0)).toNatClampNeg) := nat_inb S1125 hlt1125 hn1125
    have hat1125 : cl1125.slots[((Int32.ofNat 0)).toNatClampNeg]? = some (.int (f 0)) := by rw [nat_clamp (show 0 < 2 ^ 31 by omega)]; exact H1125 _ hlt1125
    refine GoalH.step (T' := T1123) (g' := (mkF m 183 #[.val (.int (Int32.ofNat 5)), .val (.ref a2)] [(.int (f 0)), (.int (Int32.ofNat 0)), (.ref b1123), (.ref b1123), (.ref b1121), (.ref b1121)])) ?_ (fun t k => X1123.caload hx (j := (Int32.ofNat 0)) (v := (.int (f 0))) (by rw [e1123]; exact Ar1125.1) (State.isArrayOf_alike hZ.alike Ar1125.2.1) Ar1125.2.2 hin1125 hat1125 (g := (mkF m 182 #[.val (.int (Int32.ofNat 5)), .val (.ref a2)] [(.int (Int32.ofNat 0)), (.ref a2), (.int (Int32.ofNat 0)), (.ref b1123), (.ref b1123), (.ref b1121), (.ref b1121)])) rfl rfl (hb hby d3_182) _ k)
    obtain ⟨cl1127, Ar1127, q1127, S1127, H1127⟩ := (id V1123)
    have hlt1127 : 0 < 5 := by omega
    have hn1127 : 5 < 2 ^ 31 := by omega
    have hin1127 : ¬ ((Int32.ofNat 0) < 0 ∨ cl1127.slots.size ≤ ((Int32.ofNat 0)).toNatClampNeg) := nat_inb S1127 hlt1127 hn1127
    obtain ⟨T1127, h1127, X1127, e1127, W1127, st1127⟩ := stC X1123 hx hZ e1123 Ar1127 (j := (Int32.ofNat 0)) hin1127 (g := (mkF m 183 #[.val (.int (Int32.ofNat 5)), .val (.ref a2)] [(.int (f 0)), (.int (Int32.ofNat 0)), (.ref b1123), (.ref b1123), (.ref b1121), (.ref b1121)])) rfl rfl (hb hby d3_183)
    rw [nat_clamp (show 0 < 2 ^ 31 by omega)] at W1127 X1127
    refine GoalH.step (T' := T1127) (g' := (mkF m 184 #[.val (.int (Int32.ofNat 5)), .val (.ref a2)] [(.ref b1123), (.ref b1121), (.ref b1121)])) ?_ st1127
    have sz1128 : h1123.size ≤ h1127.size := Nat.le_of_eq W1127.size.symm
    have V1127 : Arf Z h1127 b1123 k1123 .char 5 (fun z => if z = 0 then (nar .char (f 0)) else ((fun _ => 0)) z) := Arf.set Ar1127 q1127 S1127 H1127 W1127
    have N1127 := Fr.snoc X1127 N0 (by omega : n0 ≤ b1123)
    refine GoalH.step (T' := T1127) (g' := (mkF m 185 #[.val (.int (Int32.ofNat 5)), .val (.ref a2)] [(.ref b1123), (.ref b1123), (.ref b1121), (.ref b1121)])) ?_ (fun t k => XS.dup X1127.here hx rfl (hb hby d3_184) rfl rfl k)
    refine GoalH.step (T' := T1127) (g' := (mkF m 186 #[.val (.int (Int32.ofNat 5)), .val (.ref a2)] [(.int (Int32.ofNat 1)), (.ref b1123), (.ref b1123), (.ref b1121), (.ref b1121)])) ?_ (fun t k => XS.iconst X1127.here hx rfl (hb hby d3_185) k)
    refine GoalH.step (T' := T1127) (g' := (mkF m 187 #[.val (.int (Int32.ofNat 5)), .val (.ref a2)] [(.ref a2), (.int (Int32.ofNat 1)), (.ref b1123), (.ref b1123), (.ref b1121), (.ref b1121)])) ?_ (fun t k => XS.aloadN X1127.here hx rfl (hb hby d3_186) rfl rfl k)
    refine GoalH.step (T' := T1127) (g' := (mkF m 188 #[.val (.int (Int32.ofNat 5)), .val (.ref a2)] [(.int (Int32.ofNat 1)), (.ref a2), (.int (Int32.ofNat 1)), (.ref b1123), (.ref b1123), (.ref b1121), (.ref b1121)])) ?_ (fun t k => XS.iconst X1127.here hx rfl (hb hby d3_187) k)
    have f1130 : Arf Z h1127 a2 k1 .char 10 f := (f1126.other W1127 (nne (by omega)))
    obtain ⟨cl1129, Ar1129, q1129, S1129, H1129⟩ := (id f1130)
    have hlt1129 : 1 < 10 := by omega
    have hn1129 : 10 < 2 ^ 31 := by omega
    have hin1129 : ¬ ((Int32.ofNat 1) < 0 ∨ cl1129.slots.size ≤ ((Int32.ofNat 1)).toNatClampNeg) := nat_inb S1129 hlt1129 hn1129
    have hat1129 : cl1129.slots[((Int32.ofNat 1)).toNatClampNeg]? = some (.int (f 1)) := by rw [nat_clamp (show 1 < 2 ^ 31 by omega)]; exact H1129 _ hlt1129
    refine GoalH.step (T' := T1127) (g' := (mkF m 189 #[.val (.int (Int32.ofNat 5)), .val (.ref a2)] [(.int (f 1)), (.int (Int32.ofNat 1)), (.ref b1123), (.ref b1123), (.ref b1121), (.ref b1121)])) ?_ (fun t k => X1127.caload hx (j := (Int32.ofNat 1)) (v := (.int (f 1))) (by rw [e1127]; exact Ar1129.1) (State.isArrayOf_alike hZ.alike Ar1129.2.1) Ar1129.2.2 hin1129 hat1129 (g := (mkF m 188 #[.val (.int (Int32.ofNat 5)), .val (.ref a2)] [(.int (Int32.ofNat 1)), (.ref a2), (.int (Int32.ofNat 1)), (.ref b1123), (.ref b1123), (.ref b1121), (.ref b1121)])) rfl rfl (hb hby d3_188) _ k)
    obtain ⟨cl1131, Ar1131, q1131, S1131, H1131⟩ := (id V1127)
    have hlt1131 : 1 < 5 := by omega
    have hn1131 : 5 < 2 ^ 31 := by omega
    have hin1131 : ¬ ((Int32.ofNat 1) < 0 ∨ cl1131.slots.size ≤ ((Int32.ofNat 1)).toNatClampNeg) := nat_inb S1131 hlt1131 hn1131
    obtain ⟨T1131, h1131, X1131, e1131, W1131, st1131⟩ := stC X1127 hx hZ e1127 Ar1131 (j := (Int32.ofNat 1)) hin1131 (g := (mkF m 189 #[.val (.int (Int32.ofNat 5)), .val (.ref a2)] [(.int (f 1)), (.int (Int32.ofNat 1)), (.ref b1123), (.ref b1123), (.ref b1121), (.ref b1121)])) rfl rfl (hb hby d3_189)
    rw [nat_clamp (show 1 < 2 ^ 31 by omega)] at W1131 X1131
    refine GoalH.step (T' := T1131) (g' := (mkF m 190 #[.val (.int (Int32.ofNat 5)), .val (.ref a2)] [(.ref b1123), (.ref b1121), (.ref b1121)])) ?_ st1131
    have sz1132 : h1127.size ≤ h1131.size := Nat.le_of_eq W1131.size.symm
    have V1131 : Arf Z h1131 b1123 k1123 .char 5 (fun z => if z = 1 then (nar .char (f 1)) else ((fun z => if z = 0 then (nar .char (f 0)) else ((fun _ => 0)) z)) z) := Arf.set Ar1131 q1131 S1131 H1131 W1131
    have N1131 := Fr.snoc X1131 N1127 (by omega : n0 ≤ b1123)
    refine GoalH.step (T' := T1131) (g' := (mkF m 191 #[.val (.int (Int32.ofNat 5)), .val (.ref a2)] [(.ref b1123), (.ref b1123), (.ref b1121), (.ref b1121)])) ?_ (fun t k => XS.dup X1131.here hx rfl (hb hby d3_190) rfl rfl k)
    refine GoalH.step (T' := T1131) (g' := (mkF m 192 #[.val (.int (Int32.ofNat 5)), .val (.ref a2)] [(.int (Int32.ofNat 2)), (.ref b1123), (.ref b1123), (.ref b1121), (.ref b1121)])) ?_ (fun t k => XS.iconst X1131.here hx rfl (hb hby d3_191) k)
    refine GoalH.step (T' := T1131) (g' := (mkF m 193 #[.val (.int (Int32.ofNat 5)), .val (.ref a2)] [(.ref a2), (.int (Int32.ofNat 2)), (.ref b1123), (.ref b1123), (.ref b1121), (.ref b1121)])) ?_ (fun t k => XS.aloadN X1131.here hx rfl (hb hby d3_192) rfl rfl k)
    refine GoalH.step (T' := T1131) (g' := (mkF m 194 #[.val (.int (Int32.ofNat 5)), .val (.ref a2)] [(.int (Int32.ofNat 2)), (.ref a2), (.int (Int32.ofNat 2)), (.ref b1123), (.ref b1123), (.ref b1121), (.ref b1121)])) ?_ (fun t k => XS.iconst X1131.here hx rfl (hb hby d3_193) k)
    have f1134 : Arf Z h1131 a2 k1 .char 10 f := (f1130.other W1131 (nne (by omega)))
    obtain ⟨cl1133, Ar1133, q1133, S1133, H1133⟩ := (id f1134)
    have hlt1133 : 2 < 10 := by omega
    have hn1133 : 10 < 2 ^ 31 := by omega
    have hin1133 : ¬ ((Int32.ofNat 2) < 0 ∨ cl1133.slots.size ≤ ((Int32.ofNat 2)).toNatClampNeg) := nat_inb S1133 hlt1133 hn1133
    have hat1133 : cl1133.slots[((Int32.ofNat 2)).toNatClampNeg]? = some (.int (f 2)) := by rw [nat_clamp (show 2 < 2 ^ 31 by omega)]; exact H1133 _ hlt1133
    refine GoalH.step (T' := T1131) (g' := (mkF m 195 #[.val (.int (Int32.ofNat 5)), .val (.ref a2)] [(.int (f 2)), (.int (Int32.ofNat 2)), (.ref b1123), (.ref b1123), (.ref b1121), (.ref b1121)])) ?_ (fun t k => X1131.caload hx (j := (Int32.ofNat 2)) (v := (.int (f 2))) (by rw [e1131]; exact Ar1133.1) (State.isArrayOf_alike hZ.alike Ar1133.2.1) Ar1133.2.2 hin1133 hat1133 (g := (mkF m 194 #[.val (.int (Int32.ofNat 5)), .val (.ref a2)] [(.int (Int32.ofNat 2)), (.ref a2), (.int (Int32.ofNat 2)), (.ref b1123), (.ref b1123), (.ref b1121), (.ref b1121)])) rfl rfl (hb hby d3_194) _ k)
    obtain ⟨cl1135, Ar1135, q1135, S1135, H1135⟩ := (id V1131)
    have hlt1135 : 2 < 5 := by omega
    have hn1135 : 5 < 2 ^ 31 := by omega
    have hin1135 : ¬ ((Int32.ofNat 2) < 0 ∨ cl1135.slots.size ≤ ((Int32.ofNat 2)).toNatClampNeg) := nat_inb S1135 hlt1135 hn1135
    obtain ⟨T1135, h1135, X1135, e1135, W1135, st1135⟩ := stC X1131 hx hZ e1131 Ar1135 (j := (Int32.ofNat 2)) hin1135 (g := (mkF m 195 #[.val (.int (Int32.ofNat 5)), .val (.ref a2)] [(.int (f 2)), (.int (Int32.ofNat 2)), (.ref b1123), (.ref b1123), (.ref b1121), (.ref b1121)])) rfl rfl (hb hby d3_195)
    rw [nat_clamp (show 2 < 2 ^ 31 by omega)] at W1135 X1135
    refine GoalH.step (T' := T1135) (g' := (mkF m 196 #[.val (.int (Int32.ofNat 5)), .val (.ref a2)] [(.ref b1123), (.ref b1121), (.ref b1121)])) ?_ st1135
    have sz1136 : h1131.size ≤ h1135.size := Nat.le_of_eq W1135.size.symm
    have V1135 : Arf Z h1135 b1123 k1123 .char 5 (fun z => if z = 2 then (nar .char (f 2)) else ((fun z => if z = 1 then (nar .char (f 1)) else ((fun z => if z = 0 then (nar .char (f 0)) else ((fun _ => 0)) z)) z)) z) := Arf.set Ar1135 q1135 S1135 H1135 W1135
    have N1135 := Fr.snoc X1135 N1131 (by omega : n0 ≤ b1123)
    refine GoalH.step (T' := T1135) (g' := (mkF m 197 #[.val (.int (Int32.ofNat 5)), .val (.ref a2)] [(.ref b1123), (.ref b1123), (.ref b1121), (.ref b1121)])) ?_ (fun t k => XS.dup X1135.here hx rfl (hb hby d3_196) rfl rfl k)
    refine GoalH.step (T' := T1135) (g' := (mkF m 198 #[.val (.int (Int32.ofNat 5)), .val (.ref a2)] [(.int (Int32.ofNat 3)), (.ref b1123), (.ref b1123), (.ref b1121), (.ref b1121)])) ?_ (fun t k => XS.iconst X1135.here hx rfl (hb hby d3_197) k)
    refine GoalH.step (T' := T1135) (g' := (mkF m 199 #[.val (.int (Int32.ofNat 5)), .val (.ref a2)] [(.ref a2), (.int (Int32.ofNat 3)), (.ref b1123), (.ref b1123), (.ref b1121), (.ref b1121)])) ?_ (fun t k => XS.aloadN X1135.here hx rfl (hb hby d3_198) rfl rfl k)
    refine GoalH.step (T' := T1135) (g' := (mkF m 200 #[.val (.int (Int32.ofNat 5)), .val (.ref a2)] [(.int (Int32.ofNat 3)), (.ref a2), (.int (Int32.ofNat 3)), (.ref b1123), (.ref b1123), (.ref b1121), (.ref b1121)])) ?_ (fun t k => XS.iconst X1135.here hx rfl (hb hby d3_199) k)
    have f1138 : Arf Z h1135 a2 k1 .char 10 f := (f1134.other W1135 (nne (by omega)))
    obtain ⟨cl1137, Ar1137, q1137, S1137, H1137⟩ := (id f1138)
    have hlt1137 : 3 < 10 := by omega
    have hn1137 : 10 < 2 ^ 31 := by omega
    have hin1137 : ¬ ((Int32.ofNat 3) < 0 ∨ cl1137.slots.size ≤ ((Int32.ofNat 3)).toNatClampNeg) := nat_inb S1137 hlt1137 hn1137
    have hat1137 : cl1137.slots[((Int32.ofNat 3)).toNatClampNeg]? = some (.int (f 3)) := by rw [nat_clamp (show 3 < 2 ^ 31 by omega)]; exact H1137 _ hlt1137
    refine GoalH.step (T' := T1135) (g' := (mkF m 201 #[.val (.int (Int32.ofNat 5)), .val (.ref a2)] [(.int (f 3)), (.int (Int32.ofNat 3)), (.ref b1123), (.ref b1123), (.ref b1121), (.ref b1121)])) ?_ (fun t k => X1135.caload hx (j := (Int32.ofNat 3)) (v := (.int (f 3))) (by rw [e1135]; exact Ar1137.1) (State.isArrayOf_alike hZ.alike Ar1137.2.1) Ar1137.2.2 hin1137 hat1137 (g := (mkF m 200 #[.val (.int (Int32.ofNat 5)), .val (.ref a2)] [(.int (Int32.ofNat 3)), (.ref a2), (.int (Int32.ofNat 3)), (.ref b1123), (.ref b1123), (.ref b1121), (.ref b1121)])) rfl rfl (hb hby d3_200) _ k)
    obtain ⟨cl1139, Ar1139, q1139, S1139, H1139⟩ := (id V1135)
    have hlt1139 : 3 < 5 := by omega
    have hn1139 : 5 < 2 ^ 31 := by omega
    have hin1139 : ¬ ((Int32.ofNat 3) < 0 ∨ cl1139.slots.size ≤ ((Int32.ofNat 3)).toNatClampNeg) := nat_inb S1139 hlt1139 hn1139
    obtain ⟨T1139, h1139, X1139, e1139, W1139, st1139⟩ := stC X1135 hx hZ e1135 Ar1139 (j := (Int32.ofNat 3)) hin1139 (g := (mkF m 201 #[.val (.int (Int32.ofNat 5)), .val (.ref a2)] [(.int (f 3)), (.int (Int32.ofNat 3)), (.ref b1123), (.ref b1123), (.ref b1121), (.ref b1121)])) rfl rfl (hb hby d3_201)
    rw [nat_clamp (show 3 < 2 ^ 31 by omega)] at W1139 X1139
    refine GoalH.step (T' := T1139) (g' := (mkF m 202 #[.val (.int (Int32.ofNat 5)), .val (.ref a2)] [(.ref b1123), (.ref b1121), (.ref b1121)])) ?_ st1139
    have sz1140 : h1135.size ≤ h1139.size := Nat.le_of_eq W1139.size.symm
    have V1139 : Arf Z h1139 b1123 k1123 .char 5 (fun z => if z = 3 then (nar .char (f 3)) else ((fun z => if z = 2 then (nar .char (f 2)) else ((fun z => if z = 1 then (nar .char (f 1)) else ((fun z => if z = 0 then (nar .char (f 0)) else ((fun _ => 0)) z)) z)) z)) z) := Arf.set Ar1139 q1139 S1139 H1139 W1139
    have N1139 := Fr.snoc X1139 N1135 (by omega : n0 ≤ b1123)
    refine GoalH.step (T' := T1139) (g' := (mkF m 203 #[.val (.int (Int32.ofNat 5)), .val (.ref a2)] [(.ref b1123), (.ref b1123), (.ref b1121), (.ref b1121)])) ?_ (fun t k => XS.dup X1139.here hx rfl (hb hby d3_202) rfl rfl k)
    refine GoalH.step (T' := T1139) (g' := (mkF m 204 #[.val (.int (Int32.ofNat 5)), .val (.ref a2)] [(.int (Int32.ofNat 4)), (.ref b1123), (.ref b1123), (.ref b1121), (.ref b1121)])) ?_ (fun t k => XS.iconst X1139.here hx rfl (hb hby d3_203) k)
    refine GoalH.step (T' := T1139) (g' := (mkF m 205 #[.val (.int (Int32.ofNat 5)), .val (.ref a2)] [(.ref a2), (.int (Int32.ofNat 4)), (.ref b1123), (.ref b1123), (.ref b1121), (.ref b1121)])) ?_ (fun t k => XS.aloadN X1139.here hx rfl (hb hby d3_204) rfl rfl k)
    refine GoalH.step (T' := T1139) (g' := (mkF m 206 #[.val (.int (Int32.ofNat 5)), .val (.ref a2)] [(.int (Int32.ofNat 4)), (.ref a2), (.int (Int32.ofNat 4)), (.ref b1123), (.ref b1123), (.ref b1121), (.ref b1121)])) ?_ (fun t k => XS.iconst X1139.here hx rfl (hb hby d3_205) k)
    have f1142 : Arf Z h1139 a2 k1 .char 10 f := (f1138.other W1139 (nne (by omega)))
    obtain ⟨cl1141, Ar1141, q1141, S1141, H1141⟩ := (id f1142)
    have hlt1141 : 4 < 10 := by omega
    have hn1141 : 10 < 2 ^ 31 := by omega
    have hin1141 : ¬ ((Int32.ofNat 4) < 0 ∨ cl1141.slots.size ≤ ((Int32.ofNat 4)).toNatClampNeg) := nat_inb S1141 hlt1141 hn1141
    have hat1141 : cl1141.slots[((Int32.ofNat 4)).toNatClampNeg]? = some (.int (f 4)) := by rw [nat_clamp (show 4 < 2 ^ 31 by omega)]; exact H1141 _ hlt1141
    refine GoalH.step (T' := T1139) (g' := (mkF m 207 #[.val (.int (Int32.ofNat 5)), .val (.ref a2)] [(.int (f 4)), (.int (Int32.ofNat 4)), (.ref b1123), (.ref b1123), (.ref b1121), (.ref b1121)])) ?_ (fun t k => X1139.caload hx (j := (Int32.ofNat 4)) (v := (.int (f 4))) (by rw [e1139]; exact Ar1141.1) (State.isArrayOf_alike hZ.alike Ar1141.2.1) Ar1141.2.2 hin1141 hat1141 (g := (mkF m 206 #[.val (.int (Int32.ofNat 5)), .val (.ref a2)] [(.int (Int32.ofNat 4)), (.ref a2), (.int (Int32.ofNat 4)), (.ref b1123), (.ref b1123), (.ref b1121), (.ref b1121)])) rfl rfl (hb hby d3_206) _ k)
    obtain ⟨cl1143, Ar1143, q1143, S1143, H1143⟩ := (id V1139)
    have hlt1143 : 4 < 5 := by omega
    have hn1143 : 5 < 2 ^ 31 := by omega
    have hin1143 : ¬ ((Int32.ofNat 4) < 0 ∨ cl1143.slots.size ≤ ((Int32.ofNat 4)).toNatClampNeg) := nat_inb S1143 hlt1143 hn1143
    obtain ⟨T1143, h1143, X1143, e1143, W1143, st1143⟩ := stC X1139 hx hZ e1139 Ar1143 (j := (Int32.ofNat 4)) hin1143 (g := (mkF m 207 #[.val (.int (Int32.ofNat 5)), .val (.ref a2)] [(.int (f 4)), (.int (Int32.ofNat 4)), (.ref b1123), (.ref b1123), (.ref b1121), (.ref b1121)])) rfl rfl (hb hby d3_207)
    rw [nat_clamp (show 4 < 2 ^ 31 by omega)] at W1143 X1143
    refine GoalH.step (T' := T1143) (g' := (mkF m 208 #[.val (.int (Int32.ofNat 5)), .val (.ref a2)] [(.ref b1123), (.ref b1121), (.ref b1121)])) ?_ st1143
    have sz1144 : h1139.size ≤ h1143.size := Nat.le_of_eq W1143.size.symm
    have V1143 : Arf Z h1143 b1123 k1123 .char 5 (fun z => if z = 4 then (nar .char (f 4)) else ((fun z => if z = 3 then (nar .char (f 3)) else ((fun z => if z = 2 then (nar .char (f 2)) else ((fun z => if z = 1 then (nar .char (f 1)) else ((fun z => if z = 0 then (nar .char (f 0)) else ((fun _ => 0)) z)) z)) z)) z)) z) := Arf.set Ar1143 q1143 S1143 H1143 W1143
    have N1143 := Fr.snoc X1143 N1139 (by omega : n0 ≤ b1123)
    have AC1146 : Arf Z h1143 b1123 k1123 .char 5 f := Arf.congr V1143 (own_st (i := 4) (own_st (i := 3) (own_st (i := 2) (own_st (i := 1) (own_st (i := 0) (fun j hj => absurd hj (Nat.not_lt_zero _)) (hc 0 (by decide))) (hc 1 (by decide))) (hc 2 (by decide))) (hc 3 (by decide))) (hc 4 (by decide)))
    have f1147 : Old Z n0 h1143 := (((((((O0.ext E1121).ext E1123).wr W1127 (by omega)).wr W1131 (by omega)).wr W1135 (by omega)).wr W1139 (by omega)).wr W1143 (by omega))
    have f1148 : Exa Z h1143 b1121 "java/lang/String" := (Exa.wr W1143 (Exa.wr W1139 (Exa.wr W1135 (Exa.wr W1131 (Exa.wr W1127 (A1121.ext E1123))))))
    have f1149 : Fld Z h1143 b1121 "java/lang/String" "value" "[B" .null := (Fld.other W1143 (Fld.other W1139 (Fld.other W1135 (Fld.other W1131 (Fld.other W1127 ((D1121 (Or.inr (hw _ (List.mem_of_getElem? (i := 28) rfl))) (ty := (.array .byte)) (by decide)).ext E1123) (Or.inl (nne (by omega)))) (Or.inl (nne (by omega)))) (Or.inl (nne (by omega)))) (Or.inl (nne (by omega)))) (Or.inl (nne (by omega))))
    have f1150 : Fld Z h1143 b1121 "java/lang/String" "coder" "B" (.int (0 : Int32)) := (Fld.other W1143 (Fld.other W1139 (Fld.other W1135 (Fld.other W1131 (Fld.other W1127 ((D1121 (Or.inr (hw _ (List.mem_of_getElem? (i := 29) rfl))) (ty := .byte) (by decide)).ext E1123) (Or.inl (nne (by omega)))) (Or.inl (nne (by omega)))) (Or.inl (nne (by omega)))) (Or.inl (nne (by omega)))) (Or.inl (nne (by omega))))
    have kk1151 : Keep h0 h1143 [] := ((((((((Keep.refl h0 []).ext E1121).ext E1123).wr W1127 (Or.inr (by omega))).wr W1131 (Or.inr (by omega))).wr W1135 (Or.inr (by omega))).wr W1139 (Or.inr (by omega))).wr W1143 (Or.inr (by omega)))
    have CH1152 := CHr.trans CH0 (CHr.keep kk1151 all0 CH0.1)
    have kk1153 : Keep h0 h1143 [] := ((((((((Keep.refl h0 []).ext E1121).ext E1123).wr W1127 (Or.inr (by omega))).wr W1131 (Or.inr (by omega))).wr W1135 (Or.inr (by omega))).wr W1139 (Or.inr (by omega))).wr W1143 (Or.inr (by omega)))
    have Sf1154 := safeFresh (EL := consts_1) kk1153 CH0.1 (show h0.size ≤ b1121 by omega)
    obtain ⟨v1145, T1145, h1145, L1145, k1145, X1145, e1145, hQ1145, hS, hk1145, hsz1145, C1145, hZ, hown, st1145⟩ := callInitH X1143 hx hZ hown hS (by omega) (own_EW hw) CH1152.1 (allS ⟨show (b1121 : Nat) < h1143.size by omega, Sf1154⟩ all0) rfl (hw _ (List.mem_of_getElem? (i := 16) rfl)) (hw _ (List.mem_of_getElem? (i := 17) rfl)) (hw _ (List.mem_of_getElem? (i := 15) rfl)) (hw _ (List.mem_of_getElem? (i := 18) rfl)) (by decide) (rmI1 l Z a0 hw 5 b1121 b1123 k1123 f .null (.int (0 : Int32)) cs fm h1143 n0 (by omega) SE f1147 f1148 f1149 f1150 (by omega) (fun j hj => hc j (by omega)) AC1146 (by omega) (by omega) (by omega) (by omega)) e1143 (W := 1) (by decide) (by decide) (by decide) (by decide) (g := (mkF m 208 #[.val (.int (Int32.ofNat 5)), .val (.ref a2)] [(.ref b1123), (.ref b1121), (.ref b1121)])) rfl (by rw [hml]; rfl) (a := b1121) (argsL := [(.ref b1123)]) (rest := [(.ref b1121)]) (lenOf pd_18 rfl) rfl (by show 2 * 0 + _ ≤ _; exact Nat.le_of_eq rfl) (hb hby d3_208) rfl
    obtain ⟨rfl, M1145, K1145, Z1145⟩ := hQ1145
    have N1145 := Fr.app N1143 M1145
    refine GoalH.step (T' := T1145) (g' := (mkF m 211 #[.val (.int (Int32.ofNat 5)), .val (.ref a2)] [(.ref b1121)])) ?_ st1145
    have sz1155 : h1143.size ≤ h1145.size := K1145.1
    have CH1145 := CHr.trans CH1152 C1145
    have Sf1145_b1121 := C1145.safe (show (b1121 : Nat) < h1143.size by omega) Sf1154
    refine GoalH.retA X1145 hS (by rw [e1145]; omega) hZ (own_EW hw) (by rw [e1145]; exact CH1145) hx hret rfl rfl rfl (hb hby d3_211) ?_
    have k1156 : Keep h0 h1145 [] := (((((((((Keep.refl h0 []).ext E1121).ext E1123).wr W1127 (Or.inr (by omega))).wr W1131 (Or.inr (by omega))).wr W1135 (Or.inr (by omega))).wr W1139 (Or.inr (by omega))).wr W1143 (Or.inr (by omega))).trans K1145 (allS (Or.inr (by omega)) all0))
    refine ⟨?_, by decide, by decide⟩
    rw [e1145]
    exact ⟨b1121, rfl, N1145, extKp (extRefl _) k1156 all0, Z1145⟩
  · refine GoalH.step (T' := s₁) (g' := (mkF m 1 #[.val (.int (Int32.ofNat 6)), .val (.ref a2)] [(.int (Int32.ofNat 6))])) ?_ (fun t k => XS.iloadN X0.here hx rfl (hb hby d3_0) rfl k)
    refine GoalH.step (T' := s₁) (g' := (mkF m 212 #[.val (.int (Int32.ofNat 6)), .val (.ref a2)] [])) ?_ (fun t k => XS.tswIn X0.here hx rfl (o := 211) (pc0 := 1) (pc' := 212) rfl (hb hby d3_1) rfl (by decide) (by decide) (by decide) (by decide) k)
    obtain ⟨T1157, h1157, X1157, e1157, E1157, A1157, D1157, -, st1157⟩ := newO X0 hx hZ hown (hw _ (List.mem_of_getElem? (i := 13) rfl)) (hw _ (List.mem_of_getElem? (i := 14) rfl)) (hw _ (List.mem_of_getElem? (i := 15) rfl)) e0 (g := (mkF m 212 #[.val (.int (Int32.ofNat 6)), .val (.ref a2)] [])) rfl (hb hby d3_212) (by decide) (by decide)
    obtain ⟨b1157, g1157⟩ : ∃ z, z = h0.size := ⟨_, rfl⟩
    rw [← g1157] at A1157 D1157 st1157
    refine GoalH.step (T' := T1157) (g' := (mkF m 215 #[.val (.int (Int32.ofNat 6)), .val (.ref a2)] [(.ref b1157)])) ?_ st1157
    have sz1158 : h0.size ≤ h1157.size := E1157.1
    have lt_b1157 : b1157 < h1157.size := A1157.lt
    refine GoalH.step (T' := T1157) (g' := (mkF m 216 #[.val (.int (Int32.ofNat 6)), .val (.ref a2)] [(.ref b1157), (.ref b1157)])) ?_ (fun t k => XS.dup X1157.here hx rfl (hb hby d3_215) rfl rfl k)
    refine GoalH.step (T' := T1157) (g' := (mkF m 218 #[.val (.int (Int32.ofNat 6)), .val (.ref a2)] [(.int (Int32.ofNat 6)), (.ref b1157), (.ref b1157)])) ?_ (fun t k => XS.bipush X1157.here hx rfl (hb hby d3_216) k)
    obtain ⟨T1159, h1159, k1159, X1159, e1159, E1159, A1159, st1159⟩ := newP X1157 hx hZ (hw _ (List.mem_of_getElem? (i := 1) rfl)) e1157 (g := (mkF m 218 #[.val (.int (Int32.ofNat 6)), .val (.ref a2)] [(.int (Int32.ofNat 6)), (.ref b1157), (.ref b1157)])) rfl (hb hby d3_218) rfl (by decide) (cap := 6) (by decide) (by decide) (by decide) (by decide)
    obtain ⟨b1159, g1159⟩ : ∃ z, z = h1157.size := ⟨_, rfl⟩
    rw [← g1159] at A1159 st1159
    refine GoalH.step (T' := T1159) (g' := (mkF m 220 #[.val (.int (Int32.ofNat 6)), .val (.ref a2)] [(.ref b1159), (.ref b1157), (.ref b1157)])) ?_ st1159
    have sz1160 : h1157.size ≤ h1159.size := E1159.1
    have lt_b1159 : b1159 < h1159.size := A1159.lt
    have V1159 : Arf Z h1159 b1159 k1159 .char 6 (fun _ => 0) := Arf.new A1159 rfl rfl
    refine GoalH.step (T' := T1159) (g' := (mkF m 221 #[.val (.int (Int32.ofNat 6)), .val (.ref a2)] [(.ref b1159), (.ref b1159), (.ref b1157), (.ref b1157)])) ?_ (fun t k => XS.dup X1159.here hx rfl (hb hby d3_220) rfl rfl k)
    refine GoalH.step (T' := T1159) (g' := (mkF m 222 #[.val (.int (Int32.ofNat 6)), .val (.ref a2)] [(.int (Int32.ofNat 0)), (.ref b1159), (.ref b1159), (.ref b1157), (.ref b1157)])) ?_ (fun t k => XS.iconst X1159.here hx rfl (hb hby d3_221) k)
    refine GoalH.step (T' := T1159) (g' := (mkF m 223 #[.val (.int (Int32.ofNat 6)), .val (.ref a2)] [(.ref a2), (.int (Int32.ofNat 0)), (.ref b1159), (.ref b1159), (.ref b1157), (.ref b1157)])) ?_ (fun t k => XS.aloadN X1159.here hx rfl (hb hby d3_222) rfl rfl k)
    refine GoalH.step (T' := T1159) (g' := (mkF m 224 #[.val (.int (Int32.ofNat 6)), .val (.ref a2)] [(.int (Int32.ofNat 0)), (.ref a2), (.int (Int32.ofNat 0)), (.ref b1159), (.ref b1159), (.ref b1157), (.ref b1157)])) ?_ (fun t k => XS.iconst X1159.here hx rfl (hb hby d3_223) k)
    have f1162 : Arf Z h1159 a2 k1 .char 10 f := ((A2.ext E1157).ext E1159)
    obtain ⟨cl1161, Ar1161, q1161, S1161, H1161⟩ := (id f1162)
    have hlt1161 : 0 < 10 := by omega
    have hn1161 : 10 < 2 ^ 31 := by omega
    have hin1161 : ¬ ((Int32.ofNat 0) < 0 ∨ cl1161.slots.size ≤ ((Int32.ofNat 0)).toNatClampNeg) := nat_inb S1161 hlt1161 hn1161
    have hat1161 : cl1161.slots[((Int32.ofNat 0)).toNatClampNeg]? = some (.int (f 0)) := by rw [nat_clamp (show 0 < 2 ^ 31 by omega)]; exact H1161 _ hlt1161
    refine GoalH.step (T' := T1159) (g' := (mkF m 225 #[.val (.int (Int32.ofNat 6)), .val (.ref a2)] [(.int (f 0)), (.int (Int32.ofNat 0)), (.ref b1159), (.ref b1159), (.ref b1157), (.ref b1157)])) ?_ (fun t k => X1159.caload hx (j := (Int32.ofNat 0)) (v := (.int (f 0))) (by rw [e1159]; exact Ar1161.1) (State.isArrayOf_alike hZ.alike Ar1161.2.1) Ar1161.2.2 hin1161 hat1161 (g := (mkF m 224 #[.val (.int (Int32.ofNat 6)), .val (.ref a2)] [(.int (Int32.ofNat 0)), (.ref a2), (.int (Int32.ofNat 0)), (.ref b1159), (.ref b1159), (.ref b1157), (.ref b1157)])) rfl rfl (hb hby d3_224) _ k)
    obtain ⟨cl1163, Ar1163, q1163, S1163, H1163⟩ := (id V1159)
    have hlt1163 : 0 < 6 := by omega
    have hn1163 : 6 < 2 ^ 31 := by omega
    have hin1163 : ¬ ((Int32.ofNat 0) < 0 ∨ cl1163.slots.size ≤ ((Int32.ofNat 0)).toNatClampNeg) := nat_inb S1163 hlt1163 hn1163
    obtain ⟨T1163, h1163, X1163, e1163, W1163, st1163⟩ := stC X1159 hx hZ e1159 Ar1163 (j := (Int32.ofNat 0)) hin1163 (g := (mkF m 225 #[.val (.int (Int32.ofNat 6)), .val (.ref a2)] [(.int (f 0)), (.int (Int32.ofNat 0)), (.ref b1159), (.ref b1159), (.ref b1157), (.ref b1157)])) rfl rfl (hb hby d3_225)
    rw [nat_clamp (show 0 < 2 ^ 31 by omega)] at W1163 X1163
    refine GoalH.step (T' := T1163) (g' := (mkF m 226 #[.val (.int (Int32.ofNat 6)), .val (.ref a2)] [(.ref b1159), (.ref b1157), (.ref b1157)])) ?_ st1163
    have sz1164 : h1159.size ≤ h1163.size := Nat.le_of_eq W1163.size.symm
    have V1163 : Arf Z h1163 b1159 k1159 .char 6 (fun z => if z = 0 then (nar .char (f 0)) else ((fun _ => 0)) z) := Arf.set Ar1163 q1163 S1163 H1163 W1163
    have N1163 := Fr.snoc X1163 N0 (by omega : n0 ≤ b1159)
    refine GoalH.step (T' := T1163) (g' := (mkF m 227 #[.val (.int (Int32.ofNat 6)), .val (.ref a2)] [(.ref b1159), (.ref b1159), (.ref b1157), (.ref b1157)])) ?_ (fun t k => XS.dup X1163.here hx rfl (hb hby d3_226) rfl rfl k)
    refine GoalH.step (T' := T1163) (g' := (mkF m 228 #[.val (.int (Int32.ofNat 6)), .val (.ref a2)] [(.int (Int32.ofNat 1)), (.ref b1159), (.ref b1159), (.ref b1157), (.ref b1157)])) ?_ (fun t k => XS.iconst X1163.here hx rfl (hb hby d3_227) k)
    refine GoalH.step (T' := T1163) (g' := (mkF m 229 #[.val (.int (Int32.ofNat 6)), .val (.ref a2)] [(.ref a2), (.int (Int32.ofNat 1)), (.ref b1159), (.ref b1159), (.ref b1157), (.ref b1157)])) ?_ (fun t k => XS.aloadN X1163.here hx rfl (hb hby d3_228) rfl rfl k)
    refine GoalH.step (T' := T1163) (g' := (mkF m 230 #[.val (.int (Int32.ofNat 6)), .val (.ref a2)] [(.int (Int32.ofNat 1)), (.ref a2), (.int (Int32.ofNat 1)), (.ref b1159), (.ref b1159), (.ref b1157), (.ref b1157)])) ?_ (fun t k => XS.iconst X1163.here hx rfl (hb hby d3_229) k)
    have f1166 : Arf Z h1163 a2 k1 .char 10 f := (f1162.other W1163 (nne (by omega)))
    obtain ⟨cl1165, Ar1165, q1165, S1165, H1165⟩ := (id f1166)
    have hlt1165 : 1 < 10 := by omega
    have hn1165 : 10 < 2 ^ 31 := by omega
    have hin1165 : ¬ ((Int32.ofNat 1) < 0 ∨ cl1165.slots.size ≤ ((Int32.ofNat 1)).toNatClampNeg) := nat_inb S1165 hlt1165 hn1165
    have hat1165 : cl1165.slots[((Int32.ofNat 1)).toNatClampNeg]? = some (.int (f 1)) := by rw [nat_clamp (show 1 < 2 ^ 31 by omega)]; exact H1165 _ hlt1165
    refine GoalH.step (T' := T1163) (g' := (mkF m 231 #[.val (.int (Int32.ofNat 6)), .val (.ref a2)] [(.int (f 1)), (.int (Int32.ofNat 1)), (.ref b1159), (.ref b1159), (.ref b1157), (.ref b1157)])) ?_ (fun t k => X1163.caload hx (j := (Int32.ofNat 1)) (v := (.int (f 1))) (by rw [e1163]; exact Ar1165.1) (State.isArrayOf_alike hZ.alike Ar1165.2.1) Ar1165.2.2 hin1165 hat1165 (g := (mkF m 230 #[.val (.int (Int32.ofNat 6)), .val (.ref a2)] [(.int (Int32.ofNat 1)), (.ref a2), (.int (Int32.ofNat 1)), (.ref b1159), (.ref b1159), (.ref b1157), (.ref b1157)])) rfl rfl (hb hby d3_230) _ k)
    obtain ⟨cl1167, Ar1167, q1167, S1167, H1167⟩ := (id V1163)
    have hlt1167 : 1 < 6 := by omega
    have hn1167 : 6 < 2 ^ 31 := by omega
    have hin1167 : ¬ ((Int32.ofNat 1) < 0 ∨ cl1167.slots.size ≤ ((Int32.ofNat 1)).toNatClampNeg) := nat_inb S1167 hlt1167 hn1167
    obtain ⟨T1167, h1167, X1167, e1167, W1167, st1167⟩ := stC X1163 hx hZ e1163 Ar1167 (j := (Int32.ofNat 1)) hin1167 (g := (mkF m 231 #[.val (.int (Int32.ofNat 6)), .val (.ref a2)] [(.int (f 1)), (.int (Int32.ofNat 1)), (.ref b1159), (.ref b1159), (.ref b1157), (.ref b1157)])) rfl rfl (hb hby d3_231)
    rw [nat_clamp (show 1 < 2 ^ 31 by omega)] at W1167 X1167
    refine GoalH.step (T' := T1167) (g' := (mkF m 232 #[.val (.int (Int32.ofNat 6)), .val (.ref a2)] [(.ref b1159), (.ref b1157), (.ref b1157)])) ?_ st1167
    have sz1168 : h1163.size ≤ h1167.size := Nat.le_of_eq W1167.size.symm
    have V1167 : Arf Z h1167 b1159 k1159 .char 6 (fun z => if z = 1 then (nar .char (f 1)) else ((fun z => if z = 0 then (nar .char (f 0)) else ((fun _ => 0)) z)) z) := Arf.set Ar1167 q1167 S1167 H1167 W1167
    have N1167 := Fr.snoc X1167 N1163 (by omega : n0 ≤ b1159)
    refine GoalH.step (T' := T1167) (g' := (mkF m 233 #[.val (.int (Int32.ofNat 6)), .val (.ref a2)] [(.ref b1159), (.ref b1159), (.ref b1157), (.ref b1157)])) ?_ (fun t k => XS.dup X1167.here hx rfl (hb hby d3_232) rfl rfl k)
    refine GoalH.step (T' := T1167) (g' := (mkF m 234 #[.val (.int (Int32.ofNat 6)), .val (.ref a2)] [(.int (Int32.ofNat 2)), (.ref b1159), (.ref b1159), (.ref b1157), (.ref b1157)])) ?_ (fun t k => XS.iconst X1167.here hx rfl (hb hby d3_233) k)
    refine GoalH.step (T' := T1167) (g' := (mkF m 235 #[.val (.int (Int32.ofNat 6)), .val (.ref a2)] [(.ref a2), (.int (Int32.ofNat 2)), (.ref b1159), (.ref b1159), (.ref b1157), (.ref b1157)])) ?_ (fun t k => XS.aloadN X1167.here hx rfl (hb hby d3_234) rfl rfl k)
    refine GoalH.step (T' := T1167) (g' := (mkF m 236 #[.val (.int (Int32.ofNat 6)), .val (.ref a2)] [(.int (Int32.ofNat 2)), (.ref a2), (.int (Int32.ofNat 2)), (.ref b1159), (.ref b1159), (.ref b1157), (.ref b1157)])) ?_ (fun t k => XS.iconst X1167.here hx rfl (hb hby d3_235) k)
    have f1170 : Arf Z h1167 a2 k1 .char 10 f := (f1166.other W1167 (nne (by omega)))
    obtain ⟨cl1169, Ar1169, q1169, S1169, H1169⟩ := (id f1170)
    have hlt1169 : 2 < 10 := by omega
    have hn1169 : 10 < 2 ^ 31 := by omega
    have hin1169 : ¬ ((Int32.ofNat 2) < 0 ∨ cl1169.slots.size ≤ ((Int32.ofNat 2)).toNatClampNeg) := nat_inb S1169 hlt1169 hn1169
    have hat1169 : cl1169.slots[((Int32.ofNat 2)).toNatClampNeg]? = some (.int (f 2)) := by rw [nat_clamp (show 2 < 2 ^ 31 by omega)]; exact H1169 _ hlt1169
    refine GoalH.step (T' := T1167) (g' := (mkF m 237 #[.val (.int (Int32.ofNat 6)), .val (.ref a2)] [(.int (f 2)), (.int (Int32.ofNat 2)), (.ref b1159), (.ref b1159), (.ref b1157), (.ref b1157)])) ?_ (fun t k => X1167.caload hx (j := (Int32.ofNat 2)) (v := (.int (f 2))) (by rw [e1167]; exact Ar1169.1) (State.isArrayOf_alike hZ.alike Ar1169.2.1) Ar1169.2.2 hin1169 hat1169 (g := (mkF m 236 #[.val (.int (Int32.ofNat 6)), .val (.ref a2)] [(.int (Int32.ofNat 2)), (.ref a2), (.int (Int32.ofNat 2)), (.ref b1159), (.ref b1159), (.ref b1157), (.ref b1157)])) rfl rfl (hb hby d3_236) _ k)
    obtain ⟨cl1171, Ar1171, q1171, S1171, H1171⟩ := (id V1167)
    have hlt1171 : 2 < 6 := by omega
    have hn1171 : 6 < 2 ^ 31 := by omega
    have hin1171 : ¬ ((Int32.ofNat 2) < 0 ∨ cl1171.slots.size ≤ ((Int32.ofNat 2)).toNatClampNeg) := nat_inb S1171 hlt1171 hn1171
    obtain ⟨T1171, h1171, X1171, e1171, W1171, st1171⟩ := stC X1167 hx hZ e1167 Ar1171 (j := (Int32.ofNat 2)) hin1171 (g := (mkF m 237 #[.val (.int (Int32.ofNat 6)), .val (.ref a2)] [(.int (f 2)), (.int (Int32.ofNat 2)), (.ref b1159), (.ref b1159), (.ref b1157), (.ref b1157)])) rfl rfl (hb hby d3_237)
    rw [nat_clamp (show 2 < 2 ^ 31 by omega)] at W1171 X1171
    refine GoalH.step (T' := T1171) (g' := (mkF m 238 #[.val (.int (Int32.ofNat 6)), .val (.ref a2)] [(.ref b1159), (.ref b1157), (.ref b1157)])) ?_ st1171
    have sz1172 : h1167.size ≤ h1171.size := Nat.le_of_eq W1171.size.symm
    have V1171 : Arf Z h1171 b1159 k1159 .char 6 (fun z => if z = 2 then (nar .char (f 2)) else ((fun z => if z = 1 then (nar .char (f 1)) else ((fun z => if z = 0 then (nar .char (f 0)) else ((fun _ => 0)) z)) z)) z) := Arf.set Ar1171 q1171 S1171 H1171 W1171
    have N1171 := Fr.snoc X1171 N1167 (by omega : n0 ≤ b1159)
    refine GoalH.step (T' := T1171) (g' := (mkF m 239 #[.val (.int (Int32.ofNat 6)), .val (.ref a2)] [(.ref b1159), (.ref b1159), (.ref b1157), (.ref b1157)])) ?_ (fun t k => XS.dup X1171.here hx rfl (hb hby d3_238) rfl rfl k)
    refine GoalH.step (T' := T1171) (g' := (mkF m 240 #[.val (.int (Int32.ofNat 6)), .val (.ref a2)] [(.int (Int32.ofNat 3)), (.ref b1159), (.ref b1159), (.ref b1157), (.ref b1157)])) ?_ (fun t k => XS.iconst X1171.here hx rfl (hb hby d3_239) k)
    refine GoalH.step (T' := T1171) (g' := (mkF m 241 #[.val (.int (Int32.ofNat 6)), .val (.ref a2)] [(.ref a2), (.int (Int32.ofNat 3)), (.ref b1159), (.ref b1159), (.ref b1157), (.ref b1157)])) ?_ (fun t k => XS.aloadN X1171.here hx rfl (hb hby d3_240) rfl rfl k)
    refine GoalH.step (T' := T1171) (g' := (mkF m 242 #[.val (.int (Int32.ofNat 6)), .val (.ref a2)] [(.int (Int32.ofNat 3)), (.ref a2), (.int (Int32.ofNat 3)), (.ref b1159), (.ref b1159), (.ref b1157), (.ref b1157)])) ?_ (fun t k => XS.iconst X1171.here hx rfl (hb hby d3_241) k)
    have f1174 : Arf Z h1171 a2 k1 .char 10 f := (f1170.other W1171 (nne (by omega)))
    obtain ⟨cl1173, Ar1173, q1173, S1173, H1173⟩ := (id f1174)
    have hlt1173 : 3 < 10 := by omega
    have hn1173 : 10 < 2 ^ 31 := by omega
    have hin1173 : ¬ ((Int32.ofNat 3) < 0 ∨ cl1173.slots.size ≤ ((Int32.ofNat 3)).toNatClampNeg) := nat_inb S1173 hlt1173 hn1173
    have hat1173 : cl1173.slots[((Int32.ofNat 3)).toNatClampNeg]? = some (.int (f 3)) := by rw [nat_clamp (show 3 < 2 ^ 31 by omega)]; exact H1173 _ hlt1173
    refine GoalH.step (T' := T1171) (g' := (mkF m 243 #[.val (.int (Int32.ofNat 6)), .val (.ref a2)] [(.int (f 3)), (.int (Int32.ofNat 3)), (.ref b1159), (.ref b1159), (.ref b1157), (.ref b1157)])) ?_ (fun t k => X1171.caload hx (j := (Int32.ofNat 3)) (v := (.int (f 3))) (by rw [e1171]; exact Ar1173.1) (State.isArrayOf_alike hZ.alike Ar1173.2.1) Ar1173.2.2 hin1173 hat1173 (g := (mkF m 242 #[.val (.int (Int32.ofNat 6)), .val (.ref a2)] [(.int (Int32.ofNat 3)), (.ref a2), (.int (Int32.ofNat 3)), (.ref b1159), (.ref b1159), (.ref b1157), (.ref b1157)])) rfl rfl (hb hby d3_242) _ k)
    obtain ⟨cl1175, Ar1175, q1175, S1175, H1175⟩ := (id V1171)
    have hlt1175 : 3 < 6 := by omega
    have hn1175 : 6 < 2 ^ 31 := by omega
    have hin1175 : ¬ ((Int32.ofNat 3) < 0 ∨ cl1175.slots.size ≤ ((Int32.ofNat 3)).toNatClampNeg) := nat_inb S1175 hlt1175 hn1175
    obtain ⟨T1175, h1175, X1175, e1175, W1175, st1175⟩ := stC X1171 hx hZ e1171 Ar1175 (j := (Int32.ofNat 3)) hin1175 (g := (mkF m 243 #[.val (.int (Int32.ofNat 6)), .val (.ref a2)] [(.int (f 3)), (.int (Int32.ofNat 3)), (.ref b1159), (.ref b1159), (.ref b1157), (.ref b1157)])) rfl rfl (hb hby d3_243)
    rw [nat_clamp (show 3 < 2 ^ 31 by omega)] at W1175 X1175
    refine GoalH.step (T' := T1175) (g' := (mkF m 244 #[.val (.int (Int32.ofNat 6)), .val (.ref a2)] [(.ref b1159), (.ref b1157), (.ref b1157)])) ?_ st1175
    have sz1176 : h1171.size ≤ h1175.size := Nat.le_of_eq W1175.size.symm
    have V1175 : Arf Z h1175 b1159 k1159 .char 6 (fun z => if z = 3 then (nar .char (f 3)) else ((fun z => if z = 2 then (nar .char (f 2)) else ((fun z => if z = 1 then (nar .char (f 1)) else ((fun z => if z = 0 then (nar .char (f 0)) else ((fun _ => 0)) z)) z)) z)) z) := Arf.set Ar1175 q1175 S1175 H1175 W1175
    have N1175 := Fr.snoc X1175 N1171 (by omega : n0 ≤ b1159)
    refine GoalH.step (T' := T1175) (g' := (mkF m 245 #[.val (.int (Int32.ofNat 6)), .val (.ref a2)] [(.ref b1159), (.ref b1159), (.ref b1157), (.ref b1157)])) ?_ (fun t k => XS.dup X1175.here hx rfl (hb hby d3_244) rfl rfl k)
    refine GoalH.step (T' := T1175) (g' := (mkF m 246 #[.val (.int (Int32.ofNat 6)), .val (.ref a2)] [(.int (Int32.ofNat 4)), (.ref b1159), (.ref b1159), (.ref b1157), (.ref b1157)])) ?_ (fun t k => XS.iconst X1175.here hx rfl (hb hby d3_245) k)
    refine GoalH.step (T' := T1175) (g' := (mkF m 247 #[.val (.int (Int32.ofNat 6)), .val (.ref a2)] [(.ref a2), (.int (Int32.ofNat 4)), (.ref b1159), (.ref b1159), (.ref b1157), (.ref b1157)])) ?_ (fun t k => XS.aloadN X1175.here hx rfl (hb hby d3_246) rfl rfl k)
    refine GoalH.step (T' := T1175) (g' := (mkF m 248 #[.val (.int (Int32.ofNat 6)), .val (.ref a2)] [(.int (Int32.ofNat 4)), (.ref a2), (.int (Int32.ofNat 4)), (.ref b1159), (.ref b1159), (.ref b1157), (.ref b1157)])) ?_ (fun t k => XS.iconst X1175.here hx rfl (hb hby d3_247) k)
    have f1178 : Arf Z h1175 a2 k1 .char 10 f := (f1174.other W1175 (nne (by omega)))
    obtain ⟨cl1177, Ar1177, q1177, S1177, H1177⟩ := (id f1178)
    have hlt1177 : 4 < 10 := by omega
    have hn1177 : 10 < 2 ^ 31 := by omega
    have hin1177 : ¬ ((Int32.ofNat 4) < 0 ∨ cl1177.slots.size ≤ ((Int32.ofNat 4)).toNatClampNeg) := nat_inb S1177 hlt1177 hn1177
    have hat1177 : cl1177.slots[((Int32.ofNat 4)).toNatClampNeg]? = some (.int (f 4)) := by rw [nat_clamp (show 4 < 2 ^ 31 by omega)]; exact H1177 _ hlt1177
    refine GoalH.step (T' := T1175) (g' := (mkF m 249 #[.val (.int (Int32.ofNat 6)), .val (.ref a2)] [(.int (f 4)), (.int (Int32.ofNat 4)), (.ref b1159), (.ref b1159), (.ref b1157), (.ref b1157)])) ?_ (fun t k => X1175.caload hx (j := (Int32.ofNat 4)) (v := (.int (f 4))) (by rw [e1175]; exact Ar1177.1) (State.isArrayOf_alike hZ.alike Ar1177.2.1) Ar1177.2.2 hin1177 hat1177 (g := (mkF m 248 #[.val (.int (Int32.ofNat 6)), .val (.ref a2)] [(.int (Int32.ofNat 4)), (.ref a2), (.int (Int32.ofNat 4)), (.ref b1159), (.ref b1159), (.ref b1157), (.ref b1157)])) rfl rfl (hb hby d3_248) _ k)
    obtain ⟨cl1179, Ar1179, q1179, S1179, H1179⟩ := (id V1175)
    have hlt1179 : 4 < 6 := by omega
    have hn1179 : 6 < 2 ^ 31 := by omega
    have hin1179 : ¬ ((Int32.ofNat 4) < 0 ∨ cl1179.slots.size ≤ ((Int32.ofNat 4)).toNatClampNeg) := nat_inb S1179 hlt1179 hn1179
    obtain ⟨T1179, h1179, X1179, e1179, W1179, st1179⟩ := stC X1175 hx hZ e1175 Ar1179 (j := (Int32.ofNat 4)) hin1179 (g := (mkF m 249 #[.val (.int (Int32.ofNat 6)), .val (.ref a2)] [(.int (f 4)), (.int (Int32.ofNat 4)), (.ref b1159), (.ref b1159), (.ref b1157), (.ref b1157)])) rfl rfl (hb hby d3_249)
    rw [nat_clamp (show 4 < 2 ^ 31 by omega)] at W1179 X1179
    refine GoalH.step (T' := T1179) (g' := (mkF m 250 #[.val (.int (Int32.ofNat 6)), .val (.ref a2)] [(.ref b1159), (.ref b1157), (.ref b1157)])) ?_ st1179
    have sz1180 : h1175.size ≤ h1179.size := Nat.le_of_eq W1179.size.symm
    have V1179 : Arf Z h1179 b1159 k1159 .char 6 (fun z => if z = 4 then (nar .char (f 4)) else ((fun z => if z = 3 then (nar .char (f 3)) else ((fun z => if z = 2 then (nar .char (f 2)) else ((fun z => if z = 1 then (nar .char (f 1)) else ((fun z => if z = 0 then (nar .char (f 0)) else ((fun _ => 0)) z)) z)) z)) z)) z) := Arf.set Ar1179 q1179 S1179 H1179 W1179
    have N1179 := Fr.snoc X1179 N1175 (by omega : n0 ≤ b1159)
    refine GoalH.step (T' := T1179) (g' := (mkF m 251 #[.val (.int (Int32.ofNat 6)), .val (.ref a2)] [(.ref b1159), (.ref b1159), (.ref b1157), (.ref b1157)])) ?_ (fun t k => XS.dup X1179.here hx rfl (hb hby d3_250) rfl rfl k)
    refine GoalH.step (T' := T1179) (g' := (mkF m 252 #[.val (.int (Int32.ofNat 6)), .val (.ref a2)] [(.int (Int32.ofNat 5)), (.ref b1159), (.ref b1159), (.ref b1157), (.ref b1157)])) ?_ (fun t k => XS.iconst X1179.here hx rfl (hb hby d3_251) k)
    refine GoalH.step (T' := T1179) (g' := (mkF m 253 #[.val (.int (Int32.ofNat 6)), .val (.ref a2)] [(.ref a2), (.int (Int32.ofNat 5)), (.ref b1159), (.ref b1159), (.ref b1157), (.ref b1157)])) ?_ (fun t k => XS.aloadN X1179.here hx rfl (hb hby d3_252) rfl rfl k)
    refine GoalH.step (T' := T1179) (g' := (mkF m 254 #[.val (.int (Int32.ofNat 6)), .val (.ref a2)] [(.int (Int32.ofNat 5)), (.ref a2), (.int (Int32.ofNat 5)), (.ref b1159), (.ref b1159), (.ref b1157), (.ref b1157)])) ?_ (fun t k => XS.iconst X1179.here hx rfl (hb hby d3_253) k)
    have f1182 : Arf Z h1179 a2 k1 .char 10 f := (f1178.other W1179 (nne (by omega)))
    obtain ⟨cl1181, Ar1181, q1181, S1181, H1181⟩ := (id f1182)
    have hlt1181 : 5 < 10 := by omega
    have hn1181 : 10 < 2 ^ 31 := by omega
    have hin1181 : ¬ ((Int32.ofNat 5) < 0 ∨ cl1181.slots.size ≤ ((Int32.ofNat 5)).toNatClampNeg) := nat_inb S1181 hlt1181 hn1181
    have hat1181 : cl1181.slots[((Int32.ofNat 5)).toNatClampNeg]? = some (.int (f 5)) := by rw [nat_clamp (show 5 < 2 ^ 31 by omega)]; exact H1181 _ hlt1181
    refine GoalH.step (T' := T1179) (g' := (mkF m 255 #[.val (.int (Int32.ofNat 6)), .val (.ref a2)] [(.int (f 5)), (.int (Int32.ofNat 5)), (.ref b1159), (.ref b1159), (.ref b1157), (.ref b1157)])) ?_ (fun t k => X1179.caload hx (j := (Int32.ofNat 5)) (v := (.int (f 5))) (by rw [e1179]; exact Ar1181.1) (State.isArrayOf_alike hZ.alike Ar1181.2.1) Ar1181.2.2 hin1181 hat1181 (g := (mkF m 254 #[.val (.int (Int32.ofNat 6)), .val (.ref a2)] [(.int (Int32.ofNat 5)), (.ref a2), (.int (Int32.ofNat 5)), (.ref b1159), (.ref b1159), (.ref b1157), (.ref b1157)])) rfl rfl (hb hby d3_254) _ k)
    obtain ⟨cl1183, Ar1183, q1183, S1183, H1183⟩ := (id V1179)
    have hlt1183 : 5 < 6 := by omega
    have hn1183 : 6 < 2 ^ 31 := by omega
    have hin1183 : ¬ ((Int32.ofNat 5) < 0 ∨ cl1183.slots.size ≤ ((Int32.ofNat 5)).toNatClampNeg) := nat_inb S1183 hlt1183 hn1183
    obtain ⟨T1183, h1183, X1183, e1183, W1183, st1183⟩ := stC X1179 hx hZ e1179 Ar1183 (j := (Int32.ofNat 5)) hin1183 (g := (mkF m 255 #[.val (.int (Int32.ofNat 6)), .val (.ref a2)] [(.int (f 5)), (.int (Int32.ofNat 5)), (.ref b1159), (.ref b1159), (.ref b1157), (.ref b1157)])) rfl rfl (hb hby d3_255)
    rw [nat_clamp (show 5 < 2 ^ 31 by omega)] at W1183 X1183
    refine GoalH.step (T' := T1183) (g' := (mkF m 256 #[.val (.int (Int32.ofNat 6)), .val (.ref a2)] [(.ref b1159), (.ref b1157), (.ref b1157)])) ?_ st1183
    have sz1184 : h1179.size ≤ h1183.size := Nat.le_of_eq W1183.size.symm
    have V1183 : Arf Z h1183 b1159 k1159 .char 6 (fun z => if z = 5 then (nar .char (f 5)) else ((fun z => if z = 4 then (nar .char (f 4)) else ((fun z => if z = 3 then (nar .char (f 3)) else ((fun z => if z = 2 then (nar .char (f 2)) else ((fun z => if z = 1 then (nar .char (f 1)) else ((fun z => if z = 0 then (nar .char (f 0)) else ((fun _ => 0)) z)) z)) z)) z)) z)) z) := Arf.set Ar1183 q1183 S1183 H1183 W1183
    have N1183 := Fr.snoc X1183 N1179 (by omega : n0 ≤ b1159)
    have AC1186 : Arf Z h1183 b1159 k1159 .char 6 f := Arf.congr V1183 (own_st (i := 5) (own_st (i := 4) (own_st (i := 3) (own_st (i := 2) (own_st (i := 1) (own_st (i := 0) (fun j hj => absurd hj (Nat.not_lt_zero _)) (hc 0 (by decide))) (hc 1 (by decide))) (hc 2 (by decide))) (hc 3 (by decide))) (hc 4 (by decide))) (hc 5 (by decide)))
    have f1187 : Old Z n0 h1183 := ((((((((O0.ext E1157).ext E1159).wr W1163 (by omega)).wr W1167 (by omega)).wr W1171 (by omega)).wr W1175 (by omega)).wr W1179 (by omega)).wr W1183 (by omega))
    have f1188 : Exa Z h1183 b1157 "java/lang/String" := (Exa.wr W1183 (Exa.wr W1179 (Exa.wr W1175 (Exa.wr W1171 (Exa.wr W1167 (Exa.wr W1163 (A1157.ext E1159)))))))
    have f1189 : Fld Z h1183 b1157 "java/lang/String" "value" "[B" .null := (Fld.other W1183 (Fld.other W1179 (Fld.other W1175 (Fld.other W1171 (Fld.other W1167 (Fld.other W1163 ((D1157 (Or.inr (hw _ (List.mem_of_getElem? (i := 28) rfl))) (ty := (.array .byte)) (by decide)).ext E1159) (Or.inl (nne (by omega)))) (Or.inl (nne (by omega)))) (Or.inl (nne (by omega)))) (Or.inl (nne (by omega)))) (Or.inl (nne (by omega)))) (Or.inl (nne (by omega))))
    have f1190 : Fld Z h1183 b1157 "java/lang/String" "coder" "B" (.int (0 : Int32)) := (Fld.other W1183 (Fld.other W1179 (Fld.other W1175 (Fld.other W1171 (Fld.other W1167 (Fld.other W1163 ((D1157 (Or.inr (hw _ (List.mem_of_getElem? (i := 29) rfl))) (ty := .byte) (by decide)).ext E1159) (Or.inl (nne (by omega)))) (Or.inl (nne (by omega)))) (Or.inl (nne (by omega)))) (Or.inl (nne (by omega)))) (Or.inl (nne (by omega)))) (Or.inl (nne (by omega))))
    have kk1191 : Keep h0 h1183 [] := (((((((((Keep.refl h0 []).ext E1157).ext E1159).wr W1163 (Or.inr (by omega))).wr W1167 (Or.inr (by omega))).wr W1171 (Or.inr (by omega))).wr W1175 (Or.inr (by omega))).wr W1179 (Or.inr (by omega))).wr W1183 (Or.inr (by omega)))
    have CH1192 := CHr.trans CH0 (CHr.keep kk1191 all0 CH0.1)
    have kk1193 : Keep h0 h1183 [] := (((((((((Keep.refl h0 []).ext E1157).ext E1159).wr W1163 (Or.inr (by omega))).wr W1167 (Or.inr (by omega))).wr W1171 (Or.inr (by omega))).wr W1175 (Or.inr (by omega))).wr W1179 (Or.inr (by omega))).wr W1183 (Or.inr (by omega)))
    have Sf1194 := safeFresh (EL := consts_1) kk1193 CH0.1 (show h0.size ≤ b1157 by omega)
    obtain ⟨v1185, T1185, h1185, L1185, k1185, X1185, e1185, hQ1185, hS, hk1185, hsz1185, C1185, hZ, hown, st1185⟩ := callInitH X1183 hx hZ hown hS (by omega) (own_EW hw) CH1192.1 (allS ⟨show (b1157 : Nat) < h1183.size by omega, Sf1194⟩ all0) rfl (hw _ (List.mem_of_getElem? (i := 16) rfl)) (hw _ (List.mem_of_getElem? (i := 17) rfl)) (hw _ (List.mem_of_getElem? (i := 15) rfl)) (hw _ (List.mem_of_getElem? (i := 18) rfl)) (by decide) (rmI1 l Z a0 hw 6 b1157 b1159 k1159 f .null (.int (0 : Int32)) cs fm h1183 n0 (by omega) SE f1187 f1188 f1189 f1190 (by omega) (fun j hj => hc j (by omega)) AC1186 (by omega) (by omega) (by omega) (by omega)) e1183 (W := 1) (by decide) (by decide) (by decide) (by decide) (g := (mkF m 256 #[.val (.int (Int32.ofNat 6)), .val (.ref a2)] [(.ref b1159), (.ref b1157), (.ref b1157)])) rfl (by rw [hml]; rfl) (a := b1157) (argsL := [(.ref b1159)]) (rest := [(.ref b1157)]) (lenOf pd_18 rfl) rfl (by show 2 * 0 + _ ≤ _; exact Nat.le_of_eq rfl) (hb hby d3_256) rfl
    obtain ⟨rfl, M1185, K1185, Z1185⟩ := hQ1185
    have N1185 := Fr.app N1183 M1185
    refine GoalH.step (T' := T1185) (g' := (mkF m 259 #[.val (.int (Int32.ofNat 6)), .val (.ref a2)] [(.ref b1157)])) ?_ st1185
    have sz1195 : h1183.size ≤ h1185.size := K1185.1
    have CH1185 := CHr.trans CH1192 C1185
    have Sf1185_b1157 := C1185.safe (show (b1157 : Nat) < h1183.size by omega) Sf1194
    refine GoalH.retA X1185 hS (by rw [e1185]; omega) hZ (own_EW hw) (by rw [e1185]; exact CH1185) hx hret rfl rfl rfl (hb hby d3_259) ?_
    have k1196 : Keep h0 h1185 [] := ((((((((((Keep.refl h0 []).ext E1157).ext E1159).wr W1163 (Or.inr (by omega))).wr W1167 (Or.inr (by omega))).wr W1171 (Or.inr (by omega))).wr W1175 (Or.inr (by omega))).wr W1179 (Or.inr (by omega))).wr W1183 (Or.inr (by omega))).trans K1185 (allS (Or.inr (by omega)) all0))
    refine ⟨?_, by decide, by decide⟩
    rw [e1185]
    exact ⟨b1157, rfl, N1185, extKp (extRefl _) k1196 all0, Z1185⟩
  · refine GoalH.step (T' := s₁) (g' := (mkF m 1 #[.val (.int (Int32.ofNat 7)), .val (.ref a2)] [(.int (Int32.ofNat 7))])) ?_ (fun t k => XS.iloadN X0.here hx rfl (hb hby d3_0) rfl k)
    refine GoalH.step (T' := s₁) (g' := (mkF m 260 #[.val (.int (Int32.ofNat 7)), .val (.ref a2)] [])) ?_ (fun t k => XS.tswIn X0.here hx rfl (o := 259) (pc0 := 1) (pc' := 260) rfl (hb hby d3_1) rfl (by decide) (by decide) (by decide) (by decide) k)
    obtain ⟨T1197, h1197, X1197, e1197, E1197, A1197, D1197, -, st1197⟩ := newO X0 hx hZ hown (hw _ (List.mem_of_getElem? (i := 13) rfl)) (hw _ (List.mem_of_getElem? (i := 14) rfl)) (hw _ (List.mem_of_getElem? (i := 15) rfl)) e0 (g := (mkF m 260 #[.val (.int (Int32.ofNat 7)), .val (.ref a2)] [])) rfl (hb hby d3_260) (by decide) (by decide)
    obtain ⟨b1197, g1197⟩ : ∃ z, z = h0.size := ⟨_, rfl⟩
    rw [← g1197] at A1197 D1197 st1197
    refine GoalH.step (T' := T1197) (g' := (mkF m 263 #[.val (.int (Int32.ofNat 7)), .val (.ref a2)] [(.ref b1197)])) ?_ st1197
    have sz1198 : h0.size ≤ h1197.size := E1197.1
    have lt_b1197 : b1197 < h1197.size := A1197.lt
    refine GoalH.step (T' := T1197) (g' := (mkF m 264 #[.val (.int (Int32.ofNat 7)), .val (.ref a2)] [(.ref b1197), (.ref b1197)])) ?_ (fun t k => XS.dup X1197.here hx rfl (hb hby d3_263) rfl rfl k)
    refine GoalH.step (T' := T1197) (g' := (mkF m 266 #[.val (.int (Int32.ofNat 7)), .val (.ref a2)] [(.int (Int32.ofNat 7)), (.ref b1197), (.ref b1197)])) ?_ (fun t k => XS.bipush X1197.here hx rfl (hb hby d3_264) k)
    obtain ⟨T1199, h1199, k1199, X1199, e1199, E1199, A1199, st1199⟩ := newP X1197 hx hZ (hw _ (List.mem_of_getElem? (i := 1) rfl)) e1197 (g := (mkF m 266 #[.val (.int (Int32.ofNat 7)), .val (.ref a2)] [(.int (Int32.ofNat 7)), (.ref b1197), (.ref b1197)])) rfl (hb hby d3_266) rfl (by decide) (cap := 7) (by decide) (by decide) (by decide) (by decide)
    obtain ⟨b1199, g1199⟩ : ∃ z, z = h1197.size := ⟨_, rfl⟩
    rw [← g1199] at A1199 st1199
    refine GoalH.step (T' := T1199) (g' := (mkF m 268 #[.val (.int (Int32.ofNat 7)), .val (.ref a2)] [(.ref b1199), (.ref b1197), (.ref b1197)])) ?_ st1199
    have sz1200 : h1197.size ≤ h1199.size := E1199.1
    have lt_b1199 : b1199 < h1199.size := A1199.lt
    have V1199 : Arf Z h1199 b1199 k1199 .char 7 (fun _ => 0) := Arf.new A1199 rfl rfl
    refine GoalH.step (T' := T1199) (g' := (mkF m 269 #[.val (.int (Int32.ofNat 7)), .val (.ref a2)] [(.ref b1199), (.ref b1199), (.ref b1197), (.ref b1197)])) ?_ (fun t k => XS.dup X1199.here hx rfl (hb hby d3_268) rfl rfl k)
    refine GoalH.step (T' := T1199) (g' := (mkF m 270 #[.val (.int (Int32.ofNat 7)), .val (.ref a2)] [(.int (Int32.ofNat 0)), (.ref b1199), (.ref b1199), (.ref b1197), (.ref b1197)])) ?_ (fun t k => XS.iconst X1199.here hx rfl (hb hby d3_269) k)
    refine GoalH.step (T' := T1199) (g' := (mkF m 271 #[.val (.int (Int32.ofNat 7)), .val (.ref a2)] [(.ref a2), (.int (Int32.ofNat 0)), (.ref b1199), (.ref b1199), (.ref b1197), (.ref b1197)])) ?_ (fun t k => XS.aloadN X1199.here hx rfl (hb hby d3_270) rfl rfl k)
    refine GoalH.step (T' := T1199) (g' := (mkF m 272 #[.val (.int (Int32.ofNat 7)), .val (.ref a2)] [(.int (Int32.ofNat 0)), (.ref a2), (.int (Int32.ofNat 0)), (.ref b1199), (.ref b1199), (.ref b1197), (.ref b1197)])) ?_ (fun t k => XS.iconst X1199.here hx rfl (hb hby d3_271) k)
    have f1202 : Arf Z h1199 a2 k1 .char 10 f := ((A2.ext E1197).ext E1199)
    obtain ⟨cl1201, Ar1201, q1201, S1201, H1201⟩ := (id f1202)
    have hlt1201 : 0 < 10 := by omega
    have hn1201 : 10 < 2 ^ 31 := by omega
    have hin1201 : ¬ ((Int32.ofNat 0) < 0 ∨ cl1201.slots.size ≤ ((Int32.ofNat 0)).toNatClampNeg) := nat_inb S1201 hlt1201 hn1201
    have hat1201 : cl1201.slots[((Int32.ofNat 0)).toNatClampNeg]? = some (.int (f 0)) := by rw [nat_clamp (show 0 < 2 ^ 31 by omega)]; exact H1201 _ hlt1201
    refine GoalH.step (T' := T1199) (g' := (mkF m 273 #[.val (.int (Int32.ofNat 7)), .val (.ref a2)] [(.int (f 0)), (.int (Int32.ofNat 0)), (.ref b1199), (.ref b1199), (.ref b1197), (.ref b1197)])) ?_ (fun t k => X1199.caload hx (j := (Int32.ofNat 0)) (v := (.int (f 0))) (by rw [e1199]; exact Ar1201.1) (State.isArrayOf_alike hZ.alike Ar1201.2.1) Ar1201.2.2 hin1201 hat1201 (g := (mkF m 272 #[.val (.int (Int32.ofNat 7)), .val (.ref a2)] [(.int (Int32.ofNat 0)), (.ref a2), (.int (Int32.ofNat 0)), (.ref b1199), (.ref b1199), (.ref b1197), (.ref b1197)])) rfl rfl (hb hby d3_272) _ k)
    obtain ⟨cl1203, Ar1203, q1203, S1203, H1203⟩ := (id V1199)
    have hlt1203 : 0 < 7 := by omega
    have hn1203 : 7 < 2 ^ 31 := by omega
    have hin1203 : ¬ ((Int32.ofNat 0) < 0 ∨ cl1203.slots.size ≤ ((Int32.ofNat 0)).toNatClampNeg) := nat_inb S1203 hlt1203 hn1203
    obtain ⟨T1203, h1203, X1203, e1203, W1203, st1203⟩ := stC X1199 hx hZ e1199 Ar1203 (j := (Int32.ofNat 0)) hin1203 (g := (mkF m 273 #[.val (.int (Int32.ofNat 7)), .val (.ref a2)] [(.int (f 0)), (.int (Int32.ofNat 0)), (.ref b1199), (.ref b1199), (.ref b1197), (.ref b1197)])) rfl rfl (hb hby d3_273)
    rw [nat_clamp (show 0 < 2 ^ 31 by omega)] at W1203 X1203
    refine GoalH.step (T' := T1203) (g' := (mkF m 274 #[.val (.int (Int32.ofNat 7)), .val (.ref a2)] [(.ref b1199), (.ref b1197), (.ref b1197)])) ?_ st1203
    have sz1204 : h1199.size ≤ h1203.size := Nat.le_of_eq W1203.size.symm
    have V1203 : Arf Z h1203 b1199 k1199 .char 7 (fun z => if z = 0 then (nar .char (f 0)) else ((fun _ => 0)) z) := Arf.set Ar1203 q1203 S1203 H1203 W1203
    have N1203 := Fr.snoc X1203 N0 (by omega : n0 ≤ b1199)
    refine GoalH.step (T' := T1203) (g' := (mkF m 275 #[.val (.int (Int32.ofNat 7)), .val (.ref a2)] [(.ref b1199), (.ref b1199), (.ref b1197), (.ref b1197)])) ?_ (fun t k => XS.dup X1203.here hx rfl (hb hby d3_274) rfl rfl k)
    refine GoalH.step (T' := T1203) (g' := (mkF m 276 #[.val (.int (Int32.ofNat 7)), .val (.ref a2)] [(.int (Int32.ofNat 1)), (.ref b1199), (.ref b1199), (.ref b1197), (.ref b1197)])) ?_ (fun t k => XS.iconst X1203.here hx rfl (hb hby d3_275) k)
    refine GoalH.step (T' := T1203) (g' := (mkF m 277 #[.val (.int (Int32.ofNat 7)), .val (.ref a2)] [(.ref a2), (.int (Int32.ofNat 1)), (.ref b1199), (.ref b1199), (.ref b1197), (.ref b1197)])) ?_ (fun t k => XS.aloadN X1203.here hx rfl (hb hby d3_276) rfl rfl k)
    refine GoalH.step (T' := T1203) (g' := (mkF m 278 #[.val (.int (Int32.ofNat 7)), .val (.ref a2)] [(.int (Int32.ofNat 1)), (.ref a2), (.int (Int32.ofNat 1)), (.ref b1199), (.ref b1199), (.ref b1197), (.ref b1197)])) ?_ (fun t k => XS.iconst X1203.here hx rfl (hb hby d3_277) k)
    have f1206 : Arf Z h1203 a2 k1 .char 10 f := (f1202.other W1203 (nne (by omega)))
    obtain ⟨cl1205, Ar1205, q1205, S1205, H1205⟩ := (id f1206)
    have hlt1205 : 1 < 10 := by omega
    have hn1205 : 10 < 2 ^ 31 := by omega
    have hin1205 : ¬ ((Int32.ofNat 1) < 0 ∨ cl1205.slots.size ≤ ((Int32.ofNat 1)).toNatClampNeg) := nat_inb S1205 hlt1205 hn1205
    have hat1205 : cl1205.slots[((Int32.ofNat 1)).toNatClampNeg]? = some (.int (f 1)) := by rw [nat_clamp (show 1 < 2 ^ 31 by omega)]; exact H1205 _ hlt1205
    refine GoalH.step (T' := T1203) (g' := (mkF m 279 #[.val (.int (Int32.ofNat 7)), .val (.ref a2)] [(.int (f 1)), (.int (Int32.ofNat 1)), (.ref b1199), (.ref b1199), (.ref b1197), (.ref b1197)])) ?_ (fun t k => X1203.caload hx (j := (Int32.ofNat 1)) (v := (.int (f 1))) (by rw [e1203]; exact Ar1205.1) (State.isArrayOf_alike hZ.alike Ar1205.2.1) Ar1205.2.2 hin1205 hat1205 (g := (mkF m 278 #[.val (.int (Int32.ofNat 7)), .val (.ref a2)] [(.int (Int32.ofNat 1)), (.ref a2), (.int (Int32.ofNat 1)), (.ref b1199), (.ref b1199), (.ref b1197), (.ref b1197)])) rfl rfl (hb hby d3_278) _ k)
    obtain ⟨cl1207, Ar1207, q1207, S1207, H1207⟩ := (id V1203)
    have hlt1207 : 1 < 7 := by omega
    have hn1207 : 7 < 2 ^ 31 := by omega
    have hin1207 : ¬ ((Int32.ofNat 1) < 0 ∨ cl1207.slots.size ≤ ((Int32.ofNat 1)).toNatClampNeg) := nat_inb S1207 hlt1207 hn1207
    obtain ⟨T1207, h1207, X1207, e1207, W1207, st1207⟩ := stC X1203 hx hZ e1203 Ar1207 (j := (Int32.ofNat 1)) hin1207 (g := (mkF m 279 #[.val (.int (Int32.ofNat 7)), .val (.ref a2)] [(.int (f 1)), (.int (Int32.ofNat 1)), (.ref b1199), (.ref b1199), (.ref b1197), (.ref b1197)])) rfl rfl (hb hby d3_279)
    rw [nat_clamp (show 1 < 2 ^ 31 by omega)] at W1207 X1207
    refine GoalH.step (T' := T1207) (g' := (mkF m 280 #[.val (.int (Int32.ofNat 7)), .val (.ref a2)] [(.ref b1199), (.ref b1197), (.ref b1197)])) ?_ st1207
    have sz1208 : h1203.size ≤ h1207.size := Nat.le_of_eq W1207.size.symm
    have V1207 : Arf Z h1207 b1199 k1199 .char 7 (fun z => if z = 1 then (nar .char (f 1)) else ((fun z => if z = 0 then (nar .char (f 0)) else ((fun _ => 0)) z)) z) := Arf.set Ar1207 q1207 S1207 H1207 W1207
    have N1207 := Fr.snoc X1207 N1203 (by omega : n0 ≤ b1199)
    refine GoalH.step (T' := T1207) (g' := (mkF m 281 #[.val (.int (Int32.ofNat 7)), .val (.ref a2)] [(.ref b1199), (.ref b1199), (.ref b1197), (.ref b1197)])) ?_ (fun t k => XS.dup X1207.here hx rfl (hb hby d3_280) rfl rfl k)
    refine GoalH.step (T' := T1207) (g' := (mkF m 282 #[.val (.int (Int32.ofNat 7)), .val (.ref a2)] [(.int (Int32.ofNat 2)), (.ref b1199), (.ref b1199), (.ref b1197), (.ref b1197)])) ?_ (fun t k => XS.iconst X1207.here hx rfl (hb hby d3_281) k)
    refine GoalH.step (T' := T1207) (g' := (mkF m 283 #[.val (.int (Int32.ofNat 7)), .val (.ref a2)] [(.ref a2), (.int (Int32.ofNat 2)), (.ref b1199), (.ref b1199), (.ref b1197), (.ref b1197)])) ?_ (fun t k => XS.aloadN X1207.here hx rfl (hb hby d3_282) rfl rfl k)
    refine GoalH.step (T' := T1207) (g' := (mkF m 284 #[.val (.int (Int32.ofNat 7)), .val (.ref a2)] [(.int (Int32.ofNat 2)), (.ref a2), (.int (Int32.ofNat 2)), (.ref b1199), (.ref b1199), (.ref b1197), (.ref b1197)])) ?_ (fun t k => XS.iconst X1207.here hx rfl (hb hby d3_283) k)
    have f1210 : Arf Z h1207 a2 k1 .char 10 f := (f1206.other W1207 (nne (by omega)))
    obtain ⟨cl1209, Ar1209, q1209, S1209, H1209⟩ := (id f1210)
    have hlt1209 : 2 < 10 := by omega
    have hn1209 : 10 < 2 ^ 31 := by omega
    have hin1209 : ¬ ((Int32.ofNat 2) < 0 ∨ cl1209.slots.size ≤ ((Int32.ofNat 2)).toNatClampNeg) := nat_inb S1209 hlt1209 hn1209
    have hat1209 : cl1209.slots[((Int32.ofNat 2)).toNatClampNeg]? = some (.int (f 2)) := by rw [nat_clamp (show 2 < 2 ^ 31 by omega)]; exact H1209 _ hlt1209
    refine GoalH.step (T' := T1207) (g' := (mkF m 285 #[.val (.int (Int32.ofNat 7)), .val (.ref a2)] [(.int (f 2)), (.int (Int32.ofNat 2)), (.ref b1199), (.ref b1199), (.ref b1197), (.ref b1197)])) ?_ (fun t k => X1207.caload hx (j := (Int32.ofNat 2)) (v := (.int (f 2))) (by rw [e1207]; exact Ar1209.1) (State.isArrayOf_alike hZ.alike Ar1209.2.1) Ar1209.2.2 hin1209 hat1209 (g := (mkF m 284 #[.val (.int (Int32.ofNat 7)), .val (.ref a2)] [(.int (Int32.ofNat 2)), (.ref a2), (.int (Int32.ofNat 2)), (.ref b1199), (.ref b1199), (.ref b1197), (.ref b1197)])) rfl rfl (hb hby d3_284) _ k)
    obtain ⟨cl1211, Ar1211, q1211, S1211, H1211⟩ := (id V1207)
    have hlt1211 : 2 < 7 := by omega
    have hn1211 : 7 < 2 ^ 31 := by omega
    have hin1211 : ¬ ((Int32.ofNat 2) < 0 ∨ cl1211.slots.size ≤ ((Int32.ofNat 2)).toNatClampNeg) := nat_inb S1211 hlt1211 hn1211
    obtain ⟨T1211, h1211, X1211, e1211, W1211, st1211⟩ := stC X1207 hx hZ e1207 Ar1211 (j := (Int32.ofNat 2)) hin1211 (g := (mkF m 285 #[.val (.int (Int32.ofNat 7)), .val (.ref a2)] [(.int (f 2)), (.int (Int32.ofNat 2)), (.ref b1199), (.ref b1199), (.ref b1197), (.ref b1197)])) rfl rfl (hb hby d3_285)
    rw [nat_clamp (show 2 < 2 ^ 31 by omega)] at W1211 X1211
    refine GoalH.step (T' := T1211) (g' := (mkF m 286 #[.val (.int (Int32.ofNat 7)), .val (.ref a2)] [(.ref b1199), (.ref b1197), (.ref b1197)])) ?_ st1211
    have sz1212 : h1207.size ≤ h1211.size := Nat.le_of_eq W1211.size.symm
    have V1211 : Arf Z h1211 b1199 k1199 .char 7 (fun z => if z = 2 then (nar .char (f 2)) else ((fun z => if z = 1 then (nar .char (f 1)) else ((fun z => if z = 0 then (nar .char (f 0)) else ((fun _ => 0)) z)) z)) z) := Arf.set Ar1211 q1211 S1211 H1211 W1211
    have N1211 := Fr.snoc X1211 N1207 (by omega : n0 ≤ b1199)
    refine GoalH.step (T' := T1211) (g' := (mkF m 287 #[.val (.int (Int32.ofNat 7)), .val (.ref a2)] [(.ref b1199), (.ref b1199), (.ref b1197), (.ref b1197)])) ?_ (fun t k => XS.dup X1211.here hx rfl (hb hby d3_286) rfl rfl k)
    refine GoalH.step (T' := T1211) (g' := (mkF m 288 #[.val (.int (Int32.ofNat 7)), .val (.ref a2)] [(.int (Int32.ofNat 3)), (.ref b1199), (.ref b1199), (.ref b1197), (.ref b1197)])) ?_ (fun t k => XS.iconst X1211.here hx rfl (hb hby d3_287) k)
    refine GoalH.step (T' := T1211) (g' := (mkF m 289 #[.val (.int (Int32.ofNat 7)), .val (.ref a2)] [(.ref a2), (.int (Int32.ofNat 3)), (.ref b1199), (.ref b1199), (.ref b1197), (.ref b1197)])) ?_ (fun t k => XS.aloadN X1211.here hx rfl (hb hby d3_288) rfl rfl k)
    refine GoalH.step (T' := T1211) (g' := (mkF m 290 #[.val (.int (Int32.ofNat 7)), .val (.ref a2)] [(.int (Int32.ofNat 3)), (.ref a2), (.int (Int32.ofNat 3)), (.ref b1199), (.ref b1199), (.ref b1197), (.ref b1197)])) ?_ (fun t k => XS.iconst X1211.here hx rfl (hb hby d3_289) k)
    have f1214 : Arf Z h1211 a2 k1 .char 10 f := (f1210.other W1211 (nne (by omega)))
    obtain ⟨cl1213, Ar1213, q1213, S1213, H1213⟩ := (id f1214)
    have hlt1213 : 3 < 10 := by omega
    have hn1213 : 10 < 2 ^ 31 := by omega
    have hin1213 : ¬ ((Int32.ofNat 3) < 0 ∨ cl1213.slots.size ≤ ((Int32.ofNat 3)).toNatClampNeg) := nat_inb S1213 hlt1213 hn1213
    have hat1213 : cl1213.slots[((Int32.ofNat 3)).toNatClampNeg]? = some (.int (f 3)) := by rw [nat_clamp (show 3 < 2 ^ 31 by omega)]; exact H1213 _ hlt1213
    refine GoalH.step (T' := T1211) (g' := (mkF m 291 #[.val (.int (Int32.ofNat 7)), .val (.ref a2)] [(.int (f 3)), (.int (Int32.ofNat 3)), (.ref b1199), (.ref b1199), (.ref b1197), (.ref b1197)])) ?_ (fun t k => X1211.caload hx (j := (Int32.ofNat 3)) (v := (.int (f 3))) (by rw [e1211]; exact Ar1213.1) (State.isArrayOf_alike hZ.alike Ar1213.2.1) Ar1213.2.2 hin1213 hat1213 (g := (mkF m 290 #[.val (.int (Int32.ofNat 7)), .val (.ref a2)] [(.int (Int32.ofNat 3)), (.ref a2), (.int (Int32.ofNat 3)), (.ref b1199), (.ref b1199), (.ref b1197), (.ref b1197)])) rfl rfl (hb hby d3_290) _ k)
    obtain ⟨cl1215, Ar1215, q1215, S1215, H1215⟩ := (id V1211)
    have hlt1215 : 3 < 7 := by omega
    have hn1215 : 7 < 2 ^ 31 := by omega
    have hin1215 : ¬ ((Int32.ofNat 3) < 0 ∨ cl1215.slots.size ≤ ((Int32.ofNat 3)).toNatClampNeg) := nat_inb S1215 hlt1215 hn1215
    obtain ⟨T1215, h1215, X1215, e1215, W1215, st1215⟩ := stC X1211 hx hZ e1211 Ar1215 (j := (Int32.ofNat 3)) hin1215 (g := (mkF m 291 #[.val (.int (Int32.ofNat 7)), .val (.ref a2)] [(.int (f 3)), (.int (Int32.ofNat 3)), (.ref b1199), (.ref b1199), (.ref b1197), (.ref b1197)])) rfl rfl (hb hby d3_291)
    rw [nat_clamp (show 3 < 2 ^ 31 by omega)] at W1215 X1215
    refine GoalH.step (T' := T1215) (g' := (mkF m 292 #[.val (.int (Int32.ofNat 7)), .val (.ref a2)] [(.ref b1199), (.ref b1197), (.ref b1197)])) ?_ st1215
    have sz1216 : h1211.size ≤ h1215.size := Nat.le_of_eq W1215.size.symm
    have V1215 : Arf Z h1215 b1199 k1199 .char 7 (fun z => if z = 3 then (nar .char (f 3)) else ((fun z => if z = 2 then (nar .char (f 2)) else ((fun z => if z = 1 then (nar .char (f 1)) else ((fun z => if z = 0 then (nar .char (f 0)) else ((fun _ => 0)) z)) z)) z)) z) := Arf.set Ar1215 q1215 S1215 H1215 W1215
    have N1215 := Fr.snoc X1215 N1211 (by omega : n0 ≤ b1199)
    refine GoalH.step (T' := T1215) (g' := (mkF m 293 #[.val (.int (Int32.ofNat 7)), .val (.ref a2)] [(.ref b1199), (.ref b1199), (.ref b1197), (.ref b1197)])) ?_ (fun t k => XS.dup X1215.here hx rfl (hb hby d3_292) rfl rfl k)
    refine GoalH.step (T' := T1215) (g' := (mkF m 294 #[.val (.int (Int32.ofNat 7)), .val (.ref a2)] [(.int (Int32.ofNat 4)), (.ref b1199), (.ref b1199), (.ref b1197), (.ref b1197)])) ?_ (fun t k => XS.iconst X1215.here hx rfl (hb hby d3_293) k)
    refine GoalH.step (T' := T1215) (g' := (mkF m 295 #[.val (.int (Int32.ofNat 7)), .val (.ref a2)] [(.ref a2), (.int (Int32.ofNat 4)), (.ref b1199), (.ref b1199), (.ref b1197), (.ref b1197)])) ?_ (fun t k => XS.aloadN X1215.here hx rfl (hb hby d3_294) rfl rfl k)
    refine GoalH.step (T' := T1215) (g' := (mkF m 296 #[.val (.int (Int32.ofNat 7)), .val (.ref a2)] [(.int (Int32.ofNat 4)), (.ref a2), (.int (Int32.ofNat 4)), (.ref b1199), (.ref b1199), (.ref b1197), (.ref b1197)])) ?_ (fun t k => XS.iconst X1215.here hx rfl (hb hby d3_295) k)
    have f1218 : Arf Z h1215 a2 k1 .char 10 f := (f1214.other W1215 (nne (by omega)))
    obtain ⟨cl1217, Ar1217, q1217, S1217, H1217⟩ := (id f1218)
    have hlt1217 : 4 < 10 := by omega
    have hn1217 : 10 < 2 ^ 31 := by omega
    have hin1217 : ¬ ((Int32.ofNat 4) < 0 ∨ cl1217.slots.size ≤ ((Int32.ofNat 4)).toNatClampNeg) := nat_inb S1217 hlt1217 hn1217
    have hat1217 : cl1217.slots[((Int32.ofNat 4)).toNatClampNeg]? = some (.int (f 4)) := by rw [nat_clamp (show 4 < 2 ^ 31 by omega)]; exact H1217 _ hlt1217
    refine GoalH.step (T' := T1215) (g' := (mkF m 297 #[.val (.int (Int32.ofNat 7)), .val (.ref a2)] [(.int (f 4)), (.int (Int32.ofNat 4)), (.ref b1199), (.ref b1199), (.ref b1197), (.ref b1197)])) ?_ (fun t k => X1215.caload hx (j := (Int32.ofNat 4)) (v := (.int (f 4))) (by rw [e1215]; exact Ar1217.1) (State.isArrayOf_alike hZ.alike Ar1217.2.1) Ar1217.2.2 hin1217 hat1217 (g := (mkF m 296 #[.val (.int (Int32.ofNat 7)), .val (.ref a2)] [(.int (Int32.ofNat 4)), (.ref a2), (.int (Int32.ofNat 4)), (.ref b1199), (.ref b1199), (.ref b1197), (.ref b1197)])) rfl rfl (hb hby d3_296) _ k)
    obtain ⟨cl1219, Ar1219, q1219, S1219, H1219⟩ := (id V1215)
    have hlt1219 : 4 < 7 := by omega
    have hn1219 : 7 < 2 ^ 31 := by omega
    have hin1219 : ¬ ((Int32.ofNat 4) < 0 ∨ cl1219.slots.size ≤ ((Int32.ofNat 4)).toNatClampNeg) := nat_inb S1219 hlt1219 hn1219
    obtain ⟨T1219, h1219, X1219, e1219, W1219, st1219⟩ := stC X1215 hx hZ e1215 Ar1219 (j := (Int32.ofNat 4)) hin1219 (g := (mkF m 297 #[.val (.int (Int32.ofNat 7)), .val (.ref a2)] [(.int (f 4)), (.int (Int32.ofNat 4)), (.ref b1199), (.ref b1199), (.ref b1197), (.ref b1197)])) rfl rfl (hb hby d3_297)
    rw [nat_clamp (show 4 < 2 ^ 31 by omega)] at W1219 X1219
    refine GoalH.step (T' := T1219) (g' := (mkF m 298 #[.val (.int (Int32.ofNat 7)), .val (.ref a2)] [(.ref b1199), (.ref b1197), (.ref b1197)])) ?_ st1219
    have sz1220 : h1215.size ≤ h1219.size := Nat.le_of_eq W1219.size.symm
    have V1219 : Arf Z h1219 b1199 k1199 .char 7 (fun z => if z = 4 then (nar .char (f 4)) else ((fun z => if z = 3 then (nar .char (f 3)) else ((fun z => if z = 2 then (nar .char (f 2)) else ((fun z => if z = 1 then (nar .char (f 1)) else ((fun z => if z = 0 then (nar .char (f 0)) else ((fun _ => 0)) z)) z)) z)) z)) z) := Arf.set Ar1219 q1219 S1219 H1219 W1219
    have N1219 := Fr.snoc X1219 N1215 (by omega : n0 ≤ b1199)
    refine GoalH.step (T' := T1219) (g' := (mkF m 299 #[.val (.int (Int32.ofNat 7)), .val (.ref a2)] [(.ref b1199), (.ref b1199), (.ref b1197), (.ref b1197)])) ?_ (fun t k => XS.dup X1219.here hx rfl (hb hby d3_298) rfl rfl k)
    refine GoalH.step (T' := T1219) (g' := (mkF m 300 #[.val (.int (Int32.ofNat 7)), .val (.ref a2)] [(.int (Int32.ofNat 5)), (.ref b1199), (.ref b1199), (.ref b1197), (.ref b1197)])) ?_ (fun t k => XS.iconst X1219.here hx rfl (hb hby d3_299) k)
    refine GoalH.step (T' := T1219) (g' := (mkF m 301 #[.val (.int (Int32.ofNat 7)), .val (.ref a2)] [(.ref a2), (.int (Int32.ofNat 5)), (.ref b1199), (.ref b1199), (.ref b1197), (.ref b1197)])) ?_ (fun t k => XS.aloadN X1219.here hx rfl (hb hby d3_300) rfl rfl k)
    refine GoalH.step (T' := T1219) (g' := (mkF m 302 #[.val (.int (Int32.ofNat 7)), .val (.ref a2)] [(.int (Int32.ofNat 5)), (.ref a2), (.int (Int32.ofNat 5)), (.ref b1199), (.ref b1199), (.ref b1197), (.ref b1197)])) ?_ (fun t k => XS.iconst X1219.here hx rfl (hb hby d3_301) k)
    have f1222 : Arf Z h1219 a2 k1 .char 10 f := (f1218.other W1219 (nne (by omega)))
    obtain ⟨cl1221, Ar1221, q1221, S1221, H1221⟩ := (id f1222)
    have hlt1221 : 5 < 10 := by omega
    have hn1221 : 10 < 2 ^ 31 := by omega
    have hin1221 : ¬ ((Int32.ofNat 5) < 0 ∨ cl1221.slots.size ≤ ((Int32.ofNat 5)).toNatClampNeg) := nat_inb S1221 hlt1221 hn1221
    have hat1221 : cl1221.slots[((Int32.ofNat 5)).toNatClampNeg]? = some (.int (f 5)) := by rw [nat_clamp (show 5 < 2 ^ 31 by omega)]; exact H1221 _ hlt1221
    refine GoalH.step (T' := T1219) (g' := (mkF m 303 #[.val (.int (Int32.ofNat 7)), .val (.ref a2)] [(.int (f 5)), (.int (Int32.ofNat 5)), (.ref b1199), (.ref b1199), (.ref b1197), (.ref b1197)])) ?_ (fun t k => X1219.caload hx (j := (Int32.ofNat 5)) (v := (.int (f 5))) (by rw [e1219]; exact Ar1221.1) (State.isArrayOf_alike hZ.alike Ar1221.2.1) Ar1221.2.2 hin1221 hat1221 (g := (mkF m 302 #[.val (.int (Int32.ofNat 7)), .val (.ref a2)] [(.int (Int32.ofNat 5)), (.ref a2), (.int (Int32.ofNat 5)), (.ref b1199), (.ref b1199), (.ref b1197), (.ref b1197)])) rfl rfl (hb hby d3_302) _ k)
    obtain ⟨cl1223, Ar1223, q1223, S1223, H1223⟩ := (id V1219)
    have hlt1223 : 5 < 7 := by omega
    have hn1223 : 7 < 2 ^ 31 := by omega
    have hin1223 : ¬ ((Int32.ofNat 5) < 0 ∨ cl1223.slots.size ≤ ((Int32.ofNat 5)).toNatClampNeg) := nat_inb S1223 hlt1223 hn1223
    obtain ⟨T1223, h1223, X1223, e1223, W1223, st1223⟩ := stC X1219 hx hZ e1219 Ar1223 (j := (Int32.ofNat 5)) hin1223 (g := (mkF m 303 #[.val (.int (Int32.ofNat 7)), .val (.ref a2)] [(.int (f 5)), (.int (Int32.ofNat 5)), (.ref b1199), (.ref b1199), (.ref b1197), (.ref b1197)])) rfl rfl (hb hby d3_303)
    rw [nat_clamp (show 5 < 2 ^ 31 by omega)] at W1223 X1223
    refine GoalH.step (T' := T1223) (g' := (mkF m 304 #[.val (.int (Int32.ofNat 7)), .val (.ref a2)] [(.ref b1199), (.ref b1197), (.ref b1197)])) ?_ st1223
    have sz1224 : h1219.size ≤ h1223.size := Nat.le_of_eq W1223.size.symm
    have V1223 : Arf Z h1223 b1199 k1199 .char 7 (fun z => if z = 5 then (nar .char (f 5)) else ((fun z => if z = 4 then (nar .char (f 4)) else ((fun z => if z = 3 then (nar .char (f 3)) else ((fun z => if z = 2 then (nar .char (f 2)) else ((fun z => if z = 1 then (nar .char (f 1)) else ((fun z => if z = 0 then (nar .char (f 0)) else ((fun _ => 0)) z)) z)) z)) z)) z)) z) := Arf.set Ar1223 q1223 S1223 H1223 W1223
    have N1223 := Fr.snoc X1223 N1219 (by omega : n0 ≤ b1199)
    refine GoalH.step (T' := T1223) (g' := (mkF m 305 #[.val (.int (Int32.ofNat 7)), .val (.ref a2)] [(.ref b1199), (.ref b1199), (.ref b1197), (.ref b1197)])) ?_ (fun t k => XS.dup X1223.here hx rfl (hb hby d3_304) rfl rfl k)
    refine GoalH.step (T' := T1223) (g' := (mkF m 307 #[.val (.int (Int32.ofNat 7)), .val (.ref a2)] [(.int (Int32.ofNat 6)), (.ref b1199), (.ref b1199), (.ref b1197), (.ref b1197)])) ?_ (fun t k => XS.bipush X1223.here hx rfl (hb hby d3_305) k)
    refine GoalH.step (T' := T1223) (g' := (mkF m 308 #[.val (.int (Int32.ofNat 7)), .val (.ref a2)] [(.ref a2), (.int (Int32.ofNat 6)), (.ref b1199), (.ref b1199), (.ref b1197), (.ref b1197)])) ?_ (fun t k => XS.aloadN X1223.here hx rfl (hb hby d3_307) rfl rfl k)
    refine GoalH.step (T' := T1223) (g' := (mkF m 310 #[.val (.int (Int32.ofNat 7)), .val (.ref a2)] [(.int (Int32.ofNat 6)), (.ref a2), (.int (Int32.ofNat 6)), (.ref b1199), (.ref b1199), (.ref b1197), (.ref b1197)])) ?_ (fun t k => XS.bipush X1223.here hx rfl (hb hby d3_308) k)
    have f1226 : Arf Z h1223 a2 k1 .char 10 f := (f1222.other W1223 (nne (by omega)))
    obtain ⟨cl1225, Ar1225, q1225, S1225, H1225⟩ := (id f1226)
    have hlt1225 : 6 < 10 := by omega
    have hn1225 : 10 < 2 ^ 31 := by omega
    have hin1225 : ¬ ((Int32.ofNat 6) < 0 ∨ cl1225.slots.size ≤ ((Int32.ofNat 6)).toNatClampNeg) := nat_inb S1225 hlt1225 hn1225
    have hat1225 : cl1225.slots[((Int32.ofNat 6)).toNatClampNeg]? = some (.int (f 6)) := by rw [nat_clamp (show 6 < 2 ^ 31 by omega)]; exact H1225 _ hlt1225
    refine GoalH.step (T' := T1223) (g' := (mkF m 311 #[.val (.int (Int32.ofNat 7)), .val (.ref a2)] [(.int (f 6)), (.int (Int32.ofNat 6)), (.ref b1199), (.ref b1199), (.ref b1197), (.ref b1197)])) ?_ (fun t k => X1223.caload hx (j := (Int32.ofNat 6)) (v := (.int (f 6))) (by rw [e1223]; exact Ar1225.1) (State.isArrayOf_alike hZ.alike Ar1225.2.1) Ar1225.2.2 hin1225 hat1225 (g := (mkF m 310 #[.val (.int (Int32.ofNat 7)), .val (.ref a2)] [(.int (Int32.ofNat 6)), (.ref a2), (.int (Int32.ofNat 6)), (.ref b1199), (.ref b1199), (.ref b1197), (.ref b1197)])) rfl rfl (hb hby d3_310) _ k)
    obtain ⟨cl1227, Ar1227, q1227, S1227, H1227⟩ := (id V1223)
    have hlt1227 : 6 < 7 := by omega
    have hn1227 : 7 < 2 ^ 31 := by omega
    have hin1227 : ¬ ((Int32.ofNat 6) < 0 ∨ cl1227.slots.size ≤ ((Int32.ofNat 6)).toNatClampNeg) := nat_inb S1227 hlt1227 hn1227
    obtain ⟨T1227, h1227, X1227, e1227, W1227, st1227⟩ := stC X1223 hx hZ e1223 Ar1227 (j := (Int32.ofNat 6)) hin1227 (g := (mkF m 311 #[.val (.int (Int32.ofNat 7)), .val (.ref a2)] [(.int (f 6)), (.int (Int32.ofNat 6)), (.ref b1199), (.ref b1199), (.ref b1197), (.ref b1197)])) rfl rfl (hb hby d3_311)
    rw [nat_clamp (show 6 < 2 ^ 31 by omega)] at W1227 X1227
    refine GoalH.step (T' := T1227) (g' := (mkF m 312 #[.val (.int (Int32.ofNat 7)), .val (.ref a2)] [(.ref b1199), (.ref b1197), (.ref b1197)])) ?_ st1227
    have sz1228 : h1223.size ≤ h1227.size := Nat.le_of_eq W1227.size.symm
    have V1227 : Arf Z h1227 b1199 k1199 .char 7 (fun z => if z = 6 then (nar .char (f 6)) else ((fun z => if z = 5 then (nar .char (f 5)) else ((fun z => if z = 4 then (nar .char (f 4)) else ((fun z => if z = 3 then (nar .char (f 3)) else ((fun z => if z = 2 then (nar .char (f 2)) else ((fun z => if z = 1 then (nar .char (f 1)) else ((fun z => if z = 0 then (nar .char (f 0)) else ((fun _ => 0)) z)) z)) z)) z)) z)) z)) z) := Arf.set Ar1227 q1227 S1227 H1227 W1227
    have N1227 := Fr.snoc X1227 N1223 (by omega : n0 ≤ b1199)
    have AC1230 : Arf Z h1227 b1199 k1199 .char 7 f := Arf.congr V1227 (own_st (i := 6) (own_st (i := 5) (own_st (i := 4) (own_st (i := 3) (own_st (i := 2) (own_st (i := 1) (own_st (i := 0) (fun j hj => absurd hj (Nat.not_lt_zero _)) (hc 0 (by decide))) (hc 1 (by decide))) (hc 2 (by decide))) (hc 3 (by decide))) (hc 4 (by decide))) (hc 5 (by decide))) (hc 6 (by decide)))
    have f1231 : Old Z n0 h1227 := (((((((((O0.ext E1197).ext E1199).wr W1203 (by omega)).wr W1207 (by omega)).wr W1211 (by omega)).wr W1215 (by omega)).wr W1219 (by omega)).wr W1223 (by omega)).wr W1227 (by omega))
    have f1232 : Exa Z h1227 b1197 "java/lang/String" := (Exa.wr W1227 (Exa.wr W1223 (Exa.wr W1219 (Exa.wr W1215 (Exa.wr W1211 (Exa.wr W1207 (Exa.wr W1203 (A1197.ext E1199))))))))
    have f1233 : Fld Z h1227 b1197 "java/lang/String" "value" "[B" .null := (Fld.other W1227 (Fld.other W1223 (Fld.other W1219 (Fld.other W1215 (Fld.other W1211 (Fld.other W1207 (Fld.other W1203 ((D1197 (Or.inr (hw _ (List.mem_of_getElem? (i := 28) rfl))) (ty := (.array .byte)) (by decide)).ext E1199) (Or.inl (nne (by omega)))) (Or.inl (nne (by omega)))) (Or.inl (nne (by omega)))) (Or.inl (nne (by omega)))) (Or.inl (nne (by omega)))) (Or.inl (nne (by omega)))) (Or.inl (nne (by omega))))
    have f1234 : Fld Z h1227 b1197 "java/lang/String" "coder" "B" (.int (0 : Int32)) := (Fld.other W1227 (Fld.other W1223 (Fld.other W1219 (Fld.other W1215 (Fld.other W1211 (Fld.other W1207 (Fld.other W1203 ((D1197 (Or.inr (hw _ (List.mem_of_getElem? (i := 29) rfl))) (ty := .byte) (by decide)).ext E1199) (Or.inl (nne (by omega)))) (Or.inl (nne (by omega)))) (Or.inl (nne (by omega)))) (Or.inl (nne (by omega)))) (Or.inl (nne (by omega)))) (Or.inl (nne (by omega)))) (Or.inl (nne (by omega))))
    have kk1235 : Keep h0 h1227 [] := ((((((((((Keep.refl h0 []).ext E1197).ext E1199).wr W1203 (Or.inr (by omega))).wr W1207 (Or.inr (by omega))).wr W1211 (Or.inr (by omega))).wr W1215 (Or.inr (by omega))).wr W1219 (Or.inr (by omega))).wr W1223 (Or.inr (by omega))).wr W1227 (Or.inr (by omega)))
    have CH1236 := CHr.trans CH0 (CHr.keep kk1235 all0 CH0.1)
    have kk1237 : Keep h0 h1227 [] := ((((((((((Keep.refl h0 []).ext E1197).ext E1199).wr W1203 (Or.inr (by omega))).wr W1207 (Or.inr (by omega))).wr W1211 (Or.inr (by omega))).wr W1215 (Or.inr (by omega))).wr W1219 (Or.inr (by omega))).wr W1223 (Or.inr (by omega))).wr W1227 (Or.inr (by omega)))
    have Sf1238 := safeFresh (EL := consts_1) kk1237 CH0.1 (show h0.size ≤ b1197 by omega)
    obtain ⟨v1229, T1229, h1229, L1229, k1229, X1229, e1229, hQ1229, hS, hk1229, hsz1229, C1229, hZ, hown, st1229⟩ := callInitH X1227 hx hZ hown hS (by omega) (own_EW hw) CH1236.1 (allS ⟨show (b1197 : Nat) < h1227.size by omega, Sf1238⟩ all0) rfl (hw _ (List.mem_of_getElem? (i := 16) rfl)) (hw _ (List.mem_of_getElem? (i := 17) rfl)) (hw _ (List.mem_of_getElem? (i := 15) rfl)) (hw _ (List.mem_of_getElem? (i := 18) rfl)) (by decide) (rmI1 l Z a0 hw 7 b1197 b1199 k1199 f .null (.int (0 : Int32)) cs fm h1227 n0 (by omega) SE f1231 f1232 f1233 f1234 (by omega) (fun j hj => hc j (by omega)) AC1230 (by omega) (by omega) (by omega) (by omega)) e1227 (W := 1) (by decide) (by decide) (by decide) (by decide) (g := (mkF m 312 #[.val (.int (Int32.ofNat 7)), .val (.ref a2)] [(.ref b1199), (.ref b1197), (.ref b1197)])) rfl (by rw [hml]; rfl) (a := b1197) (argsL := [(.ref b1199)]) (rest := [(.ref b1197)]) (lenOf pd_18 rfl) rfl (by show 2 * 0 + _ ≤ _; exact Nat.le_of_eq rfl) (hb hby d3_312) rfl
    obtain ⟨rfl, M1229, K1229, Z1229⟩ := hQ1229
    have N1229 := Fr.app N1227 M1229
    refine GoalH.step (T' := T1229) (g' := (mkF m 315 #[.val (.int (Int32.ofNat 7)), .val (.ref a2)] [(.ref b1197)])) ?_ st1229
    have sz1239 : h1227.size ≤ h1229.size := K1229.1
    have CH1229 := CHr.trans CH1236 C1229
    have Sf1229_b1197 := C1229.safe (show (b1197 : Nat) < h1227.size by omega) Sf1238
    refine GoalH.retA X1229 hS (by rw [e1229]; omega) hZ (own_EW hw) (by rw [e1229]; exact CH1229) hx hret rfl rfl rfl (hb hby d3_315) ?_
    have k1240 : Keep h0 h1229 [] := (((((((((((Keep.refl h0 []).ext E1197).ext E1199).wr W1203 (Or.inr (by omega))).wr W1207 (Or.inr (by omega))).wr W1211 (Or.inr (by omega))).wr W1215 (Or.inr (by omega))).wr W1219 (Or.inr (by omega))).wr W1223 (Or.inr (by omega))).wr W1227 (Or.inr (by omega))).trans K1229 (allS (Or.inr (by omega)) all0))
    refine ⟨?_, by decide, by decide⟩
    rw [e1229]
    exact ⟨b1197, rfl, N1229, extKp (extRefl _) k1240 all0, Z1229⟩
  · refine GoalH.step (T' := s₁) (g' := (mkF m 1 #[.val (.int (Int32.ofNat 8)), .val (.ref a2)] [(.int (Int32.ofNat 8))])) ?_ (fun t k => XS.iloadN X0.here hx rfl (hb hby d3_0) rfl k)
    refine GoalH.step (T' := s₁) (g' := (mkF m 316 #[.val (.int (Int32.ofNat 8)), .val (.ref a2)] [])) ?_ (fun t k => XS.tswIn X0.here hx rfl (o := 315) (pc0 := 1) (pc' := 316) rfl (hb hby d3_1) rfl (by decide) (by decide) (by decide) (by decide) k)
    obtain ⟨T1241, h1241, X1241, e1241, E1241, A1241, D1241, -, st1241⟩ := newO X0 hx hZ hown (hw _ (List.mem_of_getElem? (i := 13) rfl)) (hw _ (List.mem_of_getElem? (i := 14) rfl)) (hw _ (List.mem_of_getElem? (i := 15) rfl)) e0 (g := (mkF m 316 #[.val (.int (Int32.ofNat 8)), .val (.ref a2)] [])) rfl (hb hby d3_316) (by decide) (by decide)
    obtain ⟨b1241, g1241⟩ : ∃ z, z = h0.size := ⟨_, rfl⟩
    rw [← g1241] at A1241 D1241 st1241
    refine GoalH.step (T' := T1241) (g' := (mkF m 319 #[.val (.int (Int32.ofNat 8)), .val (.ref a2)] [(.ref b1241)])) ?_ st1241
    have sz1242 : h0.size ≤ h1241.size := E1241.1
    have lt_b1241 : b1241 < h1241.size := A1241.lt
    refine GoalH.step (T' := T1241) (g' := (mkF m 320 #[.val (.int (Int32.ofNat 8)), .val (.ref a2)] [(.ref b1241), (.ref b1241)])) ?_ (fun t k => XS.dup X1241.here hx rfl (hb hby d3_319) rfl rfl k)
    refine GoalH.step (T' := T1241) (g' := (mkF m 322 #[.val (.int (Int32.ofNat 8)), .val (.ref a2)] [(.int (Int32.ofNat 8)), (.ref b1241), (.ref b1241)])) ?_ (fun t k => XS.bipush X1241.here hx rfl (hb hby d3_320) k)
    obtain ⟨T1243, h1243, k1243, X1243, e1243, E1243, A1243, st1243⟩ := newP X1241 hx hZ (hw _ (List.mem_of_getElem? (i := 1) rfl)) e1241 (g := (mkF m 322 #[.val (.int (Int32.ofNat 8)), .val (.ref a2)] [(.int (Int32.ofNat 8)), (.ref b1241), (.ref b1241)])) rfl (hb hby d3_322) rfl (by decide) (cap := 8) (by decide) (by decide) (by decide) (by decide)
    obtain ⟨b1243, g1243⟩ : ∃ z, z = h1241.size := ⟨_, rfl⟩
    rw [← g1243] at A1243 st1243
    refine GoalH.step (T' := T1243) (g' := (mkF m 324 #[.val (.int (Int32.ofNat 8)), .val (.ref a2)] [(.ref b1243), (.ref b1241), (.ref b1241)])) ?_ st1243
    have sz1244 : h1241.size ≤ h1243.size := E1243.1
    have lt_b1243 : b1243 < h1243.size := A1243.lt
    have V1243 : Arf Z h1243 b1243 k1243 .char 8 (fun _ => 0) := Arf.new A1243 rfl rfl
    refine GoalH.step (T' := T1243) (g' := (mkF m 325 #[.val (.int (Int32.ofNat 8)), .val (.ref a2)] [(.ref b1243), (.ref b1243), (.ref b1241), (.ref b1241)])) ?_ (fun t k => XS.dup X1243.here hx rfl (hb hby d3_324) rfl rfl k)
    refine GoalH.step (T' := T1243) (g' := (mkF m 326 #[.val (.int (Int32.ofNat 8)), .val (.ref a2)] [(.int (Int32.ofNat 0)), (.ref b1243), (.ref b1243), (.ref b1241), (.ref b1241)])) ?_ (fun t k => XS.iconst X1243.here hx rfl (hb hby d3_325) k)
    refine GoalH.step (T' := T1243) (g' := (mkF m 327 #[.val (.int (Int32.ofNat 8)), .val (.ref a2)] [(.ref a2), (.int (Int32.ofNat 0)), (.ref b1243), (.ref b1243), (.ref b1241), (.ref b1241)])) ?_ (fun t k => XS.aloadN X1243.here hx rfl (hb hby d3_326) rfl rfl k)
    refine GoalH.step (T' := T1243) (g' := (mkF m 328 #[.val (.int (Int32.ofNat 8)), .val (.ref a2)] [(.int (Int32.ofNat 0)), (.ref a2), (.int (Int32.ofNat 0)), (.ref b1243), (.ref b1243), (.ref b1241), (.ref b1241)])) ?_ (fun t k => XS.iconst X1243.here hx rfl (hb hby d3_327) k)
    have f1246 : Arf Z h1243 a2 k1 .char 10 f := ((A2.ext E1241).ext E1243)
    obtain ⟨cl1245, Ar1245, q1245, S1245, H1245⟩ := (id f1246)
    have hlt1245 : 0 < 10 := by omega
    have hn1245 : 10 < 2 ^ 31 := by omega
    have hin1245 : ¬ ((Int32.ofNat 0) < 0 ∨ cl1245.slots.size ≤ ((Int32.ofNat 0)).toNatClampNeg) := nat_inb S1245 hlt1245 hn1245
    have hat1245 : cl1245.slots[((Int32.ofNat 0)).toNatClampNeg]? = some (.int (f 0)) := by rw [nat_clamp (show 0 < 2 ^ 31 by omega)]; exact H1245 _ hlt1245
    refine GoalH.step (T' := T1243) (g' := (mkF m 329 #[.val (.int (Int32.ofNat 8)), .val (.ref a2)] [(.int (f 0)), (.int (Int32.ofNat 0)), (.ref b1243), (.ref b1243), (.ref b1241), (.ref b1241)])) ?_ (fun t k => X1243.caload hx (j := (Int32.ofNat 0)) (v := (.int (f 0))) (by rw [e1243]; exact Ar1245.1) (State.isArrayOf_alike hZ.alike Ar1245.2.1) Ar1245.2.2 hin1245 hat1245 (g := (mkF m 328 #[.val (.int (Int32.ofNat 8)), .val (.ref a2)] [(.int (Int32.ofNat 0)), (.ref a2), (.int (Int32.ofNat 0)), (.ref b1243), (.ref b1243), (.ref b1241), (.ref b1241)])) rfl rfl (hb hby d3_328) _ k)
    obtain ⟨cl1247, Ar1247, q1247, S1247, H1247⟩ := (id V1243)
    have hlt1247 : 0 < 8 := by omega
    have hn1247 : 8 < 2 ^ 31 := by omega
    have hin1247 : ¬ ((Int32.ofNat 0) < 0 ∨ cl1247.slots.size ≤ ((Int32.ofNat 0)).toNatClampNeg) := nat_inb S1247 hlt1247 hn1247
    obtain ⟨T1247, h1247, X1247, e1247, W1247, st1247⟩ := stC X1243 hx hZ e1243 Ar1247 (j := (Int32.ofNat 0)) hin1247 (g := (mkF m 329 #[.val (.int (Int32.ofNat 8)), .val (.ref a2)] [(.int (f 0)), (.int (Int32.ofNat 0)), (.ref b1243), (.ref b1243), (.ref b1241), (.ref b1241)])) rfl rfl (hb hby d3_329)
    rw [nat_clamp (show 0 < 2 ^ 31 by omega)] at W1247 X1247
    refine GoalH.step (T' := T1247) (g' := (mkF m 330 #[.val (.int (Int32.ofNat 8)), .val (.ref a2)] [(.ref b1243), (.ref b1241), (.ref b1241)])) ?_ st1247
    have sz1248 : h1243.size ≤ h1247.size := Nat.le_of_eq W1247.size.symm
    have V1247 : Arf Z h1247 b1243 k1243 .char 8 (fun z => if z = 0 then (nar .char (f 0)) else ((fun _ => 0)) z) := Arf.set Ar1247 q1247 S1247 H1247 W1247
    have N1247 := Fr.snoc X1247 N0 (by omega : n0 ≤ b1243)
    refine GoalH.step (T' := T1247) (g' := (mkF m 331 #[.val (.int (Int32.ofNat 8)), .val (.ref a2)] [(.ref b1243), (.ref b1243), (.ref b1241), (.ref b1241)])) ?_ (fun t k => XS.dup X1247.here hx rfl (hb hby d3_330) rfl rfl k)
    refine GoalH.step (T' := T1247) (g' := (mkF m 332 #[.val (.int (Int32.ofNat 8)), .val (.ref a2)] [(.int (Int32.ofNat 1)), (.ref b1243), (.ref b1243), (.ref b1241), (.ref b1241)])) ?_ (fun t k => XS.iconst X1247.here hx rfl (hb hby d3_331) k)
    refine GoalH.step (T' := T1247) (g' := (mkF m 333 #[.val (.int (Int32.ofNat 8)), .val (.ref a2)] [(.ref a2), (.int (Int32.ofNat 1)), (.ref b1243), (.ref b1243), (.ref b1241), (.ref b1241)])) ?_ (fun t k => XS.aloadN X1247.here hx rfl (hb hby d3_332) rfl rfl k)
    refine GoalH.step (T' := T1247) (g' := (mkF m 334 #[.val (.int (Int32.ofNat 8)), .val (.ref a2)] [(.int (Int32.ofNat 1)), (.ref a2), (.int (Int32.ofNat 1)), (.ref b1243), (.ref b1243), (.ref b1241), (.ref b1241)])) ?_ (fun t k => XS.iconst X1247.here hx rfl (hb hby d3_333) k)
    have f1250 : Arf Z h1247 a2 k1 .char 10 f := (f1246.other W1247 (nne (by omega)))
    obtain ⟨cl1249, Ar1249, q1249, S1249, H1249⟩ := (id f1250)
    have hlt1249 : 1 < 10 := by omega
    have hn1249 : 10 < 2 ^ 31 := by omega
    have hin1249 : ¬ ((Int32.ofNat 1) < 0 ∨ cl1249.slots.size ≤ ((Int32.ofNat 1)).toNatClampNeg) := nat_inb S1249 hlt1249 hn1249
    have hat1249 : cl1249.slots[((Int32.ofNat 1)).toNatClampNeg]? = some (.int (f 1)) := by rw [nat_clamp (show 1 < 2 ^ 31 by omega)]; exact H1249 _ hlt1249
    refine GoalH.step (T' := T1247) (g' := (mkF m 335 #[.val (.int (Int32.ofNat 8)), .val (.ref a2)] [(.int (f 1)), (.int (Int32.ofNat 1)), (.ref b1243), (.ref b1243), (.ref b1241), (.ref b1241)])) ?_ (fun t k => X1247.caload hx (j := (Int32.ofNat 1)) (v := (.int (f 1))) (by rw [e1247]; exact Ar1249.1) (State.isArrayOf_alike hZ.alike Ar1249.2.1) Ar1249.2.2 hin1249 hat1249 (g := (mkF m 334 #[.val (.int (Int32.ofNat 8)), .val (.ref a2)] [(.int (Int32.ofNat 1)), (.ref a2), (.int (Int32.ofNat 1)), (.ref b1243), (.ref b1243), (.ref b1241), (.ref b1241)])) rfl rfl (hb hby d3_334) _ k)
    obtain ⟨cl1251, Ar1251, q1251, S1251, H1251⟩ := (id V1247)
    have hlt1251 : 1 < 8 := by omega
    have hn1251 : 8 < 2 ^ 31 := by omega
    have hin1251 : ¬ ((Int32.ofNat 1) < 0 ∨ cl1251.slots.size ≤ ((Int32.ofNat 1)).toNatClampNeg) := nat_inb S1251 hlt1251 hn1251
    obtain ⟨T1251, h1251, X1251, e1251, W1251, st1251⟩ := stC X1247 hx hZ e1247 Ar1251 (j := (Int32.ofNat 1)) hin1251 (g := (mkF m 335 #[.val (.int (Int32.ofNat 8)), .val (.ref a2)] [(.int (f 1)), (.int (Int32.ofNat 1)), (.ref b1243), (.ref b1243), (.ref b1241), (.ref b1241)])) rfl rfl (hb hby d3_335)
    rw [nat_clamp (show 1 < 2 ^ 31 by omega)] at W1251 X1251
    refine GoalH.step (T' := T1251) (g' := (mkF m 336 #[.val (.int (Int32.ofNat 8)), .val (.ref a2)] [(.ref b1243), (.ref b1241), (.ref b1241)])) ?_ st1251
    have sz1252 : h1247.size ≤ h1251.size := Nat.le_of_eq W1251.size.symm
    have V1251 : Arf Z h1251 b1243 k1243 .char 8 (fun z => if z = 1 then (nar .char (f 1)) else ((fun z => if z = 0 then (nar .char (f 0)) else ((fun _ => 0)) z)) z) := Arf.set Ar1251 q1251 S1251 H1251 W1251
    have N1251 := Fr.snoc X1251 N1247 (by omega : n0 ≤ b1243)
    refine GoalH.step (T' := T1251) (g' := (mkF m 337 #[.val (.int (Int32.ofNat 8)), .val (.ref a2)] [(.ref b1243), (.ref b1243), (.ref b1241), (.ref b1241)])) ?_ (fun t k => XS.dup X1251.here hx rfl (hb hby d3_336) rfl rfl k)
    refine GoalH.step (T' := T1251) (g' := (mkF m 338 #[.val (.int (Int32.ofNat 8)), .val (.ref a2)] [(.int (Int32.ofNat 2)), (.ref b1243), (.ref b1243), (.ref b1241), (.ref b1241)])) ?_ (fun t k => XS.iconst X1251.here hx rfl (hb hby d3_337) k)
    refine GoalH.step (T' := T1251) (g' := (mkF m 339 #[.val (.int (Int32.ofNat 8)), .val (.ref a2)] [(.ref a2), (.int (Int32.ofNat 2)), (.ref b1243), (.ref b1243), (.ref b1241), (.ref b1241)])) ?_ (fun t k => XS.aloadN X1251.here hx rfl (hb hby d3_338) rfl rfl k)
    refine GoalH.step (T' := T1251) (g' := (mkF m 340 #[.val (.int (Int32.ofNat 8)), .val (.ref a2)] [(.int (Int32.ofNat 2)), (.ref a2), (.int (Int32.ofNat 2)), (.ref b1243), (.ref b1243), (.ref b1241), (.ref b1241)])) ?_ (fun t k => XS.iconst X1251.here hx rfl (hb hby d3_339) k)
    have f1254 : Arf Z h1251 a2 k1 .char 10 f := (f1250.other W1251 (nne (by omega)))
    obtain ⟨cl1253, Ar1253, q1253, S1253, H1253⟩ := (id f1254)
    have hlt1253 : 2 < 10 := by omega
    have hn1253 : 10 < 2 ^ 31 := by omega
    have hin1253 : ¬ ((Int32.ofNat 2) < 0 ∨ cl1253.slots.size ≤ ((Int32.ofNat 2)).toNatClampNeg) := nat_inb S1253 hlt1253 hn1253
    have hat1253 : cl1253.slots[((Int32.ofNat 2)).toNatClampNeg]? = some (.int (f 2)) := by rw [nat_clamp (show 2 < 2 ^ 31 by omega)]; exact H1253 _ hlt1253
    refine GoalH.step (T' := T1251) (g' := (mkF m 341 #[.val (.int (Int32.ofNat 8)), .val (.ref a2)] [(.int (f 2)), (.int (Int32.ofNat 2)), (.ref b1243), (.ref b1243), (.ref b1241), (.ref b1241)])) ?_ (fun t k => X1251.caload hx (j := (Int32.ofNat 2)) (v := (.int (f 2))) (by rw [e1251]; exact Ar1253.1) (State.isArrayOf_alike hZ.alike Ar1253.2.1) Ar1253.2.2 hin1253 hat1253 (g := (mkF m 340 #[.val (.int (Int32.ofNat 8)), .val (.ref a2)] [(.int (Int32.ofNat 2)), (.ref a2), (.int (Int32.ofNat 2)), (.ref b1243), (.ref b1243), (.ref b1241), (.ref b1241)])) rfl rfl (hb hby d3_340) _ k)
    obtain ⟨cl1255, Ar1255, q1255, S1255, H1255⟩ := (id V1251)
    have hlt1255 : 2 < 8 := by omega
    have hn1255 : 8 < 2 ^ 31 := by omega
    have hin1255 : ¬ ((Int32.ofNat 2) < 0 ∨ cl1255.slots.size ≤ ((Int32.ofNat 2)).toNatClampNeg) := nat_inb S1255 hlt1255 hn1255
    obtain ⟨T1255, h1255, X1255, e1255, W1255, st1255⟩ := stC X1251 hx hZ e1251 Ar1255 (j := (Int32.ofNat 2)) hin1255 (g := (mkF m 341 #[.val (.int (Int32.ofNat 8)), .val (.ref a2)] [(.int (f 2)), (.int (Int32.ofNat 2)), (.ref b1243), (.ref b1243), (.ref b1241), (.ref b1241)])) rfl rfl (hb hby d3_341)
    rw [nat_clamp (show 2 < 2 ^ 31 by omega)] at W1255 X1255
    refine GoalH.step (T' := T1255) (g' := (mkF m 342 #[.val (.int (Int32.ofNat 8)), .val (.ref a2)] [(.ref b1243), (.ref b1241), (.ref b1241)])) ?_ st1255
    have sz1256 : h1251.size ≤ h1255.size := Nat.le_of_eq W1255.size.symm
    have V1255 : Arf Z h1255 b1243 k1243 .char 8 (fun z => if z = 2 then (nar .char (f 2)) else ((fun z => if z = 1 then (nar .char (f 1)) else ((fun z => if z = 0 then (nar .char (f 0)) else ((fun _ => 0)) z)) z)) z) := Arf.set Ar1255 q1255 S1255 H1255 W1255
    have N1255 := Fr.snoc X1255 N1251 (by omega : n0 ≤ b1243)
    refine GoalH.step (T' := T1255) (g' := (mkF m 343 #[.val (.int (Int32.ofNat 8)), .val (.ref a2)] [(.ref b1243), (.ref b1243), (.ref b1241), (.ref b1241)])) ?_ (fun t k => XS.dup X1255.here hx rfl (hb hby d3_342) rfl rfl k)
    refine GoalH.step (T' := T1255) (g' := (mkF m 344 #[.val (.int (Int32.ofNat 8)), .val (.ref a2)] [(.int (Int32.ofNat 3)), (.ref b1243), (.ref b1243), (.ref b1241), (.ref b1241)])) ?_ (fun t k => XS.iconst X1255.here hx rfl (hb hby d3_343) k)
    refine GoalH.step (T' := T1255) (g' := (mkF m 345 #[.val (.int (Int32.ofNat 8)), .val (.ref a2)] [(.ref a2), (.int (Int32.ofNat 3)), (.ref b1243), (.ref b1243), (.ref b1241), (.ref b1241)])) ?_ (fun t k => XS.aloadN X1255.here hx rfl (hb hby d3_344) rfl rfl k)
    refine GoalH.step (T' := T1255) (g' := (mkF m 346 #[.val (.int (Int32.ofNat 8)), .val (.ref a2)] [(.int (Int32.ofNat 3)), (.ref a2), (.int (Int32.ofNat 3)), (.ref b1243), (.ref b1243), (.ref b1241), (.ref b1241)])) ?_ (fun t k => XS.iconst X1255.here hx rfl (hb hby d3_345) k)
    have f1258 : Arf Z h1255 a2 k1 .char 10 f := (f1254.other W1255 (nne (by omega)))
    obtain ⟨cl1257, Ar1257, q1257, S1257, H1257⟩ := (id f1258)
    have hlt1257 : 3 < 10 := by omega
    have hn1257 : 10 < 2 ^ 31 := by omega
    have hin1257 : ¬ ((Int32.ofNat 3) < 0 ∨ cl1257.slots.size ≤ ((Int32.ofNat 3)).toNatClampNeg) := nat_inb S1257 hlt1257 hn1257
    have hat1257 : cl1257.slots[((Int32.ofNat 3)).toNatClampNeg]? = some (.int (f 3)) := by rw [nat_clamp (show 3 < 2 ^ 31 by omega)]; exact H1257 _ hlt1257
    refine GoalH.step (T' := T1255) (g' := (mkF m 347 #[.val (.int (Int32.ofNat 8)), .val (.ref a2)] [(.int (f 3)), (.int (Int32.ofNat 3)), (.ref b1243), (.ref b1243), (.ref b1241), (.ref b1241)])) ?_ (fun t k => X1255.caload hx (j := (Int32.ofNat 3)) (v := (.int (f 3))) (by rw [e1255]; exact Ar1257.1) (State.isArrayOf_alike hZ.alike Ar1257.2.1) Ar1257.2.2 hin1257 hat1257 (g := (mkF m 346 #[.val (.int (Int32.ofNat 8)), .val (.ref a2)] [(.int (Int32.ofNat 3)), (.ref a2), (.int (Int32.ofNat 3)), (.ref b1243), (.ref b1243), (.ref b1241), (.ref b1241)])) rfl rfl (hb hby d3_346) _ k)
    obtain ⟨cl1259, Ar1259, q1259, S1259, H1259⟩ := (id V1255)
    have hlt1259 : 3 < 8 := by omega
    have hn1259 : 8 < 2 ^ 31 := by omega
    have hin1259 : ¬ ((Int32.ofNat 3) < 0 ∨ cl1259.slots.size ≤ ((Int32.ofNat 3)).toNatClampNeg) := nat_inb S1259 hlt1259 hn1259
    obtain ⟨T1259, h1259, X1259, e1259, W1259, st1259⟩ := stC X1255 hx hZ e1255 Ar1259 (j := (Int32.ofNat 3)) hin1259 (g := (mkF m 347 #[.val (.int (Int32.ofNat 8)), .val (.ref a2)] [(.int (f 3)), (.int (Int32.ofNat 3)), (.ref b1243), (.ref b1243), (.ref b1241), (.ref b1241)])) rfl rfl (hb hby d3_347)
    rw [nat_clamp (show 3 < 2 ^ 31 by omega)] at W1259 X1259
    refine GoalH.step (T' := T1259) (g' := (mkF m 348 #[.val (.int (Int32.ofNat 8)), .val (.ref a2)] [(.ref b1243), (.ref b1241), (.ref b1241)])) ?_ st1259
    have sz1260 : h1255.size ≤ h1259.size := Nat.le_of_eq W1259.size.symm
    have V1259 : Arf Z h1259 b1243 k1243 .char 8 (fun z => if z = 3 then (nar .char (f 3)) else ((fun z => if z = 2 then (nar .char (f 2)) else ((fun z => if z = 1 then (nar .char (f 1)) else ((fun z => if z = 0 then (nar .char (f 0)) else ((fun _ => 0)) z)) z)) z)) z) := Arf.set Ar1259 q1259 S1259 H1259 W1259
    have N1259 := Fr.snoc X1259 N1255 (by omega : n0 ≤ b1243)
    refine GoalH.step (T' := T1259) (g' := (mkF m 349 #[.val (.int (Int32.ofNat 8)), .val (.ref a2)] [(.ref b1243), (.ref b1243), (.ref b1241), (.ref b1241)])) ?_ (fun t k => XS.dup X1259.here hx rfl (hb hby d3_348) rfl rfl k)
    refine GoalH.step (T' := T1259) (g' := (mkF m 350 #[.val (.int (Int32.ofNat 8)), .val (.ref a2)] [(.int (Int32.ofNat 4)), (.ref b1243), (.ref b1243), (.ref b1241), (.ref b1241)])) ?_ (fun t k => XS.iconst X1259.here hx rfl (hb hby d3_349) k)
    refine GoalH.step (T' := T1259) (g' := (mkF m 351 #[.val (.int (Int32.ofNat 8)), .val (.ref a2)] [(.ref a2), (.int (Int32.ofNat 4)), (.ref b1243), (.ref b1243), (.ref b1241), (.ref b1241)])) ?_ (fun t k => XS.aloadN X1259.here hx rfl (hb hby d3_350) rfl rfl k)
    refine GoalH.step (T' := T1259) (g' := (mkF m 352 #[.val (.int (Int32.ofNat 8)), .val (.ref a2)] [(.int (Int32.ofNat 4)), (.ref a2), (.int (Int32.ofNat 4)), (.ref b1243), (.ref b1243), (.ref b1241), (.ref b1241)])) ?_ (fun t k => XS.iconst X1259.here hx rfl (hb hby d3_351) k)
    have f1262 : Arf Z h1259 a2 k1 .char 10 f := (f1258.other W1259 (nne (by omega)))
    obtain ⟨cl1261, Ar1261, q1261, S1261, H1261⟩ := (id f1262)
    have hlt1261 : 4 < 10 := by omega
    have hn1261 : 10 < 2 ^ 31 := by omega
    have hin1261 : ¬ ((Int32.ofNat 4) < 0 ∨ cl1261.slots.size ≤ ((Int32.ofNat 4)).toNatClampNeg) := nat_inb S1261 hlt1261 hn1261
    have hat1261 : cl1261.slots[((Int32.ofNat 4)).toNatClampNeg]? = some (.int (f 4)) := by rw [nat_clamp (show 4 < 2 ^ 31 by omega)]; exact H1261 _ hlt1261
    refine GoalH.step (T' := T1259) (g' := (mkF m 353 #[.val (.int (Int32.ofNat 8)), .val (.ref a2)] [(.int (f 4)), (.int (Int32.ofNat 4)), (.ref b1243), (.ref b1243), (.ref b1241), (.ref b1241)])) ?_ (fun t k => X1259.caload hx (j := (Int32.ofNat 4)) (v := (.int (f 4))) (by rw [e1259]; exact Ar1261.1) (State.isArrayOf_alike hZ.alike Ar1261.2.1) Ar1261.2.2 hin1261 hat1261 (g := (mkF m 352 #[.val (.int (Int32.ofNat 8)), .val (.ref a2)] [(.int (Int32.ofNat 4)), (.ref a2), (.int (Int32.ofNat 4)), (.ref b1243), (.ref b1243), (.ref b1241), (.ref b1241)])) rfl rfl (hb hby d3_352) _ k)
    obtain ⟨cl1263, Ar1263, q1263, S1263, H1263⟩ := (id V1259)
    have hlt1263 : 4 < 8 := by omega
    have hn1263 : 8 < 2 ^ 31 := by omega
    have hin1263 : ¬ ((Int32.ofNat 4) < 0 ∨ cl1263.slots.size ≤ ((Int32.ofNat 4)).toNatClampNeg) := nat_inb S1263 hlt1263 hn1263
    obtain ⟨T1263, h1263, X1263, e1263, W1263, st1263⟩ := stC X1259 hx hZ e1259 Ar1263 (j := (Int32.ofNat 4)) hin1263 (g := (mkF m 353 #[.val (.int (Int32.ofNat 8)), .val (.ref a2)] [(.int (f 4)), (.int (Int32.ofNat 4)), (.ref b1243), (.ref b1243), (.ref b1241), (.ref b1241)])) rfl rfl (hb hby d3_353)
    rw [nat_clamp (show 4 < 2 ^ 31 by omega)] at W1263 X1263
    refine GoalH.step (T' := T1263) (g' := (mkF m 354 #[.val (.int (Int32.ofNat 8)), .val (.ref a2)] [(.ref b1243), (.ref b1241), (.ref b1241)])) ?_ st1263
    have sz1264 : h1259.size ≤ h1263.size := Nat.le_of_eq W1263.size.symm
    have V1263 : Arf Z h1263 b1243 k1243 .char 8 (fun z => if z = 4 then (nar .char (f 4)) else ((fun z => if z = 3 then (nar .char (f 3)) else ((fun z => if z = 2 then (nar .char (f 2)) else ((fun z => if z = 1 then (nar .char (f 1)) else ((fun z => if z = 0 then (nar .char (f 0)) else ((fun _ => 0)) z)) z)) z)) z)) z) := Arf.set Ar1263 q1263 S1263 H1263 W1263
    have N1263 := Fr.snoc X1263 N1259 (by omega : n0 ≤ b1243)
    refine GoalH.step (T' := T1263) (g' := (mkF m 355 #[.val (.int (Int32.ofNat 8)), .val (.ref a2)] [(.ref b1243), (.ref b1243), (.ref b1241), (.ref b1241)])) ?_ (fun t k => XS.dup X1263.here hx rfl (hb hby d3_354) rfl rfl k)
    refine GoalH.step (T' := T1263) (g' := (mkF m 356 #[.val (.int (Int32.ofNat 8)), .val (.ref a2)] [(.int (Int32.ofNat 5)), (.ref b1243), (.ref b1243), (.ref b1241), (.ref b1241)])) ?_ (fun t k => XS.iconst X1263.here hx rfl (hb hby d3_355) k)
    refine GoalH.step (T' := T1263) (g' := (mkF m 357 #[.val (.int (Int32.ofNat 8)), .val (.ref a2)] [(.ref a2), (.int (Int32.ofNat 5)), (.ref b1243), (.ref b1243), (.ref b1241), (.ref b1241)])) ?_ (fun t k => XS.aloadN X1263.here hx rfl (hb hby d3_356) rfl rfl k)
    refine GoalH.step (T' := T1263) (g' := (mkF m 358 #[.val (.int (Int32.ofNat 8)), .val (.ref a2)] [(.int (Int32.ofNat 5)), (.ref a2), (.int (Int32.ofNat 5)), (.ref b1243), (.ref b1243), (.ref b1241), (.ref b1241)])) ?_ (fun t k => XS.iconst X1263.here hx rfl (hb hby d3_357) k)
    have f1266 : Arf Z h1263 a2 k1 .char 10 f := (f1262.other W1263 (nne (by omega)))
    obtain ⟨cl1265, Ar1265, q1265, S1265, H1265⟩ := (id f1266)
    have hlt1265 : 5 < 10 := by omega
    have hn1265 : 10 < 2 ^ 31 := by omega
    have hin1265 : ¬ ((Int32.ofNat 5) < 0 ∨ cl1265.slots.size ≤ ((Int32.ofNat 5)).toNatClampNeg) := nat_inb S1265 hlt1265 hn1265
    have hat1265 : cl1265.slots[((Int32.ofNat 5)).toNatClampNeg]? = some (.int (f 5)) := by rw [nat_clamp (show 5 < 2 ^ 31 by omega)]; exact H1265 _ hlt1265
    refine GoalH.step (T' := T1263) (g' := (mkF m 359 #[.val (.int (Int32.ofNat 8)), .val (.ref a2)] [(.int (f 5)), (.int (Int32.ofNat 5)), (.ref b1243), (.ref b1243), (.ref b1241), (.ref b1241)])) ?_ (fun t k => X1263.caload hx (j := (Int32.ofNat 5)) (v := (.int (f 5))) (by rw [e1263]; exact Ar1265.1) (State.isArrayOf_alike hZ.alike Ar1265.2.1) Ar1265.2.2 hin1265 hat1265 (g := (mkF m 358 #[.val (.int (Int32.ofNat 8)), .val (.ref a2)] [(.int (Int32.ofNat 5)), (.ref a2), (.int (Int32.ofNat 5)), (.ref b1243), (.ref b1243), (.ref b1241), (.ref b1241)])) rfl rfl (hb hby d3_358) _ k)
    obtain ⟨cl1267, Ar1267, q1267, S1267, H1267⟩ := (id V1263)
    have hlt1267 : 5 < 8 := by omega
    have hn1267 : 8 < 2 ^ 31 := by omega
    have hin1267 : ¬ ((Int32.ofNat 5) < 0 ∨ cl1267.slots.size ≤ ((Int32.ofNat 5)).toNatClampNeg) := nat_inb S1267 hlt1267 hn1267
    obtain ⟨T1267, h1267, X1267, e1267, W1267, st1267⟩ := stC X1263 hx hZ e1263 Ar1267 (j := (Int32.ofNat 5)) hin1267 (g := (mkF m 359 #[.val (.int (Int32.ofNat 8)), .val (.ref a2)] [(.int (f 5)), (.int (Int32.ofNat 5)), (.ref b1243), (.ref b1243), (.ref b1241), (.ref b1241)])) rfl rfl (hb hby d3_359)
    rw [nat_clamp (show 5 < 2 ^ 31 by omega)] at W1267 X1267
    refine GoalH.step (T' := T1267) (g' := (mkF m 360 #[.val (.int (Int32.ofNat 8)), .val (.ref a2)] [(.ref b1243), (.ref b1241), (.ref b1241)])) ?_ st1267
    have sz1268 : h1263.size ≤ h1267.size := Nat.le_of_eq W1267.size.symm
    have V1267 : Arf Z h1267 b1243 k1243 .char 8 (fun z => if z = 5 then (nar .char (f 5)) else ((fun z => if z = 4 then (nar .char (f 4)) else ((fun z => if z = 3 then (nar .char (f 3)) else ((fun z => if z = 2 then (nar .char (f 2)) else ((fun z => if z = 1 then (nar .char (f 1)) else ((fun z => if z = 0 then (nar .char (f 0)) else ((fun _ => 0)) z)) z)) z)) z)) z)) z) := Arf.set Ar1267 q1267 S1267 H1267 W1267
    have N1267 := Fr.snoc X1267 N1263 (by omega : n0 ≤ b1243)
    refine GoalH.step (T' := T1267) (g' := (mkF m 361 #[.val (.int (Int32.ofNat 8)), .val (.ref a2)] [(.ref b1243), (.ref b1243), (.ref b1241), (.ref b1241)])) ?_ (fun t k => XS.dup X1267.here hx rfl (hb hby d3_360) rfl rfl k)
    refine GoalH.step (T' := T1267) (g' := (mkF m 363 #[.val (.int (Int32.ofNat 8)), .val (.ref a2)] [(.int (Int32.ofNat 6)), (.ref b1243), (.ref b1243), (.ref b1241), (.ref b1241)])) ?_ (fun t k => XS.bipush X1267.here hx rfl (hb hby d3_361) k)
    refine GoalH.step (T' := T1267) (g' := (mkF m 364 #[.val (.int (Int32.ofNat 8)), .val (.ref a2)] [(.ref a2), (.int (Int32.ofNat 6)), (.ref b1243), (.ref b1243), (.ref b1241), (.ref b1241)])) ?_ (fun t k => XS.aloadN X1267.here hx rfl (hb hby d3_363) rfl rfl k)
    refine GoalH.step (T' := T1267) (g' := (mkF m 366 #[.val (.int (Int32.ofNat 8)), .val (.ref a2)] [(.int (Int32.ofNat 6)), (.ref a2), (.int (Int32.ofNat 6)), (.ref b1243), (.ref b1243), (.ref b1241), (.ref b1241)])) ?_ (fun t k => XS.bipush X1267.here hx rfl (hb hby d3_364) k)
    have f1270 : Arf Z h1267 a2 k1 .char 10 f := (f1266.other W1267 (nne (by omega)))
    obtain ⟨cl1269, Ar1269, q1269, S1269, H1269⟩ := (id f1270)
    have hlt1269 : 6 < 10 := by omega
    have hn1269 : 10 < 2 ^ 31 := by omega
    have hin1269 : ¬ ((Int32.ofNat 6) < 0 ∨ cl1269.slots.size ≤ ((Int32.ofNat 6)).toNatClampNeg) := nat_inb S1269 hlt1269 hn1269
    have hat1269 : cl1269.slots[((Int32.ofNat 6)).toNatClampNeg]? = some (.int (f 6)) := by rw [nat_clamp (show 6 < 2 ^ 31 by omega)]; exact H1269 _ hlt1269
    refine GoalH.step (T' := T1267) (g' := (mkF m 367 #[.val (.int (Int32.ofNat 8)), .val (.ref a2)] [(.int (f 6)), (.int (Int32.ofNat 6)), (.ref b1243), (.ref b1243), (.ref b1241), (.ref b1241)])) ?_ (fun t k => X1267.caload hx (j := (Int32.ofNat 6)) (v := (.int (f 6))) (by rw [e1267]; exact Ar1269.1) (State.isArrayOf_alike hZ.alike Ar1269.2.1) Ar1269.2.2 hin1269 hat1269 (g := (mkF m 366 #[.val (.int (Int32.ofNat 8)), .val (.ref a2)] [(.int (Int32.ofNat 6)), (.ref a2), (.int (Int32.ofNat 6)), (.ref b1243), (.ref b1243), (.ref b1241), (.ref b1241)])) rfl rfl (hb hby d3_366) _ k)
    obtain ⟨cl1271, Ar1271, q1271, S1271, H1271⟩ := (id V1267)
    have hlt1271 : 6 < 8 := by omega
    have hn1271 : 8 < 2 ^ 31 := by omega
    have hin1271 : ¬ ((Int32.ofNat 6) < 0 ∨ cl1271.slots.size ≤ ((Int32.ofNat 6)).toNatClampNeg) := nat_inb S1271 hlt1271 hn1271
    obtain ⟨T1271, h1271, X1271, e1271, W1271, st1271⟩ := stC X1267 hx hZ e1267 Ar1271 (j := (Int32.ofNat 6)) hin1271 (g := (mkF m 367 #[.val (.int (Int32.ofNat 8)), .val (.ref a2)] [(.int (f 6)), (.int (Int32.ofNat 6)), (.ref b1243), (.ref b1243), (.ref b1241), (.ref b1241)])) rfl rfl (hb hby d3_367)
    rw [nat_clamp (show 6 < 2 ^ 31 by omega)] at W1271 X1271
    refine GoalH.step (T' := T1271) (g' := (mkF m 368 #[.val (.int (Int32.ofNat 8)), .val (.ref a2)] [(.ref b1243), (.ref b1241), (.ref b1241)])) ?_ st1271
    have sz1272 : h1267.size ≤ h1271.size := Nat.le_of_eq W1271.size.symm
    have V1271 : Arf Z h1271 b1243 k1243 .char 8 (fun z => if z = 6 then (nar .char (f 6)) else ((fun z => if z = 5 then (nar .char (f 5)) else ((fun z => if z = 4 then (nar .char (f 4)) else ((fun z => if z = 3 then (nar .char (f 3)) else ((fun z => if z = 2 then (nar .char (f 2)) else ((fun z => if z = 1 then (nar .char (f 1)) else ((fun z => if z = 0 then (nar .char (f 0)) else ((fun _ => 0)) z)) z)) z)) z)) z)) z)) z) := Arf.set Ar1271 q1271 S1271 H1271 W1271
    have N1271 := Fr.snoc X1271 N1267 (by omega : n0 ≤ b1243)
    refine GoalH.step (T' := T1271) (g' := (mkF m 369 #[.val (.int (Int32.ofNat 8)), .val (.ref a2)] [(.ref b1243), (.ref b1243), (.ref b1241), (.ref b1241)])) ?_ (fun t k => XS.dup X1271.here hx rfl (hb hby d3_368) rfl rfl k)
    refine GoalH.step (T' := T1271) (g' := (mkF m 371 #[.val (.int (Int32.ofNat 8)), .val (.ref a2)] [(.int (Int32.ofNat 7)), (.ref b1243), (.ref b1243), (.ref b1241), (.ref b1241)])) ?_ (fun t k => XS.bipush X1271.here hx rfl (hb hby d3_369) k)
    refine GoalH.step (T' := T1271) (g' := (mkF m 372 #[.val (.int (Int32.ofNat 8)), .val (.ref a2)] [(.ref a2), (.int (Int32.ofNat 7)), (.ref b1243), (.ref b1243), (.ref b1241), (.ref b1241)])) ?_ (fun t k => XS.aloadN X1271.here hx rfl (hb hby d3_371) rfl rfl k)
    refine GoalH.step (T' := T1271) (g' := (mkF m 374 #[.val (.int (Int32.ofNat 8)), .val (.ref a2)] [(.int (Int32.ofNat 7)), (.ref a2), (.int (Int32.ofNat 7)), (.ref b1243), (.ref b1243), (.ref b1241), (.ref b1241)])) ?_ (fun t k => XS.bipush X1271.here hx rfl (hb hby d3_372) k)
    have f1274 : Arf Z h1271 a2 k1 .char 10 f := (f1270.other W1271 (nne (by omega)))
    obtain ⟨cl1273, Ar1273, q1273, S1273, H1273⟩ := (id f1274)
    have hlt1273 : 7 < 10 := by omega
    have hn1273 : 10 < 2 ^ 31 := by omega
    have hin1273 : ¬ ((Int32.ofNat 7) < 0 ∨ cl1273.slots.size ≤ ((Int32.ofNat 7)).toNatClampNeg) := nat_inb S1273 hlt1273 hn1273
    have hat1273 : cl1273.slots[((Int32.ofNat 7)).toNatClampNeg]? = some (.int (f 7)) := by rw [nat_clamp (show 7 < 2 ^ 31 by omega)]; exact H1273 _ hlt1273
    refine GoalH.step (T' := T1271) (g' := (mkF m 375 #[.val (.int (Int32.ofNat 8)), .val (.ref a2)] [(.int (f 7)), (.int (Int32.ofNat 7)), (.ref b1243), (.ref b1243), (.ref b1241), (.ref b1241)])) ?_ (fun t k => X1271.caload hx (j := (Int32.ofNat 7)) (v := (.int (f 7))) (by rw [e1271]; exact Ar1273.1) (State.isArrayOf_alike hZ.alike Ar1273.2.1) Ar1273.2.2 hin1273 hat1273 (g := (mkF m 374 #[.val (.int (Int32.ofNat 8)), .val (.ref a2)] [(.int (Int32.ofNat 7)), (.ref a2), (.int (Int32.ofNat 7)), (.ref b1243), (.ref b1243), (.ref b1241), (.ref b1241)])) rfl rfl (hb hby d3_374) _ k)
    obtain ⟨cl1275, Ar1275, q1275, S1275, H1275⟩ := (id V1271)
    have hlt1275 : 7 < 8 := by omega
    have hn1275 : 8 < 2 ^ 31 := by omega
    have hin1275 : ¬ ((Int32.ofNat 7) < 0 ∨ cl1275.slots.size ≤ ((Int32.ofNat 7)).toNatClampNeg) := nat_inb S1275 hlt1275 hn1275
    obtain ⟨T1275, h1275, X1275, e1275, W1275, st1275⟩ := stC X1271 hx hZ e1271 Ar1275 (j := (Int32.ofNat 7)) hin1275 (g := (mkF m 375 #[.val (.int (Int32.ofNat 8)), .val (.ref a2)] [(.int (f 7)), (.int (Int32.ofNat 7)), (.ref b1243), (.ref b1243), (.ref b1241), (.ref b1241)])) rfl rfl (hb hby d3_375)
    rw [nat_clamp (show 7 < 2 ^ 31 by omega)] at W1275 X1275
    refine GoalH.step (T' := T1275) (g' := (mkF m 376 #[.val (.int (Int32.ofNat 8)), .val (.ref a2)] [(.ref b1243), (.ref b1241), (.ref b1241)])) ?_ st1275
    have sz1276 : h1271.size ≤ h1275.size := Nat.le_of_eq W1275.size.symm
    have V1275 : Arf Z h1275 b1243 k1243 .char 8 (fun z => if z = 7 then (nar .char (f 7)) else ((fun z => if z = 6 then (nar .char (f 6)) else ((fun z => if z = 5 then (nar .char (f 5)) else ((fun z => if z = 4 then (nar .char (f 4)) else ((fun z => if z = 3 then (nar .char (f 3)) else ((fun z => if z = 2 then (nar .char (f 2)) else ((fun z => if z = 1 then (nar .char (f 1)) else ((fun z => if z = 0 then (nar .char (f 0)) else ((fun _ => 0)) z)) z)) z)) z)) z)) z)) z)) z) := Arf.set Ar1275 q1275 S1275 H1275 W1275
    have N1275 := Fr.snoc X1275 N1271 (by omega : n0 ≤ b1243)
    have AC1278 : Arf Z h1275 b1243 k1243 .char 8 f := Arf.congr V1275 (own_st (i := 7) (own_st (i := 6) (own_st (i := 5) (own_st (i := 4) (own_st (i := 3) (own_st (i := 2) (own_st (i := 1) (own_st (i := 0) (fun j hj => absurd hj (Nat.not_lt_zero _)) (hc 0 (by decide))) (hc 1 (by decide))) (hc 2 (by decide))) (hc 3 (by decide))) (hc 4 (by decide))) (hc 5 (by decide))) (hc 6 (by decide))) (hc 7 (by decide)))
    have f1279 : Old Z n0 h1275 := ((((((((((O0.ext E1241).ext E1243).wr W1247 (by omega)).wr W1251 (by omega)).wr W1255 (by omega)).wr W1259 (by omega)).wr W1263 (by omega)).wr W1267 (by omega)).wr W1271 (by omega)).wr W1275 (by omega))
    have f1280 : Exa Z h1275 b1241 "java/lang/String" := (Exa.wr W1275 (Exa.wr W1271 (Exa.wr W1267 (Exa.wr W1263 (Exa.wr W1259 (Exa.wr W1255 (Exa.wr W1251 (Exa.wr W1247 (A1241.ext E1243)))))))))
    have f1281 : Fld Z h1275 b1241 "java/lang/String" "value" "[B" .null := (Fld.other W1275 (Fld.other W1271 (Fld.other W1267 (Fld.other W1263 (Fld.other W1259 (Fld.other W1255 (Fld.other W1251 (Fld.other W1247 ((D1241 (Or.inr (hw _ (List.mem_of_getElem? (i := 28) rfl))) (ty := (.array .byte)) (by decide)).ext E1243) (Or.inl (nne (by omega)))) (Or.inl (nne (by omega)))) (Or.inl (nne (by omega)))) (Or.inl (nne (by omega)))) (Or.inl (nne (by omega)))) (Or.inl (nne (by omega)))) (Or.inl (nne (by omega)))) (Or.inl (nne (by omega))))
    have f1282 : Fld Z h1275 b1241 "java/lang/String" "coder" "B" (.int (0 : Int32)) := (Fld.other W1275 (Fld.other W1271 (Fld.other W1267 (Fld.other W1263 (Fld.other W1259 (Fld.other W1255 (Fld.other W1251 (Fld.other W1247 ((D1241 (Or.inr (hw _ (List.mem_of_getElem? (i := 29) rfl))) (ty := .byte) (by decide)).ext E1243) (Or.inl (nne (by omega)))) (Or.inl (nne (by omega)))) (Or.inl (nne (by omega)))) (Or.inl (nne (by omega)))) (Or.inl (nne (by omega)))) (Or.inl (nne (by omega)))) (Or.inl (nne (by omega)))) (Or.inl (nne (by omega))))
    have kk1283 : Keep h0 h1275 [] := (((((((((((Keep.refl h0 []).ext E1241).ext E1243).wr W1247 (Or.inr (by omega))).wr W1251 (Or.inr (by omega))).wr W1255 (Or.inr (by omega))).wr W1259 (Or.inr (by omega))).wr W1263 (Or.inr (by omega))).wr W1267 (Or.inr (by omega))).wr W1271 (Or.inr (by omega))).wr W1275 (Or.inr (by omega)))
    have CH1284 := CHr.trans CH0 (CHr.keep kk1283 all0 CH0.1)
    have kk1285 : Keep h0 h1275 [] := (((((((((((Keep.refl h0 []).ext E1241).ext E1243).wr W1247 (Or.inr (by omega))).wr W1251 (Or.inr (by omega))).wr W1255 (Or.inr (by omega))).wr W1259 (Or.inr (by omega))).wr W1263 (Or.inr (by omega))).wr W1267 (Or.inr (by omega))).wr W1271 (Or.inr (by omega))).wr W1275 (Or.inr (by omega)))
    have Sf1286 := safeFresh (EL := consts_1) kk1285 CH0.1 (show h0.size ≤ b1241 by omega)
    obtain ⟨v1277, T1277, h1277, L1277, k1277, X1277, e1277, hQ1277, hS, hk1277, hsz1277, C1277, hZ, hown, st1277⟩ := callInitH X1275 hx hZ hown hS (by omega) (own_EW hw) CH1284.1 (allS ⟨show (b1241 : Nat) < h1275.size by omega, Sf1286⟩ all0) rfl (hw _ (List.mem_of_getElem? (i := 16) rfl)) (hw _ (List.mem_of_getElem? (i := 17) rfl)) (hw _ (List.mem_of_getElem? (i := 15) rfl)) (hw _ (List.mem_of_getElem? (i := 18) rfl)) (by decide) (rmI1 l Z a0 hw 8 b1241 b1243 k1243 f .null (.int (0 : Int32)) cs fm h1275 n0 (by omega) SE f1279 f1280 f1281 f1282 (by omega) (fun j hj => hc j (by omega)) AC1278 (by omega) (by omega) (by omega) (by omega)) e1275 (W := 1) (by decide) (by decide) (by decide) (by decide) (g := (mkF m 376 #[.val (.int (Int32.ofNat 8)), .val (.ref a2)] [(.ref b1243), (.ref b1241), (.ref b1241)])) rfl (by rw [hml]; rfl) (a := b1241) (argsL := [(.ref b1243)]) (rest := [(.ref b1241)]) (lenOf pd_18 rfl) rfl (by show 2 * 0 + _ ≤ _; exact Nat.le_of_eq rfl) (hb hby d3_376) rfl
    obtain ⟨rfl, M1277, K1277, Z1277⟩ := hQ1277
    have N1277 := Fr.app N1275 M1277
    refine GoalH.step (T' := T1277) (g' := (mkF m 379 #[.val (.int (Int32.ofNat 8)), .val (.ref a2)] [(.ref b1241)])) ?_ st1277
    have sz1287 : h1275.size ≤ h1277.size := K1277.1
    have CH1277 := CHr.trans CH1284 C1277
    have Sf1277_b1241 := C1277.safe (show (b1241 : Nat) < h1275.size by omega) Sf1286
    refine GoalH.retA X1277 hS (by rw [e1277]; omega) hZ (own_EW hw) (by rw [e1277]; exact CH1277) hx hret rfl rfl rfl (hb hby d3_379) ?_
    have k1288 : Keep h0 h1277 [] := ((((((((((((Keep.refl h0 []).ext E1241).ext E1243).wr W1247 (Or.inr (by omega))).wr W1251 (Or.inr (by omega))).wr W1255 (Or.inr (by omega))).wr W1259 (Or.inr (by omega))).wr W1263 (Or.inr (by omega))).wr W1267 (Or.inr (by omega))).wr W1271 (Or.inr (by omega))).wr W1275 (Or.inr (by omega))).trans K1277 (allS (Or.inr (by omega)) all0))
    refine ⟨?_, by decide, by decide⟩
    rw [e1277]
    exact ⟨b1241, rfl, N1277, extKp (extRefl _) k1288 all0, Z1277⟩
  · refine GoalH.step (T' := s₁) (g' := (mkF m 1 #[.val (.int (Int32.ofNat 9)), .val (.ref a2)] [(.int (Int32.ofNat 9))])) ?_ (fun t k => XS.iloadN X0.here hx rfl (hb hby d3_0) rfl k)
    refine GoalH.step (T' := s₁) (g' := (mkF m 380 #[.val (.int (Int32.ofNat 9)), .val (.ref a2)] [])) ?_ (fun t k => XS.tswIn X0.here hx rfl (o := 379) (pc0 := 1) (pc' := 380) rfl (hb hby d3_1) rfl (by decide) (by decide) (by decide) (by decide) k)
    obtain ⟨T1289, h1289, X1289, e1289, E1289, A1289, D1289, -, st1289⟩ := newO X0 hx hZ hown (hw _ (List.mem_of_getElem? (i := 13) rfl)) (hw _ (List.mem_of_getElem? (i := 14) rfl)) (hw _ (List.mem_of_getElem? (i := 15) rfl)) e0 (g := (mkF m 380 #[.val (.int (Int32.ofNat 9)), .val (.ref a2)] [])) rfl (hb hby d3_380) (by decide) (by decide)
    obtain ⟨b1289, g1289⟩ : ∃ z, z = h0.size := ⟨_, rfl⟩
    rw [← g1289] at A1289 D1289 st1289
    refine GoalH.step (T' := T1289) (g' := (mkF m 383 #[.val (.int (Int32.ofNat 9)), .val (.ref a2)] [(.ref b1289)])) ?_ st1289
    have sz1290 : h0.size ≤ h1289.size := E1289.1
    have lt_b1289 : b1289 < h1289.size := A1289.lt
    refine GoalH.step (T' := T1289) (g' := (mkF m 384 #[.val (.int (Int32.ofNat 9)), .val (.ref a2)] [(.ref b1289), (.ref b1289)])) ?_ (fun t k => XS.dup X1289.here hx rfl (hb hby d3_383) rfl rfl k)
    refine GoalH.step (T' := T1289) (g' := (mkF m 386 #[.val (.int (Int32.ofNat 9)), .val (.ref a2)] [(.int (Int32.ofNat 9)), (.ref b1289), (.ref b1289)])) ?_ (fun t k => XS.bipush X1289.here hx rfl (hb hby d3_384) k)
    obtain ⟨T1291, h1291, k1291, X1291, e1291, E1291, A1291, st1291⟩ := newP X1289 hx hZ (hw _ (List.mem_of_getElem? (i := 1) rfl)) e1289 (g := (mkF m 386 #[.val (.int (Int32.ofNat 9)), .val (.ref a2)] [(.int (Int32.ofNat 9)), (.ref b1289), (.ref b1289)])) rfl (hb hby d3_386) rfl (by decide) (cap := 9) (by decide) (by decide) (by decide) (by decide)
    obtain ⟨b1291, g1291⟩ : ∃ z, z = h1289.size := ⟨_, rfl⟩
    rw [← g1291] at A1291 st1291
    refine GoalH.step (T' := T1291) (g' := (mkF m 388 #[.val (.int (Int32.ofNat 9)), .val (.ref a2)] [(.ref b1291), (.ref b1289), (.ref b1289)])) ?_ st1291
    have sz1292 : h1289.size ≤ h1291.size := E1291.1
    have lt_b1291 : b1291 < h1291.size := A1291.lt
    have V1291 : Arf Z h1291 b1291 k1291 .char 9 (fun _ => 0) := Arf.new A1291 rfl rfl
    refine GoalH.step (T' := T1291) (g' := (mkF m 389 #[.val (.int (Int32.ofNat 9)), .val (.ref a2)] [(.ref b1291), (.ref b1291), (.ref b1289), (.ref b1289)])) ?_ (fun t k => XS.dup X1291.here hx rfl (hb hby d3_388) rfl rfl k)
    refine GoalH.step (T' := T1291) (g' := (mkF m 390 #[.val (.int (Int32.ofNat 9)), .val (.ref a2)] [(.int (Int32.ofNat 0)), (.ref b1291), (.ref b1291), (.ref b1289), (.ref b1289)])) ?_ (fun t k => XS.iconst X1291.here hx rfl (hb hby d3_389) k)
    refine GoalH.step (T' := T1291) (g' := (mkF m 391 #[.val (.int (Int32.ofNat 9)), .val (.ref a2)] [(.ref a2), (.int (Int32.ofNat 0)), (.ref b1291), (.ref b1291), (.ref b1289), (.ref b1289)])) ?_ (fun t k => XS.aloadN X1291.here hx rfl (hb hby d3_390) rfl rfl k)
    refine GoalH.step (T' := T1291) (g' := (mkF m 392 #[.val (.int (Int32.ofNat 9)), .val (.ref a2)] [(.int (Int32.ofNat 0)), (.ref a2), (.int (Int32.ofNat 0)), (.ref b1291), (.ref b1291), (.ref b1289), (.ref b1289)])) ?_ (fun t k => XS.iconst X1291.here hx rfl (hb hby d3_391) k)
    have f1294 : Arf Z h1291 a2 k1 .char 10 f := ((A2.ext E1289).ext E1291)
    obtain ⟨cl1293, Ar1293, q1293, S1293, H1293⟩ := (id f1294)
    have hlt1293 : 0 < 10 := by omega
    have hn1293 : 10 < 2 ^ 31 := by omega
    have hin1293 : ¬ ((Int32.ofNat 0) < 0 ∨ cl1293.slots.size ≤ ((Int32.ofNat 0)).toNatClampNeg) := nat_inb S1293 hlt1293 hn1293
    have hat1293 : cl1293.slots[((Int32.ofNat 0)).toNatClampNeg]? = some (.int (f 0)) := by rw [nat_clamp (show 0 < 2 ^ 31 by omega)]; exact H1293 _ hlt1293
    refine GoalH.step (T' := T1291) (g' := (mkF m 393 #[.val (.int (Int32.ofNat 9)), .val (.ref a2)] [(.int (f 0)), (.int (Int32.ofNat 0)), (.ref b1291), (.ref b1291), (.ref b1289), (.ref b1289)])) ?_ (fun t k => X1291.caload hx (j := (Int32.ofNat 0)) (v := (.int (f 0))) (by rw [e1291]; exact Ar1293.1) (State.isArrayOf_alike hZ.alike Ar1293.2.1) Ar1293.2.2 hin1293 hat1293 (g := (mkF m 392 #[.val (.int (Int32.ofNat 9)), .val (.ref a2)] [(.int (Int32.ofNat 0)), (.ref a2), (.int (Int32.ofNat 0)), (.ref b1291), (.ref b1291), (.ref b1289), (.ref b1289)])) rfl rfl (hb hby d3_392) _ k)
    obtain ⟨cl1295, Ar1295, q1295, S1295, H1295⟩ := (id V1291)
    have hlt1295 : 0 < 9 := by omega
    have hn1295 : 9 < 2 ^ 31 := by omega
    have hin1295 : ¬ ((Int32.ofNat 0) < 0 ∨ cl1295.slots.size ≤ ((Int32.ofNat 0)).toNatClampNeg) := nat_inb S1295 hlt1295 hn1295
    obtain ⟨T1295, h1295, X1295, e1295, W1295, st1295⟩ := stC X1291 hx hZ e1291 Ar1295 (j := (Int32.ofNat 0)) hin1295 (g := (mkF m 393 #[.val (.int (Int32.ofNat 9)), .val (.ref a2)] [(.int (f 0)), (.int (Int32.ofNat 0)), (.ref b1291), (.ref b1291), (.ref b1289), (.ref b1289)])) rfl rfl (hb hby d3_393)
    rw [nat_clamp (show 0 < 2 ^ 31 by omega)] at W1295 X1295
    refine GoalH.step (T' := T1295) (g' := (mkF m 394 #[.val (.int (Int32.ofNat 9)), .val (.ref a2)] [(.ref b1291), (.ref b1289), (.ref b1289)])) ?_ st1295
    have sz1296 : h1291.size ≤ h1295.size := Nat.le_of_eq W1295.size.symm
    have V1295 : Arf Z h1295 b1291 k1291 .char 9 (fun z => if z = 0 then (nar .char (f 0)) else ((fun _ => 0)) z) := Arf.set Ar1295 q1295 S1295 H1295 W1295
    have N1295 := Fr.snoc X1295 N0 (by omega : n0 ≤ b1291)
    refine GoalH.step (T' := T1295) (g' := (mkF m 395 #[.val (.int (Int32.ofNat 9)), .val (.ref a2)] [(.ref b1291), (.ref b1291), (.ref b1289), (.ref b1289)])) ?_ (fun t k => XS.dup X1295.here hx rfl (hb hby d3_394) rfl rfl k)
    refine GoalH.step (T' := T1295) (g' := (mkF m 396 #[.val (.int (Int32.ofNat 9)), .val (.ref a2)] [(.int (Int32.ofNat 1)), (.ref b1291), (.ref b1291), (.ref b1289), (.ref b1289)])) ?_ (fun t k => XS.iconst X1295.here hx rfl (hb hby d3_395) k)
    refine GoalH.step (T' := T1295) (g' := (mkF m 397 #[.val (.int (Int32.ofNat 9)), .val (.ref a2)] [(.ref a2), (.int (Int32.ofNat 1)), (.ref b1291), (.ref b1291), (.ref b1289), (.ref b1289)])) ?_ (fun t k => XS.aloadN X1295.here hx rfl (hb hby d3_396) rfl rfl k)
    refine GoalH.step (T' := T1295) (g' := (mkF m 398 #[.val (.int (Int32.ofNat 9)), .val (.ref a2)] [(.int (Int32.ofNat 1)), (.ref a2), (.int (Int32.ofNat 1)), (.ref b1291), (.ref b1291), (.ref b1289), (.ref b1289)])) ?_ (fun t k => XS.iconst X1295.here hx rfl (hb hby d3_397) k)
    have f1298 : Arf Z h1295 a2 k1 .char 10 f := (f1294.other W1295 (nne (by omega)))
    obtain ⟨cl1297, Ar1297, q1297, S1297, H1297⟩ := (id f1298)
    have hlt1297 : 1 < 10 := by omega
    have hn1297 : 10 < 2 ^ 31 := by omega
    have hin1297 : ¬ ((Int32.ofNat 1) < 0 ∨ cl1297.slots.size ≤ ((Int32.ofNat 1)).toNatClampNeg) := nat_inb S1297 hlt1297 hn1297
    have hat1297 : cl1297.slots[((Int32.ofNat 1)).toNatClampNeg]? = some (.int (f 1)) := by rw [nat_clamp (show 1 < 2 ^ 31 by omega)]; exact H1297 _ hlt1297
    refine GoalH.step (T' := T1295) (g' := (mkF m 399 #[.val (.int (Int32.ofNat 9)), .val (.ref a2)] [(.int (f 1)), (.int (Int32.ofNat 1)), (.ref b1291), (.ref b1291), (.ref b1289), (.ref b1289)])) ?_ (fun t k => X1295.caload hx (j := (Int32.ofNat 1)) (v := (.int (f 1))) (by rw [e1295]; exact Ar1297.1) (State.isArrayOf_alike hZ.alike Ar1297.2.1) Ar1297.2.2 hin1297 hat1297 (g := (mkF m 398 #[.val (.int (Int32.ofNat 9)), .val (.ref a2)] [(.int (Int32.ofNat 1)), (.ref a2), (.int (Int32.ofNat 1)), (.ref b1291), (.ref b1291), (.ref b1289), (.ref b1289)])) rfl rfl (hb hby d3_398) _ k)
    obtain ⟨cl1299, Ar1299, q1299, S1299, H1299⟩ := (id V1295)
    have hlt1299 : 1 < 9 := by omega
    have hn1299 : 9 < 2 ^ 31 := by omega
    have hin1299 : ¬ ((Int32.ofNat 1) < 0 ∨ cl1299.slots.size ≤ ((Int32.ofNat 1)).toNatClampNeg) := nat_inb S1299 hlt1299 hn1299
    obtain ⟨T1299, h1299, X1299, e1299, W1299, st1299⟩ := stC X1295 hx hZ e1295 Ar1299 (j := (Int32.ofNat 1)) hin1299 (g := (mkF m 399 #[.val (.int (Int32.ofNat 9)), .val (.ref a2)] [(.int (f 1)), (.int (Int32.ofNat 1)), (.ref b1291), (.ref b1291), (.ref b1289), (.ref b1289)])) rfl rfl (hb hby d3_399)
    rw [nat_clamp (show 1 < 2 ^ 31 by omega)] at W1299 X1299
    refine GoalH.step (T' := T1299) (g' := (mkF m 400 #[.val (.int (Int32.ofNat 9)), .val (.ref a2)] [(.ref b1291), (.ref b1289), (.ref b1289)])) ?_ st1299
    have sz1300 : h1295.size ≤ h1299.size := Nat.le_of_eq W1299.size.symm
    have V1299 : Arf Z h1299 b1291 k1291 .char 9 (fun z => if z = 1 then (nar .char (f 1)) else ((fun z => if z = 0 then (nar .char (f 0)) else ((fun _ => 0)) z)) z) := Arf.set Ar1299 q1299 S1299 H1299 W1299
    have N1299 := Fr.snoc X1299 N1295 (by omega : n0 ≤ b1291)
    refine GoalH.step (T' := T1299) (g' := (mkF m 401 #[.val (.int (Int32.ofNat 9)), .val (.ref a2)] [(.ref b1291), (.ref b1291), (.ref b1289), (.ref b1289)])) ?_ (fun t k => XS.dup X1299.here hx rfl (hb hby d3_400) rfl rfl k)
    refine GoalH.step (T' := T1299) (g' := (mkF m 402 #[.val (.int (Int32.ofNat 9)), .val (.ref a2)] [(.int (Int32.ofNat 2)), (.ref b1291), (.ref b1291), (.ref b1289), (.ref b1289)])) ?_ (fun t k => XS.iconst X1299.here hx rfl (hb hby d3_401) k)
    refine GoalH.step (T' := T1299) (g' := (mkF m 403 #[.val (.int (Int32.ofNat 9)), .val (.ref a2)] [(.ref a2), (.int (Int32.ofNat 2)), (.ref b1291), (.ref b1291), (.ref b1289), (.ref b1289)])) ?_ (fun t k => XS.aloadN X1299.here hx rfl (hb hby d3_402) rfl rfl k)
    refine GoalH.step (T' := T1299) (g' := (mkF m 404 #[.val (.int (Int32.ofNat 9)), .val (.ref a2)] [(.int (Int32.ofNat 2)), (.ref a2), (.int (Int32.ofNat 2)), (.ref b1291), (.ref b1291), (.ref b1289), (.ref b1289)])) ?_ (fun t k => XS.iconst X1299.here hx rfl (hb hby d3_403) k)
    have f1302 : Arf Z h1299 a2 k1 .char 10 f := (f1298.other W1299 (nne (by omega)))
    obtain ⟨cl1301, Ar1301, q1301, S1301, H1301⟩ := (id f1302)
    have hlt1301 : 2 < 10 := by omega
    have hn1301 : 10 < 2 ^ 31 := by omega
    have hin1301 : ¬ ((Int32.ofNat 2) < 0 ∨ cl1301.slots.size ≤ ((Int32.ofNat 2)).toNatClampNeg) := nat_inb S1301 hlt1301 hn1301
    have hat1301 : cl1301.slots[((Int32.ofNat 2)).toNatClampNeg]? = some (.int (f 2)) := by rw [nat_clamp (show 2 < 2 ^ 31 by omega)]; exact H1301 _ hlt1301
    refine GoalH.step (T' := T1299) (g' := (mkF m 405 #[.val (.int (Int32.ofNat 9)), .val (.ref a2)] [(.int (f 2)), (.int (Int32.ofNat 2)), (.ref b1291), (.ref b1291), (.ref b1289), (.ref b1289)])) ?_ (fun t k => X1299.caload hx (j := (Int32.ofNat 2)) (v := (.int (f 2))) (by rw [e1299]; exact Ar1301.1) (State.isArrayOf_alike hZ.alike Ar1301.2.1) Ar1301.2.2 hin1301 hat1301 (g := (mkF m 404 #[.val (.int (Int32.ofNat 9)), .val (.ref a2)] [(.int (Int32.ofNat 2)), (.ref a2), (.int (Int32.ofNat 2)), (.ref b1291), (.ref b1291), (.ref b1289), (.ref b1289)])) rfl rfl (hb hby d3_404) _ k)
    obtain ⟨cl1303, Ar1303, q1303, S1303, H1303⟩ := (id V1299)
    have hlt1303 : 2 < 9 := by omega
    have hn1303 : 9 < 2 ^ 31 := by omega
    have hin1303 : ¬ ((Int32.ofNat 2) < 0 ∨ cl1303.slots.size ≤ ((Int32.ofNat 2)).toNatClampNeg) := nat_inb S1303 hlt1303 hn1303
    obtain ⟨T1303, h1303, X1303, e1303, W1303, st1303⟩ := stC X1299 hx hZ e1299 Ar1303 (j := (Int32.ofNat 2)) hin1303 (g := (mkF m 405 #[.val (.int (Int32.ofNat 9)), .val (.ref a2)] [(.int (f 2)), (.int (Int32.ofNat 2)), (.ref b1291), (.ref b1291), (.ref b1289), (.ref b1289)])) rfl rfl (hb hby d3_405)
    rw [nat_clamp (show 2 < 2 ^ 31 by omega)] at W1303 X1303
    refine GoalH.step (T' := T1303) (g' := (mkF m 406 #[.val (.int (Int32.ofNat 9)), .val (.ref a2)] [(.ref b1291), (.ref b1289), (.ref b1289)])) ?_ st1303
    have sz1304 : h1299.size ≤ h1303.size := Nat.le_of_eq W1303.size.symm
    have V1303 : Arf Z h1303 b1291 k1291 .char 9 (fun z => if z = 2 then (nar .char (f 2)) else ((fun z => if z = 1 then (nar .char (f 1)) else ((fun z => if z = 0 then (nar .char (f 0)) else ((fun _ => 0)) z)) z)) z) := Arf.set Ar1303 q1303 S1303 H1303 W1303
    have N1303 := Fr.snoc X1303 N1299 (by omega : n0 ≤ b1291)
    refine GoalH.step (T' := T1303) (g' := (mkF m 407 #[.val (.int (Int32.ofNat 9)), .val (.ref a2)] [(.ref b1291), (.ref b1291), (.ref b1289), (.ref b1289)])) ?_ (fun t k => XS.dup X1303.here hx rfl (hb hby d3_406) rfl rfl k)
    refine GoalH.step (T' := T1303) (g' := (mkF m 408 #[.val (.int (Int32.ofNat 9)), .val (.ref a2)] [(.int (Int32.ofNat 3)), (.ref b1291), (.ref b1291), (.ref b1289), (.ref b1289)])) ?_ (fun t k => XS.iconst X1303.here hx rfl (hb hby d3_407) k)
    refine GoalH.step (T' := T1303) (g' := (mkF m 409 #[.val (.int (Int32.ofNat 9)), .val (.ref a2)] [(.ref a2), (.int (Int32.ofNat 3)), (.ref b1291), (.ref b1291), (.ref b1289), (.ref b1289)])) ?_ (fun t k => XS.aloadN X1303.here hx rfl (hb hby d3_408) rfl rfl k)
    refine GoalH.step (T' := T1303) (g' := (mkF m 410 #[.val (.int (Int32.ofNat 9)), .val (.ref a2)] [(.int (Int32.ofNat 3)), (.ref a2), (.int (Int32.ofNat 3)), (.ref b1291), (.ref b1291), (.ref b1289), (.ref b1289)])) ?_ (fun t k => XS.iconst X1303.here hx rfl (hb hby d3_409) k)
    have f1306 : Arf Z h1303 a2 k1 .char 10 f := (f1302.other W1303 (nne (by omega)))
    obtain ⟨cl1305, Ar1305, q1305, S1305, H1305⟩ := (id f1306)
    have hlt1305 : 3 < 10 := by omega
    have hn1305 : 10 < 2 ^ 31 := by omega
    have hin1305 : ¬ ((Int32.ofNat 3) < 0 ∨ cl1305.slots.size ≤ ((Int32.ofNat 3)).toNatClampNeg) := nat_inb S1305 hlt1305 hn1305
    have hat1305 : cl1305.slots[((Int32.ofNat 3)).toNatClampNeg]? = some (.int (f 3)) := by rw [nat_clamp (show 3 < 2 ^ 31 by omega)]; exact H1305 _ hlt1305
    refine GoalH.step (T' := T1303) (g' := (mkF m 411 #[.val (.int (Int32.ofNat 9)), .val (.ref a2)] [(.int (f 3)), (.int (Int32.ofNat 3)), (.ref b1291), (.ref b1291), (.ref b1289), (.ref b1289)])) ?_ (fun t k => X1303.caload hx (j := (Int32.ofNat 3)) (v := (.int (f 3))) (by rw [e1303]; exact Ar1305.1) (State.isArrayOf_alike hZ.alike Ar1305.2.1) Ar1305.2.2 hin1305 hat1305 (g := (mkF m 410 #[.val (.int (Int32.ofNat 9)), .val (.ref a2)] [(.int (Int32.ofNat 3)), (.ref a2), (.int (Int32.ofNat 3)), (.ref b1291), (.ref b1291), (.ref b1289), (.ref b1289)])) rfl rfl (hb hby d3_410) _ k)
    obtain ⟨cl1307, Ar1307, q1307, S1307, H1307⟩ := (id V1303)
    have hlt1307 : 3 < 9 := by omega
    have hn1307 : 9 < 2 ^ 31 := by omega
    have hin1307 : ¬ ((Int32.ofNat 3) < 0 ∨ cl1307.slots.size ≤ ((Int32.ofNat 3)).toNatClampNeg) := nat_inb S1307 hlt1307 hn1307
    obtain ⟨T1307, h1307, X1307, e1307, W1307, st1307⟩ := stC X1303 hx hZ e1303 Ar1307 (j := (Int32.ofNat 3)) hin1307 (g := (mkF m 411 #[.val (.int (Int32.ofNat 9)), .val (.ref a2)] [(.int (f 3)), (.int (Int32.ofNat 3)), (.ref b1291), (.ref b1291), (.ref b1289), (.ref b1289)])) rfl rfl (hb hby d3_411)
    rw [nat_clamp (show 3 < 2 ^ 31 by omega)] at W1307 X1307
    refine GoalH.step (T' := T1307) (g' := (mkF m 412 #[.val (.int (Int32.ofNat 9)), .val (.ref a2)] [(.ref b1291), (.ref b1289), (.ref b1289)])) ?_ st1307
    have sz1308 : h1303.size ≤ h1307.size := Nat.le_of_eq W1307.size.symm
    have V1307 : Arf Z h1307 b1291 k1291 .char 9 (fun z => if z = 3 then (nar .char (f 3)) else ((fun z => if z = 2 then (nar .char (f 2)) else ((fun z => if z = 1 then (nar .char (f 1)) else ((fun z => if z = 0 then (nar .char (f 0)) else ((fun _ => 0)) z)) z)) z)) z) := Arf.set Ar1307 q1307 S1307 H1307 W1307
    have N1307 := Fr.snoc X1307 N1303 (by omega : n0 ≤ b1291)
    refine GoalH.step (T' := T1307) (g' := (mkF m 413 #[.val (.int (Int32.ofNat 9)), .val (.ref a2)] [(.ref b1291), (.ref b1291), (.ref b1289), (.ref b1289)])) ?_ (fun t k => XS.dup X1307.here hx rfl (hb hby d3_412) rfl rfl k)
    refine GoalH.step (T' := T1307) (g' := (mkF m 414 #[.val (.int (Int32.ofNat 9)), .val (.ref a2)] [(.int (Int32.ofNat 4)), (.ref b1291), (.ref b1291), (.ref b1289), (.ref b1289)])) ?_ (fun t k => XS.iconst X1307.here hx rfl (hb hby d3_413) k)
    refine GoalH.step (T' := T1307) (g' := (mkF m 415 #[.val (.int (Int32.ofNat 9)), .val (.ref a2)] [(.ref a2), (.int (Int32.ofNat 4)), (.ref b1291), (.ref b1291), (.ref b1289), (.ref b1289)])) ?_ (fun t k => XS.aloadN X1307.here hx rfl (hb hby d3_414) rfl rfl k)
    refine GoalH.step (T' := T1307) (g' := (mkF m 416 #[.val (.int (Int32.ofNat 9)), .val (.ref a2)] [(.int (Int32.ofNat 4)), (.ref a2), (.int (Int32.ofNat 4)), (.ref b1291), (.ref b1291), (.ref b1289), (.ref b1289)])) ?_ (fun t k => XS.iconst X1307.here hx rfl (hb hby d3_415) k)
    have f1310 : Arf Z h1307 a2 k1 .char 10 f := (f1306.other W1307 (nne (by omega)))
    obtain ⟨cl1309, Ar1309, q1309, S1309, H1309⟩ := (id f1310)
    have hlt1309 : 4 < 10 := by omega
    have hn1309 : 10 < 2 ^ 31 := by omega
    have hin1309 : ¬ ((Int32.ofNat 4) < 0 ∨ cl1309.slots.size ≤ ((Int32.ofNat 4)).toNatClampNeg) := nat_inb S1309 hlt1309 hn1309
    have hat1309 : cl1309.slots[((Int32.ofNat 4)).toNatClampNeg]? = some (.int (f 4)) := by rw [nat_clamp (show 4 < 2 ^ 31 by omega)]; exact H1309 _ hlt1309
    refine GoalH.step (T' := T1307) (g' := (mkF m 417 #[.val (.int (Int32.ofNat 9)), .val (.ref a2)] [(.int (f 4)), (.int (Int32.ofNat 4)), (.ref b1291), (.ref b1291), (.ref b1289), (.ref b1289)])) ?_ (fun t k => X1307.caload hx (j := (Int32.ofNat 4)) (v := (.int (f 4))) (by rw [e1307]; exact Ar1309.1) (State.isArrayOf_alike hZ.alike Ar1309.2.1) Ar1309.2.2 hin1309 hat1309 (g := (mkF m 416 #[.val (.int (Int32.ofNat 9)), .val (.ref a2)] [(.int (Int32.ofNat 4)), (.ref a2), (.int (Int32.ofNat 4)), (.ref b1291), (.ref b1291), (.ref b1289), (.ref b1289)])) rfl rfl (hb hby d3_416) _ k)
    obtain ⟨cl1311, Ar1311, q1311, S1311, H1311⟩ := (id V1307)
    have hlt1311 : 4 < 9 := by omega
    have hn1311 : 9 < 2 ^ 31 := by omega
    have hin1311 : ¬ ((Int32.ofNat 4) < 0 ∨ cl1311.slots.size ≤ ((Int32.ofNat 4)).toNatClampNeg) := nat_inb S1311 hlt1311 hn1311
    obtain ⟨T1311, h1311, X1311, e1311, W1311, st1311⟩ := stC X1307 hx hZ e1307 Ar1311 (j := (Int32.ofNat 4)) hin1311 (g := (mkF m 417 #[.val (.int (Int32.ofNat 9)), .val (.ref a2)] [(.int (f 4)), (.int (Int32.ofNat 4)), (.ref b1291), (.ref b1291), (.ref b1289), (.ref b1289)])) rfl rfl (hb hby d3_417)
    rw [nat_clamp (show 4 < 2 ^ 31 by omega)] at W1311 X1311
    refine GoalH.step (T' := T1311) (g' := (mkF m 418 #[.val (.int (Int32.ofNat 9)), .val (.ref a2)] [(.ref b1291), (.ref b1289), (.ref b1289)])) ?_ st1311
    have sz1312 : h1307.size ≤ h1311.size := Nat.le_of_eq W1311.size.symm
    have V1311 : Arf Z h1311 b1291 k1291 .char 9 (fun z => if z = 4 then (nar .char (f 4)) else ((fun z => if z = 3 then (nar .char (f 3)) else ((fun z => if z = 2 then (nar .char (f 2)) else ((fun z => if z = 1 then (nar .char (f 1)) else ((fun z => if z = 0 then (nar .char (f 0)) else ((fun _ => 0)) z)) z)) z)) z)) z) := Arf.set Ar1311 q1311 S1311 H1311 W1311
    have N1311 := Fr.snoc X1311 N1307 (by omega : n0 ≤ b1291)
    refine GoalH.step (T' := T1311) (g' := (mkF m 419 #[.val (.int (Int32.ofNat 9)), .val (.ref a2)] [(.ref b1291), (.ref b1291), (.ref b1289), (.ref b1289)])) ?_ (fun t k => XS.dup X1311.here hx rfl (hb hby d3_418) rfl rfl k)
    refine GoalH.step (T' := T1311) (g' := (mkF m 420 #[.val (.int (Int32.ofNat 9)), .val (.ref a2)] [(.int (Int32.ofNat 5)), (.ref b1291), (.ref b1291), (.ref b1289), (.ref b1289)])) ?_ (fun t k => XS.iconst X1311.here hx rfl (hb hby d3_419) k)
    refine GoalH.step (T' := T1311) (g' := (mkF m 421 #[.val (.int (Int32.ofNat 9)), .val (.ref a2)] [(.ref a2), (.int (Int32.ofNat 5)), (.ref b1291), (.ref b1291), (.ref b1289), (.ref b1289)])) ?_ (fun t k => XS.aloadN X1311.here hx rfl (hb hby d3_420) rfl rfl k)
    refine GoalH.step (T' := T1311) (g' := (mkF m 422 #[.val (.int (Int32.ofNat 9)), .val (.ref a2)] [(.int (Int32.ofNat 5)), (.ref a2), (.int (Int32.ofNat 5)), (.ref b1291), (.ref b1291), (.ref b1289), (.ref b1289)])) ?_ (fun t k => XS.iconst X1311.here hx rfl (hb hby d3_421) k)
    have f1314 : Arf Z h1311 a2 k1 .char 10 f := (f1310.other W1311 (nne (by omega)))
    obtain ⟨cl1313, Ar1313, q1313, S1313, H1313⟩ := (id f1314)
    have hlt1313 : 5 < 10 := by omega
    have hn1313 : 10 < 2 ^ 31 := by omega
    have hin1313 : ¬ ((Int32.ofNat 5) < 0 ∨ cl1313.slots.size ≤ ((Int32.ofNat 5)).toNatClampNeg) := nat_inb S1313 hlt1313 hn1313
    have hat1313 : cl1313.slots[((Int32.ofNat 5)).toNatClampNeg]? = some (.int (f 5)) := by rw [nat_clamp (show 5 < 2 ^ 31 by omega)]; exact H1313 _ hlt1313
    refine GoalH.step (T' := T1311) (g' := (mkF m 423 #[.val (.int (Int32.ofNat 9)), .val (.ref a2)] [(.int (f 5)), (.int (Int32.ofNat 5)), (.ref b1291), (.ref b1291), (.ref b1289), (.ref b1289)])) ?_ (fun t k => X1311.caload hx (j := (Int32.ofNat 5)) (v := (.int (f 5))) (by rw [e1311]; exact Ar1313.1) (State.isArrayOf_alike hZ.alike Ar1313.2.1) Ar1313.2.2 hin1313 hat1313 (g := (mkF m 422 #[.val (.int (Int32.ofNat 9)), .val (.ref a2)] [(.int (Int32.ofNat 5)), (.ref a2), (.int (Int32.ofNat 5)), (.ref b1291), (.ref b1291), (.ref b1289), (.ref b1289)])) rfl rfl (hb hby d3_422) _ k)
    obtain ⟨cl1315, Ar1315, q1315, S1315, H1315⟩ := (id V1311)
    have hlt1315 : 5 < 9 := by omega
    have hn1315 : 9 < 2 ^ 31 := by omega
    have hin1315 : ¬ ((Int32.ofNat 5) < 0 ∨ cl1315.slots.size ≤ ((Int32.ofNat 5)).toNatClampNeg) := nat_inb S1315 hlt1315 hn1315
    obtain ⟨T1315, h1315, X1315, e1315, W1315, st1315⟩ := stC X1311 hx hZ e1311 Ar1315 (j := (Int32.ofNat 5)) hin1315 (g := (mkF m 423 #[.val (.int (Int32.ofNat 9)), .val (.ref a2)] [(.int (f 5)), (.int (Int32.ofNat 5)), (.ref b1291), (.ref b1291), (.ref b1289), (.ref b1289)])) rfl rfl (hb hby d3_423)
    rw [nat_clamp (show 5 < 2 ^ 31 by omega)] at W1315 X1315
    refine GoalH.step (T' := T1315) (g' := (mkF m 424 #[.val (.int (Int32.ofNat 9)), .val (.ref a2)] [(.ref b1291), (.ref b1289), (.ref b1289)])) ?_ st1315
    have sz1316 : h1311.size ≤ h1315.size := Nat.le_of_eq W1315.size.symm
    have V1315 : Arf Z h1315 b1291 k1291 .char 9 (fun z => if z = 5 then (nar .char (f 5)) else ((fun z => if z = 4 then (nar .char (f 4)) else ((fun z => if z = 3 then (nar .char (f 3)) else ((fun z => if z = 2 then (nar .char (f 2)) else ((fun z => if z = 1 then (nar .char (f 1)) else ((fun z => if z = 0 then (nar .char (f 0)) else ((fun _ => 0)) z)) z)) z)) z)) z)) z) := Arf.set Ar1315 q1315 S1315 H1315 W1315
    have N1315 := Fr.snoc X1315 N1311 (by omega : n0 ≤ b1291)
    refine GoalH.step (T' := T1315) (g' := (mkF m 425 #[.val (.int (Int32.ofNat 9)), .val (.ref a2)] [(.ref b1291), (.ref b1291), (.ref b1289), (.ref b1289)])) ?_ (fun t k => XS.dup X1315.here hx rfl (hb hby d3_424) rfl rfl k)
    refine GoalH.step (T' := T1315) (g' := (mkF m 427 #[.val (.int (Int32.ofNat 9)), .val (.ref a2)] [(.int (Int32.ofNat 6)), (.ref b1291), (.ref b1291), (.ref b1289), (.ref b1289)])) ?_ (fun t k => XS.bipush X1315.here hx rfl (hb hby d3_425) k)
    refine GoalH.step (T' := T1315) (g' := (mkF m 428 #[.val (.int (Int32.ofNat 9)), .val (.ref a2)] [(.ref a2), (.int (Int32.ofNat 6)), (.ref b1291), (.ref b1291), (.ref b1289), (.ref b1289)])) ?_ (fun t k => XS.aloadN X1315.here hx rfl (hb hby d3_427) rfl rfl k)
    refine GoalH.step (T' := T1315) (g' := (mkF m 430 #[.val (.int (Int32.ofNat 9)), .val (.ref a2)] [(.int (Int32.ofNat 6)), (.ref a2), (.int (Int32.ofNat 6)), (.ref b1291), (.ref b1291), (.ref b1289), (.ref b1289)])) ?_ (fun t k => XS.bipush X1315.here hx rfl (hb hby d3_428) k)
    have f1318 : Arf Z h1315 a2 k1 .char 10 f := (f1314.other W1315 (nne (by omega)))
    obtain ⟨cl1317, Ar1317, q1317, S1317, H1317⟩ := (id f1318)
    have hlt1317 : 6 < 10 := by omega
    have hn1317 : 10 < 2 ^ 31 := by omega
    have hin1317 : ¬ ((Int32.ofNat 6) < 0 ∨ cl1317.slots.size ≤ ((Int32.ofNat 6)).toNatClampNeg) := nat_inb S1317 hlt1317 hn1317
    have hat1317 : cl1317.slots[((Int32.ofNat 6)).toNatClampNeg]? = some (.int (f 6)) := by rw [nat_clamp (show 6 < 2 ^ 31 by omega)]; exact H1317 _ hlt1317
    refine GoalH.step (T' := T1315) (g' := (mkF m 431 #[.val (.int (Int32.ofNat 9)), .val (.ref a2)] [(.int (f 6)), (.int (Int32.ofNat 6)), (.ref b1291), (.ref b1291), (.ref b1289), (.ref b1289)])) ?_ (fun t k => X1315.caload hx (j := (Int32.ofNat 6)) (v := (.int (f 6))) (by rw [e1315]; exact Ar1317.1) (State.isArrayOf_alike hZ.alike Ar1317.2.1) Ar1317.2.2 hin1317 hat1317 (g := (mkF m 430 #[.val (.int (Int32.ofNat 9)), .val (.ref a2)] [(.int (Int32.ofNat 6)), (.ref a2), (.int (Int32.ofNat 6)), (.ref b1291), (.ref b1291), (.ref b1289), (.ref b1289)])) rfl rfl (hb hby d3_430) _ k)
    obtain ⟨cl1319, Ar1319, q1319, S1319, H1319⟩ := (id V1315)
    have hlt1319 : 6 < 9 := by omega
    have hn1319 : 9 < 2 ^ 31 := by omega
    have hin1319 : ¬ ((Int32.ofNat 6) < 0 ∨ cl1319.slots.size ≤ ((Int32.ofNat 6)).toNatClampNeg) := nat_inb S1319 hlt1319 hn1319
    obtain ⟨T1319, h1319, X1319, e1319, W1319, st1319⟩ := stC X1315 hx hZ e1315 Ar1319 (j := (Int32.ofNat 6)) hin1319 (g := (mkF m 431 #[.val (.int (Int32.ofNat 9)), .val (.ref a2)] [(.int (f 6)), (.int (Int32.ofNat 6)), (.ref b1291), (.ref b1291), (.ref b1289), (.ref b1289)])) rfl rfl (hb hby d3_431)
    rw [nat_clamp (show 6 < 2 ^ 31 by omega)] at W1319 X1319
    refine GoalH.step (T' := T1319) (g' := (mkF m 432 #[.val (.int (Int32.ofNat 9)), .val (.ref a2)] [(.ref b1291), (.ref b1289), (.ref b1289)])) ?_ st1319
    have sz1320 : h1315.size ≤ h1319.size := Nat.le_of_eq W1319.size.symm
    have V1319 : Arf Z h1319 b1291 k1291 .char 9 (fun z => if z = 6 then (nar .char (f 6)) else ((fun z => if z = 5 then (nar .char (f 5)) else ((fun z => if z = 4 then (nar .char (f 4)) else ((fun z => if z = 3 then (nar .char (f 3)) else ((fun z => if z = 2 then (nar .char (f 2)) else ((fun z => if z = 1 then (nar .char (f 1)) else ((fun z => if z = 0 then (nar .char (f 0)) else ((fun _ => 0)) z)) z)) z)) z)) z)) z)) z) := Arf.set Ar1319 q1319 S1319 H1319 W1319
    have N1319 := Fr.snoc X1319 N1315 (by omega : n0 ≤ b1291)
    refine GoalH.step (T' := T1319) (g' := (mkF m 433 #[.val (.int (Int32.ofNat 9)), .val (.ref a2)] [(.ref b1291), (.ref b1291), (.ref b1289), (.ref b1289)])) ?_ (fun t k => XS.dup X1319.here hx rfl (hb hby d3_432) rfl rfl k)
    refine GoalH.step (T' := T1319) (g' := (mkF m 435 #[.val (.int (Int32.ofNat 9)), .val (.ref a2)] [(.int (Int32.ofNat 7)), (.ref b1291), (.ref b1291), (.ref b1289), (.ref b1289)])) ?_ (fun t k => XS.bipush X1319.here hx rfl (hb hby d3_433) k)
    refine GoalH.step (T' := T1319) (g' := (mkF m 436 #[.val (.int (Int32.ofNat 9)), .val (.ref a2)] [(.ref a2), (.int (Int32.ofNat 7)), (.ref b1291), (.ref b1291), (.ref b1289), (.ref b1289)])) ?_ (fun t k => XS.aloadN X1319.here hx rfl (hb hby d3_435) rfl rfl k)
    refine GoalH.step (T' := T1319) (g' := (mkF m 438 #[.val (.int (Int32.ofNat 9)), .val (.ref a2)] [(.int (Int32.ofNat 7)), (.ref a2), (.int (Int32.ofNat 7)), (.ref b1291), (.ref b1291), (.ref b1289), (.ref b1289)])) ?_ (fun t k => XS.bipush X1319.here hx rfl (hb hby d3_436) k)
    have f1322 : Arf Z h1319 a2 k1 .char 10 f := (f1318.other W1319 (nne (by omega)))
    obtain ⟨cl1321, Ar1321, q1321, S1321, H1321⟩ := (id f1322)
    have hlt1321 : 7 < 10 := by omega
    have hn1321 : 10 < 2 ^ 31 := by omega
    have hin1321 : ¬ ((Int32.ofNat 7) < 0 ∨ cl1321.slots.size ≤ ((Int32.ofNat 7)).toNatClampNeg) := nat_inb S1321 hlt1321 hn1321
    have hat1321 : cl1321.slots[((Int32.ofNat 7)).toNatClampNeg]? = some (.int (f 7)) := by rw [nat_clamp (show 7 < 2 ^ 31 by omega)]; exact H1321 _ hlt1321
    refine GoalH.step (T' := T1319) (g' := (mkF m 439 #[.val (.int (Int32.ofNat 9)), .val (.ref a2)] [(.int (f 7)), (.int (Int32.ofNat 7)), (.ref b1291), (.ref b1291), (.ref b1289), (.ref b1289)])) ?_ (fun t k => X1319.caload hx (j := (Int32.ofNat 7)) (v := (.int (f 7))) (by rw [e1319]; exact Ar1321.1) (State.isArrayOf_alike hZ.alike Ar1321.2.1) Ar1321.2.2 hin1321 hat1321 (g := (mkF m 438 #[.val (.int (Int32.ofNat 9)), .val (.ref a2)] [(.int (Int32.ofNat 7)), (.ref a2), (.int (Int32.ofNat 7)), (.ref b1291), (.ref b1291), (.ref b1289), (.ref b1289)])) rfl rfl (hb hby d3_438) _ k)
    obtain ⟨cl1323, Ar1323, q1323, S1323, H1323⟩ := (id V1319)
    have hlt1323 : 7 < 9 := by omega
    have hn1323 : 9 < 2 ^ 31 := by omega
    have hin1323 : ¬ ((Int32.ofNat 7) < 0 ∨ cl1323.slots.size ≤ ((Int32.ofNat 7)).toNatClampNeg) := nat_inb S1323 hlt1323 hn1323
    obtain ⟨T1323, h1323, X1323, e1323, W1323, st1323⟩ := stC X1319 hx hZ e1319 Ar1323 (j := (Int32.ofNat 7)) hin1323 (g := (mkF m 439 #[.val (.int (Int32.ofNat 9)), .val (.ref a2)] [(.int (f 7)), (.int (Int32.ofNat 7)), (.ref b1291), (.ref b1291), (.ref b1289), (.ref b1289)])) rfl rfl (hb hby d3_439)
    rw [nat_clamp (show 7 < 2 ^ 31 by omega)] at W1323 X1323
    refine GoalH.step (T' := T1323) (g' := (mkF m 440 #[.val (.int (Int32.ofNat 9)), .val (.ref a2)] [(.ref b1291), (.ref b1289), (.ref b1289)])) ?_ st1323
    have sz1324 : h1319.size ≤ h1323.size := Nat.le_of_eq W1323.size.symm
    have V1323 : Arf Z h1323 b1291 k1291 .char 9 (fun z => if z = 7 then (nar .char (f 7)) else ((fun z => if z = 6 then (nar .char (f 6)) else ((fun z => if z = 5 then (nar .char (f 5)) else ((fun z => if z = 4 then (nar .char (f 4)) else ((fun z => if z = 3 then (nar .char (f 3)) else ((fun z => if z = 2 then (nar .char (f 2)) else ((fun z => if z = 1 then (nar .char (f 1)) else ((fun z => if z = 0 then (nar .char (f 0)) else ((fun _ => 0)) z)) z)) z)) z)) z)) z)) z)) z) := Arf.set Ar1323 q1323 S1323 H1323 W1323
    have N1323 := Fr.snoc X1323 N1319 (by omega : n0 ≤ b1291)
    refine GoalH.step (T' := T1323) (g' := (mkF m 441 #[.val (.int (Int32.ofNat 9)), .val (.ref a2)] [(.ref b1291), (.ref b1291), (.ref b1289), (.ref b1289)])) ?_ (fun t k => XS.dup X1323.here hx rfl (hb hby d3_440) rfl rfl k)
    refine GoalH.step (T' := T1323) (g' := (mkF m 443 #[.val (.int (Int32.ofNat 9)), .val (.ref a2)] [(.int (Int32.ofNat 8)), (.ref b1291), (.ref b1291), (.ref b1289), (.ref b1289)])) ?_ (fun t k => XS.bipush X1323.here hx rfl (hb hby d3_441) k)
    refine GoalH.step (T' := T1323) (g' := (mkF m 444 #[.val (.int (Int32.ofNat 9)), .val (.ref a2)] [(.ref a2), (.int (Int32.ofNat 8)), (.ref b1291), (.ref b1291), (.ref b1289), (.ref b1289)])) ?_ (fun t k => XS.aloadN X1323.here hx rfl (hb hby d3_443) rfl rfl k)
    refine GoalH.step (T' := T1323) (g' := (mkF m 446 #[.val (.int (Int32.ofNat 9)), .val (.ref a2)] [(.int (Int32.ofNat 8)), (.ref a2), (.int (Int32.ofNat 8)), (.ref b1291), (.ref b1291), (.ref b1289), (.ref b1289)])) ?_ (fun t k => XS.bipush X1323.here hx rfl (hb hby d3_444) k)
    have f1326 : Arf Z h1323 a2 k1 .char 10 f := (f1322.other W1323 (nne (by omega)))
    obtain ⟨cl1325, Ar1325, q1325, S1325, H1325⟩ := (id f1326)
    have hlt1325 : 8 < 10 := by omega
    have hn1325 : 10 < 2 ^ 31 := by omega
    have hin1325 : ¬ ((Int32.ofNat 8) < 0 ∨ cl1325.slots.size ≤ ((Int32.ofNat 8)).toNatClampNeg) := nat_inb S1325 hlt1325 hn1325
    have hat1325 : cl1325.slots[((Int32.ofNat 8)).toNatClampNeg]? = some (.int (f 8)) := by rw [nat_clamp (show 8 < 2 ^ 31 by omega)]; exact H1325 _ hlt1325
    refine GoalH.step (T' := T1323) (g' := (mkF m 447 #[.val (.int (Int32.ofNat 9)), .val (.ref a2)] [(.int (f 8)), (.int (Int32.ofNat 8)), (.ref b1291), (.ref b1291), (.ref b1289), (.ref b1289)])) ?_ (fun t k => X1323.caload hx (j := (Int32.ofNat 8)) (v := (.int (f 8))) (by rw [e1323]; exact Ar1325.1) (State.isArrayOf_alike hZ.alike Ar1325.2.1) Ar1325.2.2 hin1325 hat1325 (g := (mkF m 446 #[.val (.int (Int32.ofNat 9)), .val (.ref a2)] [(.int (Int32.ofNat 8)), (.ref a2), (.int (Int32.ofNat 8)), (.ref b1291), (.ref b1291), (.ref b1289), (.ref b1289)])) rfl rfl (hb hby d3_446) _ k)
    obtain ⟨cl1327, Ar1327, q1327, S1327, H1327⟩ := (id V1323)
    have hlt1327 : 8 < 9 := by omega
    have hn1327 : 9 < 2 ^ 31 := by omega
    have hin1327 : ¬ ((Int32.ofNat 8) < 0 ∨ cl1327.slots.size ≤ ((Int32.ofNat 8)).toNatClampNeg) := nat_inb S1327 hlt1327 hn1327
    obtain ⟨T1327, h1327, X1327, e1327, W1327, st1327⟩ := stC X1323 hx hZ e1323 Ar1327 (j := (Int32.ofNat 8)) hin1327 (g := (mkF m 447 #[.val (.int (Int32.ofNat 9)), .val (.ref a2)] [(.int (f 8)), (.int (Int32.ofNat 8)), (.ref b1291), (.ref b1291), (.ref b1289), (.ref b1289)])) rfl rfl (hb hby d3_447)
    rw [nat_clamp (show 8 < 2 ^ 31 by omega)] at W1327 X1327
    refine GoalH.step (T' := T1327) (g' := (mkF m 448 #[.val (.int (Int32.ofNat 9)), .val (.ref a2)] [(.ref b1291), (.ref b1289), (.ref b1289)])) ?_ st1327
    have sz1328 : h1323.size ≤ h1327.size := Nat.le_of_eq W1327.size.symm
    have V1327 : Arf Z h1327 b1291 k1291 .char 9 (fun z => if z = 8 then (nar .char (f 8)) else ((fun z => if z = 7 then (nar .char (f 7)) else ((fun z => if z = 6 then (nar .char (f 6)) else ((fun z => if z = 5 then (nar .char (f 5)) else ((fun z => if z = 4 then (nar .char (f 4)) else ((fun z => if z = 3 then (nar .char (f 3)) else ((fun z => if z = 2 then (nar .char (f 2)) else ((fun z => if z = 1 then (nar .char (f 1)) else ((fun z => if z = 0 then (nar .char (f 0)) else ((fun _ => 0)) z)) z)) z)) z)) z)) z)) z)) z)) z) := Arf.set Ar1327 q1327 S1327 H1327 W1327
    have N1327 := Fr.snoc X1327 N1323 (by omega : n0 ≤ b1291)
    have AC1330 : Arf Z h1327 b1291 k1291 .char 9 f := Arf.congr V1327 (own_st (i := 8) (own_st (i := 7) (own_st (i := 6) (own_st (i := 5) (own_st (i := 4) (own_st (i := 3) (own_st (i := 2) (own_st (i := 1) (own_st (i := 0) (fun j hj => absurd hj (Nat.not_lt_zero _)) (hc 0 (by decide))) (hc 1 (by decide))) (hc 2 (by decide))) (hc 3 (by decide))) (hc 4 (by decide))) (hc 5 (by decide))) (hc 6 (by decide))) (hc 7 (by decide))) (hc 8 (by decide)))
    have f1331 : Old Z n0 h1327 := (((((((((((O0.ext E1289).ext E1291).wr W1295 (by omega)).wr W1299 (by omega)).wr W1303 (by omega)).wr W1307 (by omega)).wr W1311 (by omega)).wr W1315 (by omega)).wr W1319 (by omega)).wr W1323 (by omega)).wr W1327 (by omega))
    have f1332 : Exa Z h1327 b1289 "java/lang/String" := (Exa.wr W1327 (Exa.wr W1323 (Exa.wr W1319 (Exa.wr W1315 (Exa.wr W1311 (Exa.wr W1307 (Exa.wr W1303 (Exa.wr W1299 (Exa.wr W1295 (A1289.ext E1291))))))))))
    have f1333 : Fld Z h1327 b1289 "java/lang/String" "value" "[B" .null := (Fld.other W1327 (Fld.other W1323 (Fld.other W1319 (Fld.other W1315 (Fld.other W1311 (Fld.other W1307 (Fld.other W1303 (Fld.other W1299 (Fld.other W1295 ((D1289 (Or.inr (hw _ (List.mem_of_getElem? (i := 28) rfl))) (ty := (.array .byte)) (by decide)).ext E1291) (Or.inl (nne (by omega)))) (Or.inl (nne (by omega)))) (Or.inl (nne (by omega)))) (Or.inl (nne (by omega)))) (Or.inl (nne (by omega)))) (Or.inl (nne (by omega)))) (Or.inl (nne (by omega)))) (Or.inl (nne (by omega)))) (Or.inl (nne (by omega))))
    have f1334 : Fld Z h1327 b1289 "java/lang/String" "coder" "B" (.int (0 : Int32)) := (Fld.other W1327 (Fld.other W1323 (Fld.other W1319 (Fld.other W1315 (Fld.other W1311 (Fld.other W1307 (Fld.other W1303 (Fld.other W1299 (Fld.other W1295 ((D1289 (Or.inr (hw _ (List.mem_of_getElem? (i := 29) rfl))) (ty := .byte) (by decide)).ext E1291) (Or.inl (nne (by omega)))) (Or.inl (nne (by omega)))) (Or.inl (nne (by omega)))) (Or.inl (nne (by omega)))) (Or.inl (nne (by omega)))) (Or.inl (nne (by omega)))) (Or.inl (nne (by omega)))) (Or.inl (nne (by omega)))) (Or.inl (nne (by omega))))
    have kk1335 : Keep h0 h1327 [] := ((((((((((((Keep.refl h0 []).ext E1289).ext E1291).wr W1295 (Or.inr (by omega))).wr W1299 (Or.inr (by omega))).wr W1303 (Or.inr (by omega))).wr W1307 (Or.inr (by omega))).wr W1311 (Or.inr (by omega))).wr W1315 (Or.inr (by omega))).wr W1319 (Or.inr (by omega))).wr W1323 (Or.inr (by omega))).wr W1327 (Or.inr (by omega)))
    have CH1336 := CHr.trans CH0 (CHr.keep kk1335 all0 CH0.1)
    have kk1337 : Keep h0 h1327 [] := ((((((((((((Keep.refl h0 []).ext E1289).ext E1291).wr W1295 (Or.inr (by omega))).wr W1299 (Or.inr (by omega))).wr W1303 (Or.inr (by omega))).wr W1307 (Or.inr (by omega))).wr W1311 (Or.inr (by omega))).wr W1315 (Or.inr (by omega))).wr W1319 (Or.inr (by omega))).wr W1323 (Or.inr (by omega))).wr W1327 (Or.inr (by omega)))
    have Sf1338 := safeFresh (EL := consts_1) kk1337 CH0.1 (show h0.size ≤ b1289 by omega)
    obtain ⟨v1329, T1329, h1329, L1329, k1329, X1329, e1329, hQ1329, hS, hk1329, hsz1329, C1329, hZ, hown, st1329⟩ := callInitH X1327 hx hZ hown hS (by omega) (own_EW hw) CH1336.1 (allS ⟨show (b1289 : Nat) < h1327.size by omega, Sf1338⟩ all0) rfl (hw _ (List.mem_of_getElem? (i := 16) rfl)) (hw _ (List.mem_of_getElem? (i := 17) rfl)) (hw _ (List.mem_of_getElem? (i := 15) rfl)) (hw _ (List.mem_of_getElem? (i := 18) rfl)) (by decide) (rmI1 l Z a0 hw 9 b1289 b1291 k1291 f .null (.int (0 : Int32)) cs fm h1327 n0 (by omega) SE f1331 f1332 f1333 f1334 (by omega) (fun j hj => hc j (by omega)) AC1330 (by omega) (by omega) (by omega) (by omega)) e1327 (W := 1) (by decide) (by decide) (by decide) (by decide) (g := (mkF m 448 #[.val (.int (Int32.ofNat 9)), .val (.ref a2)] [(.ref b1291), (.ref b1289), (.ref b1289)])) rfl (by rw [hml]; rfl) (a := b1289) (argsL := [(.ref b1291)]) (rest := [(.ref b1289)]) (lenOf pd_18 rfl) rfl (by show 2 * 0 + _ ≤ _; exact Nat.le_of_eq rfl) (hb hby d3_448) rfl
    obtain ⟨rfl, M1329, K1329, Z1329⟩ := hQ1329
    have N1329 := Fr.app N1327 M1329
    refine GoalH.step (T' := T1329) (g' := (mkF m 451 #[.val (.int (Int32.ofNat 9)), .val (.ref a2)] [(.ref b1289)])) ?_ st1329
    have sz1339 : h1327.size ≤ h1329.size := K1329.1
    have CH1329 := CHr.trans CH1336 C1329
    have Sf1329_b1289 := C1329.safe (show (b1289 : Nat) < h1327.size by omega) Sf1338
    refine GoalH.retA X1329 hS (by rw [e1329]; omega) hZ (own_EW hw) (by rw [e1329]; exact CH1329) hx hret rfl rfl rfl (hb hby d3_451) ?_
    have k1340 : Keep h0 h1329 [] := (((((((((((((Keep.refl h0 []).ext E1289).ext E1291).wr W1295 (Or.inr (by omega))).wr W1299 (Or.inr (by omega))).wr W1303 (Or.inr (by omega))).wr W1307 (Or.inr (by omega))).wr W1311 (Or.inr (by omega))).wr W1315 (Or.inr (by omega))).wr W1319 (Or.inr (by omega))).wr W1323 (Or.inr (by omega))).wr W1327 (Or.inr (by omega))).trans K1329 (allS (Or.inr (by omega)) all0))
    refine ⟨?_, by decide, by decide⟩
    rw [e1329]
    exact ⟨b1289, rfl, N1329, extKp (extRefl _) k1340 all0, Z1329⟩
  · refine GoalH.step (T' := s₁) (g' := (mkF m 1 #[.val (.int (Int32.ofNat 10)), .val (.ref a2)] [(.int (Int32.ofNat 10))])) ?_ (fun t k => XS.iloadN X0.here hx rfl (hb hby d3_0) rfl k)
    refine GoalH.step (T' := s₁) (g' := (mkF m 452 #[.val (.int (Int32.ofNat 10)), .val (.ref a2)] [])) ?_ (fun t k => XS.tswOut X0.here hx rfl (pc0 := 1) (pc' := 452) rfl (hb hby d3_1) rfl (by decide) (by decide) (by decide) k)
    obtain ⟨T1341, h1341, X1341, e1341, E1341, A1341, D1341, -, st1341⟩ := newO X0 hx hZ hown (hw _ (List.mem_of_getElem? (i := 13) rfl)) (hw _ (List.mem_of_getElem? (i := 14) rfl)) (hw _ (List.mem_of_getElem? (i := 15) rfl)) e0 (g := (mkF m 452 #[.val (.int (Int32.ofNat 10)), .val (.ref a2)] [])) rfl (hb hby d3_452) (by decide) (by decide)
    obtain ⟨b1341, g1341⟩ : ∃ z, z = h0.size := ⟨_, rfl⟩
    rw [← g1341] at A1341 D1341 st1341
    refine GoalH.step (T' := T1341) (g' := (mkF m 455 #[.val (.int (Int32.ofNat 10)), .val (.ref a2)] [(.ref b1341)])) ?_ st1341
    have sz1342 : h0.size ≤ h1341.size := E1341.1
    have lt_b1341 : b1341 < h1341.size := A1341.lt
    refine GoalH.step (T' := T1341) (g' := (mkF m 456 #[.val (.int (Int32.ofNat 10)), .val (.ref a2)] [(.ref b1341), (.ref b1341)])) ?_ (fun t k => XS.dup X1341.here hx rfl (hb hby d3_455) rfl rfl k)
    refine GoalH.step (T' := T1341) (g' := (mkF m 458 #[.val (.int (Int32.ofNat 10)), .val (.ref a2)] [(.int (Int32.ofNat 10)), (.ref b1341), (.ref b1341)])) ?_ (fun t k => XS.bipush X1341.here hx rfl (hb hby d3_456) k)
    obtain ⟨T1343, h1343, k1343, X1343, e1343, E1343, A1343, st1343⟩ := newP X1341 hx hZ (hw _ (List.mem_of_getElem? (i := 1) rfl)) e1341 (g := (mkF m 458 #[.val (.int (Int32.ofNat 10)), .val (.ref a2)] [(.int (Int32.ofNat 10)), (.ref b1341), (.ref b1341)])) rfl (hb hby d3_458) rfl (by decide) (cap := 10) (by decide) (by decide) (by decide) (by decide)
    obtain ⟨b1343, g1343⟩ : ∃ z, z = h1341.size := ⟨_, rfl⟩
    rw [← g1343] at A1343 st1343
    refine GoalH.step (T' := T1343) (g' := (mkF m 460 #[.val (.int (Int32.ofNat 10)), .val (.ref a2)] [(.ref b1343), (.ref b1341), (.ref b1341)])) ?_ st1343
    have sz1344 : h1341.size ≤ h1343.size := E1343.1
    have lt_b1343 : b1343 < h1343.size := A1343.lt
    have V1343 : Arf Z h1343 b1343 k1343 .char 10 (fun _ => 0) := Arf.new A1343 rfl rfl
    refine GoalH.step (T' := T1343) (g' := (mkF m 461 #[.val (.int (Int32.ofNat 10)), .val (.ref a2)] [(.ref b1343), (.ref b1343), (.ref b1341), (.ref b1341)])) ?_ (fun t k => XS.dup X1343.here hx rfl (hb hby d3_460) rfl rfl k)
    refine GoalH.step (T' := T1343) (g' := (mkF m 462 #[.val (.int (Int32.ofNat 10)), .val (.ref a2)] [(.int (Int32.ofNat 0)), (.ref b1343), (.ref b1343), (.ref b1341), (.ref b1341)])) ?_ (fun t k => XS.iconst X1343.here hx rfl (hb hby d3_461) k)
    refine GoalH.step (T' := T1343) (g' := (mkF m 463 #[.val (.int (Int32.ofNat 10)), .val (.ref a2)] [(.ref a2), (.int (Int32.ofNat 0)), (.ref b1343), (.ref b1343), (.ref b1341), (.ref b1341)])) ?_ (fun t k => XS.aloadN X1343.here hx rfl (hb hby d3_462) rfl rfl k)
    refine GoalH.step (T' := T1343) (g' := (mkF m 464 #[.val (.int (Int32.ofNat 10)), .val (.ref a2)] [(.int (Int32.ofNat 0)), (.ref a2), (.int (Int32.ofNat 0)), (.ref b1343), (.ref b1343), (.ref b1341), (.ref b1341)])) ?_ (fun t k => XS.iconst X1343.here hx rfl (hb hby d3_463) k)
    have f1346 : Arf Z h1343 a2 k1 .char 10 f := ((A2.ext E1341).ext E1343)
    obtain ⟨cl1345, Ar1345, q1345, S1345, H1345⟩ := (id f1346)
    have hlt1345 : 0 < 10 := by omega
    have hn1345 : 10 < 2 ^ 31 := by omega
    have hin1345 : ¬ ((Int32.ofNat 0) < 0 ∨ cl1345.slots.size ≤ ((Int32.ofNat 0)).toNatClampNeg) := nat_inb S1345 hlt1345 hn1345
    have hat1345 : cl1345.slots[((Int32.ofNat 0)).toNatClampNeg]? = some (.int (f 0)) := by rw [nat_clamp (show 0 < 2 ^ 31 by omega)]; exact H1345 _ hlt1345
    refine GoalH.step (T' := T1343) (g' := (mkF m 465 #[.val (.int (Int32.ofNat 10)), .val (.ref a2)] [(.int (f 0)), (.int (Int32.ofNat 0)), (.ref b1343), (.ref b1343), (.ref b1341), (.ref b1341)])) ?_ (fun t k => X1343.caload hx (j := (Int32.ofNat 0)) (v := (.int (f 0))) (by rw [e1343]; exact Ar1345.1) (State.isArrayOf_alike hZ.alike Ar1345.2.1) Ar1345.2.2 hin1345 hat1345 (g := (mkF m 464 #[.val (.int (Int32.ofNat 10)), .val (.ref a2)] [(.int (Int32.ofNat 0)), (.ref a2), (.int (Int32.ofNat 0)), (.ref b1343), (.ref b1343), (.ref b1341), (.ref b1341)])) rfl rfl (hb hby d3_464) _ k)
    obtain ⟨cl1347, Ar1347, q1347, S1347, H1347⟩ := (id V1343)
    have hlt1347 : 0 < 10 := by omega
    have hn1347 : 10 < 2 ^ 31 := by omega
    have hin1347 : ¬ ((Int32.ofNat 0) < 0 ∨ cl1347.slots.size ≤ ((Int32.ofNat 0)).toNatClampNeg) := nat_inb S1347 hlt1347 hn1347
    obtain ⟨T1347, h1347, X1347, e1347, W1347, st1347⟩ := stC X1343 hx hZ e1343 Ar1347 (j := (Int32.ofNat 0)) hin1347 (g := (mkF m 465 #[.val (.int (Int32.ofNat 10)), .val (.ref a2)] [(.int (f 0)), (.int (Int32.ofNat 0)), (.ref b1343), (.ref b1343), (.ref b1341), (.ref b1341)])) rfl rfl (hb hby d3_465)
    rw [nat_clamp (show 0 < 2 ^ 31 by omega)] at W1347 X1347
    refine GoalH.step (T' := T1347) (g' := (mkF m 466 #[.val (.int (Int32.ofNat 10)), .val (.ref a2)] [(.ref b1343), (.ref b1341), (.ref b1341)])) ?_ st1347
    have sz1348 : h1343.size ≤ h1347.size := Nat.le_of_eq W1347.size.symm
    have V1347 : Arf Z h1347 b1343 k1343 .char 10 (fun z => if z = 0 then (nar .char (f 0)) else ((fun _ => 0)) z) := Arf.set Ar1347 q1347 S1347 H1347 W1347
    have N1347 := Fr.snoc X1347 N0 (by omega : n0 ≤ b1343)
    refine GoalH.step (T' := T1347) (g' := (mkF m 467 #[.val (.int (Int32.ofNat 10)), .val (.ref a2)] [(.ref b1343), (.ref b1343), (.ref b1341), (.ref b1341)])) ?_ (fun t k => XS.dup X1347.here hx rfl (hb hby d3_466) rfl rfl k)
    refine GoalH.step (T' := T1347) (g' := (mkF m 468 #[.val (.int (Int32.ofNat 10)), .val (.ref a2)] [(.int (Int32.ofNat 1)), (.ref b1343), (.ref b1343), (.ref b1341), (.ref b1341)])) ?_ (fun t k => XS.iconst X1347.here hx rfl (hb hby d3_467) k)
    refine GoalH.step (T' := T1347) (g' := (mkF m 469 #[.val (.int (Int32.ofNat 10)), .val (.ref a2)] [(.ref a2), (.int (Int32.ofNat 1)), (.ref b1343), (.ref b1343), (.ref b1341), (.ref b1341)])) ?_ (fun t k => XS.aloadN X1347.here hx rfl (hb hby d3_468) rfl rfl k)
    refine GoalH.step (T' := T1347) (g' := (mkF m 470 #[.val (.int (Int32.ofNat 10)), .val (.ref a2)] [(.int (Int32.ofNat 1)), (.ref a2), (.int (Int32.ofNat 1)), (.ref b1343), (.ref b1343), (.ref b1341), (.ref b1341)])) ?_ (fun t k => XS.iconst X1347.here hx rfl (hb hby d3_469) k)
    have f1350 : Arf Z h1347 a2 k1 .char 10 f := (f1346.other W1347 (nne (by omega)))
    obtain ⟨cl1349, Ar1349, q1349, S1349, H1349⟩ := (id f1350)
    have hlt1349 : 1 < 10 := by omega
    have hn1349 : 10 < 2 ^ 31 := by omega
    have hin1349 : ¬ ((Int32.ofNat 1) < 0 ∨ cl1349.slots.size ≤ ((Int32.ofNat 1)).toNatClampNeg) := nat_inb S1349 hlt1349 hn1349
    have hat1349 : cl1349.slots[((Int32.ofNat 1)).toNatClampNeg]? = some (.int (f 1)) := by rw [nat_clamp (show 1 < 2 ^ 31 by omega)]; exact H1349 _ hlt1349
    refine GoalH.step (T' := T1347) (g' := (mkF m 471 #[.val (.int (Int32.ofNat 10)), .val (.ref a2)] [(.int (f 1)), (.int (Int32.ofNat 1)), (.ref b1343), (.ref b1343), (.ref b1341), (.ref b1341)])) ?_ (fun t k => X1347.caload hx (j := (Int32.ofNat 1)) (v := (.int (f 1))) (by rw [e1347]; exact Ar1349.1) (State.isArrayOf_alike hZ.alike Ar1349.2.1) Ar1349.2.2 hin1349 hat1349 (g := (mkF m 470 #[.val (.int (Int32.ofNat 10)), .val (.ref a2)] [(.int (Int32.ofNat 1)), (.ref a2), (.int (Int32.ofNat 1)), (.ref b1343), (.ref b1343), (.ref b1341), (.ref b1341)])) rfl rfl (hb hby d3_470) _ k)
    obtain ⟨cl1351, Ar1351, q1351, S1351, H1351⟩ := (id V1347)
    have hlt1351 : 1 < 10 := by omega
    have hn1351 : 10 < 2 ^ 31 := by omega
    have hin1351 : ¬ ((Int32.ofNat 1) < 0 ∨ cl1351.slots.size ≤ ((Int32.ofNat 1)).toNatClampNeg) := nat_inb S1351 hlt1351 hn1351
    obtain ⟨T1351, h1351, X1351, e1351, W1351, st1351⟩ := stC X1347 hx hZ e1347 Ar1351 (j := (Int32.ofNat 1)) hin1351 (g := (mkF m 471 #[.val (.int (Int32.ofNat 10)), .val (.ref a2)] [(.int (f 1)), (.int (Int32.ofNat 1)), (.ref b1343), (.ref b1343), (.ref b1341), (.ref b1341)])) rfl rfl (hb hby d3_471)
    rw [nat_clamp (show 1 < 2 ^ 31 by omega)] at W1351 X1351
    refine GoalH.step (T' := T1351) (g' := (mkF m 472 #[.val (.int (Int32.ofNat 10)), .val (.ref a2)] [(.ref b1343), (.ref b1341), (.ref b1341)])) ?_ st1351
    have sz1352 : h1347.size ≤ h1351.size := Nat.le_of_eq W1351.size.symm
    have V1351 : Arf Z h1351 b1343 k1343 .char 10 (fun z => if z = 1 then (nar .char (f 1)) else ((fun z => if z = 0 then (nar .char (f 0)) else ((fun _ => 0)) z)) z) := Arf.set Ar1351 q1351 S1351 H1351 W1351
    have N1351 := Fr.snoc X1351 N1347 (by omega : n0 ≤ b1343)
    refine GoalH.step (T' := T1351) (g' := (mkF m 473 #[.val (.int (Int32.ofNat 10)), .val (.ref a2)] [(.ref b1343), (.ref b1343), (.ref b1341), (.ref b1341)])) ?_ (fun t k => XS.dup X1351.here hx rfl (hb hby d3_472) rfl rfl k)
    refine GoalH.step (T' := T1351) (g' := (mkF m 474 #[.val (.int (Int32.ofNat 10)), .val (.ref a2)] [(.int (Int32.ofNat 2)), (.ref b1343), (.ref b1343), (.ref b1341), (.ref b1341)])) ?_ (fun t k => XS.iconst X1351.here hx rfl (hb hby d3_473) k)
    refine GoalH.step (T' := T1351) (g' := (mkF m 475 #[.val (.int (Int32.ofNat 10)), .val (.ref a2)] [(.ref a2), (.int (Int32.ofNat 2)), (.ref b1343), (.ref b1343), (.ref b1341), (.ref b1341)])) ?_ (fun t k => XS.aloadN X1351.here hx rfl (hb hby d3_474) rfl rfl k)
    refine GoalH.step (T' := T1351) (g' := (mkF m 476 #[.val (.int (Int32.ofNat 10)), .val (.ref a2)] [(.int (Int32.ofNat 2)), (.ref a2), (.int (Int32.ofNat 2)), (.ref b1343), (.ref b1343), (.ref b1341), (.ref b1341)])) ?_ (fun t k => XS.iconst X1351.here hx rfl (hb hby d3_475) k)
    have f1354 : Arf Z h1351 a2 k1 .char 10 f := (f1350.other W1351 (nne (by omega)))
    obtain ⟨cl1353, Ar1353, q1353, S1353, H1353⟩ := (id f1354)
    have hlt1353 : 2 < 10 := by omega
    have hn1353 : 10 < 2 ^ 31 := by omega
    have hin1353 : ¬ ((Int32.ofNat 2) < 0 ∨ cl1353.slots.size ≤ ((Int32.ofNat 2)).toNatClampNeg) := nat_inb S1353 hlt1353 hn1353
    have hat1353 : cl1353.slots[((Int32.ofNat 2)).toNatClampNeg]? = some (.int (f 2)) := by rw [nat_clamp (show 2 < 2 ^ 31 by omega)]; exact H1353 _ hlt1353
    refine GoalH.step (T' := T1351) (g' := (mkF m 477 #[.val (.int (Int32.ofNat 10)), .val (.ref a2)] [(.int (f 2)), (.int (Int32.ofNat 2)), (.ref b1343), (.ref b1343), (.ref b1341), (.ref b1341)])) ?_ (fun t k => X1351.caload hx (j := (Int32.ofNat 2)) (v := (.int (f 2))) (by rw [e1351]; exact Ar1353.1) (State.isArrayOf_alike hZ.alike Ar1353.2.1) Ar1353.2.2 hin1353 hat1353 (g := (mkF m 476 #[.val (.int (Int32.ofNat 10)), .val (.ref a2)] [(.int (Int32.ofNat 2)), (.ref a2), (.int (Int32.ofNat 2)), (.ref b1343), (.ref b1343), (.ref b1341), (.ref b1341)])) rfl rfl (hb hby d3_476) _ k)
    obtain ⟨cl1355, Ar1355, q1355, S1355, H1355⟩ := (id V1351)
    have hlt1355 : 2 < 10 := by omega
    have hn1355 : 10 < 2 ^ 31 := by omega
    have hin1355 : ¬ ((Int32.ofNat 2) < 0 ∨ cl1355.slots.size ≤ ((Int32.ofNat 2)).toNatClampNeg) := nat_inb S1355 hlt1355 hn1355
    obtain ⟨T1355, h1355, X1355, e1355, W1355, st1355⟩ := stC X1351 hx hZ e1351 Ar1355 (j := (Int32.ofNat 2)) hin1355 (g := (mkF m 477 #[.val (.int (Int32.ofNat 10)), .val (.ref a2)] [(.int (f 2)), (.int (Int32.ofNat 2)), (.ref b1343), (.ref b1343), (.ref b1341), (.ref b1341)])) rfl rfl (hb hby d3_477)
    rw [nat_clamp (show 2 < 2 ^ 31 by omega)] at W1355 X1355
    refine GoalH.step (T' := T1355) (g' := (mkF m 478 #[.val (.int (Int32.ofNat 10)), .val (.ref a2)] [(.ref b1343), (.ref b1341), (.ref b1341)])) ?_ st1355
    have sz1356 : h1351.size ≤ h1355.size := Nat.le_of_eq W1355.size.symm
    have V1355 : Arf Z h1355 b1343 k1343 .char 10 (fun z => if z = 2 then (nar .char (f 2)) else ((fun z => if z = 1 then (nar .char (f 1)) else ((fun z => if z = 0 then (nar .char (f 0)) else ((fun _ => 0)) z)) z)) z) := Arf.set Ar1355 q1355 S1355 H1355 W1355
    have N1355 := Fr.snoc X1355 N1351 (by omega : n0 ≤ b1343)
    refine GoalH.step (T' := T1355) (g' := (mkF m 479 #[.val (.int (Int32.ofNat 10)), .val (.ref a2)] [(.ref b1343), (.ref b1343), (.ref b1341), (.ref b1341)])) ?_ (fun t k => XS.dup X1355.here hx rfl (hb hby d3_478) rfl rfl k)
    refine GoalH.step (T' := T1355) (g' := (mkF m 480 #[.val (.int (Int32.ofNat 10)), .val (.ref a2)] [(.int (Int32.ofNat 3)), (.ref b1343), (.ref b1343), (.ref b1341), (.ref b1341)])) ?_ (fun t k => XS.iconst X1355.here hx rfl (hb hby d3_479) k)
    refine GoalH.step (T' := T1355) (g' := (mkF m 481 #[.val (.int (Int32.ofNat 10)), .val (.ref a2)] [(.ref a2), (.int (Int32.ofNat 3)), (.ref b1343), (.ref b1343), (.ref b1341), (.ref b1341)])) ?_ (fun t k => XS.aloadN X1355.here hx rfl (hb hby d3_480) rfl rfl k)
    refine GoalH.step (T' := T1355) (g' := (mkF m 482 #[.val (.int (Int32.ofNat 10)), .val (.ref a2)] [(.int (Int32.ofNat 3)), (.ref a2), (.int (Int32.ofNat 3)), (.ref b1343), (.ref b1343), (.ref b1341), (.ref b1341)])) ?_ (fun t k => XS.iconst X1355.here hx rfl (hb hby d3_481) k)
    have f1358 : Arf Z h1355 a2 k1 .char 10 f := (f1354.other W1355 (nne (by omega)))
    obtain ⟨cl1357, Ar1357, q1357, S1357, H1357⟩ := (id f1358)
    have hlt1357 : 3 < 10 := by omega
    have hn1357 : 10 < 2 ^ 31 := by omega
    have hin1357 : ¬ ((Int32.ofNat 3) < 0 ∨ cl1357.slots.size ≤ ((Int32.ofNat 3)).toNatClampNeg) := nat_inb S1357 hlt1357 hn1357
    have hat1357 : cl1357.slots[((Int32.ofNat 3)).toNatClampNeg]? = some (.int (f 3)) := by rw [nat_clamp (show 3 < 2 ^ 31 by omega)]; exact H1357 _ hlt1357
    refine GoalH.step (T' := T1355) (g' := (mkF m 483 #[.val (.int (Int32.ofNat 10)), .val (.ref a2)] [(.int (f 3)), (.int (Int32.ofNat 3)), (.ref b1343), (.ref b1343), (.ref b1341), (.ref b1341)])) ?_ (fun t k => X1355.caload hx (j := (Int32.ofNat 3)) (v := (.int (f 3))) (by rw [e1355]; exact Ar1357.1) (State.isArrayOf_alike hZ.alike Ar1357.2.1) Ar1357.2.2 hin1357 hat1357 (g := (mkF m 482 #[.val (.int (Int32.ofNat 10)), .val (.ref a2)] [(.int (Int32.ofNat 3)), (.ref a2), (.int (Int32.ofNat 3)), (.ref b1343), (.ref b1343), (.ref b1341), (.ref b1341)])) rfl rfl (hb hby d3_482) _ k)
    obtain ⟨cl1359, Ar1359, q1359, S1359, H1359⟩ := (id V1355)
    have hlt1359 : 3 < 10 := by omega
    have hn1359 : 10 < 2 ^ 31 := by omega
    have hin1359 : ¬ ((Int32.ofNat 3) < 0 ∨ cl1359.slots.size ≤ ((Int32.ofNat 3)).toNatClampNeg) := nat_inb S1359 hlt1359 hn1359
    obtain ⟨T1359, h1359, X1359, e1359, W1359, st1359⟩ := stC X1355 hx hZ e1355 Ar1359 (j := (Int32.ofNat 3)) hin1359 (g := (mkF m 483 #[.val (.int (Int32.ofNat 10)), .val (.ref a2)] [(.int (f 3)), (.int (Int32.ofNat 3)), (.ref b1343), (.ref b1343), (.ref b1341), (.ref b1341)])) rfl rfl (hb hby d3_483)
    rw [nat_clamp (show 3 < 2 ^ 31 by omega)] at W1359 X1359
    refine GoalH.step (T' := T1359) (g' := (mkF m 484 #[.val (.int (Int32.ofNat 10)), .val (.ref a2)] [(.ref b1343), (.ref b1341), (.ref b1341)])) ?_ st1359
    have sz1360 : h1355.size ≤ h1359.size := Nat.le_of_eq W1359.size.symm
    have V1359 : Arf Z h1359 b1343 k1343 .char 10 (fun z => if z = 3 then (nar .char (f 3)) else ((fun z => if z = 2 then (nar .char (f 2)) else ((fun z => if z = 1 then (nar .char (f 1)) else ((fun z => if z = 0 then (nar .char (f 0)) else ((fun _ => 0)) z)) z)) z)) z) := Arf.set Ar1359 q1359 S1359 H1359 W1359
    have N1359 := Fr.snoc X1359 N1355 (by omega : n0 ≤ b1343)
    refine GoalH.step (T' := T1359) (g' := (mkF m 485 #[.val (.int (Int32.ofNat 10)), .val (.ref a2)] [(.ref b1343), (.ref b1343), (.ref b1341), (.ref b1341)])) ?_ (fun t k => XS.dup X1359.here hx rfl (hb hby d3_484) rfl rfl k)
    refine GoalH.step (T' := T1359) (g' := (mkF m 486 #[.val (.int (Int32.ofNat 10)), .val (.ref a2)] [(.int (Int32.ofNat 4)), (.ref b1343), (.ref b1343), (.ref b1341), (.ref b1341)])) ?_ (fun t k => XS.iconst X1359.here hx rfl (hb hby d3_485) k)
    refine GoalH.step (T' := T1359) (g' := (mkF m 487 #[.val (.int (Int32.ofNat 10)), .val (.ref a2)] [(.ref a2), (.int (Int32.ofNat 4)), (.ref b1343), (.ref b1343), (.ref b1341), (.ref b1341)])) ?_ (fun t k => XS.aloadN X1359.here hx rfl (hb hby d3_486) rfl rfl k)
    refine GoalH.step (T' := T1359) (g' := (mkF m 488 #[.val (.int (Int32.ofNat 10)), .val (.ref a2)] [(.int (Int32.ofNat 4)), (.ref a2), (.int (Int32.ofNat 4)), (.ref b1343), (.ref b1343), (.ref b1341), (.ref b1341)])) ?_ (fun t k => XS.iconst X1359.here hx rfl (hb hby d3_487) k)
    have f1362 : Arf Z h1359 a2 k1 .char 10 f := (f1358.other W1359 (nne (by omega)))
    obtain ⟨cl1361, Ar1361, q1361, S1361, H1361⟩ := (id f1362)
    have hlt1361 : 4 < 10 := by omega
    have hn1361 : 10 < 2 ^ 31 := by omega
    have hin1361 : ¬ ((Int32.ofNat 4) < 0 ∨ cl1361.slots.size ≤ ((Int32.ofNat 4)).toNatClampNeg) := nat_inb S1361 hlt1361 hn1361
    have hat1361 : cl1361.slots[((Int32.ofNat 4)).toNatClampNeg]? = some (.int (f 4)) := by rw [nat_clamp (show 4 < 2 ^ 31 by omega)]; exact H1361 _ hlt1361
    refine GoalH.step (T' := T1359) (g' := (mkF m 489 #[.val (.int (Int32.ofNat 10)), .val (.ref a2)] [(.int (f 4)), (.int (Int32.ofNat 4)), (.ref b1343), (.ref b1343), (.ref b1341), (.ref b1341)])) ?_ (fun t k => X1359.caload hx (j := (Int32.ofNat 4)) (v := (.int (f 4))) (by rw [e1359]; exact Ar1361.1) (State.isArrayOf_alike hZ.alike Ar1361.2.1) Ar1361.2.2 hin1361 hat1361 (g := (mkF m 488 #[.val (.int (Int32.ofNat 10)), .val (.ref a2)] [(.int (Int32.ofNat 4)), (.ref a2), (.int (Int32.ofNat 4)), (.ref b1343), (.ref b1343), (.ref b1341), (.ref b1341)])) rfl rfl (hb hby d3_488) _ k)
    obtain ⟨cl1363, Ar1363, q1363, S1363, H1363⟩ := (id V1359)
    have hlt1363 : 4 < 10 := by omega
    have hn1363 : 10 < 2 ^ 31 := by omega
    have hin1363 : ¬ ((Int32.ofNat 4) < 0 ∨ cl1363.slots.size ≤ ((Int32.ofNat 4)).toNatClampNeg) := nat_inb S1363 hlt1363 hn1363
    obtain ⟨T1363, h1363, X1363, e1363, W1363, st1363⟩ := stC X1359 hx hZ e1359 Ar1363 (j := (Int32.ofNat 4)) hin1363 (g := (mkF m 489 #[.val (.int (Int32.ofNat 10)), .val (.ref a2)] [(.int (f 4)), (.int (Int32.ofNat 4)), (.ref b1343), (.ref b1343), (.ref b1341), (.ref b1341)])) rfl rfl (hb hby d3_489)
    rw [nat_clamp (show 4 < 2 ^ 31 by omega)] at W1363 X1363
    refine GoalH.step (T' := T1363) (g' := (mkF m 490 #[.val (.int (Int32.ofNat 10)), .val (.ref a2)] [(.ref b1343), (.ref b1341), (.ref b1341)])) ?_ st1363
    have sz1364 : h1359.size ≤ h1363.size := Nat.le_of_eq W1363.size.symm
    have V1363 : Arf Z h1363 b1343 k1343 .char 10 (fun z => if z = 4 then (nar .char (f 4)) else ((fun z => if z = 3 then (nar .char (f 3)) else ((fun z => if z = 2 then (nar .char (f 2)) else ((fun z => if z = 1 then (nar .char (f 1)) else ((fun z => if z = 0 then (nar .char (f 0)) else ((fun _ => 0)) z)) z)) z)) z)) z) := Arf.set Ar1363 q1363 S1363 H1363 W1363
    have N1363 := Fr.snoc X1363 N1359 (by omega : n0 ≤ b1343)
    refine GoalH.step (T' := T1363) (g' := (mkF m 491 #[.val (.int (Int32.ofNat 10)), .val (.ref a2)] [(.ref b1343), (.ref b1343), (.ref b1341), (.ref b1341)])) ?_ (fun t k => XS.dup X1363.here hx rfl (hb hby d3_490) rfl rfl k)
    refine GoalH.step (T' := T1363) (g' := (mkF m 492 #[.val (.int (Int32.ofNat 10)), .val (.ref a2)] [(.int (Int32.ofNat 5)), (.ref b1343), (.ref b1343), (.ref b1341), (.ref b1341)])) ?_ (fun t k => XS.iconst X1363.here hx rfl (hb hby d3_491) k)
    refine GoalH.step (T' := T1363) (g' := (mkF m 493 #[.val (.int (Int32.ofNat 10)), .val (.ref a2)] [(.ref a2), (.int (Int32.ofNat 5)), (.ref b1343), (.ref b1343), (.ref b1341), (.ref b1341)])) ?_ (fun t k => XS.aloadN X1363.here hx rfl (hb hby d3_492) rfl rfl k)
    refine GoalH.step (T' := T1363) (g' := (mkF m 494 #[.val (.int (Int32.ofNat 10)), .val (.ref a2)] [(.int (Int32.ofNat 5)), (.ref a2), (.int (Int32.ofNat 5)), (.ref b1343), (.ref b1343), (.ref b1341), (.ref b1341)])) ?_ (fun t k => XS.iconst X1363.here hx rfl (hb hby d3_493) k)
    have f1366 : Arf Z h1363 a2 k1 .char 10 f := (f1362.other W1363 (nne (by omega)))
    obtain ⟨cl1365, Ar1365, q1365, S1365, H1365⟩ := (id f1366)
    have hlt1365 : 5 < 10 := by omega
    have hn1365 : 10 < 2 ^ 31 := by omega
    have hin1365 : ¬ ((Int32.ofNat 5) < 0 ∨ cl1365.slots.size ≤ ((Int32.ofNat 5)).toNatClampNeg) := nat_inb S1365 hlt1365 hn1365
    have hat1365 : cl1365.slots[((Int32.ofNat 5)).toNatClampNeg]? = some (.int (f 5)) := by rw [nat_clamp (show 5 < 2 ^ 31 by omega)]; exact H1365 _ hlt1365
    refine GoalH.step (T' := T1363) (g' := (mkF m 495 #[.val (.int (Int32.ofNat 10)), .val (.ref a2)] [(.int (f 5)), (.int (Int32.ofNat 5)), (.ref b1343), (.ref b1343), (.ref b1341), (.ref b1341)])) ?_ (fun t k => X1363.caload hx (j := (Int32.ofNat 5)) (v := (.int (f 5))) (by rw [e1363]; exact Ar1365.1) (State.isArrayOf_alike hZ.alike Ar1365.2.1) Ar1365.2.2 hin1365 hat1365 (g := (mkF m 494 #[.val (.int (Int32.ofNat 10)), .val (.ref a2)] [(.int (Int32.ofNat 5)), (.ref a2), (.int (Int32.ofNat 5)), (.ref b1343), (.ref b1343), (.ref b1341), (.ref b1341)])) rfl rfl (hb hby d3_494) _ k)
    obtain ⟨cl1367, Ar1367, q1367, S1367, H1367⟩ := (id V1363)
    have hlt1367 : 5 < 10 := by omega
    have hn1367 : 10 < 2 ^ 31 := by omega
    have hin1367 : ¬ ((Int32.ofNat 5) < 0 ∨ cl1367.slots.size ≤ ((Int32.ofNat 5)).toNatClampNeg) := nat_inb S1367 hlt1367 hn1367
    obtain ⟨T1367, h1367, X1367, e1367, W1367, st1367⟩ := stC X1363 hx hZ e1363 Ar1367 (j := (Int32.ofNat 5)) hin1367 (g := (mkF m 495 #[.val (.int (Int32.ofNat 10)), .val (.ref a2)] [(.int (f 5)), (.int (Int32.ofNat 5)), (.ref b1343), (.ref b1343), (.ref b1341), (.ref b1341)])) rfl rfl (hb hby d3_495)
    rw [nat_clamp (show 5 < 2 ^ 31 by omega)] at W1367 X1367
    refine GoalH.step (T' := T1367) (g' := (mkF m 496 #[.val (.int (Int32.ofNat 10)), .val (.ref a2)] [(.ref b1343), (.ref b1341), (.ref b1341)])) ?_ st1367
    have sz1368 : h1363.size ≤ h1367.size := Nat.le_of_eq W1367.size.symm
    have V1367 : Arf Z h1367 b1343 k1343 .char 10 (fun z => if z = 5 then (nar .char (f 5)) else ((fun z => if z = 4 then (nar .char (f 4)) else ((fun z => if z = 3 then (nar .char (f 3)) else ((fun z => if z = 2 then (nar .char (f 2)) else ((fun z => if z = 1 then (nar .char (f 1)) else ((fun z => if z = 0 then (nar .char (f 0)) else ((fun _ => 0)) z)) z)) z)) z)) z)) z) := Arf.set Ar1367 q1367 S1367 H1367 W1367
    have N1367 := Fr.snoc X1367 N1363 (by omega : n0 ≤ b1343)
    refine GoalH.step (T' := T1367) (g' := (mkF m 497 #[.val (.int (Int32.ofNat 10)), .val (.ref a2)] [(.ref b1343), (.ref b1343), (.ref b1341), (.ref b1341)])) ?_ (fun t k => XS.dup X1367.here hx rfl (hb hby d3_496) rfl rfl k)
    refine GoalH.step (T' := T1367) (g' := (mkF m 499 #[.val (.int (Int32.ofNat 10)), .val (.ref a2)] [(.int (Int32.ofNat 6)), (.ref b1343), (.ref b1343), (.ref b1341), (.ref b1341)])) ?_ (fun t k => XS.bipush X1367.here hx rfl (hb hby d3_497) k)
    refine GoalH.step (T' := T1367) (g' := (mkF m 500 #[.val (.int (Int32.ofNat 10)), .val (.ref a2)] [(.ref a2), (.int (Int32.ofNat 6)), (.ref b1343), (.ref b1343), (.ref b1341), (.ref b1341)])) ?_ (fun t k => XS.aloadN X1367.here hx rfl (hb hby d3_499) rfl rfl k)
    refine GoalH.step (T' := T1367) (g' := (mkF m 502 #[.val (.int (Int32.ofNat 10)), .val (.ref a2)] [(.int (Int32.ofNat 6)), (.ref a2), (.int (Int32.ofNat 6)), (.ref b1343), (.ref b1343), (.ref b1341), (.ref b1341)])) ?_ (fun t k => XS.bipush X1367.here hx rfl (hb hby d3_500) k)
    have f1370 : Arf Z h1367 a2 k1 .char 10 f := (f1366.other W1367 (nne (by omega)))
    obtain ⟨cl1369, Ar1369, q1369, S1369, H1369⟩ := (id f1370)
    have hlt1369 : 6 < 10 := by omega
    have hn1369 : 10 < 2 ^ 31 := by omega
    have hin1369 : ¬ ((Int32.ofNat 6) < 0 ∨ cl1369.slots.size ≤ ((Int32.ofNat 6)).toNatClampNeg) := nat_inb S1369 hlt1369 hn1369
    have hat1369 : cl1369.slots[((Int32.ofNat 6)).toNatClampNeg]? = some (.int (f 6)) := by rw [nat_clamp (show 6 < 2 ^ 31 by omega)]; exact H1369 _ hlt1369
    refine GoalH.step (T' := T1367) (g' := (mkF m 503 #[.val (.int (Int32.ofNat 10)), .val (.ref a2)] [(.int (f 6)), (.int (Int32.ofNat 6)), (.ref b1343), (.ref b1343), (.ref b1341), (.ref b1341)])) ?_ (fun t k => X1367.caload hx (j := (Int32.ofNat 6)) (v := (.int (f 6))) (by rw [e1367]; exact Ar1369.1) (State.isArrayOf_alike hZ.alike Ar1369.2.1) Ar1369.2.2 hin1369 hat1369 (g := (mkF m 502 #[.val (.int (Int32.ofNat 10)), .val (.ref a2)] [(.int (Int32.ofNat 6)), (.ref a2), (.int (Int32.ofNat 6)), (.ref b1343), (.ref b1343), (.ref b1341), (.ref b1341)])) rfl rfl (hb hby d3_502) _ k)
    obtain ⟨cl1371, Ar1371, q1371, S1371, H1371⟩ := (id V1367)
    have hlt1371 : 6 < 10 := by omega
    have hn1371 : 10 < 2 ^ 31 := by omega
    have hin1371 : ¬ ((Int32.ofNat 6) < 0 ∨ cl1371.slots.size ≤ ((Int32.ofNat 6)).toNatClampNeg) := nat_inb S1371 hlt1371 hn1371
    obtain ⟨T1371, h1371, X1371, e1371, W1371, st1371⟩ := stC X1367 hx hZ e1367 Ar1371 (j := (Int32.ofNat 6)) hin1371 (g := (mkF m 503 #[.val (.int (Int32.ofNat 10)), .val (.ref a2)] [(.int (f 6)), (.int (Int32.ofNat 6)), (.ref b1343), (.ref b1343), (.ref b1341), (.ref b1341)])) rfl rfl (hb hby d3_503)
    rw [nat_clamp (show 6 < 2 ^ 31 by omega)] at W1371 X1371
    refine GoalH.step (T' := T1371) (g' := (mkF m 504 #[.val (.int (Int32.ofNat 10)), .val (.ref a2)] [(.ref b1343), (.ref b1341), (.ref b1341)])) ?_ st1371
    have sz1372 : h1367.size ≤ h1371.size := Nat.le_of_eq W1371.size.symm
    have V1371 : Arf Z h1371 b1343 k1343 .char 10 (fun z => if z = 6 then (nar .char (f 6)) else ((fun z => if z = 5 then (nar .char (f 5)) else ((fun z => if z = 4 then (nar .char (f 4)) else ((fun z => if z = 3 then (nar .char (f 3)) else ((fun z => if z = 2 then (nar .char (f 2)) else ((fun z => if z = 1 then (nar .char (f 1)) else ((fun z => if z = 0 then (nar .char (f 0)) else ((fun _ => 0)) z)) z)) z)) z)) z)) z)) z) := Arf.set Ar1371 q1371 S1371 H1371 W1371
    have N1371 := Fr.snoc X1371 N1367 (by omega : n0 ≤ b1343)
    refine GoalH.step (T' := T1371) (g' := (mkF m 505 #[.val (.int (Int32.ofNat 10)), .val (.ref a2)] [(.ref b1343), (.ref b1343), (.ref b1341), (.ref b1341)])) ?_ (fun t k => XS.dup X1371.here hx rfl (hb hby d3_504) rfl rfl k)
    refine GoalH.step (T' := T1371) (g' := (mkF m 507 #[.val (.int (Int32.ofNat 10)), .val (.ref a2)] [(.int (Int32.ofNat 7)), (.ref b1343), (.ref b1343), (.ref b1341), (.ref b1341)])) ?_ (fun t k => XS.bipush X1371.here hx rfl (hb hby d3_505) k)
    refine GoalH.step (T' := T1371) (g' := (mkF m 508 #[.val (.int (Int32.ofNat 10)), .val (.ref a2)] [(.ref a2), (.int (Int32.ofNat 7)), (.ref b1343), (.ref b1343), (.ref b1341), (.ref b1341)])) ?_ (fun t k => XS.aloadN X1371.here hx rfl (hb hby d3_507) rfl rfl k)
    refine GoalH.step (T' := T1371) (g' := (mkF m 510 #[.val (.int (Int32.ofNat 10)), .val (.ref a2)] [(.int (Int32.ofNat 7)), (.ref a2), (.int (Int32.ofNat 7)), (.ref b1343), (.ref b1343), (.ref b1341), (.ref b1341)])) ?_ (fun t k => XS.bipush X1371.here hx rfl (hb hby d3_508) k)
    have f1374 : Arf Z h1371 a2 k1 .char 10 f := (f1370.other W1371 (nne (by omega)))
    obtain ⟨cl1373, Ar1373, q1373, S1373, H1373⟩ := (id f1374)
    have hlt1373 : 7 < 10 := by omega
    have hn1373 : 10 < 2 ^ 31 := by omega
    have hin1373 : ¬ ((Int32.ofNat 7) < 0 ∨ cl1373.slots.size ≤ ((Int32.ofNat 7)).toNatClampNeg) := nat_inb S1373 hlt1373 hn1373
    have hat1373 : cl1373.slots[((Int32.ofNat 7)).toNatClampNeg]? = some (.int (f 7)) := by rw [nat_clamp (show 7 < 2 ^ 31 by omega)]; exact H1373 _ hlt1373
    refine GoalH.step (T' := T1371) (g' := (mkF m 511 #[.val (.int (Int32.ofNat 10)), .val (.ref a2)] [(.int (f 7)), (.int (Int32.ofNat 7)), (.ref b1343), (.ref b1343), (.ref b1341), (.ref b1341)])) ?_ (fun t k => X1371.caload hx (j := (Int32.ofNat 7)) (v := (.int (f 7))) (by rw [e1371]; exact Ar1373.1) (State.isArrayOf_alike hZ.alike Ar1373.2.1) Ar1373.2.2 hin1373 hat1373 (g := (mkF m 510 #[.val (.int (Int32.ofNat 10)), .val (.ref a2)] [(.int (Int32.ofNat 7)), (.ref a2), (.int (Int32.ofNat 7)), (.ref b1343), (.ref b1343), (.ref b1341), (.ref b1341)])) rfl rfl (hb hby d3_510) _ k)
    obtain ⟨cl1375, Ar1375, q1375, S1375, H1375⟩ := (id V1371)
    have hlt1375 : 7 < 10 := by omega
    have hn1375 : 10 < 2 ^ 31 := by omega
    have hin1375 : ¬ ((Int32.ofNat 7) < 0 ∨ cl1375.slots.size ≤ ((Int32.ofNat 7)).toNatClampNeg) := nat_inb S1375 hlt1375 hn1375
    obtain ⟨T1375, h1375, X1375, e1375, W1375, st1375⟩ := stC X1371 hx hZ e1371 Ar1375 (j := (Int32.ofNat 7)) hin1375 (g := (mkF m 511 #[.val (.int (Int32.ofNat 10)), .val (.ref a2)] [(.int (f 7)), (.int (Int32.ofNat 7)), (.ref b1343), (.ref b1343), (.ref b1341), (.ref b1341)])) rfl rfl (hb hby d3_511)
    rw [nat_clamp (show 7 < 2 ^ 31 by omega)] at W1375 X1375
    refine GoalH.step (T' := T1375) (g' := (mkF m 512 #[.val (.int (Int32.ofNat 10)), .val (.ref a2)] [(.ref b1343), (.ref b1341), (.ref b1341)])) ?_ st1375
    have sz1376 : h1371.size ≤ h1375.size := Nat.le_of_eq W1375.size.symm
    have V1375 : Arf Z h1375 b1343 k1343 .char 10 (fun z => if z = 7 then (nar .char (f 7)) else ((fun z => if z = 6 then (nar .char (f 6)) else ((fun z => if z = 5 then (nar .char (f 5)) else ((fun z => if z = 4 then (nar .char (f 4)) else ((fun z => if z = 3 then (nar .char (f 3)) else ((fun z => if z = 2 then (nar .char (f 2)) else ((fun z => if z = 1 then (nar .char (f 1)) else ((fun z => if z = 0 then (nar .char (f 0)) else ((fun _ => 0)) z)) z)) z)) z)) z)) z)) z)) z) := Arf.set Ar1375 q1375 S1375 H1375 W1375
    have N1375 := Fr.snoc X1375 N1371 (by omega : n0 ≤ b1343)
    refine GoalH.step (T' := T1375) (g' := (mkF m 513 #[.val (.int (Int32.ofNat 10)), .val (.ref a2)] [(.ref b1343), (.ref b1343), (.ref b1341), (.ref b1341)])) ?_ (fun t k => XS.dup X1375.here hx rfl (hb hby d3_512) rfl rfl k)
    refine GoalH.step (T' := T1375) (g' := (mkF m 515 #[.val (.int (Int32.ofNat 10)), .val (.ref a2)] [(.int (Int32.ofNat 8)), (.ref b1343), (.ref b1343), (.ref b1341), (.ref b1341)])) ?_ (fun t k => XS.bipush X1375.here hx rfl (hb hby d3_513) k)
    refine GoalH.step (T' := T1375) (g' := (mkF m 516 #[.val (.int (Int32.ofNat 10)), .val (.ref a2)] [(.ref a2), (.int (Int32.ofNat 8)), (.ref b1343), (.ref b1343), (.ref b1341), (.ref b1341)])) ?_ (fun t k => XS.aloadN X1375.here hx rfl (hb hby d3_515) rfl rfl k)
    refine GoalH.step (T' := T1375) (g' := (mkF m 518 #[.val (.int (Int32.ofNat 10)), .val (.ref a2)] [(.int (Int32.ofNat 8)), (.ref a2), (.int (Int32.ofNat 8)), (.ref b1343), (.ref b1343), (.ref b1341), (.ref b1341)])) ?_ (fun t k => XS.bipush X1375.here hx rfl (hb hby d3_516) k)
    have f1378 : Arf Z h1375 a2 k1 .char 10 f := (f1374.other W1375 (nne (by omega)))
    obtain ⟨cl1377, Ar1377, q1377, S1377, H1377⟩ := (id f1378)
    have hlt1377 : 8 < 10 := by omega
    have hn1377 : 10 < 2 ^ 31 := by omega
    have hin1377 : ¬ ((Int32.ofNat 8) < 0 ∨ cl1377.slots.size ≤ ((Int32.ofNat 8)).toNatClampNeg) := nat_inb S1377 hlt1377 hn1377
    have hat1377 : cl1377.slots[((Int32.ofNat 8)).toNatClampNeg]? = some (.int (f 8)) := by rw [nat_clamp (show 8 < 2 ^ 31 by omega)]; exact H1377 _ hlt1377
    refine GoalH.step (T' := T1375) (g' := (mkF m 519 #[.val (.int (Int32.ofNat 10)), .val (.ref a2)] [(.int (f 8)), (.int (Int32.ofNat 8)), (.ref b1343), (.ref b1343), (.ref b1341), (.ref b1341)])) ?_ (fun t k => X1375.caload hx (j := (Int32.ofNat 8)) (v := (.int (f 8))) (by rw [e1375]; exact Ar1377.1) (State.isArrayOf_alike hZ.alike Ar1377.2.1) Ar1377.2.2 hin1377 hat1377 (g := (mkF m 518 #[.val (.int (Int32.ofNat 10)), .val (.ref a2)] [(.int (Int32.ofNat 8)), (.ref a2), (.int (Int32.ofNat 8)), (.ref b1343), (.ref b1343), (.ref b1341), (.ref b1341)])) rfl rfl (hb hby d3_518) _ k)
    obtain ⟨cl1379, Ar1379, q1379, S1379, H1379⟩ := (id V1375)
    have hlt1379 : 8 < 10 := by omega
    have hn1379 : 10 < 2 ^ 31 := by omega
    have hin1379 : ¬ ((Int32.ofNat 8) < 0 ∨ cl1379.slots.size ≤ ((Int32.ofNat 8)).toNatClampNeg) := nat_inb S1379 hlt1379 hn1379
    obtain ⟨T1379, h1379, X1379, e1379, W1379, st1379⟩ := stC X1375 hx hZ e1375 Ar1379 (j := (Int32.ofNat 8)) hin1379 (g := (mkF m 519 #[.val (.int (Int32.ofNat 10)), .val (.ref a2)] [(.int (f 8)), (.int (Int32.ofNat 8)), (.ref b1343), (.ref b1343), (.ref b1341), (.ref b1341)])) rfl rfl (hb hby d3_519)
    rw [nat_clamp (show 8 < 2 ^ 31 by omega)] at W1379 X1379
    refine GoalH.step (T' := T1379) (g' := (mkF m 520 #[.val (.int (Int32.ofNat 10)), .val (.ref a2)] [(.ref b1343), (.ref b1341), (.ref b1341)])) ?_ st1379
    have sz1380 : h1375.size ≤ h1379.size := Nat.le_of_eq W1379.size.symm
    have V1379 : Arf Z h1379 b1343 k1343 .char 10 (fun z => if z = 8 then (nar .char (f 8)) else ((fun z => if z = 7 then (nar .char (f 7)) else ((fun z => if z = 6 then (nar .char (f 6)) else ((fun z => if z = 5 then (nar .char (f 5)) else ((fun z => if z = 4 then (nar .char (f 4)) else ((fun z => if z = 3 then (nar .char (f 3)) else ((fun z => if z = 2 then (nar .char (f 2)) else ((fun z => if z = 1 then (nar .char (f 1)) else ((fun z => if z = 0 then (nar .char (f 0)) else ((fun _ => 0)) z)) z)) z)) z)) z)) z)) z)) z)) z) := Arf.set Ar1379 q1379 S1379 H1379 W1379
    have N1379 := Fr.snoc X1379 N1375 (by omega : n0 ≤ b1343)
    refine GoalH.step (T' := T1379) (g' := (mkF m 521 #[.val (.int (Int32.ofNat 10)), .val (.ref a2)] [(.ref b1343), (.ref b1343), (.ref b1341), (.ref b1341)])) ?_ (fun t k => XS.dup X1379.here hx rfl (hb hby d3_520) rfl rfl k)
    refine GoalH.step (T' := T1379) (g' := (mkF m 523 #[.val (.int (Int32.ofNat 10)), .val (.ref a2)] [(.int (Int32.ofNat 9)), (.ref b1343), (.ref b1343), (.ref b1341), (.ref b1341)])) ?_ (fun t k => XS.bipush X1379.here hx rfl (hb hby d3_521) k)
    refine GoalH.step (T' := T1379) (g' := (mkF m 524 #[.val (.int (Int32.ofNat 10)), .val (.ref a2)] [(.ref a2), (.int (Int32.ofNat 9)), (.ref b1343), (.ref b1343), (.ref b1341), (.ref b1341)])) ?_ (fun t k => XS.aloadN X1379.here hx rfl (hb hby d3_523) rfl rfl k)
    refine GoalH.step (T' := T1379) (g' := (mkF m 526 #[.val (.int (Int32.ofNat 10)), .val (.ref a2)] [(.int (Int32.ofNat 9)), (.ref a2), (.int (Int32.ofNat 9)), (.ref b1343), (.ref b1343), (.ref b1341), (.ref b1341)])) ?_ (fun t k => XS.bipush X1379.here hx rfl (hb hby d3_524) k)
    have f1382 : Arf Z h1379 a2 k1 .char 10 f := (f1378.other W1379 (nne (by omega)))
    obtain ⟨cl1381, Ar1381, q1381, S1381, H1381⟩ := (id f1382)
    have hlt1381 : 9 < 10 := by omega
    have hn1381 : 10 < 2 ^ 31 := by omega
    have hin1381 : ¬ ((Int32.ofNat 9) < 0 ∨ cl1381.slots.size ≤ ((Int32.ofNat 9)).toNatClampNeg) := nat_inb S1381 hlt1381 hn1381
    have hat1381 : cl1381.slots[((Int32.ofNat 9)).toNatClampNeg]? = some (.int (f 9)) := by rw [nat_clamp (show 9 < 2 ^ 31 by omega)]; exact H1381 _ hlt1381
    refine GoalH.step (T' := T1379) (g' := (mkF m 527 #[.val (.int (Int32.ofNat 10)), .val (.ref a2)] [(.int (f 9)), (.int (Int32.ofNat 9)), (.ref b1343), (.ref b1343), (.ref b1341), (.ref b1341)])) ?_ (fun t k => X1379.caload hx (j := (Int32.ofNat 9)) (v := (.int (f 9))) (by rw [e1379]; exact Ar1381.1) (State.isArrayOf_alike hZ.alike Ar1381.2.1) Ar1381.2.2 hin1381 hat1381 (g := (mkF m 526 #[.val (.int (Int32.ofNat 10)), .val (.ref a2)] [(.int (Int32.ofNat 9)), (.ref a2), (.int (Int32.ofNat 9)), (.ref b1343), (.ref b1343), (.ref b1341), (.ref b1341)])) rfl rfl (hb hby d3_526) _ k)
    obtain ⟨cl1383, Ar1383, q1383, S1383, H1383⟩ := (id V1379)
    have hlt1383 : 9 < 10 := by omega
    have hn1383 : 10 < 2 ^ 31 := by omega
    have hin1383 : ¬ ((Int32.ofNat 9) < 0 ∨ cl1383.slots.size ≤ ((Int32.ofNat 9)).toNatClampNeg) := nat_inb S1383 hlt1383 hn1383
    obtain ⟨T1383, h1383, X1383, e1383, W1383, st1383⟩ := stC X1379 hx hZ e1379 Ar1383 (j := (Int32.ofNat 9)) hin1383 (g := (mkF m 527 #[.val (.int (Int32.ofNat 10)), .val (.ref a2)] [(.int (f 9)), (.int (Int32.ofNat 9)), (.ref b1343), (.ref b1343), (.ref b1341), (.ref b1341)])) rfl rfl (hb hby d3_527)
    rw [nat_clamp (show 9 < 2 ^ 31 by omega)] at W1383 X1383
    refine GoalH.step (T' := T1383) (g' := (mkF m 528 #[.val (.int (Int32.ofNat 10)), .val (.ref a2)] [(.ref b1343), (.ref b1341), (.ref b1341)])) ?_ st1383
    have sz1384 : h1379.size ≤ h1383.size := Nat.le_of_eq W1383.size.symm
    have V1383 : Arf Z h1383 b1343 k1343 .char 10 (fun z => if z = 9 then (nar .char (f 9)) else ((fun z => if z = 8 then (nar .char (f 8)) else ((fun z => if z = 7 then (nar .char (f 7)) else ((fun z => if z = 6 then (nar .char (f 6)) else ((fun z => if z = 5 then (nar .char (f 5)) else ((fun z => if z = 4 then (nar .char (f 4)) else ((fun z => if z = 3 then (nar .char (f 3)) else ((fun z => if z = 2 then (nar .char (f 2)) else ((fun z => if z = 1 then (nar .char (f 1)) else ((fun z => if z = 0 then (nar .char (f 0)) else ((fun _ => 0)) z)) z)) z)) z)) z)) z)) z)) z)) z)) z) := Arf.set Ar1383 q1383 S1383 H1383 W1383
    have N1383 := Fr.snoc X1383 N1379 (by omega : n0 ≤ b1343)
    have AC1386 : Arf Z h1383 b1343 k1343 .char 10 f := Arf.congr V1383 (own_st (i := 9) (own_st (i := 8) (own_st (i := 7) (own_st (i := 6) (own_st (i := 5) (own_st (i := 4) (own_st (i := 3) (own_st (i := 2) (own_st (i := 1) (own_st (i := 0) (fun j hj => absurd hj (Nat.not_lt_zero _)) (hc 0 (by decide))) (hc 1 (by decide))) (hc 2 (by decide))) (hc 3 (by decide))) (hc 4 (by decide))) (hc 5 (by decide))) (hc 6 (by decide))) (hc 7 (by decide))) (hc 8 (by decide))) (hc 9 (by decide)))
    have f1387 : Old Z n0 h1383 := ((((((((((((O0.ext E1341).ext E1343).wr W1347 (by omega)).wr W1351 (by omega)).wr W1355 (by omega)).wr W1359 (by omega)).wr W1363 (by omega)).wr W1367 (by omega)).wr W1371 (by omega)).wr W1375 (by omega)).wr W1379 (by omega)).wr W1383 (by omega))
    have f1388 : Exa Z h1383 b1341 "java/lang/String" := (Exa.wr W1383 (Exa.wr W1379 (Exa.wr W1375 (Exa.wr W1371 (Exa.wr W1367 (Exa.wr W1363 (Exa.wr W1359 (Exa.wr W1355 (Exa.wr W1351 (Exa.wr W1347 (A1341.ext E1343)))))))))))
    have f1389 : Fld Z h1383 b1341 "java/lang/String" "value" "[B" .null := (Fld.other W1383 (Fld.other W1379 (Fld.other W1375 (Fld.other W1371 (Fld.other W1367 (Fld.other W1363 (Fld.other W1359 (Fld.other W1355 (Fld.other W1351 (Fld.other W1347 ((D1341 (Or.inr (hw _ (List.mem_of_getElem? (i := 28) rfl))) (ty := (.array .byte)) (by decide)).ext E1343) (Or.inl (nne (by omega)))) (Or.inl (nne (by omega)))) (Or.inl (nne (by omega)))) (Or.inl (nne (by omega)))) (Or.inl (nne (by omega)))) (Or.inl (nne (by omega)))) (Or.inl (nne (by omega)))) (Or.inl (nne (by omega)))) (Or.inl (nne (by omega)))) (Or.inl (nne (by omega))))
    have f1390 : Fld Z h1383 b1341 "java/lang/String" "coder" "B" (.int (0 : Int32)) := (Fld.other W1383 (Fld.other W1379 (Fld.other W1375 (Fld.other W1371 (Fld.other W1367 (Fld.other W1363 (Fld.other W1359 (Fld.other W1355 (Fld.other W1351 (Fld.other W1347 ((D1341 (Or.inr (hw _ (List.mem_of_getElem? (i := 29) rfl))) (ty := .byte) (by decide)).ext E1343) (Or.inl (nne (by omega)))) (Or.inl (nne (by omega)))) (Or.inl (nne (by omega)))) (Or.inl (nne (by omega)))) (Or.inl (nne (by omega)))) (Or.inl (nne (by omega)))) (Or.inl (nne (by omega)))) (Or.inl (nne (by omega)))) (Or.inl (nne (by omega)))) (Or.inl (nne (by omega))))
    have kk1391 : Keep h0 h1383 [] := (((((((((((((Keep.refl h0 []).ext E1341).ext E1343).wr W1347 (Or.inr (by omega))).wr W1351 (Or.inr (by omega))).wr W1355 (Or.inr (by omega))).wr W1359 (Or.inr (by omega))).wr W1363 (Or.inr (by omega))).wr W1367 (Or.inr (by omega))).wr W1371 (Or.inr (by omega))).wr W1375 (Or.inr (by omega))).wr W1379 (Or.inr (by omega))).wr W1383 (Or.inr (by omega)))
    have CH1392 := CHr.trans CH0 (CHr.keep kk1391 all0 CH0.1)
    have kk1393 : Keep h0 h1383 [] := (((((((((((((Keep.refl h0 []).ext E1341).ext E1343).wr W1347 (Or.inr (by omega))).wr W1351 (Or.inr (by omega))).wr W1355 (Or.inr (by omega))).wr W1359 (Or.inr (by omega))).wr W1363 (Or.inr (by omega))).wr W1367 (Or.inr (by omega))).wr W1371 (Or.inr (by omega))).wr W1375 (Or.inr (by omega))).wr W1379 (Or.inr (by omega))).wr W1383 (Or.inr (by omega)))
    have Sf1394 := safeFresh (EL := consts_1) kk1393 CH0.1 (show h0.size ≤ b1341 by omega)
    obtain ⟨v1385, T1385, h1385, L1385, k1385, X1385, e1385, hQ1385, hS, hk1385, hsz1385, C1385, hZ, hown, st1385⟩ := callInitH X1383 hx hZ hown hS (by omega) (own_EW hw) CH1392.1 (allS ⟨show (b1341 : Nat) < h1383.size by omega, Sf1394⟩ all0) rfl (hw _ (List.mem_of_getElem? (i := 16) rfl)) (hw _ (List.mem_of_getElem? (i := 17) rfl)) (hw _ (List.mem_of_getElem? (i := 15) rfl)) (hw _ (List.mem_of_getElem? (i := 18) rfl)) (by decide) (rmI1 l Z a0 hw 10 b1341 b1343 k1343 f .null (.int (0 : Int32)) cs fm h1383 n0 (by omega) SE f1387 f1388 f1389 f1390 (by omega) (fun j hj => hc j (by omega)) AC1386 (by omega) (by omega) (by omega) (by omega)) e1383 (W := 1) (by decide) (by decide) (by decide) (by decide) (g := (mkF m 528 #[.val (.int (Int32.ofNat 10)), .val (.ref a2)] [(.ref b1343), (.ref b1341), (.ref b1341)])) rfl (by rw [hml]; rfl) (a := b1341) (argsL := [(.ref b1343)]) (rest := [(.ref b1341)]) (lenOf pd_18 rfl) rfl (by show 2 * 0 + _ ≤ _; exact Nat.le_of_eq rfl) (hb hby d3_528) rfl
    obtain ⟨rfl, M1385, K1385, Z1385⟩ := hQ1385
    have N1385 := Fr.app N1383 M1385
    refine GoalH.step (T' := T1385) (g' := (mkF m 531 #[.val (.int (Int32.ofNat 10)), .val (.ref a2)] [(.ref b1341)])) ?_ st1385
    have sz1395 : h1383.size ≤ h1385.size := K1385.1
    have CH1385 := CHr.trans CH1392 C1385
    have Sf1385_b1341 := C1385.safe (show (b1341 : Nat) < h1383.size by omega) Sf1394
    refine GoalH.retA X1385 hS (by rw [e1385]; omega) hZ (own_EW hw) (by rw [e1385]; exact CH1385) hx hret rfl rfl rfl (hb hby d3_531) ?_
    have k1396 : Keep h0 h1385 [] := ((((((((((((((Keep.refl h0 []).ext E1341).ext E1343).wr W1347 (Or.inr (by omega))).wr W1351 (Or.inr (by omega))).wr W1355 (Or.inr (by omega))).wr W1359 (Or.inr (by omega))).wr W1363 (Or.inr (by omega))).wr W1367 (Or.inr (by omega))).wr W1371 (Or.inr (by omega))).wr W1375 (Or.inr (by omega))).wr W1379 (Or.inr (by omega))).wr W1383 (Or.inr (by omega))).trans K1385 (allS (Or.inr (by omega)) all0))
    refine ⟨?_, by decide, by decide⟩
    rw [e1385]
    exact ⟨b1341, rfl, N1385, extKp (extRefl _) k1396 all0, Z1385⟩
theorem d7_0 : decode prog_31_method_3_code 0 = .ok (.getstatic 58, 3) := by decide +kernel
theorem d7_3 : decode prog_31_method_3_code 3 = .ok (.astore_n 1, 1) := by decide +kernel
theorem d7_4 : decode prog_31_method_3_code 4 = .ok (.aload_n 1, 1) := by decide +kernel
theorem d7_5 : decode prog_31_method_3_code 5 = .ok (.arraylength, 1) := by decide +kernel
theorem d7_6 : decode prog_31_method_3_code 6 = .ok (.istore_n 2, 1) := by decide +kernel
theorem d7_7 : decode prog_31_method_3_code 7 = .ok (.iconst 0, 1) := by decide +kernel
theorem d7_8 : decode prog_31_method_3_code 8 = .ok (.istore_n 3, 1) := by decide +kernel
theorem d7_9 : decode prog_31_method_3_code 9 = .ok (.iload_n 3, 1) := by decide +kernel
theorem d7_10 : decode prog_31_method_3_code 10 = .ok (.iload_n 2, 1) := by decide +kernel
theorem d7_11 : decode prog_31_method_3_code 11 = .ok (.if_icmp .ge 29, 3) := by decide +kernel
theorem d7_14 : decode prog_31_method_3_code 14 = .ok (.aload_n 1, 1) := by decide +kernel
theorem d7_15 : decode prog_31_method_3_code 15 = .ok (.iload_n 3, 1) := by decide +kernel
theorem d7_16 : decode prog_31_method_3_code 16 = .ok (.aaload, 1) := by decide +kernel
theorem d7_17 : decode prog_31_method_3_code 17 = .ok (.astore 4, 2) := by decide +kernel
theorem d7_19 : decode prog_31_method_3_code 19 = .ok (.aload_n 0, 1) := by decide +kernel
theorem d7_20 : decode prog_31_method_3_code 20 = .ok (.aload 4, 2) := by decide +kernel
theorem d7_22 : decode prog_31_method_3_code 22 = .ok (.invokestatic 62, 3) := by decide +kernel
theorem pd_19 : parseMethodDescriptor "(Ljava/lang/String;Ljava/lang/String;)Z" = some ⟨[(.object "java/lang/String"), (.object "java/lang/String")], some .boolean⟩ := by decide +kernel
theorem d7_25 : decode prog_31_method_3_code 25 = .ok (.ifCond .eq 9, 3) := by decide +kernel
theorem d7_28 : decode prog_31_method_3_code 28 = .ok (.aload 4, 2) := by decide +kernel
theorem d7_30 : decode prog_31_method_3_code 30 = .ok (.invokevirtual 7, 3) := by decide +kernel
theorem d7_33 : decode prog_31_method_3_code 33 = .ok (.ireturn, 1) := by decide +kernel
theorem d7_34 : decode prog_31_method_3_code 34 = .ok (.iinc 3 1, 3) := by decide +kernel
theorem d7_37 : decode prog_31_method_3_code 37 = .ok (.goto (-28), 3) := by decide +kernel
theorem d7_40 : decode prog_31_method_3_code 40 = .ok (.iconst (-1), 1) := by decide +kernel
theorem d7_41 : decode prog_31_method_3_code 41 = .ok (.ireturn, 1) := by decide +kernel
theorem ef_7 (m : MethodId) (x0 : Nat) : entryFrame m #[(.ref x0)] 5 = mkF m 0 #[.val (.ref x0), .unset, .unset, .unset, .unset] [] := by first | (simp [entryFrame, mkF, argsToLocals, Value.category]; done) | rfl
set_option maxRecDepth 65536 in
set_option maxHeartbeats 40000000 in
theorem rmAS (l : Launch) (Z : State) (a0 : Array Value) (hw : ∀ d ∈ tables_1, d.before a0 Z = true) (a1 : Nat) (n : Nat) (f : Nat → Int32) (ca u0 u1 : Nat) (kc : ClassId) (cs : Int32) (fm : Value) (h0 : Heap) (n0 : Nat) (Z0 : n0 ≤ h0.size) (SE : SEnv Z cs fm) (O0 : Old Z n0 h0) (S0 : Sta Z Z.heap "com/example/gids/gids/LocRule" "SCHEMES" "[Ljava/lang/String;" (.ref ca)) (AV : Arv Z Z.heap ca kc (.object "java/lang/String") (2 : Int32) [.ref u0, .ref u1] .null) (U0 : Str Z Z.heap u0 7 sch0) (U1 : Str Z Z.heap u1 8 sch1) (S1 : Str Z h0 a1 n f) :
    Met l (⟨"com/example/gids/gids/LocRule", "authorityStart", "(Ljava/lang/String;)I"⟩ : MethodName) prog_31_method_3_code 5 (some .int) [] ({ frames := 6, cells := 0, slots := 0, locals := 90 } : Room) Z #[(.ref a1)] h0 (fun v h L => ∃ r : Int32, v = some (.int r) ∧ Fr n0 L ∧ h = h0 ∧ (((7 ≤ n ∧ ∀ j, j < 7 → low (f j) = sch0 j) ∧ r = 7) ∨ (¬ (7 ≤ n ∧ ∀ j, j < 7 → low (f j) = sch0 j) ∧ (8 ≤ n ∧ ∀ j, j < 8 → low (f j) = sch1 j) ∧ r = 8) ∨ (¬ (7 ≤ n ∧ ∀ j, j < 7 → low (f j) = sch0 j) ∧ ¬ (8 ≤ n ∧ ∀ j, j < 8 → low (f j) = sch1 j) ∧ r = -1))) := by
  refine of_goal (plainFor_of_name (by first | (simp [plainName, overriddenIn]; done) | decide +kernel)) ?_
  intro p e s m below meth c s₁ C X0 e0
  have C0 := C
  obtain ⟨hx, hZ, hby, hml, hret, hown, hnm⟩ := C
  have hown : s.vm.findClass "com/example/gids/gids/LocRule" = some m.cls := hown
  have hret : meth.sig.returnType = (some .int) := hret
  have N0 := Fr.nil n0
  rw [ef_7]
  obtain ⟨T1001, X1001, e1001, st1001⟩ := getS2 X0 hx hZ hown (host := "") (Or.inl (hw _ (List.mem_of_getElem? (i := 38) rfl))) Via.refl e0 (Sta.ext O0.2 S0) (g := (mkF m 0 #[.val (.ref a1), .unset, .unset, .unset, .unset] [])) rfl (hb hby d7_0)
  refine Goal.step (T' := T1001) (g' := (mkF m 3 #[.val (.ref a1), .unset, .unset, .unset, .unset] [(.ref ca)])) ?_ st1001
  refine Goal.step (T' := T1001) (g' := (mkF m 4 #[.val (.ref a1), .val (.ref ca), .unset, .unset, .unset] [])) ?_ (fun t k => XS.astoreN X1001.here hx rfl (hb hby d7_3) rfl rfl (l' := #[.val (.ref a1), .val (.ref ca), .unset, .unset, .unset]) rfl k)
  refine Goal.step (T' := T1001) (g' := (mkF m 5 #[.val (.ref a1), .val (.ref ca), .unset, .unset, .unset] [(.ref ca)])) ?_ (fun t k => XS.aloadN X1001.here hx rfl (hb hby d7_4) rfl rfl k)
  obtain ⟨cl1002, Ar1002, q1002, S1002, N_1002, H1002, G1002⟩ := (id (AV.ext O0.2))
  refine Goal.step (T' := T1001) (g' := (mkF m 6 #[.val (.ref a1), .val (.ref ca), .unset, .unset, .unset] [(.int (2 : Int32))])) ?_ (fun t k => X1001.arraylength hx (by rw [e1001]; exact Ar1002.1) (State.isArrayOf_alike hZ.alike Ar1002.2.1) (g := (mkF m 5 #[.val (.ref a1), .val (.ref ca), .unset, .unset, .unset] [(.ref ca)])) rfl rfl (hb hby d7_5) _ (by rw [len_of S1002 N_1002]; exact k))
  refine Goal.step (T' := T1001) (g' := (mkF m 7 #[.val (.ref a1), .val (.ref ca), .val (.int (2 : Int32)), .unset, .unset] [])) ?_ (fun t k => XS.istoreN X1001.here hx rfl (hb hby d7_6) rfl (l' := #[.val (.ref a1), .val (.ref ca), .val (.int (2 : Int32)), .unset, .unset]) rfl k)
  refine Goal.step (T' := T1001) (g' := (mkF m 8 #[.val (.ref a1), .val (.ref ca), .val (.int (2 : Int32)), .unset, .unset] [(.int (0 : Int32))])) ?_ (fun t k => XS.iconst X1001.here hx rfl (hb hby d7_7) k)
  refine Goal.step (T' := T1001) (g' := (mkF m 9 #[.val (.ref a1), .val (.ref ca), .val (.int (2 : Int32)), .val (.int (0 : Int32)), .unset] [])) ?_ (fun t k => XS.istoreN X1001.here hx rfl (hb hby d7_8) rfl (l' := #[.val (.ref a1), .val (.ref ca), .val (.int (2 : Int32)), .val (.int (0 : Int32)), .unset]) rfl k)
  refine Goal.step (T' := T1001) (g' := (mkF m 10 #[.val (.ref a1), .val (.ref ca), .val (.int (2 : Int32)), .val (.int (0 : Int32)), .unset] [(.int (0 : Int32))])) ?_ (fun t k => XS.iloadN X1001.here hx rfl (hb hby d7_9) rfl k)
  refine Goal.step (T' := T1001) (g' := (mkF m 11 #[.val (.ref a1), .val (.ref ca), .val (.int (2 : Int32)), .val (.int (0 : Int32)), .unset] [(.int (2 : Int32)), (.int (0 : Int32))])) ?_ (fun t k => XS.iloadN X1001.here hx rfl (hb hby d7_10) rfl k)
  refine Goal.step (T' := T1001) (g' := (mkF m 14 #[.val (.ref a1), .val (.ref ca), .val (.int (2 : Int32)), .val (.int (0 : Int32)), .unset] [])) ?_ (fun t k => XS.icmpNo X1001.here hx rfl (hb hby d7_11) rfl (tlt (by decide)).2.1 k)
  refine Goal.step (T' := T1001) (g' := (mkF m 15 #[.val (.ref a1), .val (.ref ca), .val (.int (2 : Int32)), .val (.int (0 : Int32)), .unset] [(.ref ca)])) ?_ (fun t k => XS.aloadN X1001.here hx rfl (hb hby d7_14) rfl rfl k)
  refine Goal.step (T' := T1001) (g' := (mkF m 16 #[.val (.ref a1), .val (.ref ca), .val (.int (2 : Int32)), .val (.int (0 : Int32)), .unset] [(.int (0 : Int32)), (.ref ca)])) ?_ (fun t k => XS.iloadN X1001.here hx rfl (hb hby d7_15) rfl k)
  obtain ⟨cl1003, Ar1003, q1003, S1003, N_1003, H1003, G1003⟩ := (id (AV.ext O0.2))
  have hin1003 : ¬ ((0 : Int32) < 0 ∨ cl1003.slots.size ≤ ((0 : Int32)).toNatClampNeg) := inb_of S1003 ⟨by decide, by decide⟩
  have hat1003 : cl1003.slots[((0 : Int32)).toNatClampNeg]? = some (.ref u0) := Has.at H1003 hin1003 rfl
  refine Goal.step (T' := T1001) (g' := (mkF m 17 #[.val (.ref a1), .val (.ref ca), .val (.int (2 : Int32)), .val (.int (0 : Int32)), .unset] [(.ref u0)])) ?_ (fun t k => X1001.aaload hx (j := (0 : Int32)) (v := (.ref u0)) (by rw [e1001]; exact Ar1003.1) (State.isArrayOf_alike hZ.alike Ar1003.2.1) rfl Ar1003.2.2 hin1003 hat1003 (g := (mkF m 16 #[.val (.ref a1), .val (.ref ca), .val (.int (2 : Int32)), .val (.int (0 : Int32)), .unset] [(.int (0 : Int32)), (.ref ca)])) rfl rfl (hb hby d7_16) _ k)
  refine Goal.step (T' := T1001) (g' := (mkF m 19 #[.val (.ref a1), .val (.ref ca), .val (.int (2 : Int32)), .val (.int (0 : Int32)), .val (.ref u0)] [])) ?_ (fun t k => XS.astore X1001.here hx rfl (hb hby d7_17) rfl rfl (l' := #[.val (.ref a1), .val (.ref ca), .val (.int (2 : Int32)), .val (.int (0 : Int32)), .val (.ref u0)]) rfl k)
  refine Goal.step (T' := T1001) (g' := (mkF m 20 #[.val (.ref a1), .val (.ref ca), .val (.int (2 : Int32)), .val (.int (0 : Int32)), .val (.ref u0)] [(.ref a1)])) ?_ (fun t k => XS.aloadN X1001.here hx rfl (hb hby d7_19) rfl rfl k)
  refine Goal.step (T' := T1001) (g' := (mkF m 22 #[.val (.ref a1), .val (.ref ca), .val (.int (2 : Int32)), .val (.int (0 : Int32)), .val (.ref u0)] [(.ref u0), (.ref a1)])) ?_ (fun t k => XS.aload X1001.here hx rfl (hb hby d7_20) rfl rfl k)
  obtain ⟨v1004, T1004, h1004, L1004, X1004, e1004, hQ1004, st1004⟩ := callStatic X1001 hx hZ hown (hw _ (List.mem_of_getElem? (i := 40) rfl)) (hw _ (List.mem_of_getElem? (i := 41) rfl)) (hw _ (List.mem_of_getElem? (i := 42) rfl)) (hw _ (List.mem_of_getElem? (i := 43) rfl)) (by decide) (rmSW l Z a0 hw a1 u0 n 7 f sch0 cs fm h0 n0 (by omega) SE O0 S1 (U0.ext O0.2)) e1001 (W := 0) (by decide) (by decide) (by decide) (by decide) (g := (mkF m 22 #[.val (.ref a1), .val (.ref ca), .val (.int (2 : Int32)), .val (.int (0 : Int32)), .val (.ref u0)] [(.ref u0), (.ref a1)])) rfl (by rw [hml]; rfl) (argsL := [(.ref a1), (.ref u0)]) (rest := []) (lenOf pd_19 rfl) rfl (by show 2 * 0 + _ ≤ _; exact Nat.le_of_eq rfl) (hb hby d7_22) rfl
  rcases hQ1004 with ⟨hP0, rfl, M1004, q1004⟩ | ⟨hP0, rfl, M1004, q1004⟩
  · rw [q1004] at e1004
    have N1004 := Fr.app N0 M1004
    refine Goal.step (T' := T1004) (g' := (mkF m 25 #[.val (.ref a1), .val (.ref ca), .val (.int (2 : Int32)), .val (.int (0 : Int32)), .val (.ref u0)] [(.int (1 : Int32))])) ?_ st1004
    refine Goal.step (T' := T1004) (g' := (mkF m 28 #[.val (.ref a1), .val (.ref ca), .val (.int (2 : Int32)), .val (.int (0 : Int32)), .val (.ref u0)] [])) ?_ (fun t k => XS.ifNo X1004.here hx rfl (hb hby d7_25) rfl ((if0 _ _).trans (feq (by decide)).1) k)
    refine Goal.step (T' := T1004) (g' := (mkF m 30 #[.val (.ref a1), .val (.ref ca), .val (.int (2 : Int32)), .val (.int (0 : Int32)), .val (.ref u0)] [(.ref u0)])) ?_ (fun t k => XS.aload X1004.here hx rfl (hb hby d7_28) rfl rfl k)
    obtain ⟨v1005, T1005, h1005, L1005, X1005, e1005, hQ1005, st1005⟩ := callVirt X1004 hx hZ hown (hw _ (List.mem_of_getElem? (i := 122) rfl)) (hw _ (List.mem_of_getElem? (i := 45) rfl)) (notFace_of_selects (args := #[]) (mvT hZ (hw _ (List.mem_of_getElem? (i := 47) rfl)))) (hw _ (List.mem_of_getElem? (i := 47) rfl)) (hw _ (List.mem_of_getElem? (i := 46) rfl)) (hw _ (List.mem_of_getElem? (i := 15) rfl)) (hw _ (List.mem_of_getElem? (i := 48) rfl)) (by decide) (rmLEN l Z a0 hw u0 7 sch0 cs fm h0 n0 (by omega) SE O0 (U0.ext O0.2)) e1004 (U0.ext O0.2).2.1 (W := 0) (by decide) (by decide) (by decide) (by decide) (g := (mkF m 30 #[.val (.ref a1), .val (.ref ca), .val (.int (2 : Int32)), .val (.int (0 : Int32)), .val (.ref u0)] [(.ref u0)])) rfl (by rw [hml]; rfl) (argsL := []) (rest := []) (lenOf pd_14 rfl) rfl (by show 2 * 0 + _ ≤ _; exact Nat.le_of_eq rfl) (hb hby d7_30) rfl
    obtain ⟨rfl, M1005, q1005⟩ := hQ1005
    rw [q1005] at e1005
    have N1005 := Fr.app N1004 M1005
    refine Goal.step (T' := T1005) (g' := (mkF m 33 #[.val (.ref a1), .val (.ref ca), .val (.int (2 : Int32)), .val (.int (0 : Int32)), .val (.ref u0)] [(.int (Int32.ofNat 7))])) ?_ st1005
    refine Goal.retI X1005 hx hret (hb hby d7_33) ?_
    refine ⟨?_, by decide, by decide⟩
    rw [e1005]
    exact ⟨7, rfl, N1005, rfl, Or.inl ⟨hP0, rfl⟩⟩
  · rw [q1004] at e1004
    have N1004 := Fr.app N0 M1004
    refine Goal.step (T' := T1004) (g' := (mkF m 25 #[.val (.ref a1), .val (.ref ca), .val (.int (2 : Int32)), .val (.int (0 : Int32)), .val (.ref u0)] [(.int (0 : Int32))])) ?_ st1004
    refine Goal.step (T' := T1004) (g' := (mkF m 34 #[.val (.ref a1), .val (.ref ca), .val (.int (2 : Int32)), .val (.int (0 : Int32)), .val (.ref u0)] [])) ?_ (fun t k => XS.ifYes X1004.here hx rfl (pc0 := 25) (pc' := 34) rfl (hb hby d7_25) rfl ((if0 _ _).trans (teq (by decide)).1) (by decide) (by decide) k)
    refine Goal.step (T' := T1004) (g' := (mkF m 37 #[.val (.ref a1), .val (.ref ca), .val (.int (2 : Int32)), .val (.int ((0 : Int32) + (1 : Int32))), .val (.ref u0)] [])) ?_ (fun t k => XS.iinc X1004.here hx rfl (hb hby d7_34) rfl (l' := #[.val (.ref a1), .val (.ref ca), .val (.int (2 : Int32)), .val (.int ((0 : Int32) + (1 : Int32))), .val (.ref u0)]) rfl k)
    refine Goal.step (T' := T1004) (g' := (mkF m 9 #[.val (.ref a1), .val (.ref ca), .val (.int (2 : Int32)), .val (.int (1 : Int32)), .val (.ref u0)] [])) ?_ (fun t k => XS.goto X1004.here hx rfl (pc0 := 37) (pc' := 9) rfl (hb hby d7_37) (by decide) (by decide) k)
    refine Goal.step (T' := T1004) (g' := (mkF m 10 #[.val (.ref a1), .val (.ref ca), .val (.int (2 : Int32)), .val (.int (1 : Int32)), .val (.ref u0)] [(.int (1 : Int32))])) ?_ (fun t k => XS.iloadN X1004.here hx rfl (hb hby d7_9) rfl k)
    refine Goal.step (T' := T1004) (g' := (mkF m 11 #[.val (.ref a1), .val (.ref ca), .val (.int (2 : Int32)), .val (.int (1 : Int32)), .val (.ref u0)] [(.int (2 : Int32)), (.int (1 : Int32))])) ?_ (fun t k => XS.iloadN X1004.here hx rfl (hb hby d7_10) rfl k)
    refine Goal.step (T' := T1004) (g' := (mkF m 14 #[.val (.ref a1), .val (.ref ca), .val (.int (2 : Int32)), .val (.int (1 : Int32)), .val (.ref u0)] [])) ?_ (fun t k => XS.icmpNo X1004.here hx rfl (hb hby d7_11) rfl (tlt (by decide)).2.1 k)
    refine Goal.step (T' := T1004) (g' := (mkF m 15 #[.val (.ref a1), .val (.ref ca), .val (.int (2 : Int32)), .val (.int (1 : Int32)), .val (.ref u0)] [(.ref ca)])) ?_ (fun t k => XS.aloadN X1004.here hx rfl (hb hby d7_14) rfl rfl k)
    refine Goal.step (T' := T1004) (g' := (mkF m 16 #[.val (.ref a1), .val (.ref ca), .val (.int (2 : Int32)), .val (.int (1 : Int32)), .val (.ref u0)] [(.int (1 : Int32)), (.ref ca)])) ?_ (fun t k => XS.iloadN X1004.here hx rfl (hb hby d7_15) rfl k)
    obtain ⟨cl1006, Ar1006, q1006, S1006, N_1006, H1006, G1006⟩ := (id (AV.ext O0.2))
    have hin1006 : ¬ ((1 : Int32) < 0 ∨ cl1006.slots.size ≤ ((1 : Int32)).toNatClampNeg) := inb_of S1006 ⟨by decide, by decide⟩
    have hat1006 : cl1006.slots[((1 : Int32)).toNatClampNeg]? = some (.ref u1) := Has.at H1006 hin1006 rfl
    refine Goal.step (T' := T1004) (g' := (mkF m 17 #[.val (.ref a1), .val (.ref ca), .val (.int (2 : Int32)), .val (.int (1 : Int32)), .val (.ref u0)] [(.ref u1)])) ?_ (fun t k => X1004.aaload hx (j := (1 : Int32)) (v := (.ref u1)) (by rw [e1004]; exact Ar1006.1) (State.isArrayOf_alike hZ.alike Ar1006.2.1) rfl Ar1006.2.2 hin1006 hat1006 (g := (mkF m 16 #[.val (.ref a1), .val (.ref ca), .val (.int (2 : Int32)), .val (.int (1 : Int32)), .val (.ref u0)] [(.int (1 : Int32)), (.ref ca)])) rfl rfl (hb hby d7_16) _ k)
    refine Goal.step (T' := T1004) (g' := (mkF m 19 #[.val (.ref a1), .val (.ref ca), .val (.int (2 : Int32)), .val (.int (1 : Int32)), .val (.ref u1)] [])) ?_ (fun t k => XS.astore X1004.here hx rfl (hb hby d7_17) rfl rfl (l' := #[.val (.ref a1), .val (.ref ca), .val (.int (2 : Int32)), .val (.int (1 : Int32)), .val (.ref u1)]) rfl k)
    refine Goal.step (T' := T1004) (g' := (mkF m 20 #[.val (.ref a1), .val (.ref ca), .val (.int (2 : Int32)), .val (.int (1 : Int32)), .val (.ref u1)] [(.ref a1)])) ?_ (fun t k => XS.aloadN X1004.here hx rfl (hb hby d7_19) rfl rfl k)
    refine Goal.step (T' := T1004) (g' := (mkF m 22 #[.val (.ref a1), .val (.ref ca), .val (.int (2 : Int32)), .val (.int (1 : Int32)), .val (.ref u1)] [(.ref u1), (.ref a1)])) ?_ (fun t k => XS.aload X1004.here hx rfl (hb hby d7_20) rfl rfl k)
    obtain ⟨v1007, T1007, h1007, L1007, X1007, e1007, hQ1007, st1007⟩ := callStatic X1004 hx hZ hown (hw _ (List.mem_of_getElem? (i := 40) rfl)) (hw _ (List.mem_of_getElem? (i := 41) rfl)) (hw _ (List.mem_of_getElem? (i := 42) rfl)) (hw _ (List.mem_of_getElem? (i := 43) rfl)) (by decide) (rmSW l Z a0 hw a1 u1 n 8 f sch1 cs fm h0 n0 (by omega) SE O0 S1 (U1.ext O0.2)) e1004 (W := 0) (by decide) (by decide) (by decide) (by decide) (g := (mkF m 22 #[.val (.ref a1), .val (.ref ca), .val (.int (2 : Int32)), .val (.int (1 : Int32)), .val (.ref u1)] [(.ref u1), (.ref a1)])) rfl (by rw [hml]; rfl) (argsL := [(.ref a1), (.ref u1)]) (rest := []) (lenOf pd_19 rfl) rfl (by show 2 * 0 + _ ≤ _; exact Nat.le_of_eq rfl) (hb hby d7_22) rfl
    rcases hQ1007 with ⟨hP1, rfl, M1007, q1007⟩ | ⟨hP1, rfl, M1007, q1007⟩
    · rw [q1007] at e1007
      have N1007 := Fr.app N1004 M1007
      refine Goal.step (T' := T1007) (g' := (mkF m 25 #[.val (.ref a1), .val (.ref ca), .val (.int (2 : Int32)), .val (.int (1 : Int32)), .val (.ref u1)] [(.int (1 : Int32))])) ?_ st1007
      refine Goal.step (T' := T1007) (g' := (mkF m 28 #[.val (.ref a1), .val (.ref ca), .val (.int (2 : Int32)), .val (.int (1 : Int32)), .val (.ref u1)] [])) ?_ (fun t k => XS.ifNo X1007.here hx rfl (hb hby d7_25) rfl ((if0 _ _).trans (feq (by decide)).1) k)
      refine Goal.step (T' := T1007) (g' := (mkF m 30 #[.val (.ref a1), .val (.ref ca), .val (.int (2 : Int32)), .val (.int (1 : Int32)), .val (.ref u1)] [(.ref u1)])) ?_ (fun t k => XS.aload X1007.here hx rfl (hb hby d7_28) rfl rfl k)
      obtain ⟨v1008, T1008, h1008, L1008, X1008, e1008, hQ1008, st1008⟩ := callVirt X1007 hx hZ hown (hw _ (List.mem_of_getElem? (i := 122) rfl)) (hw _ (List.mem_of_getElem? (i := 45) rfl)) (notFace_of_selects (args := #[]) (mvT hZ (hw _ (List.mem_of_getElem? (i := 47) rfl)))) (hw _ (List.mem_of_getElem? (i := 47) rfl)) (hw _ (List.mem_of_getElem? (i := 46) rfl)) (hw _ (List.mem_of_getElem? (i := 15) rfl)) (hw _ (List.mem_of_getElem? (i := 48) rfl)) (by decide) (rmLEN l Z a0 hw u1 8 sch1 cs fm h0 n0 (by omega) SE O0 (U1.ext O0.2)) e1007 (U1.ext O0.2).2.1 (W := 0) (by decide) (by decide) (by decide) (by decide) (g := (mkF m 30 #[.val (.ref a1), .val (.ref ca), .val (.int (2 : Int32)), .val (.int (1 : Int32)), .val (.ref u1)] [(.ref u1)])) rfl (by rw [hml]; rfl) (argsL := []) (rest := []) (lenOf pd_14 rfl) rfl (by show 2 * 0 + _ ≤ _; exact Nat.le_of_eq rfl) (hb hby d7_30) rfl
      obtain ⟨rfl, M1008, q1008⟩ := hQ1008
      rw [q1008] at e1008
      have N1008 := Fr.app N1007 M1008
      refine Goal.step (T' := T1008) (g' := (mkF m 33 #[.val (.ref a1), .val (.ref ca), .val (.int (2 : Int32)), .val (.int (1 : Int32)), .val (.ref u1)] [(.int (Int32.ofNat 8))])) ?_ st1008
      refine Goal.retI X1008 hx hret (hb hby d7_33) ?_
      refine ⟨?_, by decide, by decide⟩
      rw [e1008]
      exact ⟨8, rfl, N1008, rfl, Or.inr (Or.inl ⟨hP0, hP1, rfl⟩)⟩
    · rw [q1007] at e1007
      have N1007 := Fr.app N1004 M1007
      refine Goal.step (T' := T1007) (g' := (mkF m 25 #[.val (.ref a1), .val (.ref ca), .val (.int (2 : Int32)), .val (.int (1 : Int32)), .val (.ref u1)] [(.int (0 : Int32))])) ?_ st1007
      refine Goal.step (T' := T1007) (g' := (mkF m 34 #[.val (.ref a1), .val (.ref ca), .val (.int (2 : Int32)), .val (.int (1 : Int32)), .val (.ref u1)] [])) ?_ (fun t k => XS.ifYes X1007.here hx rfl (pc0 := 25) (pc' := 34) rfl (hb hby d7_25) rfl ((if0 _ _).trans (teq (by decide)).1) (by decide) (by decide) k)
      refine Goal.step (T' := T1007) (g' := (mkF m 37 #[.val (.ref a1), .val (.ref ca), .val (.int (2 : Int32)), .val (.int ((1 : Int32) + (1 : Int32))), .val (.ref u1)] [])) ?_ (fun t k => XS.iinc X1007.here hx rfl (hb hby d7_34) rfl (l' := #[.val (.ref a1), .val (.ref ca), .val (.int (2 : Int32)), .val (.int ((1 : Int32) + (1 : Int32))), .val (.ref u1)]) rfl k)
      refine Goal.step (T' := T1007) (g' := (mkF m 9 #[.val (.ref a1), .val (.ref ca), .val (.int (2 : Int32)), .val (.int (2 : Int32)), .val (.ref u1)] [])) ?_ (fun t k => XS.goto X1007.here hx rfl (pc0 := 37) (pc' := 9) rfl (hb hby d7_37) (by decide) (by decide) k)
      refine Goal.step (T' := T1007) (g' := (mkF m 10 #[.val (.ref a1), .val (.ref ca), .val (.int (2 : Int32)), .val (.int (2 : Int32)), .val (.ref u1)] [(.int (2 : Int32))])) ?_ (fun t k => XS.iloadN X1007.here hx rfl (hb hby d7_9) rfl k)
      refine Goal.step (T' := T1007) (g' := (mkF m 11 #[.val (.ref a1), .val (.ref ca), .val (.int (2 : Int32)), .val (.int (2 : Int32)), .val (.ref u1)] [(.int (2 : Int32)), (.int (2 : Int32))])) ?_ (fun t k => XS.iloadN X1007.here hx rfl (hb hby d7_10) rfl k)
      refine Goal.step (T' := T1007) (g' := (mkF m 40 #[.val (.ref a1), .val (.ref ca), .val (.int (2 : Int32)), .val (.int (2 : Int32)), .val (.ref u1)] [])) ?_ (fun t k => XS.icmpYes X1007.here hx rfl (pc0 := 11) (pc' := 40) rfl (hb hby d7_11) rfl (flt (by decide)).2.1 (by decide) (by decide) k)
      refine Goal.step (T' := T1007) (g' := (mkF m 41 #[.val (.ref a1), .val (.ref ca), .val (.int (2 : Int32)), .val (.int (2 : Int32)), .val (.ref u1)] [(.int (-1 : Int32))])) ?_ (fun t k => XS.iconst X1007.here hx rfl (hb hby d7_40) k)
      refine Goal.retI X1007 hx hret (hb hby d7_41) ?_
      refine ⟨?_, by decide, by decide⟩
      rw [e1007]
      exact ⟨-1, rfl, N1007, rfl, Or.inr (Or.inr ⟨hP0, hP1, rfl⟩)⟩
theorem pd_20 : parseMethodDescriptor "(I[C)Ljava/lang/String;" = some ⟨[.int, (.array .char)], some (.object "java/lang/String")⟩ := by decide +kernel
theorem pd_21 : parseMethodDescriptor "(Ljava/lang/String;)I" = some ⟨[(.object "java/lang/String")], some .int⟩ := by decide +kernel
theorem pd_22 : parseMethodDescriptor "(CCC)Z" = some ⟨[.char, .char, .char], some .boolean⟩ := by decide +kernel
set_option maxRecDepth 65536 in
set_option maxHeartbeats 40000000 in
theorem seg165 {p : Program} {l : Launch} {e : Env} {s : State} {m : MethodId} {args : Array Value} {below : List Frame} {meth : Method} {c : Code} {Z : State} {a0 : Array Value} {T0 : State} {locs : List Loc} {vm0 : Vm} {k0 : Nat} (hw : ∀ d ∈ tables_1, d.before a0 Z = true) (C0 : Ctx p s m meth c Z code maxLocals ret x.cls x.name) (p1 p2 : Int32) (q3 q4 q5 : Int64) (m8 : Nat) (s9 : Int32) (c0 c1 c2 c3 c4 c5 c6 c7 c8 c9 : Int32) (b10 : Nat) (k10 : ClassId) (hB : Heap) (ca u0 u1 : Nat) (kc : ClassId) (cs : Int32) (fm : Value) (h0 : Heap) (n0 : Nat) (Z0 : n0 ≤ h0.size) (X0 : Stand p l e room_1 (s.setVm vm0) m args below meth c T0 locs 1 10) (hS : s.Since vm0 k0) (hk : k0 ≤ h0.size) (hZ : Z.Warmed39 vm0) (hown : vm0.findClass "com/example/gids/gids/LocRuleAuthorityStartPinLaw" = some m.cls) (e0 : T0.heap = h0) (N0 : Fr n0 locs) (CH0 : CHr Z consts_1 s.vm hB vm0 h0) (SE : SEnv Z cs fm) (O0 : Old Z n0 h0) (S0 : Sta Z Z.heap "com/example/gids/gids/LocRule" "SCHEMES" "[Ljava/lang/String;" (.ref ca)) (AV : Arv Z Z.heap ca kc (.object "java/lang/String") (2 : Int32) [.ref u0, .ref u1] .null) (U0 : Str Z Z.heap u0 7 sch0) (U1 : Str Z Z.heap u1 8 sch1) (hm : m8 ≤ 10) (r0 : rng c0) (r1 : rng c1) (r2 : rng c2) (r3 : rng c3) (r4 : rng c4) (r5 : rng c5) (r6 : rng c6) (r7 : rng c7) (r8 : rng c8) (r9 : rng c9) (A10 : Arf Z h0 b10 k10 .char 10 (ten c0 c1 c2 c3 c4 c5 c6 c7 c8 c9)) (lt10 : b10 < h0.size) :
    GoalH Z consts_1 hB p l e room_1 s m args below meth c (In room_1 (fun v h L => v = some (.int 1) ∧ Fr n0 L)) T0 (mkF m 165 #[.val (.int p1), .val (.int p2), .val (.long q3), .second, .val (.long q4), .second, .val (.long q5), .second, .val (.int (Int32.ofNat m8)), .val (.int s9), .val (.ref b10), .unset, .unset] []) := by
  have C := C0
  obtain ⟨hx, -, hby, hml, hret, -, hnm⟩ := C
  have hret : meth.sig.returnType = (some .boolean) := hret
  refine GoalH.step (T' := T0) (g' := (mkF m 167 #[.val (.int p1), .val (.int p2), .val (.long q3), .second, .val (.long q4), .second, .val (.long q5), .second, .val (.int (Int32.ofNat m8)), .val (.int s9), .val (.ref b10), .unset, .unset] [(.int (Int32.ofNat m8))])) ?_ (fun t k => XS.iload X0.here hx rfl (hb hby at_165) rfl k)
  refine GoalH.step (T' := T0) (g' := (mkF m 169 #[.val (.int p1), .val (.int p2), .val (.long q3), .second, .val (.long q4), .second, .val (.long q5), .second, .val (.int (Int32.ofNat m8)), .val (.int s9), .val (.ref b10), .unset, .unset] [(.ref b10), (.int (Int32.ofNat m8))])) ?_ (fun t k => XS.aload X0.here hx rfl (hb hby at_167) rfl rfl k)
  obtain ⟨v1001, T1001, h1001, L1001, k1001, X1001, e1001, hQ1001, hS, hk1001, hsz1001, C1001, hZ, hown, st1001⟩ := callStaticH X0 hx hZ hown hS (by omega) (own_EW hw) CH0.1 all0 (hw _ (List.mem_of_getElem? (i := 10) rfl)) (hw _ (List.mem_of_getElem? (i := 11) rfl)) (hw _ (List.mem_of_getElem? (i := 4) rfl)) (hw _ (List.mem_of_getElem? (i := 12) rfl)) (by decide) (rmMK l Z a0 hw m8 b10 k10 (ten c0 c1 c2 c3 c4 c5 c6 c7 c8 c9) cs fm h0 n0 (by omega) SE O0 hm (fun j _ => own_ten r0 r1 r2 r3 r4 r5 r6 r7 r8 r9 j) A10 (by omega)) e0 (W := 0) (by decide) (by decide) (by decide) (by decide) (g := (mkF m 169 #[.val (.int p1), .val (.int p2), .val (.long q3), .second, .val (.long q4), .second, .val (.long q5), .second, .val (.int (Int32.ofNat m8)), .val (.int s9), .val (.ref b10), .unset, .unset] [(.ref b10), (.int (Int32.ofNat m8))])) rfl (by rw [hml]; rfl) (argsL := [(.int (Int32.ofNat m8)), (.ref b10)]) (rest := []) (lenOf pd_20 rfl) rfl (by show 2 * 0 + _ ≤ _; exact Nat.le_of_eq rfl) (hb hby at_169) rfl
  obtain ⟨b11, rfl, M1001, E1001, Z1001⟩ := hQ1001
  have N1001 := Fr.app N0 M1001
  refine GoalH.step (T' := T1001) (g' := (mkF m 172 #[.val (.int p1), .val (.int p2), .val (.long q3), .second, .val (.long q4), .second, .val (.long q5), .second, .val (.int (Int32.ofNat m8)), .val (.int s9), .val (.ref b10), .unset, .unset] [(.ref b11)])) ?_ st1001
  have sz1002 : h0.size ≤ h1001.size := E1001.1
  have CH1001 := CHr.trans CH0 C1001
  refine GoalH.step (T' := T1001) (g' := (mkF m 174 #[.val (.int p1), .val (.int p2), .val (.long q3), .second, .val (.long q4), .second, .val (.long q5), .second, .val (.int (Int32.ofNat m8)), .val (.int s9), .val (.ref b10), .val (.ref b11), .unset] [])) ?_ (fun t k => XS.astore X1001.here hx rfl (hb hby at_172) rfl rfl (l' := #[.val (.int p1), .val (.int p2), .val (.long q3), .second, .val (.long q4), .second, .val (.long q5), .second, .val (.int (Int32.ofNat m8)), .val (.int s9), .val (.ref b10), .val (.ref b11), .unset]) rfl k)
  refine GoalH.step (T' := T1001) (g' := (mkF m 175 #[.val (.int p1), .val (.int p2), .val (.long q3), .second, .val (.long q4), .second, .val (.long q5), .second, .val (.int (Int32.ofNat m8)), .val (.int s9), .val (.ref b10), .val (.ref b11), .unset] [(.int (-1 : Int32))])) ?_ (fun t k => XS.iconst X1001.here hx rfl (hb hby at_174) k)
  refine GoalH.step (T' := T1001) (g' := (mkF m 177 #[.val (.int p1), .val (.int p2), .val (.long q3), .second, .val (.long q4), .second, .val (.long q5), .second, .val (.int (Int32.ofNat m8)), .val (.int s9), .val (.ref b10), .val (.ref b11), .val (.int (-1 : Int32))] [])) ?_ (fun t k => XS.istore X1001.here hx rfl (hb hby at_175) rfl (l' := #[.val (.int p1), .val (.int p2), .val (.long q3), .second, .val (.long q4), .second, .val (.long q5), .second, .val (.int (Int32.ofNat m8)), .val (.int s9), .val (.ref b10), .val (.ref b11), .val (.int (-1 : Int32))]) rfl k)
  refine GoalH.step (T' := T1001) (g' := (mkF m 179 #[.val (.int p1), .val (.int p2), .val (.long q3), .second, .val (.long q4), .second, .val (.long q5), .second, .val (.int (Int32.ofNat m8)), .val (.int s9), .val (.ref b10), .val (.ref b11), .val (.int (-1 : Int32))] [(.int (Int32.ofNat m8))])) ?_ (fun t k => XS.iload X1001.here hx rfl (hb hby at_177) rfl k)
  refine GoalH.step (T' := T1001) (g' := (mkF m 181 #[.val (.int p1), .val (.int p2), .val (.long q3), .second, .val (.long q4), .second, .val (.long q5), .second, .val (.int (Int32.ofNat m8)), .val (.int s9), .val (.ref b10), .val (.ref b11), .val (.int (-1 : Int32))] [(.int (7 : Int32)), (.int (Int32.ofNat m8))])) ?_ (fun t k => XS.bipush X1001.here hx rfl (hb hby at_179) k)
  by_cases c1003 : (Int32.ofNat m8) < (7 : Int32)
  · refine GoalH.step (T' := T1001) (g' := (mkF m 329 #[.val (.int p1), .val (.int p2), .val (.long q3), .second, .val (.long q4), .second, .val (.long q5), .second, .val (.int (Int32.ofNat m8)), .val (.int s9), .val (.ref b10), .val (.ref b11), .val (.int (-1 : Int32))] [])) ?_ (fun t k => XS.icmpYes X1001.here hx rfl (pc0 := 181) (pc' := 329) rfl (hb hby at_181) rfl (tlt c1003).1 (by decide) (by decide) k)
    refine GoalH.step (T' := T1001) (g' := (mkF m 331 #[.val (.int p1), .val (.int p2), .val (.long q3), .second, .val (.long q4), .second, .val (.long q5), .second, .val (.int (Int32.ofNat m8)), .val (.int s9), .val (.ref b10), .val (.ref b11), .val (.int (-1 : Int32))] [(.ref b11)])) ?_ (fun t k => XS.aload X1001.here hx rfl (hb hby at_329) rfl rfl k)
    have f1005 : Old Z n0 h1001 := (O0.ext E1001)
    have hP0 : ¬ (7 ≤ m8 ∧ ∀ j, j < 7 → low ((ten c0 c1 c2 c3 c4 c5 c6 c7 c8 c9) j) = sch0 j) := fun q => absurd q.1 (by have := (nat_lt (n := 7) (by omega) (by omega)).mp c1003; omega)
    have hP1 : ¬ (8 ≤ m8 ∧ ∀ j, j < 8 → low ((ten c0 c1 c2 c3 c4 c5 c6 c7 c8 c9) j) = sch1 j) := fun q => absurd q.1 (by have := (nat_lt (n := 7) (by omega) (by omega)).mp c1003; omega)
    obtain ⟨v1004, T1004, h1004, L1004, X1004, e1004, hQ1004, st1004⟩ := callStatic X1001 hx hZ hown (hw _ (List.mem_of_getElem? (i := 34) rfl)) (hw _ (List.mem_of_getElem? (i := 35) rfl)) (hw _ (List.mem_of_getElem? (i := 36) rfl)) (hw _ (List.mem_of_getElem? (i := 37) rfl)) (by decide) (rmAS l Z a0 hw b11 m8 (ten c0 c1 c2 c3 c4 c5 c6 c7 c8 c9) ca u0 u1 kc cs fm h1001 n0 (by omega) SE f1005 S0 AV U0 U1 Z1001) e1001 (W := 0) (by decide) (by decide) (by decide) (by decide) (g := (mkF m 331 #[.val (.int p1), .val (.int p2), .val (.long q3), .second, .val (.long q4), .second, .val (.long q5), .second, .val (.int (Int32.ofNat m8)), .val (.int s9), .val (.ref b10), .val (.ref b11), .val (.int (-1 : Int32))] [(.ref b11)])) rfl (by rw [hml]; rfl) (argsL := [(.ref b11)]) (rest := []) (lenOf pd_21 rfl) rfl (by show 2 * 0 + _ ≤ _; exact Nat.le_of_eq rfl) (hb hby at_331) rfl
    obtain ⟨r1004, rfl, M1004, q1004, hR1004⟩ := hQ1004
    obtain rfl : r1004 = -1 := hR1004.elim (fun x => absurd x.1 hP0) (fun x => x.elim (fun y => absurd y.2.1 hP1) (fun y => y.2.2))
    rw [q1004] at e1004
    have N1004 := Fr.app N1001 M1004
    refine GoalH.step (T' := T1004) (g' := (mkF m 334 #[.val (.int p1), .val (.int p2), .val (.long q3), .second, .val (.long q4), .second, .val (.long q5), .second, .val (.int (Int32.ofNat m8)), .val (.int s9), .val (.ref b10), .val (.ref b11), .val (.int (-1 : Int32))] [(.int (-1 : Int32))])) ?_ st1004
    refine GoalH.step (T' := T1004) (g' := (mkF m 336 #[.val (.int p1), .val (.int p2), .val (.long q3), .second, .val (.long q4), .second, .val (.long q5), .second, .val (.int (Int32.ofNat m8)), .val (.int s9), .val (.ref b10), .val (.ref b11), .val (.int (-1 : Int32))] [(.int (-1 : Int32)), (.int (-1 : Int32))])) ?_ (fun t k => XS.iload X1004.here hx rfl (hb hby at_334) rfl k)
    refine GoalH.step (T' := T1004) (g' := (mkF m 339 #[.val (.int p1), .val (.int p2), .val (.long q3), .second, .val (.long q4), .second, .val (.long q5), .second, .val (.int (Int32.ofNat m8)), .val (.int s9), .val (.ref b10), .val (.ref b11), .val (.int (-1 : Int32))] [])) ?_ (fun t k => XS.icmpNo X1004.here hx rfl (hb hby at_336) rfl (teq (by decide)).2 k)
    refine GoalH.step (T' := T1004) (g' := (mkF m 340 #[.val (.int p1), .val (.int p2), .val (.long q3), .second, .val (.long q4), .second, .val (.long q5), .second, .val (.int (Int32.ofNat m8)), .val (.int s9), .val (.ref b10), .val (.ref b11), .val (.int (-1 : Int32))] [(.int (1 : Int32))])) ?_ (fun t k => XS.iconst X1004.here hx rfl (hb hby at_339) k)
    refine GoalH.step (T' := T1004) (g' := (mkF m 344 #[.val (.int p1), .val (.int p2), .val (.long q3), .second, .val (.long q4), .second, .val (.long q5), .second, .val (.int (Int32.ofNat m8)), .val (.int s9), .val (.ref b10), .val (.ref b11), .val (.int (-1 : Int32))] [(.int (1 : Int32))])) ?_ (fun t k => XS.goto X1004.here hx rfl (pc0 := 340) (pc' := 344) rfl (hb hby at_340) (by decide) (by decide) k)
    refine GoalH.retN (t := .boolean) X1004 hS (by rw [e1004]; omega) hZ (own_EW hw) (by rw [e1004]; exact CH1001) hx hret (by simp) (hb hby at_344) ?_
    exact ⟨⟨rfl, N1004⟩, by decide, by decide⟩
  · refine GoalH.step (T' := T1001) (g' := (mkF m 184 #[.val (.int p1), .val (.int p2), .val (.long q3), .second, .val (.long q4), .second, .val (.long q5), .second, .val (.int (Int32.ofNat m8)), .val (.int s9), .val (.ref b10), .val (.ref b11), .val (.int (-1 : Int32))] [])) ?_ (fun t k => XS.icmpNo X1001.here hx rfl (hb hby at_181) rfl (flt c1003).1 k)
    refine GoalH.step (T' := T1001) (g' := (mkF m 186 #[.val (.int p1), .val (.int p2), .val (.long q3), .second, .val (.long q4), .second, .val (.long q5), .second, .val (.int (Int32.ofNat m8)), .val (.int s9), .val (.ref b10), .val (.ref b11), .val (.int (-1 : Int32))] [(.ref b10)])) ?_ (fun t k => XS.aload X1001.here hx rfl (hb hby at_184) rfl rfl k)
    refine GoalH.step (T' := T1001) (g' := (mkF m 187 #[.val (.int p1), .val (.int p2), .val (.long q3), .second, .val (.long q4), .second, .val (.long q5), .second, .val (.int (Int32.ofNat m8)), .val (.int s9), .val (.ref b10), .val (.ref b11), .val (.int (-1 : Int32))] [(.int (Int32.ofNat 0)), (.ref b10)])) ?_ (fun t k => XS.iconst X1001.here hx rfl (hb hby at_186) k)
    have f1007 : Arf Z h1001 b10 k10 .char 10 (ten c0 c1 c2 c3 c4 c5 c6 c7 c8 c9) := (A10.ext E1001)
    obtain ⟨cl1006, Ar1006, q1006, S1006, H1006⟩ := (id f1007)
    have hlt1006 : 0 < 10 := by omega
    have hn1006 : 10 < 2 ^ 31 := by omega
    have hin1006 : ¬ ((Int32.ofNat 0) < 0 ∨ cl1006.slots.size ≤ ((Int32.ofNat 0)).toNatClampNeg) := nat_inb S1006 hlt1006 hn1006
    have hat1006 : cl1006.slots[((Int32.ofNat 0)).toNatClampNeg]? = some (.int c0) := by rw [nat_clamp (show 0 < 2 ^ 31 by omega)]; exact H1006 _ hlt1006
    refine GoalH.step (T' := T1001) (g' := (mkF m 188 #[.val (.int p1), .val (.int p2), .val (.long q3), .second, .val (.long q4), .second, .val (.long q5), .second, .val (.int (Int32.ofNat m8)), .val (.int s9), .val (.ref b10), .val (.ref b11), .val (.int (-1 : Int32))] [(.int c0)])) ?_ (fun t k => X1001.caload hx (j := (Int32.ofNat 0)) (v := (.int c0)) (by rw [e1001]; exact Ar1006.1) (State.isArrayOf_alike hZ.alike Ar1006.2.1) Ar1006.2.2 hin1006 hat1006 (g := (mkF m 187 #[.val (.int p1), .val (.int p2), .val (.long q3), .second, .val (.long q4), .second, .val (.long q5), .second, .val (.int (Int32.ofNat m8)), .val (.int s9), .val (.ref b10), .val (.ref b11), .val (.int (-1 : Int32))] [(.int (Int32.ofNat 0)), (.ref b10)])) rfl rfl (hb hby at_187) _ k)
    refine GoalH.step (T' := T1001) (g' := (mkF m 190 #[.val (.int p1), .val (.int p2), .val (.long q3), .second, .val (.long q4), .second, .val (.long q5), .second, .val (.int (Int32.ofNat m8)), .val (.int s9), .val (.ref b10), .val (.ref b11), .val (.int (-1 : Int32))] [(.int (104 : Int32)), (.int c0)])) ?_ (fun t k => XS.bipush X1001.here hx rfl (hb hby at_188) k)
    refine GoalH.step (T' := T1001) (g' := (mkF m 192 #[.val (.int p1), .val (.int p2), .val (.long q3), .second, .val (.long q4), .second, .val (.long q5), .second, .val (.int (Int32.ofNat m8)), .val (.int s9), .val (.ref b10), .val (.ref b11), .val (.int (-1 : Int32))] [(.int (72 : Int32)), (.int (104 : Int32)), (.int c0)])) ?_ (fun t k => XS.bipush X1001.here hx rfl (hb hby at_190) k)
    by_cases hI192 : (c0 = (104 : Int32) ∨ c0 = (72 : Int32))
    · obtain ⟨v1008, T1008, h1008, L1008, X1008, e1008, hQ1008, st1008⟩ := callStatic X1001 hx hZ hown (hw _ (List.mem_of_getElem? (i := 84) rfl)) (hw _ (List.mem_of_getElem? (i := 85) rfl)) (hw _ (List.mem_of_getElem? (i := 4) rfl)) (hw _ (List.mem_of_getElem? (i := 86) rfl)) (by decide) (rmIS l Z a0 hw c0 (104 : Int32) (72 : Int32) h1001 n0 (by omega) ) e1001 (W := 0) (by decide) (by decide) (by decide) (by decide) (g := (mkF m 192 #[.val (.int p1), .val (.int p2), .val (.long q3), .second, .val (.long q4), .second, .val (.long q5), .second, .val (.int (Int32.ofNat m8)), .val (.int s9), .val (.ref b10), .val (.ref b11), .val (.int (-1 : Int32))] [(.int (72 : Int32)), (.int (104 : Int32)), (.int c0)])) rfl (by rw [hml]; rfl) (argsL := [(.int c0), (.int (104 : Int32)), (.int (72 : Int32))]) (rest := []) (lenOf pd_22 rfl) rfl (by show 2 * 0 + _ ≤ _; exact Nat.le_of_eq rfl) (hb hby at_192) rfl
      obtain ⟨rfl, M1008, q1008⟩ := hQ1008.elim (fun x => x.2) (fun x => absurd x.1 (fun z => z hI192))
      rw [q1008] at e1008
      have N1008 := Fr.app N1001 M1008
      refine GoalH.step (T' := T1008) (g' := (mkF m 195 #[.val (.int p1), .val (.int p2), .val (.long q3), .second, .val (.long q4), .second, .val (.long q5), .second, .val (.int (Int32.ofNat m8)), .val (.int s9), .val (.ref b10), .val (.ref b11), .val (.int (-1 : Int32))] [(.int (1 : Int32))])) ?_ st1008
      refine GoalH.step (T' := T1008) (g' := (mkF m 198 #[.val (.int p1), .val (.int p2), .val (.long q3), .second, .val (.long q4), .second, .val (.long q5), .second, .val (.int (Int32.ofNat m8)), .val (.int s9), .val (.ref b10), .val (.ref b11), .val (.int (-1 : Int32))] [])) ?_ (fun t k => XS.ifNo X1008.here hx rfl (hb hby at_195) rfl ((if0 _ _).trans (feq (by decide)).1) k)
      refine GoalH.step (T' := T1008) (g' := (mkF m 200 #[.val (.int p1), .val (.int p2), .val (.long q3), .second, .val (.long q4), .second, .val (.long q5), .second, .val (.int (Int32.ofNat m8)), .val (.int s9), .val (.ref b10), .val (.ref b11), .val (.int (-1 : Int32))] [(.ref b10)])) ?_ (fun t k => XS.aload X1008.here hx rfl (hb hby at_198) rfl rfl k)
      refine GoalH.step (T' := T1008) (g' := (mkF m 201 #[.val (.int p1), .val (.int p2), .val (.long q3), .second, .val (.long q4), .second, .val (.long q5), .second, .val (.int (Int32.ofNat m8)), .val (.int s9), .val (.ref b10), .val (.ref b11), .val (.int (-1 : Int32))] [(.int (Int32.ofNat 1)), (.ref b10)])) ?_ (fun t k => XS.iconst X1008.here hx rfl (hb hby at_200) k)
      obtain ⟨cl1009, Ar1009, q1009, S1009, H1009⟩ := (id f1007)
      have hlt1009 : 1 < 10 := by omega
      have hn1009 : 10 < 2 ^ 31 := by omega
      have hin1009 : ¬ ((Int32.ofNat 1) < 0 ∨ cl1009.slots.size ≤ ((Int32.ofNat 1)).toNatClampNeg) := nat_inb S1009 hlt1009 hn1009
      have hat1009 : cl1009.slots[((Int32.ofNat 1)).toNatClampNeg]? = some (.int c1) := by rw [nat_clamp (show 1 < 2 ^ 31 by omega)]; exact H1009 _ hlt1009
      refine GoalH.step (T' := T1008) (g' := (mkF m 202 #[.val (.int p1), .val (.int p2), .val (.long q3), .second, .val (.long q4), .second, .val (.long q5), .second, .val (.int (Int32.ofNat m8)), .val (.int s9), .val (.ref b10), .val (.ref b11), .val (.int (-1 : Int32))] [(.int c1)])) ?_ (fun t k => X1008.caload hx (j := (Int32.ofNat 1)) (v := (.int c1)) (by rw [e1008]; exact Ar1009.1) (State.isArrayOf_alike hZ.alike Ar1009.2.1) Ar1009.2.2 hin1009 hat1009 (g := (mkF m 201 #[.val (.int p1), .val (.int p2), .val (.long q3), .second, .val (.long q4), .second, .val (.long q5), .second, .val (.int (Int32.ofNat m8)), .val (.int s9), .val (.ref b10), .val (.ref b11), .val (.int (-1 : Int32))] [(.int (Int32.ofNat 1)), (.ref b10)])) rfl rfl (hb hby at_201) _ k)
      refine GoalH.step (T' := T1008) (g' := (mkF m 204 #[.val (.int p1), .val (.int p2), .val (.long q3), .second, .val (.long q4), .second, .val (.long q5), .second, .val (.int (Int32.ofNat m8)), .val (.int s9), .val (.ref b10), .val (.ref b11), .val (.int (-1 : Int32))] [(.int (116 : Int32)), (.int c1)])) ?_ (fun t k => XS.bipush X1008.here hx rfl (hb hby at_202) k)
      refine GoalH.step (T' := T1008) (g' := (mkF m 206 #[.val (.int p1), .val (.int p2), .val (.long q3), .second, .val (.long q4), .second, .val (.long q5), .second, .val (.int (Int32.ofNat m8)), .val (.int s9), .val (.ref b10), .val (.ref b11), .val (.int (-1 : Int32))] [(.int (84 : Int32)), (.int (116 : Int32)), (.int c1)])) ?_ (fun t k => XS.bipush X1008.here hx rfl (hb hby at_204) k)
      by_cases hI206 : (c1 = (116 : Int32) ∨ c1 = (84 : Int32))
      · obtain ⟨v1010, T1010, h1010, L1010, X1010, e1010, hQ1010, st1010⟩ := callStatic X1008 hx hZ hown (hw _ (List.mem_of_getElem? (i := 84) rfl)) (hw _ (List.mem_of_getElem? (i := 85) rfl)) (hw _ (List.mem_of_getElem? (i := 4) rfl)) (hw _ (List.mem_of_getElem? (i := 86) rfl)) (by decide) (rmIS l Z a0 hw c1 (116 : Int32) (84 : Int32) h1001 n0 (by omega) ) e1008 (W := 0) (by decide) (by decide) (by decide) (by decide) (g := (mkF m 206 #[.val (.int p1), .val (.int p2), .val (.long q3), .second, .val (.long q4), .second, .val (.long q5), .second, .val (.int (Int32.ofNat m8)), .val (.int s9), .val (.ref b10), .val (.ref b11), .val (.int (-1 : Int32))] [(.int (84 : Int32)), (.int (116 : Int32)), (.int c1)])) rfl (by rw [hml]; rfl) (argsL := [(.int c1), (.int (116 : Int32)), (.int (84 : Int32))]) (rest := []) (lenOf pd_22 rfl) rfl (by show 2 * 0 + _ ≤ _; exact Nat.le_of_eq rfl) (hb hby at_206) rfl
        obtain ⟨rfl, M1010, q1010⟩ := hQ1010.elim (fun x => x.2) (fun x => absurd x.1 (fun z => z hI206))
        rw [q1010] at e1010
        have N1010 := Fr.app N1008 M1010
        refine GoalH.step (T' := T1010) (g' := (mkF m 209 #[.val (.int p1), .val (.int p2), .val (.long q3), .second, .val (.long q4), .second, .val (.long q5), .second, .val (.int (Int32.ofNat m8)), .val (.int s9), .val (.ref b10), .val (.ref b11), .val (.int (-1 : Int32))] [(.int (1 : Int32))])) ?_ st1010
        refine GoalH.step (T' := T1010) (g' := (mkF m 212 #[.val (.int p1), .val (.int p2), .val (.long q3), .second, .val (.long q4), .second, .val (.long q5), .second, .val (.int (Int32.ofNat m8)), .val (.int s9), .val (.ref b10), .val (.ref b11), .val (.int (-1 : Int32))] [])) ?_ (fun t k => XS.ifNo X1010.here hx rfl (hb hby at_209) rfl ((if0 _ _).trans (feq (by decide)).1) k)
        refine GoalH.step (T' := T1010) (g' := (mkF m 214 #[.val (.int p1), .val (.int p2), .val (.long q3), .second, .val (.long q4), .second, .val (.long q5), .second, .val (.int (Int32.ofNat m8)), .val (.int s9), .val (.ref b10), .val (.ref b11), .val (.int (-1 : Int32))] [(.ref b10)])) ?_ (fun t k => XS.aload X1010.here hx rfl (hb hby at_212) rfl rfl k)
        refine GoalH.step (T' := T1010) (g' := (mkF m 215 #[.val (.int p1), .val (.int p2), .val (.long q3), .second, .val (.long q4), .second, .val (.long q5), .second, .val (.int (Int32.ofNat m8)), .val (.int s9), .val (.ref b10), .val (.ref b11), .val (.int (-1 : Int32))] [(.int (Int32.ofNat 2)), (.ref b10)])) ?_ (fun t k => XS.iconst X1010.here hx rfl (hb hby at_214) k)
        obtain ⟨cl1011, Ar1011, q1011, S1011, H1011⟩ := (id f1007)
        have hlt1011 : 2 < 10 := by omega
        have hn1011 : 10 < 2 ^ 31 := by omega
        have hin1011 : ¬ ((Int32.ofNat 2) < 0 ∨ cl1011.slots.size ≤ ((Int32.ofNat 2)).toNatClampNeg) := nat_inb S1011 hlt1011 hn1011
        have hat1011 : cl1011.slots[((Int32.ofNat 2)).toNatClampNeg]? = some (.int c2) := by rw [nat_clamp (show 2 < 2 ^ 31 by omega)]; exact H1011 _ hlt1011
        refine GoalH.step (T' := T1010) (g' := (mkF m 216 #[.val (.int p1), .val (.int p2), .val (.long q3), .second, .val (.long q4), .second, .val (.long q5), .second, .val (.int (Int32.ofNat m8)), .val (.int s9), .val (.ref b10), .val (.ref b11), .val (.int (-1 : Int32))] [(.int c2)])) ?_ (fun t k => X1010.caload hx (j := (Int32.ofNat 2)) (v := (.int c2)) (by rw [e1010]; exact Ar1011.1) (State.isArrayOf_alike hZ.alike Ar1011.2.1) Ar1011.2.2 hin1011 hat1011 (g := (mkF m 215 #[.val (.int p1), .val (.int p2), .val (.long q3), .second, .val (.long q4), .second, .val (.long q5), .second, .val (.int (Int32.ofNat m8)), .val (.int s9), .val (.ref b10), .val (.ref b11), .val (.int (-1 : Int32))] [(.int (Int32.ofNat 2)), (.ref b10)])) rfl rfl (hb hby at_215) _ k)
        refine GoalH.step (T' := T1010) (g' := (mkF m 218 #[.val (.int p1), .val (.int p2), .val (.long q3), .second, .val (.long q4), .second, .val (.long q5), .second, .val (.int (Int32.ofNat m8)), .val (.int s9), .val (.ref b10), .val (.ref b11), .val (.int (-1 : Int32))] [(.int (116 : Int32)), (.int c2)])) ?_ (fun t k => XS.bipush X1010.here hx rfl (hb hby at_216) k)
        refine GoalH.step (T' := T1010) (g' := (mkF m 220 #[.val (.int p1), .val (.int p2), .val (.long q3), .second, .val (.long q4), .second, .val (.long q5), .second, .val (.int (Int32.ofNat m8)), .val (.int s9), .val (.ref b10), .val (.ref b11), .val (.int (-1 : Int32))] [(.int (84 : Int32)), (.int (116 : Int32)), (.int c2)])) ?_ (fun t k => XS.bipush X1010.here hx rfl (hb hby at_218) k)
        by_cases hI220 : (c2 = (116 : Int32) ∨ c2 = (84 : Int32))
        · obtain ⟨v1012, T1012, h1012, L1012, X1012, e1012, hQ1012, st1012⟩ := callStatic X1010 hx hZ hown (hw _ (List.mem_of_getElem? (i := 84) rfl)) (hw _ (List.mem_of_getElem? (i := 85) rfl)) (hw _ (List.mem_of_getElem? (i := 4) rfl)) (hw _ (List.mem_of_getElem? (i := 86) rfl)) (by decide) (rmIS l Z a0 hw c2 (116 : Int32) (84 : Int32) h1001 n0 (by omega) ) e1010 (W := 0) (by decide) (by decide) (by decide) (by decide) (g := (mkF m 220 #[.val (.int p1), .val (.int p2), .val (.long q3), .second, .val (.long q4), .second, .val (.long q5), .second, .val (.int (Int32.ofNat m8)), .val (.int s9), .val (.ref b10), .val (.ref b11), .val (.int (-1 : Int32))] [(.int (84 : Int32)), (.int (116 : Int32)), (.int c2)])) rfl (by rw [hml]; rfl) (argsL := [(.int c2), (.int (116 : Int32)), (.int (84 : Int32))]) (rest := []) (lenOf pd_22 rfl) rfl (by show 2 * 0 + _ ≤ _; exact Nat.le_of_eq rfl) (hb hby at_220) rfl
          obtain ⟨rfl, M1012, q1012⟩ := hQ1012.elim (fun x => x.2) (fun x => absurd x.1 (fun z => z hI220))
          rw [q1012] at e1012
          have N1012 := Fr.app N1010 M1012
          refine GoalH.step (T' := T1012) (g' := (mkF m 223 #[.val (.int p1), .val (.int p2), .val (.long q3), .second, .val (.long q4), .second, .val (.long q5), .second, .val (.int (Int32.ofNat m8)), .val (.int s9), .val (.ref b10), .val (.ref b11), .val (.int (-1 : Int32))] [(.int (1 : Int32))])) ?_ st1012
          refine GoalH.step (T' := T1012) (g' := (mkF m 226 #[.val (.int p1), .val (.int p2), .val (.long q3), .second, .val (.long q4), .second, .val (.long q5), .second, .val (.int (Int32.ofNat m8)), .val (.int s9), .val (.ref b10), .val (.ref b11), .val (.int (-1 : Int32))] [])) ?_ (fun t k => XS.ifNo X1012.here hx rfl (hb hby at_223) rfl ((if0 _ _).trans (feq (by decide)).1) k)
          refine GoalH.step (T' := T1012) (g' := (mkF m 228 #[.val (.int p1), .val (.int p2), .val (.long q3), .second, .val (.long q4), .second, .val (.long q5), .second, .val (.int (Int32.ofNat m8)), .val (.int s9), .val (.ref b10), .val (.ref b11), .val (.int (-1 : Int32))] [(.ref b10)])) ?_ (fun t k => XS.aload X1012.here hx rfl (hb hby at_226) rfl rfl k)
          refine GoalH.step (T' := T1012) (g' := (mkF m 229 #[.val (.int p1), .val (.int p2), .val (.long q3), .second, .val (.long q4), .second, .val (.long q5), .second, .val (.int (Int32.ofNat m8)), .val (.int s9), .val (.ref b10), .val (.ref b11), .val (.int (-1 : Int32))] [(.int (Int32.ofNat 3)), (.ref b10)])) ?_ (fun t k => XS.iconst X1012.here hx rfl (hb hby at_228) k)
          obtain ⟨cl1013, Ar1013, q1013, S1013, H1013⟩ := (id f1007)
          have hlt1013 : 3 < 10 := by omega
          have hn1013 : 10 < 2 ^ 31 := by omega
          have hin1013 : ¬ ((Int32.ofNat 3) < 0 ∨ cl1013.slots.size ≤ ((Int32.ofNat 3)).toNatClampNeg) := nat_inb S1013 hlt1013 hn1013
          have hat1013 : cl1013.slots[((Int32.ofNat 3)).toNatClampNeg]? = some (.int c3) := by rw [nat_clamp (show 3 < 2 ^ 31 by omega)]; exact H1013 _ hlt1013
          refine GoalH.step (T' := T1012) (g' := (mkF m 230 #[.val (.int p1), .val (.int p2), .val (.long q3), .second, .val (.long q4), .second, .val (.long q5), .second, .val (.int (Int32.ofNat m8)), .val (.int s9), .val (.ref b10), .val (.ref b11), .val (.int (-1 : Int32))] [(.int c3)])) ?_ (fun t k => X1012.caload hx (j := (Int32.ofNat 3)) (v := (.int c3)) (by rw [e1012]; exact Ar1013.1) (State.isArrayOf_alike hZ.alike Ar1013.2.1) Ar1013.2.2 hin1013 hat1013 (g := (mkF m 229 #[.val (.int p1), .val (.int p2), .val (.long q3), .second, .val (.long q4), .second, .val (.long q5), .second, .val (.int (Int32.ofNat m8)), .val (.int s9), .val (.ref b10), .val (.ref b11), .val (.int (-1 : Int32))] [(.int (Int32.ofNat 3)), (.ref b10)])) rfl rfl (hb hby at_229) _ k)
          refine GoalH.step (T' := T1012) (g' := (mkF m 232 #[.val (.int p1), .val (.int p2), .val (.long q3), .second, .val (.long q4), .second, .val (.long q5), .second, .val (.int (Int32.ofNat m8)), .val (.int s9), .val (.ref b10), .val (.ref b11), .val (.int (-1 : Int32))] [(.int (112 : Int32)), (.int c3)])) ?_ (fun t k => XS.bipush X1012.here hx rfl (hb hby at_230) k)
          refine GoalH.step (T' := T1012) (g' := (mkF m 234 #[.val (.int p1), .val (.int p2), .val (.long q3), .second, .val (.long q4), .second, .val (.long q5), .second, .val (.int (Int32.ofNat m8)), .val (.int s9), .val (.ref b10), .val (.ref b11), .val (.int (-1 : Int32))] [(.int (80 : Int32)), (.int (112 : Int32)), (.int c3)])) ?_ (fun t k => XS.bipush X1012.here hx rfl (hb hby at_232) k)
          by_cases hI234 : (c3 = (112 : Int32) ∨ c3 = (80 : Int32))
          · obtain ⟨v1014, T1014, h1014, L1014, X1014, e1014, hQ1014, st1014⟩ := callStatic X1012 hx hZ hown (hw _ (List.mem_of_getElem? (i := 84) rfl)) (hw _ (List.mem_of_getElem? (i := 85) rfl)) (hw _ (List.mem_of_getElem? (i := 4) rfl)) (hw _ (List.mem_of_getElem? (i := 86) rfl)) (by decide) (rmIS l Z a0 hw c3 (112 : Int32) (80 : Int32) h1001 n0 (by omega) ) e1012 (W := 0) (by decide) (by decide) (by decide) (by decide) (g := (mkF m 234 #[.val (.int p1), .val (.int p2), .val (.long q3), .second, .val (.long q4), .second, .val (.long q5), .second, .val (.int (Int32.ofNat m8)), .val (.int s9), .val (.ref b10), .val (.ref b11), .val (.int (-1 : Int32))] [(.int (80 : Int32)), (.int (112 : Int32)), (.int c3)])) rfl (by rw [hml]; rfl) (argsL := [(.int c3), (.int (112 : Int32)), (.int (80 : Int32))]) (rest := []) (lenOf pd_22 rfl) rfl (by show 2 * 0 + _ ≤ _; exact Nat.le_of_eq rfl) (hb hby at_234) rfl
            obtain ⟨rfl, M1014, q1014⟩ := hQ1014.elim (fun x => x.2) (fun x => absurd x.1 (fun z => z hI234))
            rw [q1014] at e1014
            have N1014 := Fr.app N1012 M1014
            refine GoalH.step (T' := T1014) (g' := (mkF m 237 #[.val (.int p1), .val (.int p2), .val (.long q3), .second, .val (.long q4), .second, .val (.long q5), .second, .val (.int (Int32.ofNat m8)), .val (.int s9), .val (.ref b10), .val (.ref b11), .val (.int (-1 : Int32))] [(.int (1 : Int32))])) ?_ st1014
            refine GoalH.step (T' := T1014) (g' := (mkF m 240 #[.val (.int p1), .val (.int p2), .val (.long q3), .second, .val (.long q4), .second, .val (.long q5), .second, .val (.int (Int32.ofNat m8)), .val (.int s9), .val (.ref b10), .val (.ref b11), .val (.int (-1 : Int32))] [])) ?_ (fun t k => XS.ifNo X1014.here hx rfl (hb hby at_237) rfl ((if0 _ _).trans (feq (by decide)).1) k)
            refine GoalH.step (T' := T1014) (g' := (mkF m 242 #[.val (.int p1), .val (.int p2), .val (.long q3), .second, .val (.long q4), .second, .val (.long q5), .second, .val (.int (Int32.ofNat m8)), .val (.int s9), .val (.ref b10), .val (.ref b11), .val (.int (-1 : Int32))] [(.ref b10)])) ?_ (fun t k => XS.aload X1014.here hx rfl (hb hby at_240) rfl rfl k)
            refine GoalH.step (T' := T1014) (g' := (mkF m 243 #[.val (.int p1), .val (.int p2), .val (.long q3), .second, .val (.long q4), .second, .val (.long q5), .second, .val (.int (Int32.ofNat m8)), .val (.int s9), .val (.ref b10), .val (.ref b11), .val (.int (-1 : Int32))] [(.int (Int32.ofNat 4)), (.ref b10)])) ?_ (fun t k => XS.iconst X1014.here hx rfl (hb hby at_242) k)
            obtain ⟨cl1015, Ar1015, q1015, S1015, H1015⟩ := (id f1007)
            have hlt1015 : 4 < 10 := by omega
            have hn1015 : 10 < 2 ^ 31 := by omega
            have hin1015 : ¬ ((Int32.ofNat 4) < 0 ∨ cl1015.slots.size ≤ ((Int32.ofNat 4)).toNatClampNeg) := nat_inb S1015 hlt1015 hn1015
            have hat1015 : cl1015.slots[((Int32.ofNat 4)).toNatClampNeg]? = some (.int c4) := by rw [nat_clamp (show 4 < 2 ^ 31 by omega)]; exact H1015 _ hlt1015
            refine GoalH.step (T' := T1014) (g' := (mkF m 244 #[.val (.int p1), .val (.int p2), .val (.long q3), .second, .val (.long q4), .second, .val (.long q5), .second, .val (.int (Int32.ofNat m8)), .val (.int s9), .val (.ref b10), .val (.ref b11), .val (.int (-1 : Int32))] [(.int c4)])) ?_ (fun t k => X1014.caload hx (j := (Int32.ofNat 4)) (v := (.int c4)) (by rw [e1014]; exact Ar1015.1) (State.isArrayOf_alike hZ.alike Ar1015.2.1) Ar1015.2.2 hin1015 hat1015 (g := (mkF m 243 #[.val (.int p1), .val (.int p2), .val (.long q3), .second, .val (.long q4), .second, .val (.long q5), .second, .val (.int (Int32.ofNat m8)), .val (.int s9), .val (.ref b10), .val (.ref b11), .val (.int (-1 : Int32))] [(.int (Int32.ofNat 4)), (.ref b10)])) rfl rfl (hb hby at_243) _ k)
            refine GoalH.step (T' := T1014) (g' := (mkF m 246 #[.val (.int p1), .val (.int p2), .val (.long q3), .second, .val (.long q4), .second, .val (.long q5), .second, .val (.int (Int32.ofNat m8)), .val (.int s9), .val (.ref b10), .val (.ref b11), .val (.int (-1 : Int32))] [(.int (58 : Int32)), (.int c4)])) ?_ (fun t k => XS.bipush X1014.here hx rfl (hb hby at_244) k)
            by_cases c1016 : c4 = (58 : Int32)
            · refine GoalH.step (T' := T1014) (g' := (mkF m 249 #[.val (.int p1), .val (.int p2), .val (.long q3), .second, .val (.long q4), .second, .val (.long q5), .second, .val (.int (Int32.ofNat m8)), .val (.int s9), .val (.ref b10), .val (.ref b11), .val (.int (-1 : Int32))] [])) ?_ (fun t k => XS.icmpNo X1014.here hx rfl (hb hby at_246) rfl (teq c1016).2 k)
              refine GoalH.step (T' := T1014) (g' := (mkF m 251 #[.val (.int p1), .val (.int p2), .val (.long q3), .second, .val (.long q4), .second, .val (.long q5), .second, .val (.int (Int32.ofNat m8)), .val (.int s9), .val (.ref b10), .val (.ref b11), .val (.int (-1 : Int32))] [(.ref b10)])) ?_ (fun t k => XS.aload X1014.here hx rfl (hb hby at_249) rfl rfl k)
              refine GoalH.step (T' := T1014) (g' := (mkF m 252 #[.val (.int p1), .val (.int p2), .val (.long q3), .second, .val (.long q4), .second, .val (.long q5), .second, .val (.int (Int32.ofNat m8)), .val (.int s9), .val (.ref b10), .val (.ref b11), .val (.int (-1 : Int32))] [(.int (Int32.ofNat 5)), (.ref b10)])) ?_ (fun t k => XS.iconst X1014.here hx rfl (hb hby at_251) k)
              obtain ⟨cl1017, Ar1017, q1017, S1017, H1017⟩ := (id f1007)
              have hlt1017 : 5 < 10 := by omega
              have hn1017 : 10 < 2 ^ 31 := by omega
              have hin1017 : ¬ ((Int32.ofNat 5) < 0 ∨ cl1017.slots.size ≤ ((Int32.ofNat 5)).toNatClampNeg) := nat_inb S1017 hlt1017 hn1017
              have hat1017 : cl1017.slots[((Int32.ofNat 5)).toNatClampNeg]? = some (.int c5) := by rw [nat_clamp (show 5 < 2 ^ 31 by omega)]; exact H1017 _ hlt1017
              refine GoalH.step (T' := T1014) (g' := (mkF m 253 #[.val (.int p1), .val (.int p2), .val (.long q3), .second, .val (.long q4), .second, .val (.long q5), .second, .val (.int (Int32.ofNat m8)), .val (.int s9), .val (.ref b10), .val (.ref b11), .val (.int (-1 : Int32))] [(.int c5)])) ?_ (fun t k => X1014.caload hx (j := (Int32.ofNat 5)) (v := (.int c5)) (by rw [e1014]; exact Ar1017.1) (State.isArrayOf_alike hZ.alike Ar1017.2.1) Ar1017.2.2 hin1017 hat1017 (g := (mkF m 252 #[.val (.int p1), .val (.int p2), .val (.long q3), .second, .val (.long q4), .second, .val (.long q5), .second, .val (.int (Int32.ofNat m8)), .val (.int s9), .val (.ref b10), .val (.ref b11), .val (.int (-1 : Int32))] [(.int (Int32.ofNat 5)), (.ref b10)])) rfl rfl (hb hby at_252) _ k)
              refine GoalH.step (T' := T1014) (g' := (mkF m 255 #[.val (.int p1), .val (.int p2), .val (.long q3), .second, .val (.long q4), .second, .val (.long q5), .second, .val (.int (Int32.ofNat m8)), .val (.int s9), .val (.ref b10), .val (.ref b11), .val (.int (-1 : Int32))] [(.int (47 : Int32)), (.int c5)])) ?_ (fun t k => XS.bipush X1014.here hx rfl (hb hby at_253) k)
              by_cases c1018 : c5 = (47 : Int32)
              · refine GoalH.step (T' := T1014) (g' := (mkF m 258 #[.val (.int p1), .val (.int p2), .val (.long q3), .second, .val (.long q4), .second, .val (.long q5), .second, .val (.int (Int32.ofNat m8)), .val (.int s9), .val (.ref b10), .val (.ref b11), .val (.int (-1 : Int32))] [])) ?_ (fun t k => XS.icmpNo X1014.here hx rfl (hb hby at_255) rfl (teq c1018).2 k)
                refine GoalH.step (T' := T1014) (g' := (mkF m 260 #[.val (.int p1), .val (.int p2), .val (.long q3), .second, .val (.long q4), .second, .val (.long q5), .second, .val (.int (Int32.ofNat m8)), .val (.int s9), .val (.ref b10), .val (.ref b11), .val (.int (-1 : Int32))] [(.ref b10)])) ?_ (fun t k => XS.aload X1014.here hx rfl (hb hby at_258) rfl rfl k)
                refine GoalH.step (T' := T1014) (g' := (mkF m 262 #[.val (.int p1), .val (.int p2), .val (.long q3), .second, .val (.long q4), .second, .val (.long q5), .second, .val (.int (Int32.ofNat m8)), .val (.int s9), .val (.ref b10), .val (.ref b11), .val (.int (-1 : Int32))] [(.int (Int32.ofNat 6)), (.ref b10)])) ?_ (fun t k => XS.bipush X1014.here hx rfl (hb hby at_260) k)
                obtain ⟨cl1019, Ar1019, q1019, S1019, H1019⟩ := (id f1007)
                have hlt1019 : 6 < 10 := by omega
                have hn1019 : 10 < 2 ^ 31 := by omega
                have hin1019 : ¬ ((Int32.ofNat 6) < 0 ∨ cl1019.slots.size ≤ ((Int32.ofNat 6)).toNatClampNeg) := nat_inb S1019 hlt1019 hn1019
                have hat1019 : cl1019.slots[((Int32.ofNat 6)).toNatClampNeg]? = some (.int c6) := by rw [nat_clamp (show 6 < 2 ^ 31 by omega)]; exact H1019 _ hlt1019
                refine GoalH.step (T' := T1014) (g' := (mkF m 263 #[.val (.int p1), .val (.int p2), .val (.long q3), .second, .val (.long q4), .second, .val (.long q5), .second, .val (.int (Int32.ofNat m8)), .val (.int s9), .val (.ref b10), .val (.ref b11), .val (.int (-1 : Int32))] [(.int c6)])) ?_ (fun t k => X1014.caload hx (j := (Int32.ofNat 6)) (v := (.int c6)) (by rw [e1014]; exact Ar1019.1) (State.isArrayOf_alike hZ.alike Ar1019.2.1) Ar1019.2.2 hin1019 hat1019 (g := (mkF m 262 #[.val (.int p1), .val (.int p2), .val (.long q3), .second, .val (.long q4), .second, .val (.long q5), .second, .val (.int (Int32.ofNat m8)), .val (.int s9), .val (.ref b10), .val (.ref b11), .val (.int (-1 : Int32))] [(.int (Int32.ofNat 6)), (.ref b10)])) rfl rfl (hb hby at_262) _ k)
                refine GoalH.step (T' := T1014) (g' := (mkF m 265 #[.val (.int p1), .val (.int p2), .val (.long q3), .second, .val (.long q4), .second, .val (.long q5), .second, .val (.int (Int32.ofNat m8)), .val (.int s9), .val (.ref b10), .val (.ref b11), .val (.int (-1 : Int32))] [(.int (47 : Int32)), (.int c6)])) ?_ (fun t k => XS.bipush X1014.here hx rfl (hb hby at_263) k)
                by_cases c1020 : c6 = (47 : Int32)
                · refine GoalH.step (T' := T1014) (g' := (mkF m 268 #[.val (.int p1), .val (.int p2), .val (.long q3), .second, .val (.long q4), .second, .val (.long q5), .second, .val (.int (Int32.ofNat m8)), .val (.int s9), .val (.ref b10), .val (.ref b11), .val (.int (-1 : Int32))] [])) ?_ (fun t k => XS.icmpNo X1014.here hx rfl (hb hby at_265) rfl (teq c1020).2 k)
                  refine GoalH.step (T' := T1014) (g' := (mkF m 270 #[.val (.int p1), .val (.int p2), .val (.long q3), .second, .val (.long q4), .second, .val (.long q5), .second, .val (.int (Int32.ofNat m8)), .val (.int s9), .val (.ref b10), .val (.ref b11), .val (.int (-1 : Int32))] [(.int (7 : Int32))])) ?_ (fun t k => XS.bipush X1014.here hx rfl (hb hby at_268) k)
                  refine GoalH.step (T' := T1014) (g' := (mkF m 272 #[.val (.int p1), .val (.int p2), .val (.long q3), .second, .val (.long q4), .second, .val (.long q5), .second, .val (.int (Int32.ofNat m8)), .val (.int s9), .val (.ref b10), .val (.ref b11), .val (.int (7 : Int32))] [])) ?_ (fun t k => XS.istore X1014.here hx rfl (hb hby at_270) rfl (l' := #[.val (.int p1), .val (.int p2), .val (.long q3), .second, .val (.long q4), .second, .val (.long q5), .second, .val (.int (Int32.ofNat m8)), .val (.int s9), .val (.ref b10), .val (.ref b11), .val (.int (7 : Int32))]) rfl k)
                  refine GoalH.step (T' := T1014) (g' := (mkF m 329 #[.val (.int p1), .val (.int p2), .val (.long q3), .second, .val (.long q4), .second, .val (.long q5), .second, .val (.int (Int32.ofNat m8)), .val (.int s9), .val (.ref b10), .val (.ref b11), .val (.int (7 : Int32))] [])) ?_ (fun t k => XS.goto X1014.here hx rfl (pc0 := 272) (pc' := 329) rfl (hb hby at_272) (by decide) (by decide) k)
                  refine GoalH.step (T' := T1014) (g' := (mkF m 331 #[.val (.int p1), .val (.int p2), .val (.long q3), .second, .val (.long q4), .second, .val (.long q5), .second, .val (.int (Int32.ofNat m8)), .val (.int s9), .val (.ref b10), .val (.ref b11), .val (.int (7 : Int32))] [(.ref b11)])) ?_ (fun t k => XS.aload X1014.here hx rfl (hb hby at_329) rfl rfl k)
                  have f1022 : Old Z n0 h1001 := (O0.ext E1001)
                  have hP0 : (7 ≤ m8 ∧ ∀ j, j < 7 → low ((ten c0 c1 c2 c3 c4 c5 c6 c7 c8 c9) j) = sch0 j) := ⟨Nat.le_of_not_lt (fun q => c1003 ((nat_lt (n := 7) (by omega) (by omega)).mpr q)), (own_step (P := fun j => low ((ten c0 c1 c2 c3 c4 c5 c6 c7 c8 c9) j) = sch0 j) (i := 6) (own_step (P := fun j => low ((ten c0 c1 c2 c3 c4 c5 c6 c7 c8 c9) j) = sch0 j) (i := 5) (own_step (P := fun j => low ((ten c0 c1 c2 c3 c4 c5 c6 c7 c8 c9) j) = sch0 j) (i := 4) (own_step (P := fun j => low ((ten c0 c1 c2 c3 c4 c5 c6 c7 c8 c9) j) = sch0 j) (i := 3) (own_step (P := fun j => low ((ten c0 c1 c2 c3 c4 c5 c6 c7 c8 c9) j) = sch0 j) (i := 2) (own_step (P := fun j => low ((ten c0 c1 c2 c3 c4 c5 c6 c7 c8 c9) j) = sch0 j) (i := 1) (own_step (P := fun j => low ((ten c0 c1 c2 c3 c4 c5 c6 c7 c8 c9) j) = sch0 j) (i := 0) (fun j hj => absurd hj (Nat.not_lt_zero _)) ((own_lw c0 104 72 (by decide) (by decide)).mpr hI192)) ((own_lw c1 116 84 (by decide) (by decide)).mpr hI206)) ((own_lw c2 116 84 (by decide) (by decide)).mpr hI220)) ((own_lw c3 112 80 (by decide) (by decide)).mpr hI234)) ((own_sg c4 58 (by decide)).mpr c1016)) ((own_sg c5 47 (by decide)).mpr c1018)) ((own_sg c6 47 (by decide)).mpr c1020))⟩
                  obtain ⟨v1021, T1021, h1021, L1021, X1021, e1021, hQ1021, st1021⟩ := callStatic X1014 hx hZ hown (hw _ (List.mem_of_getElem? (i := 34) rfl)) (hw _ (List.mem_of_getElem? (i := 35) rfl)) (hw _ (List.mem_of_getElem? (i := 36) rfl)) (hw _ (List.mem_of_getElem? (i := 37) rfl)) (by decide) (rmAS l Z a0 hw b11 m8 (ten c0 c1 c2 c3 c4 c5 c6 c7 c8 c9) ca u0 u1 kc cs fm h1001 n0 (by omega) SE f1022 S0 AV U0 U1 Z1001) e1014 (W := 0) (by decide) (by decide) (by decide) (by decide) (g := (mkF m 331 #[.val (.int p1), .val (.int p2), .val (.long q3), .second, .val (.long q4), .second, .val (.long q5), .second, .val (.int (Int32.ofNat m8)), .val (.int s9), .val (.ref b10), .val (.ref b11), .val (.int (7 : Int32))] [(.ref b11)])) rfl (by rw [hml]; rfl) (argsL := [(.ref b11)]) (rest := []) (lenOf pd_21 rfl) rfl (by show 2 * 0 + _ ≤ _; exact Nat.le_of_eq rfl) (hb hby at_331) rfl
                  obtain ⟨r1021, rfl, M1021, q1021, hR1021⟩ := hQ1021
                  obtain rfl : r1021 = 7 := hR1021.elim (fun x => x.2) (fun x => x.elim (fun y => absurd hP0 y.1) (fun y => absurd hP0 y.1))
                  rw [q1021] at e1021
                  have N1021 := Fr.app N1014 M1021
                  refine GoalH.step (T' := T1021) (g' := (mkF m 334 #[.val (.int p1), .val (.int p2), .val (.long q3), .second, .val (.long q4), .second, .val (.long q5), .second, .val (.int (Int32.ofNat m8)), .val (.int s9), .val (.ref b10), .val (.ref b11), .val (.int (7 : Int32))] [(.int (7 : Int32))])) ?_ st1021
                  refine GoalH.step (T' := T1021) (g' := (mkF m 336 #[.val (.int p1), .val (.int p2), .val (.long q3), .second, .val (.long q4), .second, .val (.long q5), .second, .val (.int (Int32.ofNat m8)), .val (.int s9), .val (.ref b10), .val (.ref b11), .val (.int (7 : Int32))] [(.int (7 : Int32)), (.int (7 : Int32))])) ?_ (fun t k => XS.iload X1021.here hx rfl (hb hby at_334) rfl k)
                  refine GoalH.step (T' := T1021) (g' := (mkF m 339 #[.val (.int p1), .val (.int p2), .val (.long q3), .second, .val (.long q4), .second, .val (.long q5), .second, .val (.int (Int32.ofNat m8)), .val (.int s9), .val (.ref b10), .val (.ref b11), .val (.int (7 : Int32))] [])) ?_ (fun t k => XS.icmpNo X1021.here hx rfl (hb hby at_336) rfl (teq (by decide)).2 k)
                  refine GoalH.step (T' := T1021) (g' := (mkF m 340 #[.val (.int p1), .val (.int p2), .val (.long q3), .second, .val (.long q4), .second, .val (.long q5), .second, .val (.int (Int32.ofNat m8)), .val (.int s9), .val (.ref b10), .val (.ref b11), .val (.int (7 : Int32))] [(.int (1 : Int32))])) ?_ (fun t k => XS.iconst X1021.here hx rfl (hb hby at_339) k)
                  refine GoalH.step (T' := T1021) (g' := (mkF m 344 #[.val (.int p1), .val (.int p2), .val (.long q3), .second, .val (.long q4), .second, .val (.long q5), .second, .val (.int (Int32.ofNat m8)), .val (.int s9), .val (.ref b10), .val (.ref b11), .val (.int (7 : Int32))] [(.int (1 : Int32))])) ?_ (fun t k => XS.goto X1021.here hx rfl (pc0 := 340) (pc' := 344) rfl (hb hby at_340) (by decide) (by decide) k)
                  refine GoalH.retN (t := .boolean) X1021 hS (by rw [e1021]; omega) hZ (own_EW hw) (by rw [e1021]; exact CH1001) hx hret (by simp) (hb hby at_344) ?_
                  exact ⟨⟨rfl, N1021⟩, by decide, by decide⟩
                · refine GoalH.step (T' := T1014) (g' := (mkF m 275 #[.val (.int p1), .val (.int p2), .val (.long q3), .second, .val (.long q4), .second, .val (.long q5), .second, .val (.int (Int32.ofNat m8)), .val (.int s9), .val (.ref b10), .val (.ref b11), .val (.int (-1 : Int32))] [])) ?_ (fun t k => XS.icmpYes X1014.here hx rfl (pc0 := 265) (pc' := 275) rfl (hb hby at_265) rfl (feq c1020).2 (by decide) (by decide) k)
                  refine GoalH.step (T' := T1014) (g' := (mkF m 277 #[.val (.int p1), .val (.int p2), .val (.long q3), .second, .val (.long q4), .second, .val (.long q5), .second, .val (.int (Int32.ofNat m8)), .val (.int s9), .val (.ref b10), .val (.ref b11), .val (.int (-1 : Int32))] [(.int (Int32.ofNat m8))])) ?_ (fun t k => XS.iload X1014.here hx rfl (hb hby at_275) rfl k)
                  refine GoalH.step (T' := T1014) (g' := (mkF m 279 #[.val (.int p1), .val (.int p2), .val (.long q3), .second, .val (.long q4), .second, .val (.long q5), .second, .val (.int (Int32.ofNat m8)), .val (.int s9), .val (.ref b10), .val (.ref b11), .val (.int (-1 : Int32))] [(.int (8 : Int32)), (.int (Int32.ofNat m8))])) ?_ (fun t k => XS.bipush X1014.here hx rfl (hb hby at_277) k)
                  by_cases c1023 : (Int32.ofNat m8) < (8 : Int32)
                  · refine GoalH.step (T' := T1014) (g' := (mkF m 329 #[.val (.int p1), .val (.int p2), .val (.long q3), .second, .val (.long q4), .second, .val (.long q5), .second, .val (.int (Int32.ofNat m8)), .val (.int s9), .val (.ref b10), .val (.ref b11), .val (.int (-1 : Int32))] [])) ?_ (fun t k => XS.icmpYes X1014.here hx rfl (pc0 := 279) (pc' := 329) rfl (hb hby at_279) rfl (tlt c1023).1 (by decide) (by decide) k)
                    refine GoalH.step (T' := T1014) (g' := (mkF m 331 #[.val (.int p1), .val (.int p2), .val (.long q3), .second, .val (.long q4), .second, .val (.long q5), .second, .val (.int (Int32.ofNat m8)), .val (.int s9), .val (.ref b10), .val (.ref b11), .val (.int (-1 : Int32))] [(.ref b11)])) ?_ (fun t k => XS.aload X1014.here hx rfl (hb hby at_329) rfl rfl k)
                    have f1025 : Old Z n0 h1001 := (O0.ext E1001)
                    have hP0 : ¬ (7 ≤ m8 ∧ ∀ j, j < 7 → low ((ten c0 c1 c2 c3 c4 c5 c6 c7 c8 c9) j) = sch0 j) := fun q => c1020 ((own_sg c6 47 (by decide)).mp (q.2 6 (by decide)))
                    have hP1 : ¬ (8 ≤ m8 ∧ ∀ j, j < 8 → low ((ten c0 c1 c2 c3 c4 c5 c6 c7 c8 c9) j) = sch1 j) := fun q => absurd q.1 (by have := (nat_lt (n := 8) (by omega) (by omega)).mp c1023; omega)
                    obtain ⟨v1024, T1024, h1024, L1024, X1024, e1024, hQ1024, st1024⟩ := callStatic X1014 hx hZ hown (hw _ (List.mem_of_getElem? (i := 34) rfl)) (hw _ (List.mem_of_getElem? (i := 35) rfl)) (hw _ (List.mem_of_getElem? (i := 36) rfl)) (hw _ (List.mem_of_getElem? (i := 37) rfl)) (by decide) (rmAS l Z a0 hw b11 m8 (ten c0 c1 c2 c3 c4 c5 c6 c7 c8 c9) ca u0 u1 kc cs fm h1001 n0 (by omega) SE f1025 S0 AV U0 U1 Z1001) e1014 (W := 0) (by decide) (by decide) (by decide) (by decide) (g := (mkF m 331 #[.val (.int p1), .val (.int p2), .val (.long q3), .second, .val (.long q4), .second, .val (.long q5), .second, .val (.int (Int32.ofNat m8)), .val (.int s9), .val (.ref b10), .val (.ref b11), .val (.int (-1 : Int32))] [(.ref b11)])) rfl (by rw [hml]; rfl) (argsL := [(.ref b11)]) (rest := []) (lenOf pd_21 rfl) rfl (by show 2 * 0 + _ ≤ _; exact Nat.le_of_eq rfl) (hb hby at_331) rfl
                    obtain ⟨r1024, rfl, M1024, q1024, hR1024⟩ := hQ1024
                    obtain rfl : r1024 = -1 := hR1024.elim (fun x => absurd x.1 hP0) (fun x => x.elim (fun y => absurd y.2.1 hP1) (fun y => y.2.2))
                    rw [q1024] at e1024
                    have N1024 := Fr.app N1014 M1024
                    refine GoalH.step (T' := T1024) (g' := (mkF m 334 #[.val (.int p1), .val (.int p2), .val (.long q3), .second, .val (.long q4), .second, .val (.long q5), .second, .val (.int (Int32.ofNat m8)), .val (.int s9), .val (.ref b10), .val (.ref b11), .val (.int (-1 : Int32))] [(.int (-1 : Int32))])) ?_ st1024
                    refine GoalH.step (T' := T1024) (g' := (mkF m 336 #[.val (.int p1), .val (.int p2), .val (.long q3), .second, .val (.long q4), .second, .val (.long q5), .second, .val (.int (Int32.ofNat m8)), .val (.int s9), .val (.ref b10), .val (.ref b11), .val (.int (-1 : Int32))] [(.int (-1 : Int32)), (.int (-1 : Int32))])) ?_ (fun t k => XS.iload X1024.here hx rfl (hb hby at_334) rfl k)
                    refine GoalH.step (T' := T1024) (g' := (mkF m 339 #[.val (.int p1), .val (.int p2), .val (.long q3), .second, .val (.long q4), .second, .val (.long q5), .second, .val (.int (Int32.ofNat m8)), .val (.int s9), .val (.ref b10), .val (.ref b11), .val (.int (-1 : Int32))] [])) ?_ (fun t k => XS.icmpNo X1024.here hx rfl (hb hby at_336) rfl (teq (by decide)).2 k)
                    refine GoalH.step (T' := T1024) (g' := (mkF m 340 #[.val (.int p1), .val (.int p2), .val (.long q3), .second, .val (.long q4), .second, .val (.long q5), .second, .val (.int (Int32.ofNat m8)), .val (.int s9), .val (.ref b10), .val (.ref b11), .val (.int (-1 : Int32))] [(.int (1 : Int32))])) ?_ (fun t k => XS.iconst X1024.here hx rfl (hb hby at_339) k)
                    refine GoalH.step (T' := T1024) (g' := (mkF m 344 #[.val (.int p1), .val (.int p2), .val (.long q3), .second, .val (.long q4), .second, .val (.long q5), .second, .val (.int (Int32.ofNat m8)), .val (.int s9), .val (.ref b10), .val (.ref b11), .val (.int (-1 : Int32))] [(.int (1 : Int32))])) ?_ (fun t k => XS.goto X1024.here hx rfl (pc0 := 340) (pc' := 344) rfl (hb hby at_340) (by decide) (by decide) k)
                    refine GoalH.retN (t := .boolean) X1024 hS (by rw [e1024]; omega) hZ (own_EW hw) (by rw [e1024]; exact CH1001) hx hret (by simp) (hb hby at_344) ?_
                    exact ⟨⟨rfl, N1024⟩, by decide, by decide⟩
                  · refine GoalH.step (T' := T1014) (g' := (mkF m 282 #[.val (.int p1), .val (.int p2), .val (.long q3), .second, .val (.long q4), .second, .val (.long q5), .second, .val (.int (Int32.ofNat m8)), .val (.int s9), .val (.ref b10), .val (.ref b11), .val (.int (-1 : Int32))] [])) ?_ (fun t k => XS.icmpNo X1014.here hx rfl (hb hby at_279) rfl (flt c1023).1 k)
                    refine GoalH.step (T' := T1014) (g' := (mkF m 284 #[.val (.int p1), .val (.int p2), .val (.long q3), .second, .val (.long q4), .second, .val (.long q5), .second, .val (.int (Int32.ofNat m8)), .val (.int s9), .val (.ref b10), .val (.ref b11), .val (.int (-1 : Int32))] [(.ref b10)])) ?_ (fun t k => XS.aload X1014.here hx rfl (hb hby at_282) rfl rfl k)
                    refine GoalH.step (T' := T1014) (g' := (mkF m 285 #[.val (.int p1), .val (.int p2), .val (.long q3), .second, .val (.long q4), .second, .val (.long q5), .second, .val (.int (Int32.ofNat m8)), .val (.int s9), .val (.ref b10), .val (.ref b11), .val (.int (-1 : Int32))] [(.int (Int32.ofNat 4)), (.ref b10)])) ?_ (fun t k => XS.iconst X1014.here hx rfl (hb hby at_284) k)
                    obtain ⟨cl1026, Ar1026, q1026, S1026, H1026⟩ := (id f1007)
                    have hlt1026 : 4 < 10 := by omega
                    have hn1026 : 10 < 2 ^ 31 := by omega
                    have hin1026 : ¬ ((Int32.ofNat 4) < 0 ∨ cl1026.slots.size ≤ ((Int32.ofNat 4)).toNatClampNeg) := nat_inb S1026 hlt1026 hn1026
                    have hat1026 : cl1026.slots[((Int32.ofNat 4)).toNatClampNeg]? = some (.int c4) := by rw [nat_clamp (show 4 < 2 ^ 31 by omega)]; exact H1026 _ hlt1026
                    refine GoalH.step (T' := T1014) (g' := (mkF m 286 #[.val (.int p1), .val (.int p2), .val (.long q3), .second, .val (.long q4), .second, .val (.long q5), .second, .val (.int (Int32.ofNat m8)), .val (.int s9), .val (.ref b10), .val (.ref b11), .val (.int (-1 : Int32))] [(.int c4)])) ?_ (fun t k => X1014.caload hx (j := (Int32.ofNat 4)) (v := (.int c4)) (by rw [e1014]; exact Ar1026.1) (State.isArrayOf_alike hZ.alike Ar1026.2.1) Ar1026.2.2 hin1026 hat1026 (g := (mkF m 285 #[.val (.int p1), .val (.int p2), .val (.long q3), .second, .val (.long q4), .second, .val (.long q5), .second, .val (.int (Int32.ofNat m8)), .val (.int s9), .val (.ref b10), .val (.ref b11), .val (.int (-1 : Int32))] [(.int (Int32.ofNat 4)), (.ref b10)])) rfl rfl (hb hby at_285) _ k)
                    refine GoalH.step (T' := T1014) (g' := (mkF m 288 #[.val (.int p1), .val (.int p2), .val (.long q3), .second, .val (.long q4), .second, .val (.long q5), .second, .val (.int (Int32.ofNat m8)), .val (.int s9), .val (.ref b10), .val (.ref b11), .val (.int (-1 : Int32))] [(.int (115 : Int32)), (.int c4)])) ?_ (fun t k => XS.bipush X1014.here hx rfl (hb hby at_286) k)
                    refine GoalH.step (T' := T1014) (g' := (mkF m 290 #[.val (.int p1), .val (.int p2), .val (.long q3), .second, .val (.long q4), .second, .val (.long q5), .second, .val (.int (Int32.ofNat m8)), .val (.int s9), .val (.ref b10), .val (.ref b11), .val (.int (-1 : Int32))] [(.int (83 : Int32)), (.int (115 : Int32)), (.int c4)])) ?_ (fun t k => XS.bipush X1014.here hx rfl (hb hby at_288) k)
                    by_cases hI290 : (c4 = (115 : Int32) ∨ c4 = (83 : Int32))
                    · obtain ⟨v1027, T1027, h1027, L1027, X1027, e1027, hQ1027, st1027⟩ := callStatic X1014 hx hZ hown (hw _ (List.mem_of_getElem? (i := 84) rfl)) (hw _ (List.mem_of_getElem? (i := 85) rfl)) (hw _ (List.mem_of_getElem? (i := 4) rfl)) (hw _ (List.mem_of_getElem? (i := 86) rfl)) (by decide) (rmIS l Z a0 hw c4 (115 : Int32) (83 : Int32) h1001 n0 (by omega) ) e1014 (W := 0) (by decide) (by decide) (by decide) (by decide) (g := (mkF m 290 #[.val (.int p1), .val (.int p2), .val (.long q3), .second, .val (.long q4), .second, .val (.long q5), .second, .val (.int (Int32.ofNat m8)), .val (.int s9), .val (.ref b10), .val (.ref b11), .val (.int (-1 : Int32))] [(.int (83 : Int32)), (.int (115 : Int32)), (.int c4)])) rfl (by rw [hml]; rfl) (argsL := [(.int c4), (.int (115 : Int32)), (.int (83 : Int32))]) (rest := []) (lenOf pd_22 rfl) rfl (by show 2 * 0 + _ ≤ _; exact Nat.le_of_eq rfl) (hb hby at_290) rfl
                      obtain ⟨rfl, M1027, q1027⟩ := hQ1027.elim (fun x => x.2) (fun x => absurd x.1 (fun z => z hI290))
                      rw [q1027] at e1027
                      have N1027 := Fr.app N1014 M1027
                      refine GoalH.step (T' := T1027) (g' := (mkF m 293 #[.val (.int p1), .val (.int p2), .val (.long q3), .second, .val (.long q4), .second, .val (.long q5), .second, .val (.int (Int32.ofNat m8)), .val (.int s9), .val (.ref b10), .val (.ref b11), .val (.int (-1 : Int32))] [(.int (1 : Int32))])) ?_ st1027
                      refine GoalH.step (T' := T1027) (g' := (mkF m 296 #[.val (.int p1), .val (.int p2), .val (.long q3), .second, .val (.long q4), .second, .val (.long q5), .second, .val (.int (Int32.ofNat m8)), .val (.int s9), .val (.ref b10), .val (.ref b11), .val (.int (-1 : Int32))] [])) ?_ (fun t k => XS.ifNo X1027.here hx rfl (hb hby at_293) rfl ((if0 _ _).trans (feq (by decide)).1) k)
                      refine GoalH.step (T' := T1027) (g' := (mkF m 298 #[.val (.int p1), .val (.int p2), .val (.long q3), .second, .val (.long q4), .second, .val (.long q5), .second, .val (.int (Int32.ofNat m8)), .val (.int s9), .val (.ref b10), .val (.ref b11), .val (.int (-1 : Int32))] [(.ref b10)])) ?_ (fun t k => XS.aload X1027.here hx rfl (hb hby at_296) rfl rfl k)
                      refine GoalH.step (T' := T1027) (g' := (mkF m 299 #[.val (.int p1), .val (.int p2), .val (.long q3), .second, .val (.long q4), .second, .val (.long q5), .second, .val (.int (Int32.ofNat m8)), .val (.int s9), .val (.ref b10), .val (.ref b11), .val (.int (-1 : Int32))] [(.int (Int32.ofNat 5)), (.ref b10)])) ?_ (fun t k => XS.iconst X1027.here hx rfl (hb hby at_298) k)
                      obtain ⟨cl1028, Ar1028, q1028, S1028, H1028⟩ := (id f1007)
                      have hlt1028 : 5 < 10 := by omega
                      have hn1028 : 10 < 2 ^ 31 := by omega
                      have hin1028 : ¬ ((Int32.ofNat 5) < 0 ∨ cl1028.slots.size ≤ ((Int32.ofNat 5)).toNatClampNeg) := nat_inb S1028 hlt1028 hn1028
                      have hat1028 : cl1028.slots[((Int32.ofNat 5)).toNatClampNeg]? = some (.int c5) := by rw [nat_clamp (show 5 < 2 ^ 31 by omega)]; exact H1028 _ hlt1028
                      refine GoalH.step (T' := T1027) (g' := (mkF m 300 #[.val (.int p1), .val (.int p2), .val (.long q3), .second, .val (.long q4), .second, .val (.long q5), .second, .val (.int (Int32.ofNat m8)), .val (.int s9), .val (.ref b10), .val (.ref b11), .val (.int (-1 : Int32))] [(.int c5)])) ?_ (fun t k => X1027.caload hx (j := (Int32.ofNat 5)) (v := (.int c5)) (by rw [e1027]; exact Ar1028.1) (State.isArrayOf_alike hZ.alike Ar1028.2.1) Ar1028.2.2 hin1028 hat1028 (g := (mkF m 299 #[.val (.int p1), .val (.int p2), .val (.long q3), .second, .val (.long q4), .second, .val (.long q5), .second, .val (.int (Int32.ofNat m8)), .val (.int s9), .val (.ref b10), .val (.ref b11), .val (.int (-1 : Int32))] [(.int (Int32.ofNat 5)), (.ref b10)])) rfl rfl (hb hby at_299) _ k)
                      refine GoalH.step (T' := T1027) (g' := (mkF m 302 #[.val (.int p1), .val (.int p2), .val (.long q3), .second, .val (.long q4), .second, .val (.long q5), .second, .val (.int (Int32.ofNat m8)), .val (.int s9), .val (.ref b10), .val (.ref b11), .val (.int (-1 : Int32))] [(.int (58 : Int32)), (.int c5)])) ?_ (fun t k => XS.bipush X1027.here hx rfl (hb hby at_300) k)
                      by_cases c1029 : c5 = (58 : Int32)
                      · refine GoalH.step (T' := T1027) (g' := (mkF m 305 #[.val (.int p1), .val (.int p2), .val (.long q3), .second, .val (.long q4), .second, .val (.long q5), .second, .val (.int (Int32.ofNat m8)), .val (.int s9), .val (.ref b10), .val (.ref b11), .val (.int (-1 : Int32))] [])) ?_ (fun t k => XS.icmpNo X1027.here hx rfl (hb hby at_302) rfl (teq c1029).2 k)
                        refine GoalH.step (T' := T1027) (g' := (mkF m 307 #[.val (.int p1), .val (.int p2), .val (.long q3), .second, .val (.long q4), .second, .val (.long q5), .second, .val (.int (Int32.ofNat m8)), .val (.int s9), .val (.ref b10), .val (.ref b11), .val (.int (-1 : Int32))] [(.ref b10)])) ?_ (fun t k => XS.aload X1027.here hx rfl (hb hby at_305) rfl rfl k)
                        refine GoalH.step (T' := T1027) (g' := (mkF m 309 #[.val (.int p1), .val (.int p2), .val (.long q3), .second, .val (.long q4), .second, .val (.long q5), .second, .val (.int (Int32.ofNat m8)), .val (.int s9), .val (.ref b10), .val (.ref b11), .val (.int (-1 : Int32))] [(.int (Int32.ofNat 6)), (.ref b10)])) ?_ (fun t k => XS.bipush X1027.here hx rfl (hb hby at_307) k)
                        obtain ⟨cl1030, Ar1030, q1030, S1030, H1030⟩ := (id f1007)
                        have hlt1030 : 6 < 10 := by omega
                        have hn1030 : 10 < 2 ^ 31 := by omega
                        have hin1030 : ¬ ((Int32.ofNat 6) < 0 ∨ cl1030.slots.size ≤ ((Int32.ofNat 6)).toNatClampNeg) := nat_inb S1030 hlt1030 hn1030
                        have hat1030 : cl1030.slots[((Int32.ofNat 6)).toNatClampNeg]? = some (.int c6) := by rw [nat_clamp (show 6 < 2 ^ 31 by omega)]; exact H1030 _ hlt1030
                        refine GoalH.step (T' := T1027) (g' := (mkF m 310 #[.val (.int p1), .val (.int p2), .val (.long q3), .second, .val (.long q4), .second, .val (.long q5), .second, .val (.int (Int32.ofNat m8)), .val (.int s9), .val (.ref b10), .val (.ref b11), .val (.int (-1 : Int32))] [(.int c6)])) ?_ (fun t k => X1027.caload hx (j := (Int32.ofNat 6)) (v := (.int c6)) (by rw [e1027]; exact Ar1030.1) (State.isArrayOf_alike hZ.alike Ar1030.2.1) Ar1030.2.2 hin1030 hat1030 (g := (mkF m 309 #[.val (.int p1), .val (.int p2), .val (.long q3), .second, .val (.long q4), .second, .val (.long q5), .second, .val (.int (Int32.ofNat m8)), .val (.int s9), .val (.ref b10), .val (.ref b11), .val (.int (-1 : Int32))] [(.int (Int32.ofNat 6)), (.ref b10)])) rfl rfl (hb hby at_309) _ k)
                        refine GoalH.step (T' := T1027) (g' := (mkF m 312 #[.val (.int p1), .val (.int p2), .val (.long q3), .second, .val (.long q4), .second, .val (.long q5), .second, .val (.int (Int32.ofNat m8)), .val (.int s9), .val (.ref b10), .val (.ref b11), .val (.int (-1 : Int32))] [(.int (47 : Int32)), (.int c6)])) ?_ (fun t k => XS.bipush X1027.here hx rfl (hb hby at_310) k)
                        refine GoalH.step (T' := T1027) (g' := (mkF m 329 #[.val (.int p1), .val (.int p2), .val (.long q3), .second, .val (.long q4), .second, .val (.long q5), .second, .val (.int (Int32.ofNat m8)), .val (.int s9), .val (.ref b10), .val (.ref b11), .val (.int (-1 : Int32))] [])) ?_ (fun t k => XS.icmpYes X1027.here hx rfl (pc0 := 312) (pc' := 329) rfl (hb hby at_312) rfl (feq c1020).2 (by decide) (by decide) k)
                        refine GoalH.step (T' := T1027) (g' := (mkF m 331 #[.val (.int p1), .val (.int p2), .val (.long q3), .second, .val (.long q4), .second, .val (.long q5), .second, .val (.int (Int32.ofNat m8)), .val (.int s9), .val (.ref b10), .val (.ref b11), .val (.int (-1 : Int32))] [(.ref b11)])) ?_ (fun t k => XS.aload X1027.here hx rfl (hb hby at_329) rfl rfl k)
                        have f1032 : Old Z n0 h1001 := (O0.ext E1001)
                        have hP0 : ¬ (7 ≤ m8 ∧ ∀ j, j < 7 → low ((ten c0 c1 c2 c3 c4 c5 c6 c7 c8 c9) j) = sch0 j) := fun q => c1020 ((own_sg c6 47 (by decide)).mp (q.2 6 (by decide)))
                        have hP1 : ¬ (8 ≤ m8 ∧ ∀ j, j < 8 → low ((ten c0 c1 c2 c3 c4 c5 c6 c7 c8 c9) j) = sch1 j) := fun q => c1020 ((own_sg c6 47 (by decide)).mp (q.2 6 (by decide)))
                        obtain ⟨v1031, T1031, h1031, L1031, X1031, e1031, hQ1031, st1031⟩ := callStatic X1027 hx hZ hown (hw _ (List.mem_of_getElem? (i := 34) rfl)) (hw _ (List.mem_of_getElem? (i := 35) rfl)) (hw _ (List.mem_of_getElem? (i := 36) rfl)) (hw _ (List.mem_of_getElem? (i := 37) rfl)) (by decide) (rmAS l Z a0 hw b11 m8 (ten c0 c1 c2 c3 c4 c5 c6 c7 c8 c9) ca u0 u1 kc cs fm h1001 n0 (by omega) SE f1032 S0 AV U0 U1 Z1001) e1027 (W := 0) (by decide) (by decide) (by decide) (by decide) (g := (mkF m 331 #[.val (.int p1), .val (.int p2), .val (.long q3), .second, .val (.long q4), .second, .val (.long q5), .second, .val (.int (Int32.ofNat m8)), .val (.int s9), .val (.ref b10), .val (.ref b11), .val (.int (-1 : Int32))] [(.ref b11)])) rfl (by rw [hml]; rfl) (argsL := [(.ref b11)]) (rest := []) (lenOf pd_21 rfl) rfl (by show 2 * 0 + _ ≤ _; exact Nat.le_of_eq rfl) (hb hby at_331) rfl
                        obtain ⟨r1031, rfl, M1031, q1031, hR1031⟩ := hQ1031
                        obtain rfl : r1031 = -1 := hR1031.elim (fun x => absurd x.1 hP0) (fun x => x.elim (fun y => absurd y.2.1 hP1) (fun y => y.2.2))
                        rw [q1031] at e1031
                        have N1031 := Fr.app N1027 M1031
                        refine GoalH.step (T' := T1031) (g' := (mkF m 334 #[.val (.int p1), .val (.int p2), .val (.long q3), .second, .val (.long q4), .second, .val (.long q5), .second, .val (.int (Int32.ofNat m8)), .val (.int s9), .val (.ref b10), .val (.ref b11), .val (.int (-1 : Int32))] [(.int (-1 : Int32))])) ?_ st1031
                        refine GoalH.step (T' := T1031) (g' := (mkF m 336 #[.val (.int p1), .val (.int p2), .val (.long q3), .second, .val (.long q4), .second, .val (.long q5), .second, .val (.int (Int32.ofNat m8)), .val (.int s9), .val (.ref b10), .val (.ref b11), .val (.int (-1 : Int32))] [(.int (-1 : Int32)), (.int (-1 : Int32))])) ?_ (fun t k => XS.iload X1031.here hx rfl (hb hby at_334) rfl k)
                        refine GoalH.step (T' := T1031) (g' := (mkF m 339 #[.val (.int p1), .val (.int p2), .val (.long q3), .second, .val (.long q4), .second, .val (.long q5), .second, .val (.int (Int32.ofNat m8)), .val (.int s9), .val (.ref b10), .val (.ref b11), .val (.int (-1 : Int32))] [])) ?_ (fun t k => XS.icmpNo X1031.here hx rfl (hb hby at_336) rfl (teq (by decide)).2 k)
                        refine GoalH.step (T' := T1031) (g' := (mkF m 340 #[.val (.int p1), .val (.int p2), .val (.long q3), .second, .val (.long q4), .second, .val (.long q5), .second, .val (.int (Int32.ofNat m8)), .val (.int s9), .val (.ref b10), .val (.ref b11), .val (.int (-1 : Int32))] [(.int (1 : Int32))])) ?_ (fun t k => XS.iconst X1031.here hx rfl (hb hby at_339) k)
                        refine GoalH.step (T' := T1031) (g' := (mkF m 344 #[.val (.int p1), .val (.int p2), .val (.long q3), .second, .val (.long q4), .second, .val (.long q5), .second, .val (.int (Int32.ofNat m8)), .val (.int s9), .val (.ref b10), .val (.ref b11), .val (.int (-1 : Int32))] [(.int (1 : Int32))])) ?_ (fun t k => XS.goto X1031.here hx rfl (pc0 := 340) (pc' := 344) rfl (hb hby at_340) (by decide) (by decide) k)
                        refine GoalH.retN (t := .boolean) X1031 hS (by rw [e1031]; omega) hZ (own_EW hw) (by rw [e1031]; exact CH1001) hx hret (by simp) (hb hby at_344) ?_
                        exact ⟨⟨rfl, N1031⟩, by decide, by decide⟩
                      · refine GoalH.step (T' := T1027) (g' := (mkF m 329 #[.val (.int p1), .val (.int p2), .val (.long q3), .second, .val (.long q4), .second, .val (.long q5), .second, .val (.int (Int32.ofNat m8)), .val (.int s9), .val (.ref b10), .val (.ref b11), .val (.int (-1 : Int32))] [])) ?_ (fun t k => XS.icmpYes X1027.here hx rfl (pc0 := 302) (pc' := 329) rfl (hb hby at_302) rfl (feq c1029).2 (by decide) (by decide) k)
                        refine GoalH.step (T' := T1027) (g' := (mkF m 331 #[.val (.int p1), .val (.int p2), .val (.long q3), .second, .val (.long q4), .second, .val (.long q5), .second, .val (.int (Int32.ofNat m8)), .val (.int s9), .val (.ref b10), .val (.ref b11), .val (.int (-1 : Int32))] [(.ref b11)])) ?_ (fun t k => XS.aload X1027.here hx rfl (hb hby at_329) rfl rfl k)
                        have f1034 : Old Z n0 h1001 := (O0.ext E1001)
                        have hP0 : ¬ (7 ≤ m8 ∧ ∀ j, j < 7 → low ((ten c0 c1 c2 c3 c4 c5 c6 c7 c8 c9) j) = sch0 j) := fun q => c1020 ((own_sg c6 47 (by decide)).mp (q.2 6 (by decide)))
                        have hP1 : ¬ (8 ≤ m8 ∧ ∀ j, j < 8 → low ((ten c0 c1 c2 c3 c4 c5 c6 c7 c8 c9) j) = sch1 j) := fun q => c1029 ((own_sg c5 58 (by decide)).mp (q.2 5 (by decide)))
                        obtain ⟨v1033, T1033, h1033, L1033, X1033, e1033, hQ1033, st1033⟩ := callStatic X1027 hx hZ hown (hw _ (List.mem_of_getElem? (i := 34) rfl)) (hw _ (List.mem_of_getElem? (i := 35) rfl)) (hw _ (List.mem_of_getElem? (i := 36) rfl)) (hw _ (List.mem_of_getElem? (i := 37) rfl)) (by decide) (rmAS l Z a0 hw b11 m8 (ten c0 c1 c2 c3 c4 c5 c6 c7 c8 c9) ca u0 u1 kc cs fm h1001 n0 (by omega) SE f1034 S0 AV U0 U1 Z1001) e1027 (W := 0) (by decide) (by decide) (by decide) (by decide) (g := (mkF m 331 #[.val (.int p1), .val (.int p2), .val (.long q3), .second, .val (.long q4), .second, .val (.long q5), .second, .val (.int (Int32.ofNat m8)), .val (.int s9), .val (.ref b10), .val (.ref b11), .val (.int (-1 : Int32))] [(.ref b11)])) rfl (by rw [hml]; rfl) (argsL := [(.ref b11)]) (rest := []) (lenOf pd_21 rfl) rfl (by show 2 * 0 + _ ≤ _; exact Nat.le_of_eq rfl) (hb hby at_331) rfl
                        obtain ⟨r1033, rfl, M1033, q1033, hR1033⟩ := hQ1033
                        obtain rfl : r1033 = -1 := hR1033.elim (fun x => absurd x.1 hP0) (fun x => x.elim (fun y => absurd y.2.1 hP1) (fun y => y.2.2))
                        rw [q1033] at e1033
                        have N1033 := Fr.app N1027 M1033
                        refine GoalH.step (T' := T1033) (g' := (mkF m 334 #[.val (.int p1), .val (.int p2), .val (.long q3), .second, .val (.long q4), .second, .val (.long q5), .second, .val (.int (Int32.ofNat m8)), .val (.int s9), .val (.ref b10), .val (.ref b11), .val (.int (-1 : Int32))] [(.int (-1 : Int32))])) ?_ st1033
                        refine GoalH.step (T' := T1033) (g' := (mkF m 336 #[.val (.int p1), .val (.int p2), .val (.long q3), .second, .val (.long q4), .second, .val (.long q5), .second, .val (.int (Int32.ofNat m8)), .val (.int s9), .val (.ref b10), .val (.ref b11), .val (.int (-1 : Int32))] [(.int (-1 : Int32)), (.int (-1 : Int32))])) ?_ (fun t k => XS.iload X1033.here hx rfl (hb hby at_334) rfl k)
                        refine GoalH.step (T' := T1033) (g' := (mkF m 339 #[.val (.int p1), .val (.int p2), .val (.long q3), .second, .val (.long q4), .second, .val (.long q5), .second, .val (.int (Int32.ofNat m8)), .val (.int s9), .val (.ref b10), .val (.ref b11), .val (.int (-1 : Int32))] [])) ?_ (fun t k => XS.icmpNo X1033.here hx rfl (hb hby at_336) rfl (teq (by decide)).2 k)
                        refine GoalH.step (T' := T1033) (g' := (mkF m 340 #[.val (.int p1), .val (.int p2), .val (.long q3), .second, .val (.long q4), .second, .val (.long q5), .second, .val (.int (Int32.ofNat m8)), .val (.int s9), .val (.ref b10), .val (.ref b11), .val (.int (-1 : Int32))] [(.int (1 : Int32))])) ?_ (fun t k => XS.iconst X1033.here hx rfl (hb hby at_339) k)
                        refine GoalH.step (T' := T1033) (g' := (mkF m 344 #[.val (.int p1), .val (.int p2), .val (.long q3), .second, .val (.long q4), .second, .val (.long q5), .second, .val (.int (Int32.ofNat m8)), .val (.int s9), .val (.ref b10), .val (.ref b11), .val (.int (-1 : Int32))] [(.int (1 : Int32))])) ?_ (fun t k => XS.goto X1033.here hx rfl (pc0 := 340) (pc' := 344) rfl (hb hby at_340) (by decide) (by decide) k)
                        refine GoalH.retN (t := .boolean) X1033 hS (by rw [e1033]; omega) hZ (own_EW hw) (by rw [e1033]; exact CH1001) hx hret (by simp) (hb hby at_344) ?_
                        exact ⟨⟨rfl, N1033⟩, by decide, by decide⟩
                    · obtain ⟨v1035, T1035, h1035, L1035, X1035, e1035, hQ1035, st1035⟩ := callStatic X1014 hx hZ hown (hw _ (List.mem_of_getElem? (i := 84) rfl)) (hw _ (List.mem_of_getElem? (i := 85) rfl)) (hw _ (List.mem_of_getElem? (i := 4) rfl)) (hw _ (List.mem_of_getElem? (i := 86) rfl)) (by decide) (rmIS l Z a0 hw c4 (115 : Int32) (83 : Int32) h1001 n0 (by omega) ) e1014 (W := 0) (by decide) (by decide) (by decide) (by decide) (g := (mkF m 290 #[.val (.int p1), .val (.int p2), .val (.long q3), .second, .val (.long q4), .second, .val (.long q5), .second, .val (.int (Int32.ofNat m8)), .val (.int s9), .val (.ref b10), .val (.ref b11), .val (.int (-1 : Int32))] [(.int (83 : Int32)), (.int (115 : Int32)), (.int c4)])) rfl (by rw [hml]; rfl) (argsL := [(.int c4), (.int (115 : Int32)), (.int (83 : Int32))]) (rest := []) (lenOf pd_22 rfl) rfl (by show 2 * 0 + _ ≤ _; exact Nat.le_of_eq rfl) (hb hby at_290) rfl
                      obtain ⟨rfl, M1035, q1035⟩ := hQ1035.elim (fun x => absurd x.1 hI290) (fun x => x.2)
                      rw [q1035] at e1035
                      have N1035 := Fr.app N1014 M1035
                      refine GoalH.step (T' := T1035) (g' := (mkF m 293 #[.val (.int p1), .val (.int p2), .val (.long q3), .second, .val (.long q4), .second, .val (.long q5), .second, .val (.int (Int32.ofNat m8)), .val (.int s9), .val (.ref b10), .val (.ref b11), .val (.int (-1 : Int32))] [(.int (0 : Int32))])) ?_ st1035
                      refine GoalH.step (T' := T1035) (g' := (mkF m 329 #[.val (.int p1), .val (.int p2), .val (.long q3), .second, .val (.long q4), .second, .val (.long q5), .second, .val (.int (Int32.ofNat m8)), .val (.int s9), .val (.ref b10), .val (.ref b11), .val (.int (-1 : Int32))] [])) ?_ (fun t k => XS.ifYes X1035.here hx rfl (pc0 := 293) (pc' := 329) rfl (hb hby at_293) rfl ((if0 _ _).trans (teq (by decide)).1) (by decide) (by decide) k)
                      refine GoalH.step (T' := T1035) (g' := (mkF m 331 #[.val (.int p1), .val (.int p2), .val (.long q3), .second, .val (.long q4), .second, .val (.long q5), .second, .val (.int (Int32.ofNat m8)), .val (.int s9), .val (.ref b10), .val (.ref b11), .val (.int (-1 : Int32))] [(.ref b11)])) ?_ (fun t k => XS.aload X1035.here hx rfl (hb hby at_329) rfl rfl k)
                      have f1037 : Old Z n0 h1001 := (O0.ext E1001)
                      have hP0 : ¬ (7 ≤ m8 ∧ ∀ j, j < 7 → low ((ten c0 c1 c2 c3 c4 c5 c6 c7 c8 c9) j) = sch0 j) := fun q => c1020 ((own_sg c6 47 (by decide)).mp (q.2 6 (by decide)))
                      have hP1 : ¬ (8 ≤ m8 ∧ ∀ j, j < 8 → low ((ten c0 c1 c2 c3 c4 c5 c6 c7 c8 c9) j) = sch1 j) := fun q => hI290 ((own_lw c4 115 83 (by decide) (by decide)).mp (q.2 4 (by decide)))
                      obtain ⟨v1036, T1036, h1036, L1036, X1036, e1036, hQ1036, st1036⟩ := callStatic X1035 hx hZ hown (hw _ (List.mem_of_getElem? (i := 34) rfl)) (hw _ (List.mem_of_getElem? (i := 35) rfl)) (hw _ (List.mem_of_getElem? (i := 36) rfl)) (hw _ (List.mem_of_getElem? (i := 37) rfl)) (by decide) (rmAS l Z a0 hw b11 m8 (ten c0 c1 c2 c3 c4 c5 c6 c7 c8 c9) ca u0 u1 kc cs fm h1001 n0 (by omega) SE f1037 S0 AV U0 U1 Z1001) e1035 (W := 0) (by decide) (by decide) (by decide) (by decide) (g := (mkF m 331 #[.val (.int p1), .val (.int p2), .val (.long q3), .second, .val (.long q4), .second, .val (.long q5), .second, .val (.int (Int32.ofNat m8)), .val (.int s9), .val (.ref b10), .val (.ref b11), .val (.int (-1 : Int32))] [(.ref b11)])) rfl (by rw [hml]; rfl) (argsL := [(.ref b11)]) (rest := []) (lenOf pd_21 rfl) rfl (by show 2 * 0 + _ ≤ _; exact Nat.le_of_eq rfl) (hb hby at_331) rfl
                      obtain ⟨r1036, rfl, M1036, q1036, hR1036⟩ := hQ1036
                      obtain rfl : r1036 = -1 := hR1036.elim (fun x => absurd x.1 hP0) (fun x => x.elim (fun y => absurd y.2.1 hP1) (fun y => y.2.2))
                      rw [q1036] at e1036
                      have N1036 := Fr.app N1035 M1036
                      refine GoalH.step (T' := T1036) (g' := (mkF m 334 #[.val (.int p1), .val (.int p2), .val (.long q3), .second, .val (.long q4), .second, .val (.long q5), .second, .val (.int (Int32.ofNat m8)), .val (.int s9), .val (.ref b10), .val (.ref b11), .val (.int (-1 : Int32))] [(.int (-1 : Int32))])) ?_ st1036
                      refine GoalH.step (T' := T1036) (g' := (mkF m 336 #[.val (.int p1), .val (.int p2), .val (.long q3), .second, .val (.long q4), .second, .val (.long q5), .second, .val (.int (Int32.ofNat m8)), .val (.int s9), .val (.ref b10), .val (.ref b11), .val (.int (-1 : Int32))] [(.int (-1 : Int32)), (.int (-1 : Int32))])) ?_ (fun t k => XS.iload X1036.here hx rfl (hb hby at_334) rfl k)
                      refine GoalH.step (T' := T1036) (g' := (mkF m 339 #[.val (.int p1), .val (.int p2), .val (.long q3), .second, .val (.long q4), .second, .val (.long q5), .second, .val (.int (Int32.ofNat m8)), .val (.int s9), .val (.ref b10), .val (.ref b11), .val (.int (-1 : Int32))] [])) ?_ (fun t k => XS.icmpNo X1036.here hx rfl (hb hby at_336) rfl (teq (by decide)).2 k)
                      refine GoalH.step (T' := T1036) (g' := (mkF m 340 #[.val (.int p1), .val (.int p2), .val (.long q3), .second, .val (.long q4), .second, .val (.long q5), .second, .val (.int (Int32.ofNat m8)), .val (.int s9), .val (.ref b10), .val (.ref b11), .val (.int (-1 : Int32))] [(.int (1 : Int32))])) ?_ (fun t k => XS.iconst X1036.here hx rfl (hb hby at_339) k)
                      refine GoalH.step (T' := T1036) (g' := (mkF m 344 #[.val (.int p1), .val (.int p2), .val (.long q3), .second, .val (.long q4), .second, .val (.long q5), .second, .val (.int (Int32.ofNat m8)), .val (.int s9), .val (.ref b10), .val (.ref b11), .val (.int (-1 : Int32))] [(.int (1 : Int32))])) ?_ (fun t k => XS.goto X1036.here hx rfl (pc0 := 340) (pc' := 344) rfl (hb hby at_340) (by decide) (by decide) k)
                      refine GoalH.retN (t := .boolean) X1036 hS (by rw [e1036]; omega) hZ (own_EW hw) (by rw [e1036]; exact CH1001) hx hret (by simp) (hb hby at_344) ?_
                      exact ⟨⟨rfl, N1036⟩, by decide, by decide⟩
              · refine GoalH.step (T' := T1014) (g' := (mkF m 275 #[.val (.int p1), .val (.int p2), .val (.long q3), .second, .val (.long q4), .second, .val (.long q5), .second, .val (.int (Int32.ofNat m8)), .val (.int s9), .val (.ref b10), .val (.ref b11), .val (.int (-1 : Int32))] [])) ?_ (fun t k => XS.icmpYes X1014.here hx rfl (pc0 := 255) (pc' := 275) rfl (hb hby at_255) rfl (feq c1018).2 (by decide) (by decide) k)
                refine GoalH.step (T' := T1014) (g' := (mkF m 277 #[.val (.int p1), .val (.int p2), .val (.long q3), .second, .val (.long q4), .second, .val (.long q5), .second, .val (.int (Int32.ofNat m8)), .val (.int s9), .val (.ref b10), .val (.ref b11), .val (.int (-1 : Int32))] [(.int (Int32.ofNat m8))])) ?_ (fun t k => XS.iload X1014.here hx rfl (hb hby at_275) rfl k)
                refine GoalH.step (T' := T1014) (g' := (mkF m 279 #[.val (.int p1), .val (.int p2), .val (.long q3), .second, .val (.long q4), .second, .val (.long q5), .second, .val (.int (Int32.ofNat m8)), .val (.int s9), .val (.ref b10), .val (.ref b11), .val (.int (-1 : Int32))] [(.int (8 : Int32)), (.int (Int32.ofNat m8))])) ?_ (fun t k => XS.bipush X1014.here hx rfl (hb hby at_277) k)
                by_cases c1038 : (Int32.ofNat m8) < (8 : Int32)
                · refine GoalH.step (T' := T1014) (g' := (mkF m 329 #[.val (.int p1), .val (.int p2), .val (.long q3), .second, .val (.long q4), .second, .val (.long q5), .second, .val (.int (Int32.ofNat m8)), .val (.int s9), .val (.ref b10), .val (.ref b11), .val (.int (-1 : Int32))] [])) ?_ (fun t k => XS.icmpYes X1014.here hx rfl (pc0 := 279) (pc' := 329) rfl (hb hby at_279) rfl (tlt c1038).1 (by decide) (by decide) k)
                  refine GoalH.step (T' := T1014) (g' := (mkF m 331 #[.val (.int p1), .val (.int p2), .val (.long q3), .second, .val (.long q4), .second, .val (.long q5), .second, .val (.int (Int32.ofNat m8)), .val (.int s9), .val (.ref b10), .val (.ref b11), .val (.int (-1 : Int32))] [(.ref b11)])) ?_ (fun t k => XS.aload X1014.here hx rfl (hb hby at_329) rfl rfl k)
                  have f1040 : Old Z n0 h1001 := (O0.ext E1001)
                  have hP0 : ¬ (7 ≤ m8 ∧ ∀ j, j < 7 → low ((ten c0 c1 c2 c3 c4 c5 c6 c7 c8 c9) j) = sch0 j) := fun q => c1018 ((own_sg c5 47 (by decide)).mp (q.2 5 (by decide)))
                  have hP1 : ¬ (8 ≤ m8 ∧ ∀ j, j < 8 → low ((ten c0 c1 c2 c3 c4 c5 c6 c7 c8 c9) j) = sch1 j) := fun q => absurd q.1 (by have := (nat_lt (n := 8) (by omega) (by omega)).mp c1038; omega)
                  obtain ⟨v1039, T1039, h1039, L1039, X1039, e1039, hQ1039, st1039⟩ := callStatic X1014 hx hZ hown (hw _ (List.mem_of_getElem? (i := 34) rfl)) (hw _ (List.mem_of_getElem? (i := 35) rfl)) (hw _ (List.mem_of_getElem? (i := 36) rfl)) (hw _ (List.mem_of_getElem? (i := 37) rfl)) (by decide) (rmAS l Z a0 hw b11 m8 (ten c0 c1 c2 c3 c4 c5 c6 c7 c8 c9) ca u0 u1 kc cs fm h1001 n0 (by omega) SE f1040 S0 AV U0 U1 Z1001) e1014 (W := 0) (by decide) (by decide) (by decide) (by decide) (g := (mkF m 331 #[.val (.int p1), .val (.int p2), .val (.long q3), .second, .val (.long q4), .second, .val (.long q5), .second, .val (.int (Int32.ofNat m8)), .val (.int s9), .val (.ref b10), .val (.ref b11), .val (.int (-1 : Int32))] [(.ref b11)])) rfl (by rw [hml]; rfl) (argsL := [(.ref b11)]) (rest := []) (lenOf pd_21 rfl) rfl (by show 2 * 0 + _ ≤ _; exact Nat.le_of_eq rfl) (hb hby at_331) rfl
                  obtain ⟨r1039, rfl, M1039, q1039, hR1039⟩ := hQ1039
                  obtain rfl : r1039 = -1 := hR1039.elim (fun x => absurd x.1 hP0) (fun x => x.elim (fun y => absurd y.2.1 hP1) (fun y => y.2.2))
                  rw [q1039] at e1039
                  have N1039 := Fr.app N1014 M1039
                  refine GoalH.step (T' := T1039) (g' := (mkF m 334 #[.val (.int p1), .val (.int p2), .val (.long q3), .second, .val (.long q4), .second, .val (.long q5), .second, .val (.int (Int32.ofNat m8)), .val (.int s9), .val (.ref b10), .val (.ref b11), .val (.int (-1 : Int32))] [(.int (-1 : Int32))])) ?_ st1039
                  refine GoalH.step (T' := T1039) (g' := (mkF m 336 #[.val (.int p1), .val (.int p2), .val (.long q3), .second, .val (.long q4), .second, .val (.long q5), .second, .val (.int (Int32.ofNat m8)), .val (.int s9), .val (.ref b10), .val (.ref b11), .val (.int (-1 : Int32))] [(.int (-1 : Int32)), (.int (-1 : Int32))])) ?_ (fun t k => XS.iload X1039.here hx rfl (hb hby at_334) rfl k)
                  refine GoalH.step (T' := T1039) (g' := (mkF m 339 #[.val (.int p1), .val (.int p2), .val (.long q3), .second, .val (.long q4), .second, .val (.long q5), .second, .val (.int (Int32.ofNat m8)), .val (.int s9), .val (.ref b10), .val (.ref b11), .val (.int (-1 : Int32))] [])) ?_ (fun t k => XS.icmpNo X1039.here hx rfl (hb hby at_336) rfl (teq (by decide)).2 k)
                  refine GoalH.step (T' := T1039) (g' := (mkF m 340 #[.val (.int p1), .val (.int p2), .val (.long q3), .second, .val (.long q4), .second, .val (.long q5), .second, .val (.int (Int32.ofNat m8)), .val (.int s9), .val (.ref b10), .val (.ref b11), .val (.int (-1 : Int32))] [(.int (1 : Int32))])) ?_ (fun t k => XS.iconst X1039.here hx rfl (hb hby at_339) k)
                  refine GoalH.step (T' := T1039) (g' := (mkF m 344 #[.val (.int p1), .val (.int p2), .val (.long q3), .second, .val (.long q4), .second, .val (.long q5), .second, .val (.int (Int32.ofNat m8)), .val (.int s9), .val (.ref b10), .val (.ref b11), .val (.int (-1 : Int32))] [(.int (1 : Int32))])) ?_ (fun t k => XS.goto X1039.here hx rfl (pc0 := 340) (pc' := 344) rfl (hb hby at_340) (by decide) (by decide) k)
                  refine GoalH.retN (t := .boolean) X1039 hS (by rw [e1039]; omega) hZ (own_EW hw) (by rw [e1039]; exact CH1001) hx hret (by simp) (hb hby at_344) ?_
                  exact ⟨⟨rfl, N1039⟩, by decide, by decide⟩
                · refine GoalH.step (T' := T1014) (g' := (mkF m 282 #[.val (.int p1), .val (.int p2), .val (.long q3), .second, .val (.long q4), .second, .val (.long q5), .second, .val (.int (Int32.ofNat m8)), .val (.int s9), .val (.ref b10), .val (.ref b11), .val (.int (-1 : Int32))] [])) ?_ (fun t k => XS.icmpNo X1014.here hx rfl (hb hby at_279) rfl (flt c1038).1 k)
                  refine GoalH.step (T' := T1014) (g' := (mkF m 284 #[.val (.int p1), .val (.int p2), .val (.long q3), .second, .val (.long q4), .second, .val (.long q5), .second, .val (.int (Int32.ofNat m8)), .val (.int s9), .val (.ref b10), .val (.ref b11), .val (.int (-1 : Int32))] [(.ref b10)])) ?_ (fun t k => XS.aload X1014.here hx rfl (hb hby at_282) rfl rfl k)
                  refine GoalH.step (T' := T1014) (g' := (mkF m 285 #[.val (.int p1), .val (.int p2), .val (.long q3), .second, .val (.long q4), .second, .val (.long q5), .second, .val (.int (Int32.ofNat m8)), .val (.int s9), .val (.ref b10), .val (.ref b11), .val (.int (-1 : Int32))] [(.int (Int32.ofNat 4)), (.ref b10)])) ?_ (fun t k => XS.iconst X1014.here hx rfl (hb hby at_284) k)
                  obtain ⟨cl1041, Ar1041, q1041, S1041, H1041⟩ := (id f1007)
                  have hlt1041 : 4 < 10 := by omega
                  have hn1041 : 10 < 2 ^ 31 := by omega
                  have hin1041 : ¬ ((Int32.ofNat 4) < 0 ∨ cl1041.slots.size ≤ ((Int32.ofNat 4)).toNatClampNeg) := nat_inb S1041 hlt1041 hn1041
                  have hat1041 : cl1041.slots[((Int32.ofNat 4)).toNatClampNeg]? = some (.int c4) := by rw [nat_clamp (show 4 < 2 ^ 31 by omega)]; exact H1041 _ hlt1041
                  refine GoalH.step (T' := T1014) (g' := (mkF m 286 #[.val (.int p1), .val (.int p2), .val (.long q3), .second, .val (.long q4), .second, .val (.long q5), .second, .val (.int (Int32.ofNat m8)), .val (.int s9), .val (.ref b10), .val (.ref b11), .val (.int (-1 : Int32))] [(.int c4)])) ?_ (fun t k => X1014.caload hx (j := (Int32.ofNat 4)) (v := (.int c4)) (by rw [e1014]; exact Ar1041.1) (State.isArrayOf_alike hZ.alike Ar1041.2.1) Ar1041.2.2 hin1041 hat1041 (g := (mkF m 285 #[.val (.int p1), .val (.int p2), .val (.long q3), .second, .val (.long q4), .second, .val (.long q5), .second, .val (.int (Int32.ofNat m8)), .val (.int s9), .val (.ref b10), .val (.ref b11), .val (.int (-1 : Int32))] [(.int (Int32.ofNat 4)), (.ref b10)])) rfl rfl (hb hby at_285) _ k)
                  refine GoalH.step (T' := T1014) (g' := (mkF m 288 #[.val (.int p1), .val (.int p2), .val (.long q3), .second, .val (.long q4), .second, .val (.long q5), .second, .val (.int (Int32.ofNat m8)), .val (.int s9), .val (.ref b10), .val (.ref b11), .val (.int (-1 : Int32))] [(.int (115 : Int32)), (.int c4)])) ?_ (fun t k => XS.bipush X1014.here hx rfl (hb hby at_286) k)
                  refine GoalH.step (T' := T1014) (g' := (mkF m 290 #[.val (.int p1), .val (.int p2), .val (.long q3), .second, .val (.long q4), .second, .val (.long q5), .second, .val (.int (Int32.ofNat m8)), .val (.int s9), .val (.ref b10), .val (.ref b11), .val (.int (-1 : Int32))] [(.int (83 : Int32)), (.int (115 : Int32)), (.int c4)])) ?_ (fun t k => XS.bipush X1014.here hx rfl (hb hby at_288) k)
                  by_cases hI290 : (c4 = (115 : Int32) ∨ c4 = (83 : Int32))
                  · obtain ⟨v1042, T1042, h1042, L1042, X1042, e1042, hQ1042, st1042⟩ := callStatic X1014 hx hZ hown (hw _ (List.mem_of_getElem? (i := 84) rfl)) (hw _ (List.mem_of_getElem? (i := 85) rfl)) (hw _ (List.mem_of_getElem? (i := 4) rfl)) (hw _ (List.mem_of_getElem? (i := 86) rfl)) (by decide) (rmIS l Z a0 hw c4 (115 : Int32) (83 : Int32) h1001 n0 (by omega) ) e1014 (W := 0) (by decide) (by decide) (by decide) (by decide) (g := (mkF m 290 #[.val (.int p1), .val (.int p2), .val (.long q3), .second, .val (.long q4), .second, .val (.long q5), .second, .val (.int (Int32.ofNat m8)), .val (.int s9), .val (.ref b10), .val (.ref b11), .val (.int (-1 : Int32))] [(.int (83 : Int32)), (.int (115 : Int32)), (.int c4)])) rfl (by rw [hml]; rfl) (argsL := [(.int c4), (.int (115 : Int32)), (.int (83 : Int32))]) (rest := []) (lenOf pd_22 rfl) rfl (by show 2 * 0 + _ ≤ _; exact Nat.le_of_eq rfl) (hb hby at_290) rfl
                    obtain ⟨rfl, M1042, q1042⟩ := hQ1042.elim (fun x => x.2) (fun x => absurd x.1 (fun z => z hI290))
                    rw [q1042] at e1042
                    have N1042 := Fr.app N1014 M1042
                    refine GoalH.step (T' := T1042) (g' := (mkF m 293 #[.val (.int p1), .val (.int p2), .val (.long q3), .second, .val (.long q4), .second, .val (.long q5), .second, .val (.int (Int32.ofNat m8)), .val (.int s9), .val (.ref b10), .val (.ref b11), .val (.int (-1 : Int32))] [(.int (1 : Int32))])) ?_ st1042
                    refine GoalH.step (T' := T1042) (g' := (mkF m 296 #[.val (.int p1), .val (.int p2), .val (.long q3), .second, .val (.long q4), .second, .val (.long q5), .second, .val (.int (Int32.ofNat m8)), .val (.int s9), .val (.ref b10), .val (.ref b11), .val (.int (-1 : Int32))] [])) ?_ (fun t k => XS.ifNo X1042.here hx rfl (hb hby at_293) rfl ((if0 _ _).trans (feq (by decide)).1) k)
                    refine GoalH.step (T' := T1042) (g' := (mkF m 298 #[.val (.int p1), .val (.int p2), .val (.long q3), .second, .val (.long q4), .second, .val (.long q5), .second, .val (.int (Int32.ofNat m8)), .val (.int s9), .val (.ref b10), .val (.ref b11), .val (.int (-1 : Int32))] [(.ref b10)])) ?_ (fun t k => XS.aload X1042.here hx rfl (hb hby at_296) rfl rfl k)
                    refine GoalH.step (T' := T1042) (g' := (mkF m 299 #[.val (.int p1), .val (.int p2), .val (.long q3), .second, .val (.long q4), .second, .val (.long q5), .second, .val (.int (Int32.ofNat m8)), .val (.int s9), .val (.ref b10), .val (.ref b11), .val (.int (-1 : Int32))] [(.int (Int32.ofNat 5)), (.ref b10)])) ?_ (fun t k => XS.iconst X1042.here hx rfl (hb hby at_298) k)
                    obtain ⟨cl1043, Ar1043, q1043, S1043, H1043⟩ := (id f1007)
                    have hlt1043 : 5 < 10 := by omega
                    have hn1043 : 10 < 2 ^ 31 := by omega
                    have hin1043 : ¬ ((Int32.ofNat 5) < 0 ∨ cl1043.slots.size ≤ ((Int32.ofNat 5)).toNatClampNeg) := nat_inb S1043 hlt1043 hn1043
                    have hat1043 : cl1043.slots[((Int32.ofNat 5)).toNatClampNeg]? = some (.int c5) := by rw [nat_clamp (show 5 < 2 ^ 31 by omega)]; exact H1043 _ hlt1043
                    refine GoalH.step (T' := T1042) (g' := (mkF m 300 #[.val (.int p1), .val (.int p2), .val (.long q3), .second, .val (.long q4), .second, .val (.long q5), .second, .val (.int (Int32.ofNat m8)), .val (.int s9), .val (.ref b10), .val (.ref b11), .val (.int (-1 : Int32))] [(.int c5)])) ?_ (fun t k => X1042.caload hx (j := (Int32.ofNat 5)) (v := (.int c5)) (by rw [e1042]; exact Ar1043.1) (State.isArrayOf_alike hZ.alike Ar1043.2.1) Ar1043.2.2 hin1043 hat1043 (g := (mkF m 299 #[.val (.int p1), .val (.int p2), .val (.long q3), .second, .val (.long q4), .second, .val (.long q5), .second, .val (.int (Int32.ofNat m8)), .val (.int s9), .val (.ref b10), .val (.ref b11), .val (.int (-1 : Int32))] [(.int (Int32.ofNat 5)), (.ref b10)])) rfl rfl (hb hby at_299) _ k)
                    refine GoalH.step (T' := T1042) (g' := (mkF m 302 #[.val (.int p1), .val (.int p2), .val (.long q3), .second, .val (.long q4), .second, .val (.long q5), .second, .val (.int (Int32.ofNat m8)), .val (.int s9), .val (.ref b10), .val (.ref b11), .val (.int (-1 : Int32))] [(.int (58 : Int32)), (.int c5)])) ?_ (fun t k => XS.bipush X1042.here hx rfl (hb hby at_300) k)
                    by_cases c1044 : c5 = (58 : Int32)
                    · refine GoalH.step (T' := T1042) (g' := (mkF m 305 #[.val (.int p1), .val (.int p2), .val (.long q3), .second, .val (.long q4), .second, .val (.long q5), .second, .val (.int (Int32.ofNat m8)), .val (.int s9), .val (.ref b10), .val (.ref b11), .val (.int (-1 : Int32))] [])) ?_ (fun t k => XS.icmpNo X1042.here hx rfl (hb hby at_302) rfl (teq c1044).2 k)
                      refine GoalH.step (T' := T1042) (g' := (mkF m 307 #[.val (.int p1), .val (.int p2), .val (.long q3), .second, .val (.long q4), .second, .val (.long q5), .second, .val (.int (Int32.ofNat m8)), .val (.int s9), .val (.ref b10), .val (.ref b11), .val (.int (-1 : Int32))] [(.ref b10)])) ?_ (fun t k => XS.aload X1042.here hx rfl (hb hby at_305) rfl rfl k)
                      refine GoalH.step (T' := T1042) (g' := (mkF m 309 #[.val (.int p1), .val (.int p2), .val (.long q3), .second, .val (.long q4), .second, .val (.long q5), .second, .val (.int (Int32.ofNat m8)), .val (.int s9), .val (.ref b10), .val (.ref b11), .val (.int (-1 : Int32))] [(.int (Int32.ofNat 6)), (.ref b10)])) ?_ (fun t k => XS.bipush X1042.here hx rfl (hb hby at_307) k)
                      obtain ⟨cl1045, Ar1045, q1045, S1045, H1045⟩ := (id f1007)
                      have hlt1045 : 6 < 10 := by omega
                      have hn1045 : 10 < 2 ^ 31 := by omega
                      have hin1045 : ¬ ((Int32.ofNat 6) < 0 ∨ cl1045.slots.size ≤ ((Int32.ofNat 6)).toNatClampNeg) := nat_inb S1045 hlt1045 hn1045
                      have hat1045 : cl1045.slots[((Int32.ofNat 6)).toNatClampNeg]? = some (.int c6) := by rw [nat_clamp (show 6 < 2 ^ 31 by omega)]; exact H1045 _ hlt1045
                      refine GoalH.step (T' := T1042) (g' := (mkF m 310 #[.val (.int p1), .val (.int p2), .val (.long q3), .second, .val (.long q4), .second, .val (.long q5), .second, .val (.int (Int32.ofNat m8)), .val (.int s9), .val (.ref b10), .val (.ref b11), .val (.int (-1 : Int32))] [(.int c6)])) ?_ (fun t k => X1042.caload hx (j := (Int32.ofNat 6)) (v := (.int c6)) (by rw [e1042]; exact Ar1045.1) (State.isArrayOf_alike hZ.alike Ar1045.2.1) Ar1045.2.2 hin1045 hat1045 (g := (mkF m 309 #[.val (.int p1), .val (.int p2), .val (.long q3), .second, .val (.long q4), .second, .val (.long q5), .second, .val (.int (Int32.ofNat m8)), .val (.int s9), .val (.ref b10), .val (.ref b11), .val (.int (-1 : Int32))] [(.int (Int32.ofNat 6)), (.ref b10)])) rfl rfl (hb hby at_309) _ k)
                      refine GoalH.step (T' := T1042) (g' := (mkF m 312 #[.val (.int p1), .val (.int p2), .val (.long q3), .second, .val (.long q4), .second, .val (.long q5), .second, .val (.int (Int32.ofNat m8)), .val (.int s9), .val (.ref b10), .val (.ref b11), .val (.int (-1 : Int32))] [(.int (47 : Int32)), (.int c6)])) ?_ (fun t k => XS.bipush X1042.here hx rfl (hb hby at_310) k)
                      by_cases c1046 : c6 = (47 : Int32)
                      · refine GoalH.step (T' := T1042) (g' := (mkF m 315 #[.val (.int p1), .val (.int p2), .val (.long q3), .second, .val (.long q4), .second, .val (.long q5), .second, .val (.int (Int32.ofNat m8)), .val (.int s9), .val (.ref b10), .val (.ref b11), .val (.int (-1 : Int32))] [])) ?_ (fun t k => XS.icmpNo X1042.here hx rfl (hb hby at_312) rfl (teq c1046).2 k)
                        refine GoalH.step (T' := T1042) (g' := (mkF m 317 #[.val (.int p1), .val (.int p2), .val (.long q3), .second, .val (.long q4), .second, .val (.long q5), .second, .val (.int (Int32.ofNat m8)), .val (.int s9), .val (.ref b10), .val (.ref b11), .val (.int (-1 : Int32))] [(.ref b10)])) ?_ (fun t k => XS.aload X1042.here hx rfl (hb hby at_315) rfl rfl k)
                        refine GoalH.step (T' := T1042) (g' := (mkF m 319 #[.val (.int p1), .val (.int p2), .val (.long q3), .second, .val (.long q4), .second, .val (.long q5), .second, .val (.int (Int32.ofNat m8)), .val (.int s9), .val (.ref b10), .val (.ref b11), .val (.int (-1 : Int32))] [(.int (Int32.ofNat 7)), (.ref b10)])) ?_ (fun t k => XS.bipush X1042.here hx rfl (hb hby at_317) k)
                        obtain ⟨cl1047, Ar1047, q1047, S1047, H1047⟩ := (id f1007)
                        have hlt1047 : 7 < 10 := by omega
                        have hn1047 : 10 < 2 ^ 31 := by omega
                        have hin1047 : ¬ ((Int32.ofNat 7) < 0 ∨ cl1047.slots.size ≤ ((Int32.ofNat 7)).toNatClampNeg) := nat_inb S1047 hlt1047 hn1047
                        have hat1047 : cl1047.slots[((Int32.ofNat 7)).toNatClampNeg]? = some (.int c7) := by rw [nat_clamp (show 7 < 2 ^ 31 by omega)]; exact H1047 _ hlt1047
                        refine GoalH.step (T' := T1042) (g' := (mkF m 320 #[.val (.int p1), .val (.int p2), .val (.long q3), .second, .val (.long q4), .second, .val (.long q5), .second, .val (.int (Int32.ofNat m8)), .val (.int s9), .val (.ref b10), .val (.ref b11), .val (.int (-1 : Int32))] [(.int c7)])) ?_ (fun t k => X1042.caload hx (j := (Int32.ofNat 7)) (v := (.int c7)) (by rw [e1042]; exact Ar1047.1) (State.isArrayOf_alike hZ.alike Ar1047.2.1) Ar1047.2.2 hin1047 hat1047 (g := (mkF m 319 #[.val (.int p1), .val (.int p2), .val (.long q3), .second, .val (.long q4), .second, .val (.long q5), .second, .val (.int (Int32.ofNat m8)), .val (.int s9), .val (.ref b10), .val (.ref b11), .val (.int (-1 : Int32))] [(.int (Int32.ofNat 7)), (.ref b10)])) rfl rfl (hb hby at_319) _ k)
                        refine GoalH.step (T' := T1042) (g' := (mkF m 322 #[.val (.int p1), .val (.int p2), .val (.long q3), .second, .val (.long q4), .second, .val (.long q5), .second, .val (.int (Int32.ofNat m8)), .val (.int s9), .val (.ref b10), .val (.ref b11), .val (.int (-1 : Int32))] [(.int (47 : Int32)), (.int c7)])) ?_ (fun t k => XS.bipush X1042.here hx rfl (hb hby at_320) k)
                        by_cases c1048 : c7 = (47 : Int32)
                        · refine GoalH.step (T' := T1042) (g' := (mkF m 325 #[.val (.int p1), .val (.int p2), .val (.long q3), .second, .val (.long q4), .second, .val (.long q5), .second, .val (.int (Int32.ofNat m8)), .val (.int s9), .val (.ref b10), .val (.ref b11), .val (.int (-1 : Int32))] [])) ?_ (fun t k => XS.icmpNo X1042.here hx rfl (hb hby at_322) rfl (teq c1048).2 k)
                          refine GoalH.step (T' := T1042) (g' := (mkF m 327 #[.val (.int p1), .val (.int p2), .val (.long q3), .second, .val (.long q4), .second, .val (.long q5), .second, .val (.int (Int32.ofNat m8)), .val (.int s9), .val (.ref b10), .val (.ref b11), .val (.int (-1 : Int32))] [(.int (8 : Int32))])) ?_ (fun t k => XS.bipush X1042.here hx rfl (hb hby at_325) k)
                          refine GoalH.step (T' := T1042) (g' := (mkF m 329 #[.val (.int p1), .val (.int p2), .val (.long q3), .second, .val (.long q4), .second, .val (.long q5), .second, .val (.int (Int32.ofNat m8)), .val (.int s9), .val (.ref b10), .val (.ref b11), .val (.int (8 : Int32))] [])) ?_ (fun t k => XS.istore X1042.here hx rfl (hb hby at_327) rfl (l' := #[.val (.int p1), .val (.int p2), .val (.long q3), .second, .val (.long q4), .second, .val (.long q5), .second, .val (.int (Int32.ofNat m8)), .val (.int s9), .val (.ref b10), .val (.ref b11), .val (.int (8 : Int32))]) rfl k)
                          refine GoalH.step (T' := T1042) (g' := (mkF m 331 #[.val (.int p1), .val (.int p2), .val (.long q3), .second, .val (.long q4), .second, .val (.long q5), .second, .val (.int (Int32.ofNat m8)), .val (.int s9), .val (.ref b10), .val (.ref b11), .val (.int (8 : Int32))] [(.ref b11)])) ?_ (fun t k => XS.aload X1042.here hx rfl (hb hby at_329) rfl rfl k)
                          have f1050 : Old Z n0 h1001 := (O0.ext E1001)
                          have hP0 : ¬ (7 ≤ m8 ∧ ∀ j, j < 7 → low ((ten c0 c1 c2 c3 c4 c5 c6 c7 c8 c9) j) = sch0 j) := fun q => c1018 ((own_sg c5 47 (by decide)).mp (q.2 5 (by decide)))
                          have hP1 : (8 ≤ m8 ∧ ∀ j, j < 8 → low ((ten c0 c1 c2 c3 c4 c5 c6 c7 c8 c9) j) = sch1 j) := ⟨Nat.le_of_not_lt (fun q => c1038 ((nat_lt (n := 8) (by omega) (by omega)).mpr q)), (own_step (P := fun j => low ((ten c0 c1 c2 c3 c4 c5 c6 c7 c8 c9) j) = sch1 j) (i := 7) (own_step (P := fun j => low ((ten c0 c1 c2 c3 c4 c5 c6 c7 c8 c9) j) = sch1 j) (i := 6) (own_step (P := fun j => low ((ten c0 c1 c2 c3 c4 c5 c6 c7 c8 c9) j) = sch1 j) (i := 5) (own_step (P := fun j => low ((ten c0 c1 c2 c3 c4 c5 c6 c7 c8 c9) j) = sch1 j) (i := 4) (own_step (P := fun j => low ((ten c0 c1 c2 c3 c4 c5 c6 c7 c8 c9) j) = sch1 j) (i := 3) (own_step (P := fun j => low ((ten c0 c1 c2 c3 c4 c5 c6 c7 c8 c9) j) = sch1 j) (i := 2) (own_step (P := fun j => low ((ten c0 c1 c2 c3 c4 c5 c6 c7 c8 c9) j) = sch1 j) (i := 1) (own_step (P := fun j => low ((ten c0 c1 c2 c3 c4 c5 c6 c7 c8 c9) j) = sch1 j) (i := 0) (fun j hj => absurd hj (Nat.not_lt_zero _)) ((own_lw c0 104 72 (by decide) (by decide)).mpr hI192)) ((own_lw c1 116 84 (by decide) (by decide)).mpr hI206)) ((own_lw c2 116 84 (by decide) (by decide)).mpr hI220)) ((own_lw c3 112 80 (by decide) (by decide)).mpr hI234)) ((own_lw c4 115 83 (by decide) (by decide)).mpr hI290)) ((own_sg c5 58 (by decide)).mpr c1044)) ((own_sg c6 47 (by decide)).mpr c1046)) ((own_sg c7 47 (by decide)).mpr c1048))⟩
                          obtain ⟨v1049, T1049, h1049, L1049, X1049, e1049, hQ1049, st1049⟩ := callStatic X1042 hx hZ hown (hw _ (List.mem_of_getElem? (i := 34) rfl)) (hw _ (List.mem_of_getElem? (i := 35) rfl)) (hw _ (List.mem_of_getElem? (i := 36) rfl)) (hw _ (List.mem_of_getElem? (i := 37) rfl)) (by decide) (rmAS l Z a0 hw b11 m8 (ten c0 c1 c2 c3 c4 c5 c6 c7 c8 c9) ca u0 u1 kc cs fm h1001 n0 (by omega) SE f1050 S0 AV U0 U1 Z1001) e1042 (W := 0) (by decide) (by decide) (by decide) (by decide) (g := (mkF m 331 #[.val (.int p1), .val (.int p2), .val (.long q3), .second, .val (.long q4), .second, .val (.long q5), .second, .val (.int (Int32.ofNat m8)), .val (.int s9), .val (.ref b10), .val (.ref b11), .val (.int (8 : Int32))] [(.ref b11)])) rfl (by rw [hml]; rfl) (argsL := [(.ref b11)]) (rest := []) (lenOf pd_21 rfl) rfl (by show 2 * 0 + _ ≤ _; exact Nat.le_of_eq rfl) (hb hby at_331) rfl
                          obtain ⟨r1049, rfl, M1049, q1049, hR1049⟩ := hQ1049
                          obtain rfl : r1049 = 8 := hR1049.elim (fun x => absurd x.1 hP0) (fun x => x.elim (fun y => y.2.2) (fun y => absurd hP1 y.2.1))
                          rw [q1049] at e1049
                          have N1049 := Fr.app N1042 M1049
                          refine GoalH.step (T' := T1049) (g' := (mkF m 334 #[.val (.int p1), .val (.int p2), .val (.long q3), .second, .val (.long q4), .second, .val (.long q5), .second, .val (.int (Int32.ofNat m8)), .val (.int s9), .val (.ref b10), .val (.ref b11), .val (.int (8 : Int32))] [(.int (8 : Int32))])) ?_ st1049
                          refine GoalH.step (T' := T1049) (g' := (mkF m 336 #[.val (.int p1), .val (.int p2), .val (.long q3), .second, .val (.long q4), .second, .val (.long q5), .second, .val (.int (Int32.ofNat m8)), .val (.int s9), .val (.ref b10), .val (.ref b11), .val (.int (8 : Int32))] [(.int (8 : Int32)), (.int (8 : Int32))])) ?_ (fun t k => XS.iload X1049.here hx rfl (hb hby at_334) rfl k)
                          refine GoalH.step (T' := T1049) (g' := (mkF m 339 #[.val (.int p1), .val (.int p2), .val (.long q3), .second, .val (.long q4), .second, .val (.long q5), .second, .val (.int (Int32.ofNat m8)), .val (.int s9), .val (.ref b10), .val (.ref b11), .val (.int (8 : Int32))] [])) ?_ (fun t k => XS.icmpNo X1049.here hx rfl (hb hby at_336) rfl (teq (by decide)).2 k)
                          refine GoalH.step (T' := T1049) (g' := (mkF m 340 #[.val (.int p1), .val (.int p2), .val (.long q3), .second, .val (.long q4), .second, .val (.long q5), .second, .val (.int (Int32.ofNat m8)), .val (.int s9), .val (.ref b10), .val (.ref b11), .val (.int (8 : Int32))] [(.int (1 : Int32))])) ?_ (fun t k => XS.iconst X1049.here hx rfl (hb hby at_339) k)
                          refine GoalH.step (T' := T1049) (g' := (mkF m 344 #[.val (.int p1), .val (.int p2), .val (.long q3), .second, .val (.long q4), .second, .val (.long q5), .second, .val (.int (Int32.ofNat m8)), .val (.int s9), .val (.ref b10), .val (.ref b11), .val (.int (8 : Int32))] [(.int (1 : Int32))])) ?_ (fun t k => XS.goto X1049.here hx rfl (pc0 := 340) (pc' := 344) rfl (hb hby at_340) (by decide) (by decide) k)
                          refine GoalH.retN (t := .boolean) X1049 hS (by rw [e1049]; omega) hZ (own_EW hw) (by rw [e1049]; exact CH1001) hx hret (by simp) (hb hby at_344) ?_
                          exact ⟨⟨rfl, N1049⟩, by decide, by decide⟩
                        · refine GoalH.step (T' := T1042) (g' := (mkF m 329 #[.val (.int p1), .val (.int p2), .val (.long q3), .second, .val (.long q4), .second, .val (.long q5), .second, .val (.int (Int32.ofNat m8)), .val (.int s9), .val (.ref b10), .val (.ref b11), .val (.int (-1 : Int32))] [])) ?_ (fun t k => XS.icmpYes X1042.here hx rfl (pc0 := 322) (pc' := 329) rfl (hb hby at_322) rfl (feq c1048).2 (by decide) (by decide) k)
                          refine GoalH.step (T' := T1042) (g' := (mkF m 331 #[.val (.int p1), .val (.int p2), .val (.long q3), .second, .val (.long q4), .second, .val (.long q5), .second, .val (.int (Int32.ofNat m8)), .val (.int s9), .val (.ref b10), .val (.ref b11), .val (.int (-1 : Int32))] [(.ref b11)])) ?_ (fun t k => XS.aload X1042.here hx rfl (hb hby at_329) rfl rfl k)
                          have f1052 : Old Z n0 h1001 := (O0.ext E1001)
                          have hP0 : ¬ (7 ≤ m8 ∧ ∀ j, j < 7 → low ((ten c0 c1 c2 c3 c4 c5 c6 c7 c8 c9) j) = sch0 j) := fun q => c1018 ((own_sg c5 47 (by decide)).mp (q.2 5 (by decide)))
                          have hP1 : ¬ (8 ≤ m8 ∧ ∀ j, j < 8 → low ((ten c0 c1 c2 c3 c4 c5 c6 c7 c8 c9) j) = sch1 j) := fun q => c1048 ((own_sg c7 47 (by decide)).mp (q.2 7 (by decide)))
                          obtain ⟨v1051, T1051, h1051, L1051, X1051, e1051, hQ1051, st1051⟩ := callStatic X1042 hx hZ hown (hw _ (List.mem_of_getElem? (i := 34) rfl)) (hw _ (List.mem_of_getElem? (i := 35) rfl)) (hw _ (List.mem_of_getElem? (i := 36) rfl)) (hw _ (List.mem_of_getElem? (i := 37) rfl)) (by decide) (rmAS l Z a0 hw b11 m8 (ten c0 c1 c2 c3 c4 c5 c6 c7 c8 c9) ca u0 u1 kc cs fm h1001 n0 (by omega) SE f1052 S0 AV U0 U1 Z1001) e1042 (W := 0) (by decide) (by decide) (by decide) (by decide) (g := (mkF m 331 #[.val (.int p1), .val (.int p2), .val (.long q3), .second, .val (.long q4), .second, .val (.long q5), .second, .val (.int (Int32.ofNat m8)), .val (.int s9), .val (.ref b10), .val (.ref b11), .val (.int (-1 : Int32))] [(.ref b11)])) rfl (by rw [hml]; rfl) (argsL := [(.ref b11)]) (rest := []) (lenOf pd_21 rfl) rfl (by show 2 * 0 + _ ≤ _; exact Nat.le_of_eq rfl) (hb hby at_331) rfl
                          obtain ⟨r1051, rfl, M1051, q1051, hR1051⟩ := hQ1051
                          obtain rfl : r1051 = -1 := hR1051.elim (fun x => absurd x.1 hP0) (fun x => x.elim (fun y => absurd y.2.1 hP1) (fun y => y.2.2))
                          rw [q1051] at e1051
                          have N1051 := Fr.app N1042 M1051
                          refine GoalH.step (T' := T1051) (g' := (mkF m 334 #[.val (.int p1), .val (.int p2), .val (.long q3), .second, .val (.long q4), .second, .val (.long q5), .second, .val (.int (Int32.ofNat m8)), .val (.int s9), .val (.ref b10), .val (.ref b11), .val (.int (-1 : Int32))] [(.int (-1 : Int32))])) ?_ st1051
                          refine GoalH.step (T' := T1051) (g' := (mkF m 336 #[.val (.int p1), .val (.int p2), .val (.long q3), .second, .val (.long q4), .second, .val (.long q5), .second, .val (.int (Int32.ofNat m8)), .val (.int s9), .val (.ref b10), .val (.ref b11), .val (.int (-1 : Int32))] [(.int (-1 : Int32)), (.int (-1 : Int32))])) ?_ (fun t k => XS.iload X1051.here hx rfl (hb hby at_334) rfl k)
                          refine GoalH.step (T' := T1051) (g' := (mkF m 339 #[.val (.int p1), .val (.int p2), .val (.long q3), .second, .val (.long q4), .second, .val (.long q5), .second, .val (.int (Int32.ofNat m8)), .val (.int s9), .val (.ref b10), .val (.ref b11), .val (.int (-1 : Int32))] [])) ?_ (fun t k => XS.icmpNo X1051.here hx rfl (hb hby at_336) rfl (teq (by decide)).2 k)
                          refine GoalH.step (T' := T1051) (g' := (mkF m 340 #[.val (.int p1), .val (.int p2), .val (.long q3), .second, .val (.long q4), .second, .val (.long q5), .second, .val (.int (Int32.ofNat m8)), .val (.int s9), .val (.ref b10), .val (.ref b11), .val (.int (-1 : Int32))] [(.int (1 : Int32))])) ?_ (fun t k => XS.iconst X1051.here hx rfl (hb hby at_339) k)
                          refine GoalH.step (T' := T1051) (g' := (mkF m 344 #[.val (.int p1), .val (.int p2), .val (.long q3), .second, .val (.long q4), .second, .val (.long q5), .second, .val (.int (Int32.ofNat m8)), .val (.int s9), .val (.ref b10), .val (.ref b11), .val (.int (-1 : Int32))] [(.int (1 : Int32))])) ?_ (fun t k => XS.goto X1051.here hx rfl (pc0 := 340) (pc' := 344) rfl (hb hby at_340) (by decide) (by decide) k)
                          refine GoalH.retN (t := .boolean) X1051 hS (by rw [e1051]; omega) hZ (own_EW hw) (by rw [e1051]; exact CH1001) hx hret (by simp) (hb hby at_344) ?_
                          exact ⟨⟨rfl, N1051⟩, by decide, by decide⟩
                      · refine GoalH.step (T' := T1042) (g' := (mkF m 329 #[.val (.int p1), .val (.int p2), .val (.long q3), .second, .val (.long q4), .second, .val (.long q5), .second, .val (.int (Int32.ofNat m8)), .val (.int s9), .val (.ref b10), .val (.ref b11), .val (.int (-1 : Int32))] [])) ?_ (fun t k => XS.icmpYes X1042.here hx rfl (pc0 := 312) (pc' := 329) rfl (hb hby at_312) rfl (feq c1046).2 (by decide) (by decide) k)
                        refine GoalH.step (T' := T1042) (g' := (mkF m 331 #[.val (.int p1), .val (.int p2), .val (.long q3), .second, .val (.long q4), .second, .val (.long q5), .second, .val (.int (Int32.ofNat m8)), .val (.int s9), .val (.ref b10), .val (.ref b11), .val (.int (-1 : Int32))] [(.ref b11)])) ?_ (fun t k => XS.aload X1042.here hx rfl (hb hby at_329) rfl rfl k)
                        have f1054 : Old Z n0 h1001 := (O0.ext E1001)
                        have hP0 : ¬ (7 ≤ m8 ∧ ∀ j, j < 7 → low ((ten c0 c1 c2 c3 c4 c5 c6 c7 c8 c9) j) = sch0 j) := fun q => c1018 ((own_sg c5 47 (by decide)).mp (q.2 5 (by decide)))
                        have hP1 : ¬ (8 ≤ m8 ∧ ∀ j, j < 8 → low ((ten c0 c1 c2 c3 c4 c5 c6 c7 c8 c9) j) = sch1 j) := fun q => c1046 ((own_sg c6 47 (by decide)).mp (q.2 6 (by decide)))
                        obtain ⟨v1053, T1053, h1053, L1053, X1053, e1053, hQ1053, st1053⟩ := callStatic X1042 hx hZ hown (hw _ (List.mem_of_getElem? (i := 34) rfl)) (hw _ (List.mem_of_getElem? (i := 35) rfl)) (hw _ (List.mem_of_getElem? (i := 36) rfl)) (hw _ (List.mem_of_getElem? (i := 37) rfl)) (by decide) (rmAS l Z a0 hw b11 m8 (ten c0 c1 c2 c3 c4 c5 c6 c7 c8 c9) ca u0 u1 kc cs fm h1001 n0 (by omega) SE f1054 S0 AV U0 U1 Z1001) e1042 (W := 0) (by decide) (by decide) (by decide) (by decide) (g := (mkF m 331 #[.val (.int p1), .val (.int p2), .val (.long q3), .second, .val (.long q4), .second, .val (.long q5), .second, .val (.int (Int32.ofNat m8)), .val (.int s9), .val (.ref b10), .val (.ref b11), .val (.int (-1 : Int32))] [(.ref b11)])) rfl (by rw [hml]; rfl) (argsL := [(.ref b11)]) (rest := []) (lenOf pd_21 rfl) rfl (by show 2 * 0 + _ ≤ _; exact Nat.le_of_eq rfl) (hb hby at_331) rfl
                        obtain ⟨r1053, rfl, M1053, q1053, hR1053⟩ := hQ1053
                        obtain rfl : r1053 = -1 := hR1053.elim (fun x => absurd x.1 hP0) (fun x => x.elim (fun y => absurd y.2.1 hP1) (fun y => y.2.2))
                        rw [q1053] at e1053
                        have N1053 := Fr.app N1042 M1053
                        refine GoalH.step (T' := T1053) (g' := (mkF m 334 #[.val (.int p1), .val (.int p2), .val (.long q3), .second, .val (.long q4), .second, .val (.long q5), .second, .val (.int (Int32.ofNat m8)), .val (.int s9), .val (.ref b10), .val (.ref b11), .val (.int (-1 : Int32))] [(.int (-1 : Int32))])) ?_ st1053
                        refine GoalH.step (T' := T1053) (g' := (mkF m 336 #[.val (.int p1), .val (.int p2), .val (.long q3), .second, .val (.long q4), .second, .val (.long q5), .second, .val (.int (Int32.ofNat m8)), .val (.int s9), .val (.ref b10), .val (.ref b11), .val (.int (-1 : Int32))] [(.int (-1 : Int32)), (.int (-1 : Int32))])) ?_ (fun t k => XS.iload X1053.here hx rfl (hb hby at_334) rfl k)
                        refine GoalH.step (T' := T1053) (g' := (mkF m 339 #[.val (.int p1), .val (.int p2), .val (.long q3), .second, .val (.long q4), .second, .val (.long q5), .second, .val (.int (Int32.ofNat m8)), .val (.int s9), .val (.ref b10), .val (.ref b11), .val (.int (-1 : Int32))] [])) ?_ (fun t k => XS.icmpNo X1053.here hx rfl (hb hby at_336) rfl (teq (by decide)).2 k)
                        refine GoalH.step (T' := T1053) (g' := (mkF m 340 #[.val (.int p1), .val (.int p2), .val (.long q3), .second, .val (.long q4), .second, .val (.long q5), .second, .val (.int (Int32.ofNat m8)), .val (.int s9), .val (.ref b10), .val (.ref b11), .val (.int (-1 : Int32))] [(.int (1 : Int32))])) ?_ (fun t k => XS.iconst X1053.here hx rfl (hb hby at_339) k)
                        refine GoalH.step (T' := T1053) (g' := (mkF m 344 #[.val (.int p1), .val (.int p2), .val (.long q3), .second, .val (.long q4), .second, .val (.long q5), .second, .val (.int (Int32.ofNat m8)), .val (.int s9), .val (.ref b10), .val (.ref b11), .val (.int (-1 : Int32))] [(.int (1 : Int32))])) ?_ (fun t k => XS.goto X1053.here hx rfl (pc0 := 340) (pc' := 344) rfl (hb hby at_340) (by decide) (by decide) k)
                        refine GoalH.retN (t := .boolean) X1053 hS (by rw [e1053]; omega) hZ (own_EW hw) (by rw [e1053]; exact CH1001) hx hret (by simp) (hb hby at_344) ?_
                        exact ⟨⟨rfl, N1053⟩, by decide, by decide⟩
                    · refine GoalH.step (T' := T1042) (g' := (mkF m 329 #[.val (.int p1), .val (.int p2), .val (.long q3), .second, .val (.long q4), .second, .val (.long q5), .second, .val (.int (Int32.ofNat m8)), .val (.int s9), .val (.ref b10), .val (.ref b11), .val (.int (-1 : Int32))] [])) ?_ (fun t k => XS.icmpYes X1042.here hx rfl (pc0 := 302) (pc' := 329) rfl (hb hby at_302) rfl (feq c1044).2 (by decide) (by decide) k)
                      refine GoalH.step (T' := T1042) (g' := (mkF m 331 #[.val (.int p1), .val (.int p2), .val (.long q3), .second, .val (.long q4), .second, .val (.long q5), .second, .val (.int (Int32.ofNat m8)), .val (.int s9), .val (.ref b10), .val (.ref b11), .val (.int (-1 : Int32))] [(.ref b11)])) ?_ (fun t k => XS.aload X1042.here hx rfl (hb hby at_329) rfl rfl k)
                      have f1056 : Old Z n0 h1001 := (O0.ext E1001)
                      have hP0 : ¬ (7 ≤ m8 ∧ ∀ j, j < 7 → low ((ten c0 c1 c2 c3 c4 c5 c6 c7 c8 c9) j) = sch0 j) := fun q => c1018 ((own_sg c5 47 (by decide)).mp (q.2 5 (by decide)))
                      have hP1 : ¬ (8 ≤ m8 ∧ ∀ j, j < 8 → low ((ten c0 c1 c2 c3 c4 c5 c6 c7 c8 c9) j) = sch1 j) := fun q => c1044 ((own_sg c5 58 (by decide)).mp (q.2 5 (by decide)))
                      obtain ⟨v1055, T1055, h1055, L1055, X1055, e1055, hQ1055, st1055⟩ := callStatic X1042 hx hZ hown (hw _ (List.mem_of_getElem? (i := 34) rfl)) (hw _ (List.mem_of_getElem? (i := 35) rfl)) (hw _ (List.mem_of_getElem? (i := 36) rfl)) (hw _ (List.mem_of_getElem? (i := 37) rfl)) (by decide) (rmAS l Z a0 hw b11 m8 (ten c0 c1 c2 c3 c4 c5 c6 c7 c8 c9) ca u0 u1 kc cs fm h1001 n0 (by omega) SE f1056 S0 AV U0 U1 Z1001) e1042 (W := 0) (by decide) (by decide) (by decide) (by decide) (g := (mkF m 331 #[.val (.int p1), .val (.int p2), .val (.long q3), .second, .val (.long q4), .second, .val (.long q5), .second, .val (.int (Int32.ofNat m8)), .val (.int s9), .val (.ref b10), .val (.ref b11), .val (.int (-1 : Int32))] [(.ref b11)])) rfl (by rw [hml]; rfl) (argsL := [(.ref b11)]) (rest := []) (lenOf pd_21 rfl) rfl (by show 2 * 0 + _ ≤ _; exact Nat.le_of_eq rfl) (hb hby at_331) rfl
                      obtain ⟨r1055, rfl, M1055, q1055, hR1055⟩ := hQ1055
                      obtain rfl : r1055 = -1 := hR1055.elim (fun x => absurd x.1 hP0) (fun x => x.elim (fun y => absurd y.2.1 hP1) (fun y => y.2.2))
                      rw [q1055] at e1055
                      have N1055 := Fr.app N1042 M1055
                      refine GoalH.step (T' := T1055) (g' := (mkF m 334 #[.val (.int p1), .val (.int p2), .val (.long q3), .second, .val (.long q4), .second, .val (.long q5), .second, .val (.int (Int32.ofNat m8)), .val (.int s9), .val (.ref b10), .val (.ref b11), .val (.int (-1 : Int32))] [(.int (-1 : Int32))])) ?_ st1055
                      refine GoalH.step (T' := T1055) (g' := (mkF m 336 #[.val (.int p1), .val (.int p2), .val (.long q3), .second, .val (.long q4), .second, .val (.long q5), .second, .val (.int (Int32.ofNat m8)), .val (.int s9), .val (.ref b10), .val (.ref b11), .val (.int (-1 : Int32))] [(.int (-1 : Int32)), (.int (-1 : Int32))])) ?_ (fun t k => XS.iload X1055.here hx rfl (hb hby at_334) rfl k)
                      refine GoalH.step (T' := T1055) (g' := (mkF m 339 #[.val (.int p1), .val (.int p2), .val (.long q3), .second, .val (.long q4), .second, .val (.long q5), .second, .val (.int (Int32.ofNat m8)), .val (.int s9), .val (.ref b10), .val (.ref b11), .val (.int (-1 : Int32))] [])) ?_ (fun t k => XS.icmpNo X1055.here hx rfl (hb hby at_336) rfl (teq (by decide)).2 k)
                      refine GoalH.step (T' := T1055) (g' := (mkF m 340 #[.val (.int p1), .val (.int p2), .val (.long q3), .second, .val (.long q4), .second, .val (.long q5), .second, .val (.int (Int32.ofNat m8)), .val (.int s9), .val (.ref b10), .val (.ref b11), .val (.int (-1 : Int32))] [(.int (1 : Int32))])) ?_ (fun t k => XS.iconst X1055.here hx rfl (hb hby at_339) k)
                      refine GoalH.step (T' := T1055) (g' := (mkF m 344 #[.val (.int p1), .val (.int p2), .val (.long q3), .second, .val (.long q4), .second, .val (.long q5), .second, .val (.int (Int32.ofNat m8)), .val (.int s9), .val (.ref b10), .val (.ref b11), .val (.int (-1 : Int32))] [(.int (1 : Int32))])) ?_ (fun t k => XS.goto X1055.here hx rfl (pc0 := 340) (pc' := 344) rfl (hb hby at_340) (by decide) (by decide) k)
                      refine GoalH.retN (t := .boolean) X1055 hS (by rw [e1055]; omega) hZ (own_EW hw) (by rw [e1055]; exact CH1001) hx hret (by simp) (hb hby at_344) ?_
                      exact ⟨⟨rfl, N1055⟩, by decide, by decide⟩
                  · obtain ⟨v1057, T1057, h1057, L1057, X1057, e1057, hQ1057, st1057⟩ := callStatic X1014 hx hZ hown (hw _ (List.mem_of_getElem? (i := 84) rfl)) (hw _ (List.mem_of_getElem? (i := 85) rfl)) (hw _ (List.mem_of_getElem? (i := 4) rfl)) (hw _ (List.mem_of_getElem? (i := 86) rfl)) (by decide) (rmIS l Z a0 hw c4 (115 : Int32) (83 : Int32) h1001 n0 (by omega) ) e1014 (W := 0) (by decide) (by decide) (by decide) (by decide) (g := (mkF m 290 #[.val (.int p1), .val (.int p2), .val (.long q3), .second, .val (.long q4), .second, .val (.long q5), .second, .val (.int (Int32.ofNat m8)), .val (.int s9), .val (.ref b10), .val (.ref b11), .val (.int (-1 : Int32))] [(.int (83 : Int32)), (.int (115 : Int32)), (.int c4)])) rfl (by rw [hml]; rfl) (argsL := [(.int c4), (.int (115 : Int32)), (.int (83 : Int32))]) (rest := []) (lenOf pd_22 rfl) rfl (by show 2 * 0 + _ ≤ _; exact Nat.le_of_eq rfl) (hb hby at_290) rfl
                    obtain ⟨rfl, M1057, q1057⟩ := hQ1057.elim (fun x => absurd x.1 hI290) (fun x => x.2)
                    rw [q1057] at e1057
                    have N1057 := Fr.app N1014 M1057
                    refine GoalH.step (T' := T1057) (g' := (mkF m 293 #[.val (.int p1), .val (.int p2), .val (.long q3), .second, .val (.long q4), .second, .val (.long q5), .second, .val (.int (Int32.ofNat m8)), .val (.int s9), .val (.ref b10), .val (.ref b11), .val (.int (-1 : Int32))] [(.int (0 : Int32))])) ?_ st1057
                    refine GoalH.step (T' := T1057) (g' := (mkF m 329 #[.val (.int p1), .val (.int p2), .val (.long q3), .second, .val (.long q4), .second, .val (.long q5), .second, .val (.int (Int32.ofNat m8)), .val (.int s9), .val (.ref b10), .val (.ref b11), .val (.int (-1 : Int32))] [])) ?_ (fun t k => XS.ifYes X1057.here hx rfl (pc0 := 293) (pc' := 329) rfl (hb hby at_293) rfl ((if0 _ _).trans (teq (by decide)).1) (by decide) (by decide) k)
                    refine GoalH.step (T' := T1057) (g' := (mkF m 331 #[.val (.int p1), .val (.int p2), .val (.long q3), .second, .val (.long q4), .second, .val (.long q5), .second, .val (.int (Int32.ofNat m8)), .val (.int s9), .val (.ref b10), .val (.ref b11), .val (.int (-1 : Int32))] [(.ref b11)])) ?_ (fun t k => XS.aload X1057.here hx rfl (hb hby at_329) rfl rfl k)
                    have f1059 : Old Z n0 h1001 := (O0.ext E1001)
                    have hP0 : ¬ (7 ≤ m8 ∧ ∀ j, j < 7 → low ((ten c0 c1 c2 c3 c4 c5 c6 c7 c8 c9) j) = sch0 j) := fun q => c1018 ((own_sg c5 47 (by decide)).mp (q.2 5 (by decide)))
                    have hP1 : ¬ (8 ≤ m8 ∧ ∀ j, j < 8 → low ((ten c0 c1 c2 c3 c4 c5 c6 c7 c8 c9) j) = sch1 j) := fun q => hI290 ((own_lw c4 115 83 (by decide) (by decide)).mp (q.2 4 (by decide)))
                    obtain ⟨v1058, T1058, h1058, L1058, X1058, e1058, hQ1058, st1058⟩ := callStatic X1057 hx hZ hown (hw _ (List.mem_of_getElem? (i := 34) rfl)) (hw _ (List.mem_of_getElem? (i := 35) rfl)) (hw _ (List.mem_of_getElem? (i := 36) rfl)) (hw _ (List.mem_of_getElem? (i := 37) rfl)) (by decide) (rmAS l Z a0 hw b11 m8 (ten c0 c1 c2 c3 c4 c5 c6 c7 c8 c9) ca u0 u1 kc cs fm h1001 n0 (by omega) SE f1059 S0 AV U0 U1 Z1001) e1057 (W := 0) (by decide) (by decide) (by decide) (by decide) (g := (mkF m 331 #[.val (.int p1), .val (.int p2), .val (.long q3), .second, .val (.long q4), .second, .val (.long q5), .second, .val (.int (Int32.ofNat m8)), .val (.int s9), .val (.ref b10), .val (.ref b11), .val (.int (-1 : Int32))] [(.ref b11)])) rfl (by rw [hml]; rfl) (argsL := [(.ref b11)]) (rest := []) (lenOf pd_21 rfl) rfl (by show 2 * 0 + _ ≤ _; exact Nat.le_of_eq rfl) (hb hby at_331) rfl
                    obtain ⟨r1058, rfl, M1058, q1058, hR1058⟩ := hQ1058
                    obtain rfl : r1058 = -1 := hR1058.elim (fun x => absurd x.1 hP0) (fun x => x.elim (fun y => absurd y.2.1 hP1) (fun y => y.2.2))
                    rw [q1058] at e1058
                    have N1058 := Fr.app N1057 M1058
                    refine GoalH.step (T' := T1058) (g' := (mkF m 334 #[.val (.int p1), .val (.int p2), .val (.long q3), .second, .val (.long q4), .second, .val (.long q5), .second, .val (.int (Int32.ofNat m8)), .val (.int s9), .val (.ref b10), .val (.ref b11), .val (.int (-1 : Int32))] [(.int (-1 : Int32))])) ?_ st1058
                    refine GoalH.step (T' := T1058) (g' := (mkF m 336 #[.val (.int p1), .val (.int p2), .val (.long q3), .second, .val (.long q4), .second, .val (.long q5), .second, .val (.int (Int32.ofNat m8)), .val (.int s9), .val (.ref b10), .val (.ref b11), .val (.int (-1 : Int32))] [(.int (-1 : Int32)), (.int (-1 : Int32))])) ?_ (fun t k => XS.iload X1058.here hx rfl (hb hby at_334) rfl k)
                    refine GoalH.step (T' := T1058) (g' := (mkF m 339 #[.val (.int p1), .val (.int p2), .val (.long q3), .second, .val (.long q4), .second, .val (.long q5), .second, .val (.int (Int32.ofNat m8)), .val (.int s9), .val (.ref b10), .val (.ref b11), .val (.int (-1 : Int32))] [])) ?_ (fun t k => XS.icmpNo X1058.here hx rfl (hb hby at_336) rfl (teq (by decide)).2 k)
                    refine GoalH.step (T' := T1058) (g' := (mkF m 340 #[.val (.int p1), .val (.int p2), .val (.long q3), .second, .val (.long q4), .second, .val (.long q5), .second, .val (.int (Int32.ofNat m8)), .val (.int s9), .val (.ref b10), .val (.ref b11), .val (.int (-1 : Int32))] [(.int (1 : Int32))])) ?_ (fun t k => XS.iconst X1058.here hx rfl (hb hby at_339) k)
                    refine GoalH.step (T' := T1058) (g' := (mkF m 344 #[.val (.int p1), .val (.int p2), .val (.long q3), .second, .val (.long q4), .second, .val (.long q5), .second, .val (.int (Int32.ofNat m8)), .val (.int s9), .val (.ref b10), .val (.ref b11), .val (.int (-1 : Int32))] [(.int (1 : Int32))])) ?_ (fun t k => XS.goto X1058.here hx rfl (pc0 := 340) (pc' := 344) rfl (hb hby at_340) (by decide) (by decide) k)
                    refine GoalH.retN (t := .boolean) X1058 hS (by rw [e1058]; omega) hZ (own_EW hw) (by rw [e1058]; exact CH1001) hx hret (by simp) (hb hby at_344) ?_
                    exact ⟨⟨rfl, N1058⟩, by decide, by decide⟩
            · refine GoalH.step (T' := T1014) (g' := (mkF m 275 #[.val (.int p1), .val (.int p2), .val (.long q3), .second, .val (.long q4), .second, .val (.long q5), .second, .val (.int (Int32.ofNat m8)), .val (.int s9), .val (.ref b10), .val (.ref b11), .val (.int (-1 : Int32))] [])) ?_ (fun t k => XS.icmpYes X1014.here hx rfl (pc0 := 246) (pc' := 275) rfl (hb hby at_246) rfl (feq c1016).2 (by decide) (by decide) k)
              refine GoalH.step (T' := T1014) (g' := (mkF m 277 #[.val (.int p1), .val (.int p2), .val (.long q3), .second, .val (.long q4), .second, .val (.long q5), .second, .val (.int (Int32.ofNat m8)), .val (.int s9), .val (.ref b10), .val (.ref b11), .val (.int (-1 : Int32))] [(.int (Int32.ofNat m8))])) ?_ (fun t k => XS.iload X1014.here hx rfl (hb hby at_275) rfl k)
              refine GoalH.step (T' := T1014) (g' := (mkF m 279 #[.val (.int p1), .val (.int p2), .val (.long q3), .second, .val (.long q4), .second, .val (.long q5), .second, .val (.int (Int32.ofNat m8)), .val (.int s9), .val (.ref b10), .val (.ref b11), .val (.int (-1 : Int32))] [(.int (8 : Int32)), (.int (Int32.ofNat m8))])) ?_ (fun t k => XS.bipush X1014.here hx rfl (hb hby at_277) k)
              by_cases c1060 : (Int32.ofNat m8) < (8 : Int32)
              · refine GoalH.step (T' := T1014) (g' := (mkF m 329 #[.val (.int p1), .val (.int p2), .val (.long q3), .second, .val (.long q4), .second, .val (.long q5), .second, .val (.int (Int32.ofNat m8)), .val (.int s9), .val (.ref b10), .val (.ref b11), .val (.int (-1 : Int32))] [])) ?_ (fun t k => XS.icmpYes X1014.here hx rfl (pc0 := 279) (pc' := 329) rfl (hb hby at_279) rfl (tlt c1060).1 (by decide) (by decide) k)
                refine GoalH.step (T' := T1014) (g' := (mkF m 331 #[.val (.int p1), .val (.int p2), .val (.long q3), .second, .val (.long q4), .second, .val (.long q5), .second, .val (.int (Int32.ofNat m8)), .val (.int s9), .val (.ref b10), .val (.ref b11), .val (.int (-1 : Int32))] [(.ref b11)])) ?_ (fun t k => XS.aload X1014.here hx rfl (hb hby at_329) rfl rfl k)
                have f1062 : Old Z n0 h1001 := (O0.ext E1001)
                have hP0 : ¬ (7 ≤ m8 ∧ ∀ j, j < 7 → low ((ten c0 c1 c2 c3 c4 c5 c6 c7 c8 c9) j) = sch0 j) := fun q => c1016 ((own_sg c4 58 (by decide)).mp (q.2 4 (by decide)))
                have hP1 : ¬ (8 ≤ m8 ∧ ∀ j, j < 8 → low ((ten c0 c1 c2 c3 c4 c5 c6 c7 c8 c9) j) = sch1 j) := fun q => absurd q.1 (by have := (nat_lt (n := 8) (by omega) (by omega)).mp c1060; omega)
                obtain ⟨v1061, T1061, h1061, L1061, X1061, e1061, hQ1061, st1061⟩ := callStatic X1014 hx hZ hown (hw _ (List.mem_of_getElem? (i := 34) rfl)) (hw _ (List.mem_of_getElem? (i := 35) rfl)) (hw _ (List.mem_of_getElem? (i := 36) rfl)) (hw _ (List.mem_of_getElem? (i := 37) rfl)) (by decide) (rmAS l Z a0 hw b11 m8 (ten c0 c1 c2 c3 c4 c5 c6 c7 c8 c9) ca u0 u1 kc cs fm h1001 n0 (by omega) SE f1062 S0 AV U0 U1 Z1001) e1014 (W := 0) (by decide) (by decide) (by decide) (by decide) (g := (mkF m 331 #[.val (.int p1), .val (.int p2), .val (.long q3), .second, .val (.long q4), .second, .val (.long q5), .second, .val (.int (Int32.ofNat m8)), .val (.int s9), .val (.ref b10), .val (.ref b11), .val (.int (-1 : Int32))] [(.ref b11)])) rfl (by rw [hml]; rfl) (argsL := [(.ref b11)]) (rest := []) (lenOf pd_21 rfl) rfl (by show 2 * 0 + _ ≤ _; exact Nat.le_of_eq rfl) (hb hby at_331) rfl
                obtain ⟨r1061, rfl, M1061, q1061, hR1061⟩ := hQ1061
                obtain rfl : r1061 = -1 := hR1061.elim (fun x => absurd x.1 hP0) (fun x => x.elim (fun y => absurd y.2.1 hP1) (fun y => y.2.2))
                rw [q1061] at e1061
                have N1061 := Fr.app N1014 M1061
                refine GoalH.step (T' := T1061) (g' := (mkF m 334 #[.val (.int p1), .val (.int p2), .val (.long q3), .second, .val (.long q4), .second, .val (.long q5), .second, .val (.int (Int32.ofNat m8)), .val (.int s9), .val (.ref b10), .val (.ref b11), .val (.int (-1 : Int32))] [(.int (-1 : Int32))])) ?_ st1061
                refine GoalH.step (T' := T1061) (g' := (mkF m 336 #[.val (.int p1), .val (.int p2), .val (.long q3), .second, .val (.long q4), .second, .val (.long q5), .second, .val (.int (Int32.ofNat m8)), .val (.int s9), .val (.ref b10), .val (.ref b11), .val (.int (-1 : Int32))] [(.int (-1 : Int32)), (.int (-1 : Int32))])) ?_ (fun t k => XS.iload X1061.here hx rfl (hb hby at_334) rfl k)
                refine GoalH.step (T' := T1061) (g' := (mkF m 339 #[.val (.int p1), .val (.int p2), .val (.long q3), .second, .val (.long q4), .second, .val (.long q5), .second, .val (.int (Int32.ofNat m8)), .val (.int s9), .val (.ref b10), .val (.ref b11), .val (.int (-1 : Int32))] [])) ?_ (fun t k => XS.icmpNo X1061.here hx rfl (hb hby at_336) rfl (teq (by decide)).2 k)
                refine GoalH.step (T' := T1061) (g' := (mkF m 340 #[.val (.int p1), .val (.int p2), .val (.long q3), .second, .val (.long q4), .second, .val (.long q5), .second, .val (.int (Int32.ofNat m8)), .val (.int s9), .val (.ref b10), .val (.ref b11), .val (.int (-1 : Int32))] [(.int (1 : Int32))])) ?_ (fun t k => XS.iconst X1061.here hx rfl (hb hby at_339) k)
                refine GoalH.step (T' := T1061) (g' := (mkF m 344 #[.val (.int p1), .val (.int p2), .val (.long q3), .second, .val (.long q4), .second, .val (.long q5), .second, .val (.int (Int32.ofNat m8)), .val (.int s9), .val (.ref b10), .val (.ref b11), .val (.int (-1 : Int32))] [(.int (1 : Int32))])) ?_ (fun t k => XS.goto X1061.here hx rfl (pc0 := 340) (pc' := 344) rfl (hb hby at_340) (by decide) (by decide) k)
                refine GoalH.retN (t := .boolean) X1061 hS (by rw [e1061]; omega) hZ (own_EW hw) (by rw [e1061]; exact CH1001) hx hret (by simp) (hb hby at_344) ?_
                exact ⟨⟨rfl, N1061⟩, by decide, by decide⟩
              · refine GoalH.step (T' := T1014) (g' := (mkF m 282 #[.val (.int p1), .val (.int p2), .val (.long q3), .second, .val (.long q4), .second, .val (.long q5), .second, .val (.int (Int32.ofNat m8)), .val (.int s9), .val (.ref b10), .val (.ref b11), .val (.int (-1 : Int32))] [])) ?_ (fun t k => XS.icmpNo X1014.here hx rfl (hb hby at_279) rfl (flt c1060).1 k)
                refine GoalH.step (T' := T1014) (g' := (mkF m 284 #[.val (.int p1), .val (.int p2), .val (.long q3), .second, .val (.long q4), .second, .val (.long q5), .second, .val (.int (Int32.ofNat m8)), .val (.int s9), .val (.ref b10), .val (.ref b11), .val (.int (-1 : Int32))] [(.ref b10)])) ?_ (fun t k => XS.aload X1014.here hx rfl (hb hby at_282) rfl rfl k)
                refine GoalH.step (T' := T1014) (g' := (mkF m 285 #[.val (.int p1), .val (.int p2), .val (.long q3), .second, .val (.long q4), .second, .val (.long q5), .second, .val (.int (Int32.ofNat m8)), .val (.int s9), .val (.ref b10), .val (.ref b11), .val (.int (-1 : Int32))] [(.int (Int32.ofNat 4)), (.ref b10)])) ?_ (fun t k => XS.iconst X1014.here hx rfl (hb hby at_284) k)
                obtain ⟨cl1063, Ar1063, q1063, S1063, H1063⟩ := (id f1007)
                have hlt1063 : 4 < 10 := by omega
                have hn1063 : 10 < 2 ^ 31 := by omega
                have hin1063 : ¬ ((Int32.ofNat 4) < 0 ∨ cl1063.slots.size ≤ ((Int32.ofNat 4)).toNatClampNeg) := nat_inb S1063 hlt1063 hn1063
                have hat1063 : cl1063.slots[((Int32.ofNat 4)).toNatClampNeg]? = some (.int c4) := by rw [nat_clamp (show 4 < 2 ^ 31 by omega)]; exact H1063 _ hlt1063
                refine GoalH.step (T' := T1014) (g' := (mkF m 286 #[.val (.int p1), .val (.int p2), .val (.long q3), .second, .val (.long q4), .second, .val (.long q5), .second, .val (.int (Int32.ofNat m8)), .val (.int s9), .val (.ref b10), .val (.ref b11), .val (.int (-1 : Int32))] [(.int c4)])) ?_ (fun t k => X1014.caload hx (j := (Int32.ofNat 4)) (v := (.int c4)) (by rw [e1014]; exact Ar1063.1) (State.isArrayOf_alike hZ.alike Ar1063.2.1) Ar1063.2.2 hin1063 hat1063 (g := (mkF m 285 #[.val (.int p1), .val (.int p2), .val (.long q3), .second, .val (.long q4), .second, .val (.long q5), .second, .val (.int (Int32.ofNat m8)), .val (.int s9), .val (.ref b10), .val (.ref b11), .val (.int (-1 : Int32))] [(.int (Int32.ofNat 4)), (.ref b10)])) rfl rfl (hb hby at_285) _ k)
                refine GoalH.step (T' := T1014) (g' := (mkF m 288 #[.val (.int p1), .val (.int p2), .val (.long q3), .second, .val (.long q4), .second, .val (.long q5), .second, .val (.int (Int32.ofNat m8)), .val (.int s9), .val (.ref b10), .val (.ref b11), .val (.int (-1 : Int32))] [(.int (115 : Int32)), (.int c4)])) ?_ (fun t k => XS.bipush X1014.here hx rfl (hb hby at_286) k)
                refine GoalH.step (T' := T1014) (g' := (mkF m 290 #[.val (.int p1), .val (.int p2), .val (.long q3), .second, .val (.long q4), .second, .val (.long q5), .second, .val (.int (Int32.ofNat m8)), .val (.int s9), .val (.ref b10), .val (.ref b11), .val (.int (-1 : Int32))] [(.int (83 : Int32)), (.int (115 : Int32)), (.int c4)])) ?_ (fun t k => XS.bipush X1014.here hx rfl (hb hby at_288) k)
                by_cases hI290 : (c4 = (115 : Int32) ∨ c4 = (83 : Int32))
                · obtain ⟨v1064, T1064, h1064, L1064, X1064, e1064, hQ1064, st1064⟩ := callStatic X1014 hx hZ hown (hw _ (List.mem_of_getElem? (i := 84) rfl)) (hw _ (List.mem_of_getElem? (i := 85) rfl)) (hw _ (List.mem_of_getElem? (i := 4) rfl)) (hw _ (List.mem_of_getElem? (i := 86) rfl)) (by decide) (rmIS l Z a0 hw c4 (115 : Int32) (83 : Int32) h1001 n0 (by omega) ) e1014 (W := 0) (by decide) (by decide) (by decide) (by decide) (g := (mkF m 290 #[.val (.int p1), .val (.int p2), .val (.long q3), .second, .val (.long q4), .second, .val (.long q5), .second, .val (.int (Int32.ofNat m8)), .val (.int s9), .val (.ref b10), .val (.ref b11), .val (.int (-1 : Int32))] [(.int (83 : Int32)), (.int (115 : Int32)), (.int c4)])) rfl (by rw [hml]; rfl) (argsL := [(.int c4), (.int (115 : Int32)), (.int (83 : Int32))]) (rest := []) (lenOf pd_22 rfl) rfl (by show 2 * 0 + _ ≤ _; exact Nat.le_of_eq rfl) (hb hby at_290) rfl
                  obtain ⟨rfl, M1064, q1064⟩ := hQ1064.elim (fun x => x.2) (fun x => absurd x.1 (fun z => z hI290))
                  rw [q1064] at e1064
                  have N1064 := Fr.app N1014 M1064
                  refine GoalH.step (T' := T1064) (g' := (mkF m 293 #[.val (.int p1), .val (.int p2), .val (.long q3), .second, .val (.long q4), .second, .val (.long q5), .second, .val (.int (Int32.ofNat m8)), .val (.int s9), .val (.ref b10), .val (.ref b11), .val (.int (-1 : Int32))] [(.int (1 : Int32))])) ?_ st1064
                  refine GoalH.step (T' := T1064) (g' := (mkF m 296 #[.val (.int p1), .val (.int p2), .val (.long q3), .second, .val (.long q4), .second, .val (.long q5), .second, .val (.int (Int32.ofNat m8)), .val (.int s9), .val (.ref b10), .val (.ref b11), .val (.int (-1 : Int32))] [])) ?_ (fun t k => XS.ifNo X1064.here hx rfl (hb hby at_293) rfl ((if0 _ _).trans (feq (by decide)).1) k)
                  refine GoalH.step (T' := T1064) (g' := (mkF m 298 #[.val (.int p1), .val (.int p2), .val (.long q3), .second, .val (.long q4), .second, .val (.long q5), .second, .val (.int (Int32.ofNat m8)), .val (.int s9), .val (.ref b10), .val (.ref b11), .val (.int (-1 : Int32))] [(.ref b10)])) ?_ (fun t k => XS.aload X1064.here hx rfl (hb hby at_296) rfl rfl k)
                  refine GoalH.step (T' := T1064) (g' := (mkF m 299 #[.val (.int p1), .val (.int p2), .val (.long q3), .second, .val (.long q4), .second, .val (.long q5), .second, .val (.int (Int32.ofNat m8)), .val (.int s9), .val (.ref b10), .val (.ref b11), .val (.int (-1 : Int32))] [(.int (Int32.ofNat 5)), (.ref b10)])) ?_ (fun t k => XS.iconst X1064.here hx rfl (hb hby at_298) k)
                  obtain ⟨cl1065, Ar1065, q1065, S1065, H1065⟩ := (id f1007)
                  have hlt1065 : 5 < 10 := by omega
                  have hn1065 : 10 < 2 ^ 31 := by omega
                  have hin1065 : ¬ ((Int32.ofNat 5) < 0 ∨ cl1065.slots.size ≤ ((Int32.ofNat 5)).toNatClampNeg) := nat_inb S1065 hlt1065 hn1065
                  have hat1065 : cl1065.slots[((Int32.ofNat 5)).toNatClampNeg]? = some (.int c5) := by rw [nat_clamp (show 5 < 2 ^ 31 by omega)]; exact H1065 _ hlt1065
                  refine GoalH.step (T' := T1064) (g' := (mkF m 300 #[.val (.int p1), .val (.int p2), .val (.long q3), .second, .val (.long q4), .second, .val (.long q5), .second, .val (.int (Int32.ofNat m8)), .val (.int s9), .val (.ref b10), .val (.ref b11), .val (.int (-1 : Int32))] [(.int c5)])) ?_ (fun t k => X1064.caload hx (j := (Int32.ofNat 5)) (v := (.int c5)) (by rw [e1064]; exact Ar1065.1) (State.isArrayOf_alike hZ.alike Ar1065.2.1) Ar1065.2.2 hin1065 hat1065 (g := (mkF m 299 #[.val (.int p1), .val (.int p2), .val (.long q3), .second, .val (.long q4), .second, .val (.long q5), .second, .val (.int (Int32.ofNat m8)), .val (.int s9), .val (.ref b10), .val (.ref b11), .val (.int (-1 : Int32))] [(.int (Int32.ofNat 5)), (.ref b10)])) rfl rfl (hb hby at_299) _ k)
                  refine GoalH.step (T' := T1064) (g' := (mkF m 302 #[.val (.int p1), .val (.int p2), .val (.long q3), .second, .val (.long q4), .second, .val (.long q5), .second, .val (.int (Int32.ofNat m8)), .val (.int s9), .val (.ref b10), .val (.ref b11), .val (.int (-1 : Int32))] [(.int (58 : Int32)), (.int c5)])) ?_ (fun t k => XS.bipush X1064.here hx rfl (hb hby at_300) k)
                  by_cases c1066 : c5 = (58 : Int32)
                  · refine GoalH.step (T' := T1064) (g' := (mkF m 305 #[.val (.int p1), .val (.int p2), .val (.long q3), .second, .val (.long q4), .second, .val (.long q5), .second, .val (.int (Int32.ofNat m8)), .val (.int s9), .val (.ref b10), .val (.ref b11), .val (.int (-1 : Int32))] [])) ?_ (fun t k => XS.icmpNo X1064.here hx rfl (hb hby at_302) rfl (teq c1066).2 k)
                    refine GoalH.step (T' := T1064) (g' := (mkF m 307 #[.val (.int p1), .val (.int p2), .val (.long q3), .second, .val (.long q4), .second, .val (.long q5), .second, .val (.int (Int32.ofNat m8)), .val (.int s9), .val (.ref b10), .val (.ref b11), .val (.int (-1 : Int32))] [(.ref b10)])) ?_ (fun t k => XS.aload X1064.here hx rfl (hb hby at_305) rfl rfl k)
                    refine GoalH.step (T' := T1064) (g' := (mkF m 309 #[.val (.int p1), .val (.int p2), .val (.long q3), .second, .val (.long q4), .second, .val (.long q5), .second, .val (.int (Int32.ofNat m8)), .val (.int s9), .val (.ref b10), .val (.ref b11), .val (.int (-1 : Int32))] [(.int (Int32.ofNat 6)), (.ref b10)])) ?_ (fun t k => XS.bipush X1064.here hx rfl (hb hby at_307) k)
                    obtain ⟨cl1067, Ar1067, q1067, S1067, H1067⟩ := (id f1007)
                    have hlt1067 : 6 < 10 := by omega
                    have hn1067 : 10 < 2 ^ 31 := by omega
                    have hin1067 : ¬ ((Int32.ofNat 6) < 0 ∨ cl1067.slots.size ≤ ((Int32.ofNat 6)).toNatClampNeg) := nat_inb S1067 hlt1067 hn1067
                    have hat1067 : cl1067.slots[((Int32.ofNat 6)).toNatClampNeg]? = some (.int c6) := by rw [nat_clamp (show 6 < 2 ^ 31 by omega)]; exact H1067 _ hlt1067
                    refine GoalH.step (T' := T1064) (g' := (mkF m 310 #[.val (.int p1), .val (.int p2), .val (.long q3), .second, .val (.long q4), .second, .val (.long q5), .second, .val (.int (Int32.ofNat m8)), .val (.int s9), .val (.ref b10), .val (.ref b11), .val (.int (-1 : Int32))] [(.int c6)])) ?_ (fun t k => X1064.caload hx (j := (Int32.ofNat 6)) (v := (.int c6)) (by rw [e1064]; exact Ar1067.1) (State.isArrayOf_alike hZ.alike Ar1067.2.1) Ar1067.2.2 hin1067 hat1067 (g := (mkF m 309 #[.val (.int p1), .val (.int p2), .val (.long q3), .second, .val (.long q4), .second, .val (.long q5), .second, .val (.int (Int32.ofNat m8)), .val (.int s9), .val (.ref b10), .val (.ref b11), .val (.int (-1 : Int32))] [(.int (Int32.ofNat 6)), (.ref b10)])) rfl rfl (hb hby at_309) _ k)
                    refine GoalH.step (T' := T1064) (g' := (mkF m 312 #[.val (.int p1), .val (.int p2), .val (.long q3), .second, .val (.long q4), .second, .val (.long q5), .second, .val (.int (Int32.ofNat m8)), .val (.int s9), .val (.ref b10), .val (.ref b11), .val (.int (-1 : Int32))] [(.int (47 : Int32)), (.int c6)])) ?_ (fun t k => XS.bipush X1064.here hx rfl (hb hby at_310) k)
                    by_cases c1068 : c6 = (47 : Int32)
                    · refine GoalH.step (T' := T1064) (g' := (mkF m 315 #[.val (.int p1), .val (.int p2), .val (.long q3), .second, .val (.long q4), .second, .val (.long q5), .second, .val (.int (Int32.ofNat m8)), .val (.int s9), .val (.ref b10), .val (.ref b11), .val (.int (-1 : Int32))] [])) ?_ (fun t k => XS.icmpNo X1064.here hx rfl (hb hby at_312) rfl (teq c1068).2 k)
                      refine GoalH.step (T' := T1064) (g' := (mkF m 317 #[.val (.int p1), .val (.int p2), .val (.long q3), .second, .val (.long q4), .second, .val (.long q5), .second, .val (.int (Int32.ofNat m8)), .val (.int s9), .val (.ref b10), .val (.ref b11), .val (.int (-1 : Int32))] [(.ref b10)])) ?_ (fun t k => XS.aload X1064.here hx rfl (hb hby at_315) rfl rfl k)
                      refine GoalH.step (T' := T1064) (g' := (mkF m 319 #[.val (.int p1), .val (.int p2), .val (.long q3), .second, .val (.long q4), .second, .val (.long q5), .second, .val (.int (Int32.ofNat m8)), .val (.int s9), .val (.ref b10), .val (.ref b11), .val (.int (-1 : Int32))] [(.int (Int32.ofNat 7)), (.ref b10)])) ?_ (fun t k => XS.bipush X1064.here hx rfl (hb hby at_317) k)
                      obtain ⟨cl1069, Ar1069, q1069, S1069, H1069⟩ := (id f1007)
                      have hlt1069 : 7 < 10 := by omega
                      have hn1069 : 10 < 2 ^ 31 := by omega
                      have hin1069 : ¬ ((Int32.ofNat 7) < 0 ∨ cl1069.slots.size ≤ ((Int32.ofNat 7)).toNatClampNeg) := nat_inb S1069 hlt1069 hn1069
                      have hat1069 : cl1069.slots[((Int32.ofNat 7)).toNatClampNeg]? = some (.int c7) := by rw [nat_clamp (show 7 < 2 ^ 31 by omega)]; exact H1069 _ hlt1069
                      refine GoalH.step (T' := T1064) (g' := (mkF m 320 #[.val (.int p1), .val (.int p2), .val (.long q3), .second, .val (.long q4), .second, .val (.long q5), .second, .val (.int (Int32.ofNat m8)), .val (.int s9), .val (.ref b10), .val (.ref b11), .val (.int (-1 : Int32))] [(.int c7)])) ?_ (fun t k => X1064.caload hx (j := (Int32.ofNat 7)) (v := (.int c7)) (by rw [e1064]; exact Ar1069.1) (State.isArrayOf_alike hZ.alike Ar1069.2.1) Ar1069.2.2 hin1069 hat1069 (g := (mkF m 319 #[.val (.int p1), .val (.int p2), .val (.long q3), .second, .val (.long q4), .second, .val (.long q5), .second, .val (.int (Int32.ofNat m8)), .val (.int s9), .val (.ref b10), .val (.ref b11), .val (.int (-1 : Int32))] [(.int (Int32.ofNat 7)), (.ref b10)])) rfl rfl (hb hby at_319) _ k)
                      refine GoalH.step (T' := T1064) (g' := (mkF m 322 #[.val (.int p1), .val (.int p2), .val (.long q3), .second, .val (.long q4), .second, .val (.long q5), .second, .val (.int (Int32.ofNat m8)), .val (.int s9), .val (.ref b10), .val (.ref b11), .val (.int (-1 : Int32))] [(.int (47 : Int32)), (.int c7)])) ?_ (fun t k => XS.bipush X1064.here hx rfl (hb hby at_320) k)
                      by_cases c1070 : c7 = (47 : Int32)
                      · refine GoalH.step (T' := T1064) (g' := (mkF m 325 #[.val (.int p1), .val (.int p2), .val (.long q3), .second, .val (.long q4), .second, .val (.long q5), .second, .val (.int (Int32.ofNat m8)), .val (.int s9), .val (.ref b10), .val (.ref b11), .val (.int (-1 : Int32))] [])) ?_ (fun t k => XS.icmpNo X1064.here hx rfl (hb hby at_322) rfl (teq c1070).2 k)
                        refine GoalH.step (T' := T1064) (g' := (mkF m 327 #[.val (.int p1), .val (.int p2), .val (.long q3), .second, .val (.long q4), .second, .val (.long q5), .second, .val (.int (Int32.ofNat m8)), .val (.int s9), .val (.ref b10), .val (.ref b11), .val (.int (-1 : Int32))] [(.int (8 : Int32))])) ?_ (fun t k => XS.bipush X1064.here hx rfl (hb hby at_325) k)
                        refine GoalH.step (T' := T1064) (g' := (mkF m 329 #[.val (.int p1), .val (.int p2), .val (.long q3), .second, .val (.long q4), .second, .val (.long q5), .second, .val (.int (Int32.ofNat m8)), .val (.int s9), .val (.ref b10), .val (.ref b11), .val (.int (8 : Int32))] [])) ?_ (fun t k => XS.istore X1064.here hx rfl (hb hby at_327) rfl (l' := #[.val (.int p1), .val (.int p2), .val (.long q3), .second, .val (.long q4), .second, .val (.long q5), .second, .val (.int (Int32.ofNat m8)), .val (.int s9), .val (.ref b10), .val (.ref b11), .val (.int (8 : Int32))]) rfl k)
                        refine GoalH.step (T' := T1064) (g' := (mkF m 331 #[.val (.int p1), .val (.int p2), .val (.long q3), .second, .val (.long q4), .second, .val (.long q5), .second, .val (.int (Int32.ofNat m8)), .val (.int s9), .val (.ref b10), .val (.ref b11), .val (.int (8 : Int32))] [(.ref b11)])) ?_ (fun t k => XS.aload X1064.here hx rfl (hb hby at_329) rfl rfl k)
                        have f1072 : Old Z n0 h1001 := (O0.ext E1001)
                        have hP0 : ¬ (7 ≤ m8 ∧ ∀ j, j < 7 → low ((ten c0 c1 c2 c3 c4 c5 c6 c7 c8 c9) j) = sch0 j) := fun q => c1016 ((own_sg c4 58 (by decide)).mp (q.2 4 (by decide)))
                        have hP1 : (8 ≤ m8 ∧ ∀ j, j < 8 → low ((ten c0 c1 c2 c3 c4 c5 c6 c7 c8 c9) j) = sch1 j) := ⟨Nat.le_of_not_lt (fun q => c1060 ((nat_lt (n := 8) (by omega) (by omega)).mpr q)), (own_step (P := fun j => low ((ten c0 c1 c2 c3 c4 c5 c6 c7 c8 c9) j) = sch1 j) (i := 7) (own_step (P := fun j => low ((ten c0 c1 c2 c3 c4 c5 c6 c7 c8 c9) j) = sch1 j) (i := 6) (own_step (P := fun j => low ((ten c0 c1 c2 c3 c4 c5 c6 c7 c8 c9) j) = sch1 j) (i := 5) (own_step (P := fun j => low ((ten c0 c1 c2 c3 c4 c5 c6 c7 c8 c9) j) = sch1 j) (i := 4) (own_step (P := fun j => low ((ten c0 c1 c2 c3 c4 c5 c6 c7 c8 c9) j) = sch1 j) (i := 3) (own_step (P := fun j => low ((ten c0 c1 c2 c3 c4 c5 c6 c7 c8 c9) j) = sch1 j) (i := 2) (own_step (P := fun j => low ((ten c0 c1 c2 c3 c4 c5 c6 c7 c8 c9) j) = sch1 j) (i := 1) (own_step (P := fun j => low ((ten c0 c1 c2 c3 c4 c5 c6 c7 c8 c9) j) = sch1 j) (i := 0) (fun j hj => absurd hj (Nat.not_lt_zero _)) ((own_lw c0 104 72 (by decide) (by decide)).mpr hI192)) ((own_lw c1 116 84 (by decide) (by decide)).mpr hI206)) ((own_lw c2 116 84 (by decide) (by decide)).mpr hI220)) ((own_lw c3 112 80 (by decide) (by decide)).mpr hI234)) ((own_lw c4 115 83 (by decide) (by decide)).mpr hI290)) ((own_sg c5 58 (by decide)).mpr c1066)) ((own_sg c6 47 (by decide)).mpr c1068)) ((own_sg c7 47 (by decide)).mpr c1070))⟩
                        obtain ⟨v1071, T1071, h1071, L1071, X1071, e1071, hQ1071, st1071⟩ := callStatic X1064 hx hZ hown (hw _ (List.mem_of_getElem? (i := 34) rfl)) (hw _ (List.mem_of_getElem? (i := 35) rfl)) (hw _ (List.mem_of_getElem? (i := 36) rfl)) (hw _ (List.mem_of_getElem? (i := 37) rfl)) (by decide) (rmAS l Z a0 hw b11 m8 (ten c0 c1 c2 c3 c4 c5 c6 c7 c8 c9) ca u0 u1 kc cs fm h1001 n0 (by omega) SE f1072 S0 AV U0 U1 Z1001) e1064 (W := 0) (by decide) (by decide) (by decide) (by decide) (g := (mkF m 331 #[.val (.int p1), .val (.int p2), .val (.long q3), .second, .val (.long q4), .second, .val (.long q5), .second, .val (.int (Int32.ofNat m8)), .val (.int s9), .val (.ref b10), .val (.ref b11), .val (.int (8 : Int32))] [(.ref b11)])) rfl (by rw [hml]; rfl) (argsL := [(.ref b11)]) (rest := []) (lenOf pd_21 rfl) rfl (by show 2 * 0 + _ ≤ _; exact Nat.le_of_eq rfl) (hb hby at_331) rfl
                        obtain ⟨r1071, rfl, M1071, q1071, hR1071⟩ := hQ1071
                        obtain rfl : r1071 = 8 := hR1071.elim (fun x => absurd x.1 hP0) (fun x => x.elim (fun y => y.2.2) (fun y => absurd hP1 y.2.1))
                        rw [q1071] at e1071
                        have N1071 := Fr.app N1064 M1071
                        refine GoalH.step (T' := T1071) (g' := (mkF m 334 #[.val (.int p1), .val (.int p2), .val (.long q3), .second, .val (.long q4), .second, .val (.long q5), .second, .val (.int (Int32.ofNat m8)), .val (.int s9), .val (.ref b10), .val (.ref b11), .val (.int (8 : Int32))] [(.int (8 : Int32))])) ?_ st1071
                        refine GoalH.step (T' := T1071) (g' := (mkF m 336 #[.val (.int p1), .val (.int p2), .val (.long q3), .second, .val (.long q4), .second, .val (.long q5), .second, .val (.int (Int32.ofNat m8)), .val (.int s9), .val (.ref b10), .val (.ref b11), .val (.int (8 : Int32))] [(.int (8 : Int32)), (.int (8 : Int32))])) ?_ (fun t k => XS.iload X1071.here hx rfl (hb hby at_334) rfl k)
                        refine GoalH.step (T' := T1071) (g' := (mkF m 339 #[.val (.int p1), .val (.int p2), .val (.long q3), .second, .val (.long q4), .second, .val (.long q5), .second, .val (.int (Int32.ofNat m8)), .val (.int s9), .val (.ref b10), .val (.ref b11), .val (.int (8 : Int32))] [])) ?_ (fun t k => XS.icmpNo X1071.here hx rfl (hb hby at_336) rfl (teq (by decide)).2 k)
                        refine GoalH.step (T' := T1071) (g' := (mkF m 340 #[.val (.int p1), .val (.int p2), .val (.long q3), .second, .val (.long q4), .second, .val (.long q5), .second, .val (.int (Int32.ofNat m8)), .val (.int s9), .val (.ref b10), .val (.ref b11), .val (.int (8 : Int32))] [(.int (1 : Int32))])) ?_ (fun t k => XS.iconst X1071.here hx rfl (hb hby at_339) k)
                        refine GoalH.step (T' := T1071) (g' := (mkF m 344 #[.val (.int p1), .val (.int p2), .val (.long q3), .second, .val (.long q4), .second, .val (.long q5), .second, .val (.int (Int32.ofNat m8)), .val (.int s9), .val (.ref b10), .val (.ref b11), .val (.int (8 : Int32))] [(.int (1 : Int32))])) ?_ (fun t k => XS.goto X1071.here hx rfl (pc0 := 340) (pc' := 344) rfl (hb hby at_340) (by decide) (by decide) k)
                        refine GoalH.retN (t := .boolean) X1071 hS (by rw [e1071]; omega) hZ (own_EW hw) (by rw [e1071]; exact CH1001) hx hret (by simp) (hb hby at_344) ?_
                        exact ⟨⟨rfl, N1071⟩, by decide, by decide⟩
                      · refine GoalH.step (T' := T1064) (g' := (mkF m 329 #[.val (.int p1), .val (.int p2), .val (.long q3), .second, .val (.long q4), .second, .val (.long q5), .second, .val (.int (Int32.ofNat m8)), .val (.int s9), .val (.ref b10), .val (.ref b11), .val (.int (-1 : Int32))] [])) ?_ (fun t k => XS.icmpYes X1064.here hx rfl (pc0 := 322) (pc' := 329) rfl (hb hby at_322) rfl (feq c1070).2 (by decide) (by decide) k)
                        refine GoalH.step (T' := T1064) (g' := (mkF m 331 #[.val (.int p1), .val (.int p2), .val (.long q3), .second, .val (.long q4), .second, .val (.long q5), .second, .val (.int (Int32.ofNat m8)), .val (.int s9), .val (.ref b10), .val (.ref b11), .val (.int (-1 : Int32))] [(.ref b11)])) ?_ (fun t k => XS.aload X1064.here hx rfl (hb hby at_329) rfl rfl k)
                        have f1074 : Old Z n0 h1001 := (O0.ext E1001)
                        have hP0 : ¬ (7 ≤ m8 ∧ ∀ j, j < 7 → low ((ten c0 c1 c2 c3 c4 c5 c6 c7 c8 c9) j) = sch0 j) := fun q => c1016 ((own_sg c4 58 (by decide)).mp (q.2 4 (by decide)))
                        have hP1 : ¬ (8 ≤ m8 ∧ ∀ j, j < 8 → low ((ten c0 c1 c2 c3 c4 c5 c6 c7 c8 c9) j) = sch1 j) := fun q => c1070 ((own_sg c7 47 (by decide)).mp (q.2 7 (by decide)))
                        obtain ⟨v1073, T1073, h1073, L1073, X1073, e1073, hQ1073, st1073⟩ := callStatic X1064 hx hZ hown (hw _ (List.mem_of_getElem? (i := 34) rfl)) (hw _ (List.mem_of_getElem? (i := 35) rfl)) (hw _ (List.mem_of_getElem? (i := 36) rfl)) (hw _ (List.mem_of_getElem? (i := 37) rfl)) (by decide) (rmAS l Z a0 hw b11 m8 (ten c0 c1 c2 c3 c4 c5 c6 c7 c8 c9) ca u0 u1 kc cs fm h1001 n0 (by omega) SE f1074 S0 AV U0 U1 Z1001) e1064 (W := 0) (by decide) (by decide) (by decide) (by decide) (g := (mkF m 331 #[.val (.int p1), .val (.int p2), .val (.long q3), .second, .val (.long q4), .second, .val (.long q5), .second, .val (.int (Int32.ofNat m8)), .val (.int s9), .val (.ref b10), .val (.ref b11), .val (.int (-1 : Int32))] [(.ref b11)])) rfl (by rw [hml]; rfl) (argsL := [(.ref b11)]) (rest := []) (lenOf pd_21 rfl) rfl (by show 2 * 0 + _ ≤ _; exact Nat.le_of_eq rfl) (hb hby at_331) rfl
                        obtain ⟨r1073, rfl, M1073, q1073, hR1073⟩ := hQ1073
                        obtain rfl : r1073 = -1 := hR1073.elim (fun x => absurd x.1 hP0) (fun x => x.elim (fun y => absurd y.2.1 hP1) (fun y => y.2.2))
                        rw [q1073] at e1073
                        have N1073 := Fr.app N1064 M1073
                        refine GoalH.step (T' := T1073) (g' := (mkF m 334 #[.val (.int p1), .val (.int p2), .val (.long q3), .second, .val (.long q4), .second, .val (.long q5), .second, .val (.int (Int32.ofNat m8)), .val (.int s9), .val (.ref b10), .val (.ref b11), .val (.int (-1 : Int32))] [(.int (-1 : Int32))])) ?_ st1073
                        refine GoalH.step (T' := T1073) (g' := (mkF m 336 #[.val (.int p1), .val (.int p2), .val (.long q3), .second, .val (.long q4), .second, .val (.long q5), .second, .val (.int (Int32.ofNat m8)), .val (.int s9), .val (.ref b10), .val (.ref b11), .val (.int (-1 : Int32))] [(.int (-1 : Int32)), (.int (-1 : Int32))])) ?_ (fun t k => XS.iload X1073.here hx rfl (hb hby at_334) rfl k)
                        refine GoalH.step (T' := T1073) (g' := (mkF m 339 #[.val (.int p1), .val (.int p2), .val (.long q3), .second, .val (.long q4), .second, .val (.long q5), .second, .val (.int (Int32.ofNat m8)), .val (.int s9), .val (.ref b10), .val (.ref b11), .val (.int (-1 : Int32))] [])) ?_ (fun t k => XS.icmpNo X1073.here hx rfl (hb hby at_336) rfl (teq (by decide)).2 k)
                        refine GoalH.step (T' := T1073) (g' := (mkF m 340 #[.val (.int p1), .val (.int p2), .val (.long q3), .second, .val (.long q4), .second, .val (.long q5), .second, .val (.int (Int32.ofNat m8)), .val (.int s9), .val (.ref b10), .val (.ref b11), .val (.int (-1 : Int32))] [(.int (1 : Int32))])) ?_ (fun t k => XS.iconst X1073.here hx rfl (hb hby at_339) k)
                        refine GoalH.step (T' := T1073) (g' := (mkF m 344 #[.val (.int p1), .val (.int p2), .val (.long q3), .second, .val (.long q4), .second, .val (.long q5), .second, .val (.int (Int32.ofNat m8)), .val (.int s9), .val (.ref b10), .val (.ref b11), .val (.int (-1 : Int32))] [(.int (1 : Int32))])) ?_ (fun t k => XS.goto X1073.here hx rfl (pc0 := 340) (pc' := 344) rfl (hb hby at_340) (by decide) (by decide) k)
                        refine GoalH.retN (t := .boolean) X1073 hS (by rw [e1073]; omega) hZ (own_EW hw) (by rw [e1073]; exact CH1001) hx hret (by simp) (hb hby at_344) ?_
                        exact ⟨⟨rfl, N1073⟩, by decide, by decide⟩
                    · refine GoalH.step (T' := T1064) (g' := (mkF m 329 #[.val (.int p1), .val (.int p2), .val (.long q3), .second, .val (.long q4), .second, .val (.long q5), .second, .val (.int (Int32.ofNat m8)), .val (.int s9), .val (.ref b10), .val (.ref b11), .val (.int (-1 : Int32))] [])) ?_ (fun t k => XS.icmpYes X1064.here hx rfl (pc0 := 312) (pc' := 329) rfl (hb hby at_312) rfl (feq c1068).2 (by decide) (by decide) k)
                      refine GoalH.step (T' := T1064) (g' := (mkF m 331 #[.val (.int p1), .val (.int p2), .val (.long q3), .second, .val (.long q4), .second, .val (.long q5), .second, .val (.int (Int32.ofNat m8)), .val (.int s9), .val (.ref b10), .val (.ref b11), .val (.int (-1 : Int32))] [(.ref b11)])) ?_ (fun t k => XS.aload X1064.here hx rfl (hb hby at_329) rfl rfl k)
                      have f1076 : Old Z n0 h1001 := (O0.ext E1001)
                      have hP0 : ¬ (7 ≤ m8 ∧ ∀ j, j < 7 → low ((ten c0 c1 c2 c3 c4 c5 c6 c7 c8 c9) j) = sch0 j) := fun q => c1016 ((own_sg c4 58 (by decide)).mp (q.2 4 (by decide)))
                      have hP1 : ¬ (8 ≤ m8 ∧ ∀ j, j < 8 → low ((ten c0 c1 c2 c3 c4 c5 c6 c7 c8 c9) j) = sch1 j) := fun q => c1068 ((own_sg c6 47 (by decide)).mp (q.2 6 (by decide)))
                      obtain ⟨v1075, T1075, h1075, L1075, X1075, e1075, hQ1075, st1075⟩ := callStatic X1064 hx hZ hown (hw _ (List.mem_of_getElem? (i := 34) rfl)) (hw _ (List.mem_of_getElem? (i := 35) rfl)) (hw _ (List.mem_of_getElem? (i := 36) rfl)) (hw _ (List.mem_of_getElem? (i := 37) rfl)) (by decide) (rmAS l Z a0 hw b11 m8 (ten c0 c1 c2 c3 c4 c5 c6 c7 c8 c9) ca u0 u1 kc cs fm h1001 n0 (by omega) SE f1076 S0 AV U0 U1 Z1001) e1064 (W := 0) (by decide) (by decide) (by decide) (by decide) (g := (mkF m 331 #[.val (.int p1), .val (.int p2), .val (.long q3), .second, .val (.long q4), .second, .val (.long q5), .second, .val (.int (Int32.ofNat m8)), .val (.int s9), .val (.ref b10), .val (.ref b11), .val (.int (-1 : Int32))] [(.ref b11)])) rfl (by rw [hml]; rfl) (argsL := [(.ref b11)]) (rest := []) (lenOf pd_21 rfl) rfl (by show 2 * 0 + _ ≤ _; exact Nat.le_of_eq rfl) (hb hby at_331) rfl
                      obtain ⟨r1075, rfl, M1075, q1075, hR1075⟩ := hQ1075
                      obtain rfl : r1075 = -1 := hR1075.elim (fun x => absurd x.1 hP0) (fun x => x.elim (fun y => absurd y.2.1 hP1) (fun y => y.2.2))
                      rw [q1075] at e1075
                      have N1075 := Fr.app N1064 M1075
                      refine GoalH.step (T' := T1075) (g' := (mkF m 334 #[.val (.int p1), .val (.int p2), .val (.long q3), .second, .val (.long q4), .second, .val (.long q5), .second, .val (.int (Int32.ofNat m8)), .val (.int s9), .val (.ref b10), .val (.ref b11), .val (.int (-1 : Int32))] [(.int (-1 : Int32))])) ?_ st1075
                      refine GoalH.step (T' := T1075) (g' := (mkF m 336 #[.val (.int p1), .val (.int p2), .val (.long q3), .second, .val (.long q4), .second, .val (.long q5), .second, .val (.int (Int32.ofNat m8)), .val (.int s9), .val (.ref b10), .val (.ref b11), .val (.int (-1 : Int32))] [(.int (-1 : Int32)), (.int (-1 : Int32))])) ?_ (fun t k => XS.iload X1075.here hx rfl (hb hby at_334) rfl k)
                      refine GoalH.step (T' := T1075) (g' := (mkF m 339 #[.val (.int p1), .val (.int p2), .val (.long q3), .second, .val (.long q4), .second, .val (.long q5), .second, .val (.int (Int32.ofNat m8)), .val (.int s9), .val (.ref b10), .val (.ref b11), .val (.int (-1 : Int32))] [])) ?_ (fun t k => XS.icmpNo X1075.here hx rfl (hb hby at_336) rfl (teq (by decide)).2 k)
                      refine GoalH.step (T' := T1075) (g' := (mkF m 340 #[.val (.int p1), .val (.int p2), .val (.long q3), .second, .val (.long q4), .second, .val (.long q5), .second, .val (.int (Int32.ofNat m8)), .val (.int s9), .val (.ref b10), .val (.ref b11), .val (.int (-1 : Int32))] [(.int (1 : Int32))])) ?_ (fun t k => XS.iconst X1075.here hx rfl (hb hby at_339) k)
                      refine GoalH.step (T' := T1075) (g' := (mkF m 344 #[.val (.int p1), .val (.int p2), .val (.long q3), .second, .val (.long q4), .second, .val (.long q5), .second, .val (.int (Int32.ofNat m8)), .val (.int s9), .val (.ref b10), .val (.ref b11), .val (.int (-1 : Int32))] [(.int (1 : Int32))])) ?_ (fun t k => XS.goto X1075.here hx rfl (pc0 := 340) (pc' := 344) rfl (hb hby at_340) (by decide) (by decide) k)
                      refine GoalH.retN (t := .boolean) X1075 hS (by rw [e1075]; omega) hZ (own_EW hw) (by rw [e1075]; exact CH1001) hx hret (by simp) (hb hby at_344) ?_
                      exact ⟨⟨rfl, N1075⟩, by decide, by decide⟩
                  · refine GoalH.step (T' := T1064) (g' := (mkF m 329 #[.val (.int p1), .val (.int p2), .val (.long q3), .second, .val (.long q4), .second, .val (.long q5), .second, .val (.int (Int32.ofNat m8)), .val (.int s9), .val (.ref b10), .val (.ref b11), .val (.int (-1 : Int32))] [])) ?_ (fun t k => XS.icmpYes X1064.here hx rfl (pc0 := 302) (pc' := 329) rfl (hb hby at_302) rfl (feq c1066).2 (by decide) (by decide) k)
                    refine GoalH.step (T' := T1064) (g' := (mkF m 331 #[.val (.int p1), .val (.int p2), .val (.long q3), .second, .val (.long q4), .second, .val (.long q5), .second, .val (.int (Int32.ofNat m8)), .val (.int s9), .val (.ref b10), .val (.ref b11), .val (.int (-1 : Int32))] [(.ref b11)])) ?_ (fun t k => XS.aload X1064.here hx rfl (hb hby at_329) rfl rfl k)
                    have f1078 : Old Z n0 h1001 := (O0.ext E1001)
                    have hP0 : ¬ (7 ≤ m8 ∧ ∀ j, j < 7 → low ((ten c0 c1 c2 c3 c4 c5 c6 c7 c8 c9) j) = sch0 j) := fun q => c1016 ((own_sg c4 58 (by decide)).mp (q.2 4 (by decide)))
                    have hP1 : ¬ (8 ≤ m8 ∧ ∀ j, j < 8 → low ((ten c0 c1 c2 c3 c4 c5 c6 c7 c8 c9) j) = sch1 j) := fun q => c1066 ((own_sg c5 58 (by decide)).mp (q.2 5 (by decide)))
                    obtain ⟨v1077, T1077, h1077, L1077, X1077, e1077, hQ1077, st1077⟩ := callStatic X1064 hx hZ hown (hw _ (List.mem_of_getElem? (i := 34) rfl)) (hw _ (List.mem_of_getElem? (i := 35) rfl)) (hw _ (List.mem_of_getElem? (i := 36) rfl)) (hw _ (List.mem_of_getElem? (i := 37) rfl)) (by decide) (rmAS l Z a0 hw b11 m8 (ten c0 c1 c2 c3 c4 c5 c6 c7 c8 c9) ca u0 u1 kc cs fm h1001 n0 (by omega) SE f1078 S0 AV U0 U1 Z1001) e1064 (W := 0) (by decide) (by decide) (by decide) (by decide) (g := (mkF m 331 #[.val (.int p1), .val (.int p2), .val (.long q3), .second, .val (.long q4), .second, .val (.long q5), .second, .val (.int (Int32.ofNat m8)), .val (.int s9), .val (.ref b10), .val (.ref b11), .val (.int (-1 : Int32))] [(.ref b11)])) rfl (by rw [hml]; rfl) (argsL := [(.ref b11)]) (rest := []) (lenOf pd_21 rfl) rfl (by show 2 * 0 + _ ≤ _; exact Nat.le_of_eq rfl) (hb hby at_331) rfl
                    obtain ⟨r1077, rfl, M1077, q1077, hR1077⟩ := hQ1077
                    obtain rfl : r1077 = -1 := hR1077.elim (fun x => absurd x.1 hP0) (fun x => x.elim (fun y => absurd y.2.1 hP1) (fun y => y.2.2))
                    rw [q1077] at e1077
                    have N1077 := Fr.app N1064 M1077
                    refine GoalH.step (T' := T1077) (g' := (mkF m 334 #[.val (.int p1), .val (.int p2), .val (.long q3), .second, .val (.long q4), .second, .val (.long q5), .second, .val (.int (Int32.ofNat m8)), .val (.int s9), .val (.ref b10), .val (.ref b11), .val (.int (-1 : Int32))] [(.int (-1 : Int32))])) ?_ st1077
                    refine GoalH.step (T' := T1077) (g' := (mkF m 336 #[.val (.int p1), .val (.int p2), .val (.long q3), .second, .val (.long q4), .second, .val (.long q5), .second, .val (.int (Int32.ofNat m8)), .val (.int s9), .val (.ref b10), .val (.ref b11), .val (.int (-1 : Int32))] [(.int (-1 : Int32)), (.int (-1 : Int32))])) ?_ (fun t k => XS.iload X1077.here hx rfl (hb hby at_334) rfl k)
                    refine GoalH.step (T' := T1077) (g' := (mkF m 339 #[.val (.int p1), .val (.int p2), .val (.long q3), .second, .val (.long q4), .second, .val (.long q5), .second, .val (.int (Int32.ofNat m8)), .val (.int s9), .val (.ref b10), .val (.ref b11), .val (.int (-1 : Int32))] [])) ?_ (fun t k => XS.icmpNo X1077.here hx rfl (hb hby at_336) rfl (teq (by decide)).2 k)
                    refine GoalH.step (T' := T1077) (g' := (mkF m 340 #[.val (.int p1), .val (.int p2), .val (.long q3), .second, .val (.long q4), .second, .val (.long q5), .second, .val (.int (Int32.ofNat m8)), .val (.int s9), .val (.ref b10), .val (.ref b11), .val (.int (-1 : Int32))] [(.int (1 : Int32))])) ?_ (fun t k => XS.iconst X1077.here hx rfl (hb hby at_339) k)
                    refine GoalH.step (T' := T1077) (g' := (mkF m 344 #[.val (.int p1), .val (.int p2), .val (.long q3), .second, .val (.long q4), .second, .val (.long q5), .second, .val (.int (Int32.ofNat m8)), .val (.int s9), .val (.ref b10), .val (.ref b11), .val (.int (-1 : Int32))] [(.int (1 : Int32))])) ?_ (fun t k => XS.goto X1077.here hx rfl (pc0 := 340) (pc' := 344) rfl (hb hby at_340) (by decide) (by decide) k)
                    refine GoalH.retN (t := .boolean) X1077 hS (by rw [e1077]; omega) hZ (own_EW hw) (by rw [e1077]; exact CH1001) hx hret (by simp) (hb hby at_344) ?_
                    exact ⟨⟨rfl, N1077⟩, by decide, by decide⟩
                · obtain ⟨v1079, T1079, h1079, L1079, X1079, e1079, hQ1079, st1079⟩ := callStatic X1014 hx hZ hown (hw _ (List.mem_of_getElem? (i := 84) rfl)) (hw _ (List.mem_of_getElem? (i := 85) rfl)) (hw _ (List.mem_of_getElem? (i := 4) rfl)) (hw _ (List.mem_of_getElem? (i := 86) rfl)) (by decide) (rmIS l Z a0 hw c4 (115 : Int32) (83 : Int32) h1001 n0 (by omega) ) e1014 (W := 0) (by decide) (by decide) (by decide) (by decide) (g := (mkF m 290 #[.val (.int p1), .val (.int p2), .val (.long q3), .second, .val (.long q4), .second, .val (.long q5), .second, .val (.int (Int32.ofNat m8)), .val (.int s9), .val (.ref b10), .val (.ref b11), .val (.int (-1 : Int32))] [(.int (83 : Int32)), (.int (115 : Int32)), (.int c4)])) rfl (by rw [hml]; rfl) (argsL := [(.int c4), (.int (115 : Int32)), (.int (83 : Int32))]) (rest := []) (lenOf pd_22 rfl) rfl (by show 2 * 0 + _ ≤ _; exact Nat.le_of_eq rfl) (hb hby at_290) rfl
                  obtain ⟨rfl, M1079, q1079⟩ := hQ1079.elim (fun x => absurd x.1 hI290) (fun x => x.2)
                  rw [q1079] at e1079
                  have N1079 := Fr.app N1014 M1079
                  refine GoalH.step (T' := T1079) (g' := (mkF m 293 #[.val (.int p1), .val (.int p2), .val (.long q3), .second, .val (.long q4), .second, .val (.long q5), .second, .val (.int (Int32.ofNat m8)), .val (.int s9), .val (.ref b10), .val (.ref b11), .val (.int (-1 : Int32))] [(.int (0 : Int32))])) ?_ st1079
                  refine GoalH.step (T' := T1079) (g' := (mkF m 329 #[.val (.int p1), .val (.int p2), .val (.long q3), .second, .val (.long q4), .second, .val (.long q5), .second, .val (.int (Int32.ofNat m8)), .val (.int s9), .val (.ref b10), .val (.ref b11), .val (.int (-1 : Int32))] [])) ?_ (fun t k => XS.ifYes X1079.here hx rfl (pc0 := 293) (pc' := 329) rfl (hb hby at_293) rfl ((if0 _ _).trans (teq (by decide)).1) (by decide) (by decide) k)
                  refine GoalH.step (T' := T1079) (g' := (mkF m 331 #[.val (.int p1), .val (.int p2), .val (.long q3), .second, .val (.long q4), .second, .val (.long q5), .second, .val (.int (Int32.ofNat m8)), .val (.int s9), .val (.ref b10), .val (.ref b11), .val (.int (-1 : Int32))] [(.ref b11)])) ?_ (fun t k => XS.aload X1079.here hx rfl (hb hby at_329) rfl rfl k)
                  have f1081 : Old Z n0 h1001 := (O0.ext E1001)
                  have hP0 : ¬ (7 ≤ m8 ∧ ∀ j, j < 7 → low ((ten c0 c1 c2 c3 c4 c5 c6 c7 c8 c9) j) = sch0 j) := fun q => c1016 ((own_sg c4 58 (by decide)).mp (q.2 4 (by decide)))
                  have hP1 : ¬ (8 ≤ m8 ∧ ∀ j, j < 8 → low ((ten c0 c1 c2 c3 c4 c5 c6 c7 c8 c9) j) = sch1 j) := fun q => hI290 ((own_lw c4 115 83 (by decide) (by decide)).mp (q.2 4 (by decide)))
                  obtain ⟨v1080, T1080, h1080, L1080, X1080, e1080, hQ1080, st1080⟩ := callStatic X1079 hx hZ hown (hw _ (List.mem_of_getElem? (i := 34) rfl)) (hw _ (List.mem_of_getElem? (i := 35) rfl)) (hw _ (List.mem_of_getElem? (i := 36) rfl)) (hw _ (List.mem_of_getElem? (i := 37) rfl)) (by decide) (rmAS l Z a0 hw b11 m8 (ten c0 c1 c2 c3 c4 c5 c6 c7 c8 c9) ca u0 u1 kc cs fm h1001 n0 (by omega) SE f1081 S0 AV U0 U1 Z1001) e1079 (W := 0) (by decide) (by decide) (by decide) (by decide) (g := (mkF m 331 #[.val (.int p1), .val (.int p2), .val (.long q3), .second, .val (.long q4), .second, .val (.long q5), .second, .val (.int (Int32.ofNat m8)), .val (.int s9), .val (.ref b10), .val (.ref b11), .val (.int (-1 : Int32))] [(.ref b11)])) rfl (by rw [hml]; rfl) (argsL := [(.ref b11)]) (rest := []) (lenOf pd_21 rfl) rfl (by show 2 * 0 + _ ≤ _; exact Nat.le_of_eq rfl) (hb hby at_331) rfl
                  obtain ⟨r1080, rfl, M1080, q1080, hR1080⟩ := hQ1080
                  obtain rfl : r1080 = -1 := hR1080.elim (fun x => absurd x.1 hP0) (fun x => x.elim (fun y => absurd y.2.1 hP1) (fun y => y.2.2))
                  rw [q1080] at e1080
                  have N1080 := Fr.app N1079 M1080
                  refine GoalH.step (T' := T1080) (g' := (mkF m 334 #[.val (.int p1), .val (.int p2), .val (.long q3), .second, .val (.long q4), .second, .val (.long q5), .second, .val (.int (Int32.ofNat m8)), .val (.int s9), .val (.ref b10), .val (.ref b11), .val (.int (-1 : Int32))] [(.int (-1 : Int32))])) ?_ st1080
                  refine GoalH.step (T' := T1080) (g' := (mkF m 336 #[.val (.int p1), .val (.int p2), .val (.long q3), .second, .val (.long q4), .second, .val (.long q5), .second, .val (.int (Int32.ofNat m8)), .val (.int s9), .val (.ref b10), .val (.ref b11), .val (.int (-1 : Int32))] [(.int (-1 : Int32)), (.int (-1 : Int32))])) ?_ (fun t k => XS.iload X1080.here hx rfl (hb hby at_334) rfl k)
                  refine GoalH.step (T' := T1080) (g' := (mkF m 339 #[.val (.int p1), .val (.int p2), .val (.long q3), .second, .val (.long q4), .second, .val (.long q5), .second, .val (.int (Int32.ofNat m8)), .val (.int s9), .val (.ref b10), .val (.ref b11), .val (.int (-1 : Int32))] [])) ?_ (fun t k => XS.icmpNo X1080.here hx rfl (hb hby at_336) rfl (teq (by decide)).2 k)
                  refine GoalH.step (T' := T1080) (g' := (mkF m 340 #[.val (.int p1), .val (.int p2), .val (.long q3), .second, .val (.long q4), .second, .val (.long q5), .second, .val (.int (Int32.ofNat m8)), .val (.int s9), .val (.ref b10), .val (.ref b11), .val (.int (-1 : Int32))] [(.int (1 : Int32))])) ?_ (fun t k => XS.iconst X1080.here hx rfl (hb hby at_339) k)
                  refine GoalH.step (T' := T1080) (g' := (mkF m 344 #[.val (.int p1), .val (.int p2), .val (.long q3), .second, .val (.long q4), .second, .val (.long q5), .second, .val (.int (Int32.ofNat m8)), .val (.int s9), .val (.ref b10), .val (.ref b11), .val (.int (-1 : Int32))] [(.int (1 : Int32))])) ?_ (fun t k => XS.goto X1080.here hx rfl (pc0 := 340) (pc' := 344) rfl (hb hby at_340) (by decide) (by decide) k)
                  refine GoalH.retN (t := .boolean) X1080 hS (by rw [e1080]; omega) hZ (own_EW hw) (by rw [e1080]; exact CH1001) hx hret (by simp) (hb hby at_344) ?_
                  exact ⟨⟨rfl, N1080⟩, by decide, by decide⟩
          · obtain ⟨v1082, T1082, h1082, L1082, X1082, e1082, hQ1082, st1082⟩ := callStatic X1012 hx hZ hown (hw _ (List.mem_of_getElem? (i := 84) rfl)) (hw _ (List.mem_of_getElem? (i := 85) rfl)) (hw _ (List.mem_of_getElem? (i := 4) rfl)) (hw _ (List.mem_of_getElem? (i := 86) rfl)) (by decide) (rmIS l Z a0 hw c3 (112 : Int32) (80 : Int32) h1001 n0 (by omega) ) e1012 (W := 0) (by decide) (by decide) (by decide) (by decide) (g := (mkF m 234 #[.val (.int p1), .val (.int p2), .val (.long q3), .second, .val (.long q4), .second, .val (.long q5), .second, .val (.int (Int32.ofNat m8)), .val (.int s9), .val (.ref b10), .val (.ref b11), .val (.int (-1 : Int32))] [(.int (80 : Int32)), (.int (112 : Int32)), (.int c3)])) rfl (by rw [hml]; rfl) (argsL := [(.int c3), (.int (112 : Int32)), (.int (80 : Int32))]) (rest := []) (lenOf pd_22 rfl) rfl (by show 2 * 0 + _ ≤ _; exact Nat.le_of_eq rfl) (hb hby at_234) rfl
            obtain ⟨rfl, M1082, q1082⟩ := hQ1082.elim (fun x => absurd x.1 hI234) (fun x => x.2)
            rw [q1082] at e1082
            have N1082 := Fr.app N1012 M1082
            refine GoalH.step (T' := T1082) (g' := (mkF m 237 #[.val (.int p1), .val (.int p2), .val (.long q3), .second, .val (.long q4), .second, .val (.long q5), .second, .val (.int (Int32.ofNat m8)), .val (.int s9), .val (.ref b10), .val (.ref b11), .val (.int (-1 : Int32))] [(.int (0 : Int32))])) ?_ st1082
            refine GoalH.step (T' := T1082) (g' := (mkF m 329 #[.val (.int p1), .val (.int p2), .val (.long q3), .second, .val (.long q4), .second, .val (.long q5), .second, .val (.int (Int32.ofNat m8)), .val (.int s9), .val (.ref b10), .val (.ref b11), .val (.int (-1 : Int32))] [])) ?_ (fun t k => XS.ifYes X1082.here hx rfl (pc0 := 237) (pc' := 329) rfl (hb hby at_237) rfl ((if0 _ _).trans (teq (by decide)).1) (by decide) (by decide) k)
            refine GoalH.step (T' := T1082) (g' := (mkF m 331 #[.val (.int p1), .val (.int p2), .val (.long q3), .second, .val (.long q4), .second, .val (.long q5), .second, .val (.int (Int32.ofNat m8)), .val (.int s9), .val (.ref b10), .val (.ref b11), .val (.int (-1 : Int32))] [(.ref b11)])) ?_ (fun t k => XS.aload X1082.here hx rfl (hb hby at_329) rfl rfl k)
            have f1084 : Old Z n0 h1001 := (O0.ext E1001)
            have hP0 : ¬ (7 ≤ m8 ∧ ∀ j, j < 7 → low ((ten c0 c1 c2 c3 c4 c5 c6 c7 c8 c9) j) = sch0 j) := fun q => hI234 ((own_lw c3 112 80 (by decide) (by decide)).mp (q.2 3 (by decide)))
            have hP1 : ¬ (8 ≤ m8 ∧ ∀ j, j < 8 → low ((ten c0 c1 c2 c3 c4 c5 c6 c7 c8 c9) j) = sch1 j) := fun q => hI234 ((own_lw c3 112 80 (by decide) (by decide)).mp (q.2 3 (by decide)))
            obtain ⟨v1083, T1083, h1083, L1083, X1083, e1083, hQ1083, st1083⟩ := callStatic X1082 hx hZ hown (hw _ (List.mem_of_getElem? (i := 34) rfl)) (hw _ (List.mem_of_getElem? (i := 35) rfl)) (hw _ (List.mem_of_getElem? (i := 36) rfl)) (hw _ (List.mem_of_getElem? (i := 37) rfl)) (by decide) (rmAS l Z a0 hw b11 m8 (ten c0 c1 c2 c3 c4 c5 c6 c7 c8 c9) ca u0 u1 kc cs fm h1001 n0 (by omega) SE f1084 S0 AV U0 U1 Z1001) e1082 (W := 0) (by decide) (by decide) (by decide) (by decide) (g := (mkF m 331 #[.val (.int p1), .val (.int p2), .val (.long q3), .second, .val (.long q4), .second, .val (.long q5), .second, .val (.int (Int32.ofNat m8)), .val (.int s9), .val (.ref b10), .val (.ref b11), .val (.int (-1 : Int32))] [(.ref b11)])) rfl (by rw [hml]; rfl) (argsL := [(.ref b11)]) (rest := []) (lenOf pd_21 rfl) rfl (by show 2 * 0 + _ ≤ _; exact Nat.le_of_eq rfl) (hb hby at_331) rfl
            obtain ⟨r1083, rfl, M1083, q1083, hR1083⟩ := hQ1083
            obtain rfl : r1083 = -1 := hR1083.elim (fun x => absurd x.1 hP0) (fun x => x.elim (fun y => absurd y.2.1 hP1) (fun y => y.2.2))
            rw [q1083] at e1083
            have N1083 := Fr.app N1082 M1083
            refine GoalH.step (T' := T1083) (g' := (mkF m 334 #[.val (.int p1), .val (.int p2), .val (.long q3), .second, .val (.long q4), .second, .val (.long q5), .second, .val (.int (Int32.ofNat m8)), .val (.int s9), .val (.ref b10), .val (.ref b11), .val (.int (-1 : Int32))] [(.int (-1 : Int32))])) ?_ st1083
            refine GoalH.step (T' := T1083) (g' := (mkF m 336 #[.val (.int p1), .val (.int p2), .val (.long q3), .second, .val (.long q4), .second, .val (.long q5), .second, .val (.int (Int32.ofNat m8)), .val (.int s9), .val (.ref b10), .val (.ref b11), .val (.int (-1 : Int32))] [(.int (-1 : Int32)), (.int (-1 : Int32))])) ?_ (fun t k => XS.iload X1083.here hx rfl (hb hby at_334) rfl k)
            refine GoalH.step (T' := T1083) (g' := (mkF m 339 #[.val (.int p1), .val (.int p2), .val (.long q3), .second, .val (.long q4), .second, .val (.long q5), .second, .val (.int (Int32.ofNat m8)), .val (.int s9), .val (.ref b10), .val (.ref b11), .val (.int (-1 : Int32))] [])) ?_ (fun t k => XS.icmpNo X1083.here hx rfl (hb hby at_336) rfl (teq (by decide)).2 k)
            refine GoalH.step (T' := T1083) (g' := (mkF m 340 #[.val (.int p1), .val (.int p2), .val (.long q3), .second, .val (.long q4), .second, .val (.long q5), .second, .val (.int (Int32.ofNat m8)), .val (.int s9), .val (.ref b10), .val (.ref b11), .val (.int (-1 : Int32))] [(.int (1 : Int32))])) ?_ (fun t k => XS.iconst X1083.here hx rfl (hb hby at_339) k)
            refine GoalH.step (T' := T1083) (g' := (mkF m 344 #[.val (.int p1), .val (.int p2), .val (.long q3), .second, .val (.long q4), .second, .val (.long q5), .second, .val (.int (Int32.ofNat m8)), .val (.int s9), .val (.ref b10), .val (.ref b11), .val (.int (-1 : Int32))] [(.int (1 : Int32))])) ?_ (fun t k => XS.goto X1083.here hx rfl (pc0 := 340) (pc' := 344) rfl (hb hby at_340) (by decide) (by decide) k)
            refine GoalH.retN (t := .boolean) X1083 hS (by rw [e1083]; omega) hZ (own_EW hw) (by rw [e1083]; exact CH1001) hx hret (by simp) (hb hby at_344) ?_
            exact ⟨⟨rfl, N1083⟩, by decide, by decide⟩
        · obtain ⟨v1085, T1085, h1085, L1085, X1085, e1085, hQ1085, st1085⟩ := callStatic X1010 hx hZ hown (hw _ (List.mem_of_getElem? (i := 84) rfl)) (hw _ (List.mem_of_getElem? (i := 85) rfl)) (hw _ (List.mem_of_getElem? (i := 4) rfl)) (hw _ (List.mem_of_getElem? (i := 86) rfl)) (by decide) (rmIS l Z a0 hw c2 (116 : Int32) (84 : Int32) h1001 n0 (by omega) ) e1010 (W := 0) (by decide) (by decide) (by decide) (by decide) (g := (mkF m 220 #[.val (.int p1), .val (.int p2), .val (.long q3), .second, .val (.long q4), .second, .val (.long q5), .second, .val (.int (Int32.ofNat m8)), .val (.int s9), .val (.ref b10), .val (.ref b11), .val (.int (-1 : Int32))] [(.int (84 : Int32)), (.int (116 : Int32)), (.int c2)])) rfl (by rw [hml]; rfl) (argsL := [(.int c2), (.int (116 : Int32)), (.int (84 : Int32))]) (rest := []) (lenOf pd_22 rfl) rfl (by show 2 * 0 + _ ≤ _; exact Nat.le_of_eq rfl) (hb hby at_220) rfl
          obtain ⟨rfl, M1085, q1085⟩ := hQ1085.elim (fun x => absurd x.1 hI220) (fun x => x.2)
          rw [q1085] at e1085
          have N1085 := Fr.app N1010 M1085
          refine GoalH.step (T' := T1085) (g' := (mkF m 223 #[.val (.int p1), .val (.int p2), .val (.long q3), .second, .val (.long q4), .second, .val (.long q5), .second, .val (.int (Int32.ofNat m8)), .val (.int s9), .val (.ref b10), .val (.ref b11), .val (.int (-1 : Int32))] [(.int (0 : Int32))])) ?_ st1085
          refine GoalH.step (T' := T1085) (g' := (mkF m 329 #[.val (.int p1), .val (.int p2), .val (.long q3), .second, .val (.long q4), .second, .val (.long q5), .second, .val (.int (Int32.ofNat m8)), .val (.int s9), .val (.ref b10), .val (.ref b11), .val (.int (-1 : Int32))] [])) ?_ (fun t k => XS.ifYes X1085.here hx rfl (pc0 := 223) (pc' := 329) rfl (hb hby at_223) rfl ((if0 _ _).trans (teq (by decide)).1) (by decide) (by decide) k)
          refine GoalH.step (T' := T1085) (g' := (mkF m 331 #[.val (.int p1), .val (.int p2), .val (.long q3), .second, .val (.long q4), .second, .val (.long q5), .second, .val (.int (Int32.ofNat m8)), .val (.int s9), .val (.ref b10), .val (.ref b11), .val (.int (-1 : Int32))] [(.ref b11)])) ?_ (fun t k => XS.aload X1085.here hx rfl (hb hby at_329) rfl rfl k)
          have f1087 : Old Z n0 h1001 := (O0.ext E1001)
          have hP0 : ¬ (7 ≤ m8 ∧ ∀ j, j < 7 → low ((ten c0 c1 c2 c3 c4 c5 c6 c7 c8 c9) j) = sch0 j) := fun q => hI220 ((own_lw c2 116 84 (by decide) (by decide)).mp (q.2 2 (by decide)))
          have hP1 : ¬ (8 ≤ m8 ∧ ∀ j, j < 8 → low ((ten c0 c1 c2 c3 c4 c5 c6 c7 c8 c9) j) = sch1 j) := fun q => hI220 ((own_lw c2 116 84 (by decide) (by decide)).mp (q.2 2 (by decide)))
          obtain ⟨v1086, T1086, h1086, L1086, X1086, e1086, hQ1086, st1086⟩ := callStatic X1085 hx hZ hown (hw _ (List.mem_of_getElem? (i := 34) rfl)) (hw _ (List.mem_of_getElem? (i := 35) rfl)) (hw _ (List.mem_of_getElem? (i := 36) rfl)) (hw _ (List.mem_of_getElem? (i := 37) rfl)) (by decide) (rmAS l Z a0 hw b11 m8 (ten c0 c1 c2 c3 c4 c5 c6 c7 c8 c9) ca u0 u1 kc cs fm h1001 n0 (by omega) SE f1087 S0 AV U0 U1 Z1001) e1085 (W := 0) (by decide) (by decide) (by decide) (by decide) (g := (mkF m 331 #[.val (.int p1), .val (.int p2), .val (.long q3), .second, .val (.long q4), .second, .val (.long q5), .second, .val (.int (Int32.ofNat m8)), .val (.int s9), .val (.ref b10), .val (.ref b11), .val (.int (-1 : Int32))] [(.ref b11)])) rfl (by rw [hml]; rfl) (argsL := [(.ref b11)]) (rest := []) (lenOf pd_21 rfl) rfl (by show 2 * 0 + _ ≤ _; exact Nat.le_of_eq rfl) (hb hby at_331) rfl
          obtain ⟨r1086, rfl, M1086, q1086, hR1086⟩ := hQ1086
          obtain rfl : r1086 = -1 := hR1086.elim (fun x => absurd x.1 hP0) (fun x => x.elim (fun y => absurd y.2.1 hP1) (fun y => y.2.2))
          rw [q1086] at e1086
          have N1086 := Fr.app N1085 M1086
          refine GoalH.step (T' := T1086) (g' := (mkF m 334 #[.val (.int p1), .val (.int p2), .val (.long q3), .second, .val (.long q4), .second, .val (.long q5), .second, .val (.int (Int32.ofNat m8)), .val (.int s9), .val (.ref b10), .val (.ref b11), .val (.int (-1 : Int32))] [(.int (-1 : Int32))])) ?_ st1086
          refine GoalH.step (T' := T1086) (g' := (mkF m 336 #[.val (.int p1), .val (.int p2), .val (.long q3), .second, .val (.long q4), .second, .val (.long q5), .second, .val (.int (Int32.ofNat m8)), .val (.int s9), .val (.ref b10), .val (.ref b11), .val (.int (-1 : Int32))] [(.int (-1 : Int32)), (.int (-1 : Int32))])) ?_ (fun t k => XS.iload X1086.here hx rfl (hb hby at_334) rfl k)
          refine GoalH.step (T' := T1086) (g' := (mkF m 339 #[.val (.int p1), .val (.int p2), .val (.long q3), .second, .val (.long q4), .second, .val (.long q5), .second, .val (.int (Int32.ofNat m8)), .val (.int s9), .val (.ref b10), .val (.ref b11), .val (.int (-1 : Int32))] [])) ?_ (fun t k => XS.icmpNo X1086.here hx rfl (hb hby at_336) rfl (teq (by decide)).2 k)
          refine GoalH.step (T' := T1086) (g' := (mkF m 340 #[.val (.int p1), .val (.int p2), .val (.long q3), .second, .val (.long q4), .second, .val (.long q5), .second, .val (.int (Int32.ofNat m8)), .val (.int s9), .val (.ref b10), .val (.ref b11), .val (.int (-1 : Int32))] [(.int (1 : Int32))])) ?_ (fun t k => XS.iconst X1086.here hx rfl (hb hby at_339) k)
          refine GoalH.step (T' := T1086) (g' := (mkF m 344 #[.val (.int p1), .val (.int p2), .val (.long q3), .second, .val (.long q4), .second, .val (.long q5), .second, .val (.int (Int32.ofNat m8)), .val (.int s9), .val (.ref b10), .val (.ref b11), .val (.int (-1 : Int32))] [(.int (1 : Int32))])) ?_ (fun t k => XS.goto X1086.here hx rfl (pc0 := 340) (pc' := 344) rfl (hb hby at_340) (by decide) (by decide) k)
          refine GoalH.retN (t := .boolean) X1086 hS (by rw [e1086]; omega) hZ (own_EW hw) (by rw [e1086]; exact CH1001) hx hret (by simp) (hb hby at_344) ?_
          exact ⟨⟨rfl, N1086⟩, by decide, by decide⟩
      · obtain ⟨v1088, T1088, h1088, L1088, X1088, e1088, hQ1088, st1088⟩ := callStatic X1008 hx hZ hown (hw _ (List.mem_of_getElem? (i := 84) rfl)) (hw _ (List.mem_of_getElem? (i := 85) rfl)) (hw _ (List.mem_of_getElem? (i := 4) rfl)) (hw _ (List.mem_of_getElem? (i := 86) rfl)) (by decide) (rmIS l Z a0 hw c1 (116 : Int32) (84 : Int32) h1001 n0 (by omega) ) e1008 (W := 0) (by decide) (by decide) (by decide) (by decide) (g := (mkF m 206 #[.val (.int p1), .val (.int p2), .val (.long q3), .second, .val (.long q4), .second, .val (.long q5), .second, .val (.int (Int32.ofNat m8)), .val (.int s9), .val (.ref b10), .val (.ref b11), .val (.int (-1 : Int32))] [(.int (84 : Int32)), (.int (116 : Int32)), (.int c1)])) rfl (by rw [hml]; rfl) (argsL := [(.int c1), (.int (116 : Int32)), (.int (84 : Int32))]) (rest := []) (lenOf pd_22 rfl) rfl (by show 2 * 0 + _ ≤ _; exact Nat.le_of_eq rfl) (hb hby at_206) rfl
        obtain ⟨rfl, M1088, q1088⟩ := hQ1088.elim (fun x => absurd x.1 hI206) (fun x => x.2)
        rw [q1088] at e1088
        have N1088 := Fr.app N1008 M1088
        refine GoalH.step (T' := T1088) (g' := (mkF m 209 #[.val (.int p1), .val (.int p2), .val (.long q3), .second, .val (.long q4), .second, .val (.long q5), .second, .val (.int (Int32.ofNat m8)), .val (.int s9), .val (.ref b10), .val (.ref b11), .val (.int (-1 : Int32))] [(.int (0 : Int32))])) ?_ st1088
        refine GoalH.step (T' := T1088) (g' := (mkF m 329 #[.val (.int p1), .val (.int p2), .val (.long q3), .second, .val (.long q4), .second, .val (.long q5), .second, .val (.int (Int32.ofNat m8)), .val (.int s9), .val (.ref b10), .val (.ref b11), .val (.int (-1 : Int32))] [])) ?_ (fun t k => XS.ifYes X1088.here hx rfl (pc0 := 209) (pc' := 329) rfl (hb hby at_209) rfl ((if0 _ _).trans (teq (by decide)).1) (by decide) (by decide) k)
        refine GoalH.step (T' := T1088) (g' := (mkF m 331 #[.val (.int p1), .val (.int p2), .val (.long q3), .second, .val (.long q4), .second, .val (.long q5), .second, .val (.int (Int32.ofNat m8)), .val (.int s9), .val (.ref b10), .val (.ref b11), .val (.int (-1 : Int32))] [(.ref b11)])) ?_ (fun t k => XS.aload X1088.here hx rfl (hb hby at_329) rfl rfl k)
        have f1090 : Old Z n0 h1001 := (O0.ext E1001)
        have hP0 : ¬ (7 ≤ m8 ∧ ∀ j, j < 7 → low ((ten c0 c1 c2 c3 c4 c5 c6 c7 c8 c9) j) = sch0 j) := fun q => hI206 ((own_lw c1 116 84 (by decide) (by decide)).mp (q.2 1 (by decide)))
        have hP1 : ¬ (8 ≤ m8 ∧ ∀ j, j < 8 → low ((ten c0 c1 c2 c3 c4 c5 c6 c7 c8 c9) j) = sch1 j) := fun q => hI206 ((own_lw c1 116 84 (by decide) (by decide)).mp (q.2 1 (by decide)))
        obtain ⟨v1089, T1089, h1089, L1089, X1089, e1089, hQ1089, st1089⟩ := callStatic X1088 hx hZ hown (hw _ (List.mem_of_getElem? (i := 34) rfl)) (hw _ (List.mem_of_getElem? (i := 35) rfl)) (hw _ (List.mem_of_getElem? (i := 36) rfl)) (hw _ (List.mem_of_getElem? (i := 37) rfl)) (by decide) (rmAS l Z a0 hw b11 m8 (ten c0 c1 c2 c3 c4 c5 c6 c7 c8 c9) ca u0 u1 kc cs fm h1001 n0 (by omega) SE f1090 S0 AV U0 U1 Z1001) e1088 (W := 0) (by decide) (by decide) (by decide) (by decide) (g := (mkF m 331 #[.val (.int p1), .val (.int p2), .val (.long q3), .second, .val (.long q4), .second, .val (.long q5), .second, .val (.int (Int32.ofNat m8)), .val (.int s9), .val (.ref b10), .val (.ref b11), .val (.int (-1 : Int32))] [(.ref b11)])) rfl (by rw [hml]; rfl) (argsL := [(.ref b11)]) (rest := []) (lenOf pd_21 rfl) rfl (by show 2 * 0 + _ ≤ _; exact Nat.le_of_eq rfl) (hb hby at_331) rfl
        obtain ⟨r1089, rfl, M1089, q1089, hR1089⟩ := hQ1089
        obtain rfl : r1089 = -1 := hR1089.elim (fun x => absurd x.1 hP0) (fun x => x.elim (fun y => absurd y.2.1 hP1) (fun y => y.2.2))
        rw [q1089] at e1089
        have N1089 := Fr.app N1088 M1089
        refine GoalH.step (T' := T1089) (g' := (mkF m 334 #[.val (.int p1), .val (.int p2), .val (.long q3), .second, .val (.long q4), .second, .val (.long q5), .second, .val (.int (Int32.ofNat m8)), .val (.int s9), .val (.ref b10), .val (.ref b11), .val (.int (-1 : Int32))] [(.int (-1 : Int32))])) ?_ st1089
        refine GoalH.step (T' := T1089) (g' := (mkF m 336 #[.val (.int p1), .val (.int p2), .val (.long q3), .second, .val (.long q4), .second, .val (.long q5), .second, .val (.int (Int32.ofNat m8)), .val (.int s9), .val (.ref b10), .val (.ref b11), .val (.int (-1 : Int32))] [(.int (-1 : Int32)), (.int (-1 : Int32))])) ?_ (fun t k => XS.iload X1089.here hx rfl (hb hby at_334) rfl k)
        refine GoalH.step (T' := T1089) (g' := (mkF m 339 #[.val (.int p1), .val (.int p2), .val (.long q3), .second, .val (.long q4), .second, .val (.long q5), .second, .val (.int (Int32.ofNat m8)), .val (.int s9), .val (.ref b10), .val (.ref b11), .val (.int (-1 : Int32))] [])) ?_ (fun t k => XS.icmpNo X1089.here hx rfl (hb hby at_336) rfl (teq (by decide)).2 k)
        refine GoalH.step (T' := T1089) (g' := (mkF m 340 #[.val (.int p1), .val (.int p2), .val (.long q3), .second, .val (.long q4), .second, .val (.long q5), .second, .val (.int (Int32.ofNat m8)), .val (.int s9), .val (.ref b10), .val (.ref b11), .val (.int (-1 : Int32))] [(.int (1 : Int32))])) ?_ (fun t k => XS.iconst X1089.here hx rfl (hb hby at_339) k)
        refine GoalH.step (T' := T1089) (g' := (mkF m 344 #[.val (.int p1), .val (.int p2), .val (.long q3), .second, .val (.long q4), .second, .val (.long q5), .second, .val (.int (Int32.ofNat m8)), .val (.int s9), .val (.ref b10), .val (.ref b11), .val (.int (-1 : Int32))] [(.int (1 : Int32))])) ?_ (fun t k => XS.goto X1089.here hx rfl (pc0 := 340) (pc' := 344) rfl (hb hby at_340) (by decide) (by decide) k)
        refine GoalH.retN (t := .boolean) X1089 hS (by rw [e1089]; omega) hZ (own_EW hw) (by rw [e1089]; exact CH1001) hx hret (by simp) (hb hby at_344) ?_
        exact ⟨⟨rfl, N1089⟩, by decide, by decide⟩
    · obtain ⟨v1091, T1091, h1091, L1091, X1091, e1091, hQ1091, st1091⟩ := callStatic X1001 hx hZ hown (hw _ (List.mem_of_getElem? (i := 84) rfl)) (hw _ (List.mem_of_getElem? (i := 85) rfl)) (hw _ (List.mem_of_getElem? (i := 4) rfl)) (hw _ (List.mem_of_getElem? (i := 86) rfl)) (by decide) (rmIS l Z a0 hw c0 (104 : Int32) (72 : Int32) h1001 n0 (by omega) ) e1001 (W := 0) (by decide) (by decide) (by decide) (by decide) (g := (mkF m 192 #[.val (.int p1), .val (.int p2), .val (.long q3), .second, .val (.long q4), .second, .val (.long q5), .second, .val (.int (Int32.ofNat m8)), .val (.int s9), .val (.ref b10), .val (.ref b11), .val (.int (-1 : Int32))] [(.int (72 : Int32)), (.int (104 : Int32)), (.int c0)])) rfl (by rw [hml]; rfl) (argsL := [(.int c0), (.int (104 : Int32)), (.int (72 : Int32))]) (rest := []) (lenOf pd_22 rfl) rfl (by show 2 * 0 + _ ≤ _; exact Nat.le_of_eq rfl) (hb hby at_192) rfl
      obtain ⟨rfl, M1091, q1091⟩ := hQ1091.elim (fun x => absurd x.1 hI192) (fun x => x.2)
      rw [q1091] at e1091
      have N1091 := Fr.app N1001 M1091
      refine GoalH.step (T' := T1091) (g' := (mkF m 195 #[.val (.int p1), .val (.int p2), .val (.long q3), .second, .val (.long q4), .second, .val (.long q5), .second, .val (.int (Int32.ofNat m8)), .val (.int s9), .val (.ref b10), .val (.ref b11), .val (.int (-1 : Int32))] [(.int (0 : Int32))])) ?_ st1091
      refine GoalH.step (T' := T1091) (g' := (mkF m 329 #[.val (.int p1), .val (.int p2), .val (.long q3), .second, .val (.long q4), .second, .val (.long q5), .second, .val (.int (Int32.ofNat m8)), .val (.int s9), .val (.ref b10), .val (.ref b11), .val (.int (-1 : Int32))] [])) ?_ (fun t k => XS.ifYes X1091.here hx rfl (pc0 := 195) (pc' := 329) rfl (hb hby at_195) rfl ((if0 _ _).trans (teq (by decide)).1) (by decide) (by decide) k)
      refine GoalH.step (T' := T1091) (g' := (mkF m 331 #[.val (.int p1), .val (.int p2), .val (.long q3), .second, .val (.long q4), .second, .val (.long q5), .second, .val (.int (Int32.ofNat m8)), .val (.int s9), .val (.ref b10), .val (.ref b11), .val (.int (-1 : Int32))] [(.ref b11)])) ?_ (fun t k => XS.aload X1091.here hx rfl (hb hby at_329) rfl rfl k)
      have f1093 : Old Z n0 h1001 := (O0.ext E1001)
      have hP0 : ¬ (7 ≤ m8 ∧ ∀ j, j < 7 → low ((ten c0 c1 c2 c3 c4 c5 c6 c7 c8 c9) j) = sch0 j) := fun q => hI192 ((own_lw c0 104 72 (by decide) (by decide)).mp (q.2 0 (by decide)))
      have hP1 : ¬ (8 ≤ m8 ∧ ∀ j, j < 8 → low ((ten c0 c1 c2 c3 c4 c5 c6 c7 c8 c9) j) = sch1 j) := fun q => hI192 ((own_lw c0 104 72 (by decide) (by decide)).mp (q.2 0 (by decide)))
      obtain ⟨v1092, T1092, h1092, L1092, X1092, e1092, hQ1092, st1092⟩ := callStatic X1091 hx hZ hown (hw _ (List.mem_of_getElem? (i := 34) rfl)) (hw _ (List.mem_of_getElem? (i := 35) rfl)) (hw _ (List.mem_of_getElem? (i := 36) rfl)) (hw _ (List.mem_of_getElem? (i := 37) rfl)) (by decide) (rmAS l Z a0 hw b11 m8 (ten c0 c1 c2 c3 c4 c5 c6 c7 c8 c9) ca u0 u1 kc cs fm h1001 n0 (by omega) SE f1093 S0 AV U0 U1 Z1001) e1091 (W := 0) (by decide) (by decide) (by decide) (by decide) (g := (mkF m 331 #[.val (.int p1), .val (.int p2), .val (.long q3), .second, .val (.long q4), .second, .val (.long q5), .second, .val (.int (Int32.ofNat m8)), .val (.int s9), .val (.ref b10), .val (.ref b11), .val (.int (-1 : Int32))] [(.ref b11)])) rfl (by rw [hml]; rfl) (argsL := [(.ref b11)]) (rest := []) (lenOf pd_21 rfl) rfl (by show 2 * 0 + _ ≤ _; exact Nat.le_of_eq rfl) (hb hby at_331) rfl
      obtain ⟨r1092, rfl, M1092, q1092, hR1092⟩ := hQ1092
      obtain rfl : r1092 = -1 := hR1092.elim (fun x => absurd x.1 hP0) (fun x => x.elim (fun y => absurd y.2.1 hP1) (fun y => y.2.2))
      rw [q1092] at e1092
      have N1092 := Fr.app N1091 M1092
      refine GoalH.step (T' := T1092) (g' := (mkF m 334 #[.val (.int p1), .val (.int p2), .val (.long q3), .second, .val (.long q4), .second, .val (.long q5), .second, .val (.int (Int32.ofNat m8)), .val (.int s9), .val (.ref b10), .val (.ref b11), .val (.int (-1 : Int32))] [(.int (-1 : Int32))])) ?_ st1092
      refine GoalH.step (T' := T1092) (g' := (mkF m 336 #[.val (.int p1), .val (.int p2), .val (.long q3), .second, .val (.long q4), .second, .val (.long q5), .second, .val (.int (Int32.ofNat m8)), .val (.int s9), .val (.ref b10), .val (.ref b11), .val (.int (-1 : Int32))] [(.int (-1 : Int32)), (.int (-1 : Int32))])) ?_ (fun t k => XS.iload X1092.here hx rfl (hb hby at_334) rfl k)
      refine GoalH.step (T' := T1092) (g' := (mkF m 339 #[.val (.int p1), .val (.int p2), .val (.long q3), .second, .val (.long q4), .second, .val (.long q5), .second, .val (.int (Int32.ofNat m8)), .val (.int s9), .val (.ref b10), .val (.ref b11), .val (.int (-1 : Int32))] [])) ?_ (fun t k => XS.icmpNo X1092.here hx rfl (hb hby at_336) rfl (teq (by decide)).2 k)
      refine GoalH.step (T' := T1092) (g' := (mkF m 340 #[.val (.int p1), .val (.int p2), .val (.long q3), .second, .val (.long q4), .second, .val (.long q5), .second, .val (.int (Int32.ofNat m8)), .val (.int s9), .val (.ref b10), .val (.ref b11), .val (.int (-1 : Int32))] [(.int (1 : Int32))])) ?_ (fun t k => XS.iconst X1092.here hx rfl (hb hby at_339) k)
      refine GoalH.step (T' := T1092) (g' := (mkF m 344 #[.val (.int p1), .val (.int p2), .val (.long q3), .second, .val (.long q4), .second, .val (.long q5), .second, .val (.int (Int32.ofNat m8)), .val (.int s9), .val (.ref b10), .val (.ref b11), .val (.int (-1 : Int32))] [(.int (1 : Int32))])) ?_ (fun t k => XS.goto X1092.here hx rfl (pc0 := 340) (pc' := 344) rfl (hb hby at_340) (by decide) (by decide) k)
      refine GoalH.retN (t := .boolean) X1092 hS (by rw [e1092]; omega) hZ (own_EW hw) (by rw [e1092]; exact CH1001) hx hret (by simp) (hb hby at_344) ?_
      exact ⟨⟨rfl, N1092⟩, by decide, by decide⟩
theorem pd_23 : parseMethodDescriptor "(IIZJ)C" = some ⟨[.int, .int, .boolean, .long], some .char⟩ := by decide +kernel
set_option maxRecDepth 65536 in
set_option maxHeartbeats 40000000 in
theorem seg25 {p : Program} {l : Launch} {e : Env} {s : State} {m : MethodId} {args : Array Value} {below : List Frame} {meth : Method} {c : Code} {Z : State} {a0 : Array Value} {T0 : State} {locs : List Loc} {vm0 : Vm} {k0 : Nat} (hw : ∀ d ∈ tables_1, d.before a0 Z = true) (C0 : Ctx p s m meth c Z code maxLocals ret x.cls x.name) (p1 p2 : Int32) (q3 q4 q5 : Int64) (m8 : Nat) (s9 : Int32) (hB : Heap) (ca u0 u1 : Nat) (kc : ClassId) (cs : Int32) (fm : Value) (h0 : Heap) (n0 : Nat) (Z0 : n0 ≤ h0.size) (X0 : Stand p l e room_1 (s.setVm vm0) m args below meth c T0 locs 0 0) (hS : s.Since vm0 k0) (hk : k0 ≤ h0.size) (hZ : Z.Warmed39 vm0) (hown : vm0.findClass "com/example/gids/gids/LocRuleAuthorityStartPinLaw" = some m.cls) (e0 : T0.heap = h0) (N0 : Fr n0 locs) (CH0 : CHr Z consts_1 s.vm hB vm0 h0) (SE : SEnv Z cs fm) (O0 : Old Z n0 h0) (S0 : Sta Z Z.heap "com/example/gids/gids/LocRule" "SCHEMES" "[Ljava/lang/String;" (.ref ca)) (AV : Arv Z Z.heap ca kc (.object "java/lang/String") (2 : Int32) [.ref u0, .ref u1] .null) (U0 : Str Z Z.heap u0 7 sch0) (U1 : Str Z Z.heap u1 8 sch1) (hm : m8 ≤ 10) :
    GoalH Z consts_1 hB p l e room_1 s m args below meth c (In room_1 (fun v h L => v = some (.int 1) ∧ Fr n0 L)) T0 (mkF m 25 #[.val (.int p1), .val (.int p2), .val (.long q3), .second, .val (.long q4), .second, .val (.long q5), .second, .val (.int (Int32.ofNat m8)), .val (.int s9), .unset, .unset, .unset] []) := by
  have C := C0
  obtain ⟨hx, -, hby, hml, hret, -, hnm⟩ := C
  have hret : meth.sig.returnType = (some .boolean) := hret
  refine GoalH.step (T' := T0) (g' := (mkF m 27 #[.val (.int p1), .val (.int p2), .val (.long q3), .second, .val (.long q4), .second, .val (.long q5), .second, .val (.int (Int32.ofNat m8)), .val (.int s9), .unset, .unset, .unset] [(.int (Int32.ofNat 10))])) ?_ (fun t k => XS.bipush X0.here hx rfl (hb hby at_25) k)
  obtain ⟨T1001, h1001, k1001, X1001, e1001, E1001, A1001, st1001⟩ := newP X0 hx hZ (hw _ (List.mem_of_getElem? (i := 1) rfl)) e0 (g := (mkF m 27 #[.val (.int p1), .val (.int p2), .val (.long q3), .second, .val (.long q4), .second, .val (.long q5), .second, .val (.int (Int32.ofNat m8)), .val (.int s9), .unset, .unset, .unset] [(.int (Int32.ofNat 10))])) rfl (hb hby at_27) rfl (by decide) (cap := 10) (by decide) (by decide) (by decide) (by decide)
  obtain ⟨b1001, g1001⟩ : ∃ z, z = h0.size := ⟨_, rfl⟩
  rw [← g1001] at A1001 st1001
  refine GoalH.step (T' := T1001) (g' := (mkF m 29 #[.val (.int p1), .val (.int p2), .val (.long q3), .second, .val (.long q4), .second, .val (.long q5), .second, .val (.int (Int32.ofNat m8)), .val (.int s9), .unset, .unset, .unset] [(.ref b1001)])) ?_ st1001
  have sz1002 : h0.size ≤ h1001.size := E1001.1
  have lt_b1001 : b1001 < h1001.size := A1001.lt
  have V1001 : Arf Z h1001 b1001 k1001 .char 10 (fun _ => 0) := Arf.new A1001 rfl rfl
  refine GoalH.step (T' := T1001) (g' := (mkF m 31 #[.val (.int p1), .val (.int p2), .val (.long q3), .second, .val (.long q4), .second, .val (.long q5), .second, .val (.int (Int32.ofNat m8)), .val (.int s9), .val (.ref b1001), .unset, .unset] [])) ?_ (fun t k => XS.astore X1001.here hx rfl (hb hby at_29) rfl rfl (l' := #[.val (.int p1), .val (.int p2), .val (.long q3), .second, .val (.long q4), .second, .val (.long q5), .second, .val (.int (Int32.ofNat m8)), .val (.int s9), .val (.ref b1001), .unset, .unset]) rfl k)
  refine GoalH.step (T' := T1001) (g' := (mkF m 33 #[.val (.int p1), .val (.int p2), .val (.long q3), .second, .val (.long q4), .second, .val (.long q5), .second, .val (.int (Int32.ofNat m8)), .val (.int s9), .val (.ref b1001), .unset, .unset] [(.ref b1001)])) ?_ (fun t k => XS.aload X1001.here hx rfl (hb hby at_31) rfl rfl k)
  refine GoalH.step (T' := T1001) (g' := (mkF m 34 #[.val (.int p1), .val (.int p2), .val (.long q3), .second, .val (.long q4), .second, .val (.long q5), .second, .val (.int (Int32.ofNat m8)), .val (.int s9), .val (.ref b1001), .unset, .unset] [(.int (Int32.ofNat 0)), (.ref b1001)])) ?_ (fun t k => XS.iconst X1001.here hx rfl (hb hby at_33) k)
  refine GoalH.step (T' := T1001) (g' := (mkF m 35 #[.val (.int p1), .val (.int p2), .val (.long q3), .second, .val (.long q4), .second, .val (.long q5), .second, .val (.int (Int32.ofNat m8)), .val (.int s9), .val (.ref b1001), .unset, .unset] [(.int (0 : Int32)), (.int (Int32.ofNat 0)), (.ref b1001)])) ?_ (fun t k => XS.iconst X1001.here hx rfl (hb hby at_34) k)
  refine GoalH.step (T' := T1001) (g' := (mkF m 36 #[.val (.int p1), .val (.int p2), .val (.long q3), .second, .val (.long q4), .second, .val (.long q5), .second, .val (.int (Int32.ofNat m8)), .val (.int s9), .val (.ref b1001), .unset, .unset] [(.int p2), (.int (0 : Int32)), (.int (Int32.ofNat 0)), (.ref b1001)])) ?_ (fun t k => XS.iloadN X1001.here hx rfl (hb hby at_35) rfl k)
  refine GoalH.step (T' := T1001) (g' := (mkF m 38 #[.val (.int p1), .val (.int p2), .val (.long q3), .second, .val (.long q4), .second, .val (.long q5), .second, .val (.int (Int32.ofNat m8)), .val (.int s9), .val (.ref b1001), .unset, .unset] [(.int s9), (.int p2), (.int (0 : Int32)), (.int (Int32.ofNat 0)), (.ref b1001)])) ?_ (fun t k => XS.iload X1001.here hx rfl (hb hby at_36) rfl k)
  refine GoalH.step (T' := T1001) (g' := (mkF m 39 #[.val (.int p1), .val (.int p2), .val (.long q3), .second, .val (.long q4), .second, .val (.long q5), .second, .val (.int (Int32.ofNat m8)), .val (.int s9), .val (.ref b1001), .unset, .unset] [(.long q3), (.int s9), (.int p2), (.int (0 : Int32)), (.int (Int32.ofNat 0)), (.ref b1001)])) ?_ (fun t k => XS.lloadN X1001.here hx rfl (hb hby at_38) rfl k)
  obtain ⟨v1003, T1003, h1003, L1003, X1003, e1003, hQ1003, st1003⟩ := callStatic X1001 hx hZ hown (hw _ (List.mem_of_getElem? (i := 2) rfl)) (hw _ (List.mem_of_getElem? (i := 3) rfl)) (hw _ (List.mem_of_getElem? (i := 4) rfl)) (hw _ (List.mem_of_getElem? (i := 5) rfl)) (by decide) (rmPK l Z a0 hw (0 : Int32) p2 s9 q3 h1001 n0 (by omega)) e1001 (W := 2) (by decide) (by decide) (by decide) (by decide) (g := (mkF m 39 #[.val (.int p1), .val (.int p2), .val (.long q3), .second, .val (.long q4), .second, .val (.long q5), .second, .val (.int (Int32.ofNat m8)), .val (.int s9), .val (.ref b1001), .unset, .unset] [(.long q3), (.int s9), (.int p2), (.int (0 : Int32)), (.int (Int32.ofNat 0)), (.ref b1001)])) rfl (by rw [hml]; rfl) (argsL := [(.int (0 : Int32)), (.int p2), (.int s9), (.long q3)]) (rest := [(.int (Int32.ofNat 0)), (.ref b1001)]) (lenOf pd_23 rfl) rfl (by show 2 * 0 + _ ≤ _; exact Nat.le_of_eq rfl) (hb hby at_39) rfl
  obtain ⟨c0, rfl, r0, M1003, q1003⟩ := hQ1003
  rw [q1003] at e1003
  have N1003 := Fr.app N0 M1003
  refine GoalH.step (T' := T1003) (g' := (mkF m 42 #[.val (.int p1), .val (.int p2), .val (.long q3), .second, .val (.long q4), .second, .val (.long q5), .second, .val (.int (Int32.ofNat m8)), .val (.int s9), .val (.ref b1001), .unset, .unset] [(.int c0), (.int (Int32.ofNat 0)), (.ref b1001)])) ?_ st1003
  obtain ⟨cl1004, Ar1004, q1004, S1004, H1004⟩ := (id V1001)
  have hlt1004 : 0 < 10 := by omega
  have hn1004 : 10 < 2 ^ 31 := by omega
  have hin1004 : ¬ ((Int32.ofNat 0) < 0 ∨ cl1004.slots.size ≤ ((Int32.ofNat 0)).toNatClampNeg) := nat_inb S1004 hlt1004 hn1004
  obtain ⟨T1004, h1004, X1004, e1004, W1004, st1004⟩ := stC X1003 hx hZ e1003 Ar1004 (j := (Int32.ofNat 0)) hin1004 (g := (mkF m 42 #[.val (.int p1), .val (.int p2), .val (.long q3), .second, .val (.long q4), .second, .val (.long q5), .second, .val (.int (Int32.ofNat m8)), .val (.int s9), .val (.ref b1001), .unset, .unset] [(.int c0), (.int (Int32.ofNat 0)), (.ref b1001)])) rfl rfl (hb hby at_42)
  rw [nat_clamp (show 0 < 2 ^ 31 by omega)] at W1004 X1004
  refine GoalH.step (T' := T1004) (g' := (mkF m 43 #[.val (.int p1), .val (.int p2), .val (.long q3), .second, .val (.long q4), .second, .val (.long q5), .second, .val (.int (Int32.ofNat m8)), .val (.int s9), .val (.ref b1001), .unset, .unset] [])) ?_ st1004
  have sz1005 : h1001.size ≤ h1004.size := Nat.le_of_eq W1004.size.symm
  have V1004 : Arf Z h1004 b1001 k1001 .char 10 (fun z => if z = 0 then (nar .char c0) else ((fun _ => 0)) z) := Arf.set Ar1004 q1004 S1004 H1004 W1004
  have N1004 := Fr.snoc X1004 N1003 (by omega : n0 ≤ b1001)
  refine GoalH.step (T' := T1004) (g' := (mkF m 45 #[.val (.int p1), .val (.int p2), .val (.long q3), .second, .val (.long q4), .second, .val (.long q5), .second, .val (.int (Int32.ofNat m8)), .val (.int s9), .val (.ref b1001), .unset, .unset] [(.ref b1001)])) ?_ (fun t k => XS.aload X1004.here hx rfl (hb hby at_43) rfl rfl k)
  refine GoalH.step (T' := T1004) (g' := (mkF m 46 #[.val (.int p1), .val (.int p2), .val (.long q3), .second, .val (.long q4), .second, .val (.long q5), .second, .val (.int (Int32.ofNat m8)), .val (.int s9), .val (.ref b1001), .unset, .unset] [(.int (Int32.ofNat 1)), (.ref b1001)])) ?_ (fun t k => XS.iconst X1004.here hx rfl (hb hby at_45) k)
  refine GoalH.step (T' := T1004) (g' := (mkF m 47 #[.val (.int p1), .val (.int p2), .val (.long q3), .second, .val (.long q4), .second, .val (.long q5), .second, .val (.int (Int32.ofNat m8)), .val (.int s9), .val (.ref b1001), .unset, .unset] [(.int (1 : Int32)), (.int (Int32.ofNat 1)), (.ref b1001)])) ?_ (fun t k => XS.iconst X1004.here hx rfl (hb hby at_46) k)
  refine GoalH.step (T' := T1004) (g' := (mkF m 48 #[.val (.int p1), .val (.int p2), .val (.long q3), .second, .val (.long q4), .second, .val (.long q5), .second, .val (.int (Int32.ofNat m8)), .val (.int s9), .val (.ref b1001), .unset, .unset] [(.int p2), (.int (1 : Int32)), (.int (Int32.ofNat 1)), (.ref b1001)])) ?_ (fun t k => XS.iloadN X1004.here hx rfl (hb hby at_47) rfl k)
  refine GoalH.step (T' := T1004) (g' := (mkF m 50 #[.val (.int p1), .val (.int p2), .val (.long q3), .second, .val (.long q4), .second, .val (.long q5), .second, .val (.int (Int32.ofNat m8)), .val (.int s9), .val (.ref b1001), .unset, .unset] [(.int s9), (.int p2), (.int (1 : Int32)), (.int (Int32.ofNat 1)), (.ref b1001)])) ?_ (fun t k => XS.iload X1004.here hx rfl (hb hby at_48) rfl k)
  refine GoalH.step (T' := T1004) (g' := (mkF m 51 #[.val (.int p1), .val (.int p2), .val (.long q3), .second, .val (.long q4), .second, .val (.long q5), .second, .val (.int (Int32.ofNat m8)), .val (.int s9), .val (.ref b1001), .unset, .unset] [(.long q3), (.int s9), (.int p2), (.int (1 : Int32)), (.int (Int32.ofNat 1)), (.ref b1001)])) ?_ (fun t k => XS.lloadN X1004.here hx rfl (hb hby at_50) rfl k)
  obtain ⟨v1006, T1006, h1006, L1006, X1006, e1006, hQ1006, st1006⟩ := callStatic X1004 hx hZ hown (hw _ (List.mem_of_getElem? (i := 2) rfl)) (hw _ (List.mem_of_getElem? (i := 3) rfl)) (hw _ (List.mem_of_getElem? (i := 4) rfl)) (hw _ (List.mem_of_getElem? (i := 5) rfl)) (by decide) (rmPK l Z a0 hw (1 : Int32) p2 s9 q3 h1004 n0 (by omega)) e1004 (W := 2) (by decide) (by decide) (by decide) (by decide) (g := (mkF m 51 #[.val (.int p1), .val (.int p2), .val (.long q3), .second, .val (.long q4), .second, .val (.long q5), .second, .val (.int (Int32.ofNat m8)), .val (.int s9), .val (.ref b1001), .unset, .unset] [(.long q3), (.int s9), (.int p2), (.int (1 : Int32)), (.int (Int32.ofNat 1)), (.ref b1001)])) rfl (by rw [hml]; rfl) (argsL := [(.int (1 : Int32)), (.int p2), (.int s9), (.long q3)]) (rest := [(.int (Int32.ofNat 1)), (.ref b1001)]) (lenOf pd_23 rfl) rfl (by show 2 * 0 + _ ≤ _; exact Nat.le_of_eq rfl) (hb hby at_51) rfl
  obtain ⟨c1, rfl, r1, M1006, q1006⟩ := hQ1006
  rw [q1006] at e1006
  have N1006 := Fr.app N1004 M1006
  refine GoalH.step (T' := T1006) (g' := (mkF m 54 #[.val (.int p1), .val (.int p2), .val (.long q3), .second, .val (.long q4), .second, .val (.long q5), .second, .val (.int (Int32.ofNat m8)), .val (.int s9), .val (.ref b1001), .unset, .unset] [(.int c1), (.int (Int32.ofNat 1)), (.ref b1001)])) ?_ st1006
  obtain ⟨cl1007, Ar1007, q1007, S1007, H1007⟩ := (id V1004)
  have hlt1007 : 1 < 10 := by omega
  have hn1007 : 10 < 2 ^ 31 := by omega
  have hin1007 : ¬ ((Int32.ofNat 1) < 0 ∨ cl1007.slots.size ≤ ((Int32.ofNat 1)).toNatClampNeg) := nat_inb S1007 hlt1007 hn1007
  obtain ⟨T1007, h1007, X1007, e1007, W1007, st1007⟩ := stC X1006 hx hZ e1006 Ar1007 (j := (Int32.ofNat 1)) hin1007 (g := (mkF m 54 #[.val (.int p1), .val (.int p2), .val (.long q3), .second, .val (.long q4), .second, .val (.long q5), .second, .val (.int (Int32.ofNat m8)), .val (.int s9), .val (.ref b1001), .unset, .unset] [(.int c1), (.int (Int32.ofNat 1)), (.ref b1001)])) rfl rfl (hb hby at_54)
  rw [nat_clamp (show 1 < 2 ^ 31 by omega)] at W1007 X1007
  refine GoalH.step (T' := T1007) (g' := (mkF m 55 #[.val (.int p1), .val (.int p2), .val (.long q3), .second, .val (.long q4), .second, .val (.long q5), .second, .val (.int (Int32.ofNat m8)), .val (.int s9), .val (.ref b1001), .unset, .unset] [])) ?_ st1007
  have sz1008 : h1004.size ≤ h1007.size := Nat.le_of_eq W1007.size.symm
  have V1007 : Arf Z h1007 b1001 k1001 .char 10 (fun z => if z = 1 then (nar .char c1) else ((fun z => if z = 0 then (nar .char c0) else ((fun _ => 0)) z)) z) := Arf.set Ar1007 q1007 S1007 H1007 W1007
  have N1007 := Fr.snoc X1007 N1006 (by omega : n0 ≤ b1001)
  refine GoalH.step (T' := T1007) (g' := (mkF m 57 #[.val (.int p1), .val (.int p2), .val (.long q3), .second, .val (.long q4), .second, .val (.long q5), .second, .val (.int (Int32.ofNat m8)), .val (.int s9), .val (.ref b1001), .unset, .unset] [(.ref b1001)])) ?_ (fun t k => XS.aload X1007.here hx rfl (hb hby at_55) rfl rfl k)
  refine GoalH.step (T' := T1007) (g' := (mkF m 58 #[.val (.int p1), .val (.int p2), .val (.long q3), .second, .val (.long q4), .second, .val (.long q5), .second, .val (.int (Int32.ofNat m8)), .val (.int s9), .val (.ref b1001), .unset, .unset] [(.int (Int32.ofNat 2)), (.ref b1001)])) ?_ (fun t k => XS.iconst X1007.here hx rfl (hb hby at_57) k)
  refine GoalH.step (T' := T1007) (g' := (mkF m 59 #[.val (.int p1), .val (.int p2), .val (.long q3), .second, .val (.long q4), .second, .val (.long q5), .second, .val (.int (Int32.ofNat m8)), .val (.int s9), .val (.ref b1001), .unset, .unset] [(.int (2 : Int32)), (.int (Int32.ofNat 2)), (.ref b1001)])) ?_ (fun t k => XS.iconst X1007.here hx rfl (hb hby at_58) k)
  refine GoalH.step (T' := T1007) (g' := (mkF m 60 #[.val (.int p1), .val (.int p2), .val (.long q3), .second, .val (.long q4), .second, .val (.long q5), .second, .val (.int (Int32.ofNat m8)), .val (.int s9), .val (.ref b1001), .unset, .unset] [(.int p2), (.int (2 : Int32)), (.int (Int32.ofNat 2)), (.ref b1001)])) ?_ (fun t k => XS.iloadN X1007.here hx rfl (hb hby at_59) rfl k)
  refine GoalH.step (T' := T1007) (g' := (mkF m 62 #[.val (.int p1), .val (.int p2), .val (.long q3), .second, .val (.long q4), .second, .val (.long q5), .second, .val (.int (Int32.ofNat m8)), .val (.int s9), .val (.ref b1001), .unset, .unset] [(.int s9), (.int p2), (.int (2 : Int32)), (.int (Int32.ofNat 2)), (.ref b1001)])) ?_ (fun t k => XS.iload X1007.here hx rfl (hb hby at_60) rfl k)
  refine GoalH.step (T' := T1007) (g' := (mkF m 63 #[.val (.int p1), .val (.int p2), .val (.long q3), .second, .val (.long q4), .second, .val (.long q5), .second, .val (.int (Int32.ofNat m8)), .val (.int s9), .val (.ref b1001), .unset, .unset] [(.long q3), (.int s9), (.int p2), (.int (2 : Int32)), (.int (Int32.ofNat 2)), (.ref b1001)])) ?_ (fun t k => XS.lloadN X1007.here hx rfl (hb hby at_62) rfl k)
  obtain ⟨v1009, T1009, h1009, L1009, X1009, e1009, hQ1009, st1009⟩ := callStatic X1007 hx hZ hown (hw _ (List.mem_of_getElem? (i := 2) rfl)) (hw _ (List.mem_of_getElem? (i := 3) rfl)) (hw _ (List.mem_of_getElem? (i := 4) rfl)) (hw _ (List.mem_of_getElem? (i := 5) rfl)) (by decide) (rmPK l Z a0 hw (2 : Int32) p2 s9 q3 h1007 n0 (by omega)) e1007 (W := 2) (by decide) (by decide) (by decide) (by decide) (g := (mkF m 63 #[.val (.int p1), .val (.int p2), .val (.long q3), .second, .val (.long q4), .second, .val (.long q5), .second, .val (.int (Int32.ofNat m8)), .val (.int s9), .val (.ref b1001), .unset, .unset] [(.long q3), (.int s9), (.int p2), (.int (2 : Int32)), (.int (Int32.ofNat 2)), (.ref b1001)])) rfl (by rw [hml]; rfl) (argsL := [(.int (2 : Int32)), (.int p2), (.int s9), (.long q3)]) (rest := [(.int (Int32.ofNat 2)), (.ref b1001)]) (lenOf pd_23 rfl) rfl (by show 2 * 0 + _ ≤ _; exact Nat.le_of_eq rfl) (hb hby at_63) rfl
  obtain ⟨c2, rfl, r2, M1009, q1009⟩ := hQ1009
  rw [q1009] at e1009
  have N1009 := Fr.app N1007 M1009
  refine GoalH.step (T' := T1009) (g' := (mkF m 66 #[.val (.int p1), .val (.int p2), .val (.long q3), .second, .val (.long q4), .second, .val (.long q5), .second, .val (.int (Int32.ofNat m8)), .val (.int s9), .val (.ref b1001), .unset, .unset] [(.int c2), (.int (Int32.ofNat 2)), (.ref b1001)])) ?_ st1009
  obtain ⟨cl1010, Ar1010, q1010, S1010, H1010⟩ := (id V1007)
  have hlt1010 : 2 < 10 := by omega
  have hn1010 : 10 < 2 ^ 31 := by omega
  have hin1010 : ¬ ((Int32.ofNat 2) < 0 ∨ cl1010.slots.size ≤ ((Int32.ofNat 2)).toNatClampNeg) := nat_inb S1010 hlt1010 hn1010
  obtain ⟨T1010, h1010, X1010, e1010, W1010, st1010⟩ := stC X1009 hx hZ e1009 Ar1010 (j := (Int32.ofNat 2)) hin1010 (g := (mkF m 66 #[.val (.int p1), .val (.int p2), .val (.long q3), .second, .val (.long q4), .second, .val (.long q5), .second, .val (.int (Int32.ofNat m8)), .val (.int s9), .val (.ref b1001), .unset, .unset] [(.int c2), (.int (Int32.ofNat 2)), (.ref b1001)])) rfl rfl (hb hby at_66)
  rw [nat_clamp (show 2 < 2 ^ 31 by omega)] at W1010 X1010
  refine GoalH.step (T' := T1010) (g' := (mkF m 67 #[.val (.int p1), .val (.int p2), .val (.long q3), .second, .val (.long q4), .second, .val (.long q5), .second, .val (.int (Int32.ofNat m8)), .val (.int s9), .val (.ref b1001), .unset, .unset] [])) ?_ st1010
  have sz1011 : h1007.size ≤ h1010.size := Nat.le_of_eq W1010.size.symm
  have V1010 : Arf Z h1010 b1001 k1001 .char 10 (fun z => if z = 2 then (nar .char c2) else ((fun z => if z = 1 then (nar .char c1) else ((fun z => if z = 0 then (nar .char c0) else ((fun _ => 0)) z)) z)) z) := Arf.set Ar1010 q1010 S1010 H1010 W1010
  have N1010 := Fr.snoc X1010 N1009 (by omega : n0 ≤ b1001)
  refine GoalH.step (T' := T1010) (g' := (mkF m 69 #[.val (.int p1), .val (.int p2), .val (.long q3), .second, .val (.long q4), .second, .val (.long q5), .second, .val (.int (Int32.ofNat m8)), .val (.int s9), .val (.ref b1001), .unset, .unset] [(.ref b1001)])) ?_ (fun t k => XS.aload X1010.here hx rfl (hb hby at_67) rfl rfl k)
  refine GoalH.step (T' := T1010) (g' := (mkF m 70 #[.val (.int p1), .val (.int p2), .val (.long q3), .second, .val (.long q4), .second, .val (.long q5), .second, .val (.int (Int32.ofNat m8)), .val (.int s9), .val (.ref b1001), .unset, .unset] [(.int (Int32.ofNat 3)), (.ref b1001)])) ?_ (fun t k => XS.iconst X1010.here hx rfl (hb hby at_69) k)
  refine GoalH.step (T' := T1010) (g' := (mkF m 71 #[.val (.int p1), .val (.int p2), .val (.long q3), .second, .val (.long q4), .second, .val (.long q5), .second, .val (.int (Int32.ofNat m8)), .val (.int s9), .val (.ref b1001), .unset, .unset] [(.int (3 : Int32)), (.int (Int32.ofNat 3)), (.ref b1001)])) ?_ (fun t k => XS.iconst X1010.here hx rfl (hb hby at_70) k)
  refine GoalH.step (T' := T1010) (g' := (mkF m 72 #[.val (.int p1), .val (.int p2), .val (.long q3), .second, .val (.long q4), .second, .val (.long q5), .second, .val (.int (Int32.ofNat m8)), .val (.int s9), .val (.ref b1001), .unset, .unset] [(.int p2), (.int (3 : Int32)), (.int (Int32.ofNat 3)), (.ref b1001)])) ?_ (fun t k => XS.iloadN X1010.here hx rfl (hb hby at_71) rfl k)
  refine GoalH.step (T' := T1010) (g' := (mkF m 74 #[.val (.int p1), .val (.int p2), .val (.long q3), .second, .val (.long q4), .second, .val (.long q5), .second, .val (.int (Int32.ofNat m8)), .val (.int s9), .val (.ref b1001), .unset, .unset] [(.int s9), (.int p2), (.int (3 : Int32)), (.int (Int32.ofNat 3)), (.ref b1001)])) ?_ (fun t k => XS.iload X1010.here hx rfl (hb hby at_72) rfl k)
  refine GoalH.step (T' := T1010) (g' := (mkF m 75 #[.val (.int p1), .val (.int p2), .val (.long q3), .second, .val (.long q4), .second, .val (.long q5), .second, .val (.int (Int32.ofNat m8)), .val (.int s9), .val (.ref b1001), .unset, .unset] [(.long q3), (.int s9), (.int p2), (.int (3 : Int32)), (.int (Int32.ofNat 3)), (.ref b1001)])) ?_ (fun t k => XS.lloadN X1010.here hx rfl (hb hby at_74) rfl k)
  obtain ⟨v1012, T1012, h1012, L1012, X1012, e1012, hQ1012, st1012⟩ := callStatic X1010 hx hZ hown (hw _ (List.mem_of_getElem? (i := 2) rfl)) (hw _ (List.mem_of_getElem? (i := 3) rfl)) (hw _ (List.mem_of_getElem? (i := 4) rfl)) (hw _ (List.mem_of_getElem? (i := 5) rfl)) (by decide) (rmPK l Z a0 hw (3 : Int32) p2 s9 q3 h1010 n0 (by omega)) e1010 (W := 2) (by decide) (by decide) (by decide) (by decide) (g := (mkF m 75 #[.val (.int p1), .val (.int p2), .val (.long q3), .second, .val (.long q4), .second, .val (.long q5), .second, .val (.int (Int32.ofNat m8)), .val (.int s9), .val (.ref b1001), .unset, .unset] [(.long q3), (.int s9), (.int p2), (.int (3 : Int32)), (.int (Int32.ofNat 3)), (.ref b1001)])) rfl (by rw [hml]; rfl) (argsL := [(.int (3 : Int32)), (.int p2), (.int s9), (.long q3)]) (rest := [(.int (Int32.ofNat 3)), (.ref b1001)]) (lenOf pd_23 rfl) rfl (by show 2 * 0 + _ ≤ _; exact Nat.le_of_eq rfl) (hb hby at_75) rfl
  obtain ⟨c3, rfl, r3, M1012, q1012⟩ := hQ1012
  rw [q1012] at e1012
  have N1012 := Fr.app N1010 M1012
  refine GoalH.step (T' := T1012) (g' := (mkF m 78 #[.val (.int p1), .val (.int p2), .val (.long q3), .second, .val (.long q4), .second, .val (.long q5), .second, .val (.int (Int32.ofNat m8)), .val (.int s9), .val (.ref b1001), .unset, .unset] [(.int c3), (.int (Int32.ofNat 3)), (.ref b1001)])) ?_ st1012
  obtain ⟨cl1013, Ar1013, q1013, S1013, H1013⟩ := (id V1010)
  have hlt1013 : 3 < 10 := by omega
  have hn1013 : 10 < 2 ^ 31 := by omega
  have hin1013 : ¬ ((Int32.ofNat 3) < 0 ∨ cl1013.slots.size ≤ ((Int32.ofNat 3)).toNatClampNeg) := nat_inb S1013 hlt1013 hn1013
  obtain ⟨T1013, h1013, X1013, e1013, W1013, st1013⟩ := stC X1012 hx hZ e1012 Ar1013 (j := (Int32.ofNat 3)) hin1013 (g := (mkF m 78 #[.val (.int p1), .val (.int p2), .val (.long q3), .second, .val (.long q4), .second, .val (.long q5), .second, .val (.int (Int32.ofNat m8)), .val (.int s9), .val (.ref b1001), .unset, .unset] [(.int c3), (.int (Int32.ofNat 3)), (.ref b1001)])) rfl rfl (hb hby at_78)
  rw [nat_clamp (show 3 < 2 ^ 31 by omega)] at W1013 X1013
  refine GoalH.step (T' := T1013) (g' := (mkF m 79 #[.val (.int p1), .val (.int p2), .val (.long q3), .second, .val (.long q4), .second, .val (.long q5), .second, .val (.int (Int32.ofNat m8)), .val (.int s9), .val (.ref b1001), .unset, .unset] [])) ?_ st1013
  have sz1014 : h1010.size ≤ h1013.size := Nat.le_of_eq W1013.size.symm
  have V1013 : Arf Z h1013 b1001 k1001 .char 10 (fun z => if z = 3 then (nar .char c3) else ((fun z => if z = 2 then (nar .char c2) else ((fun z => if z = 1 then (nar .char c1) else ((fun z => if z = 0 then (nar .char c0) else ((fun _ => 0)) z)) z)) z)) z) := Arf.set Ar1013 q1013 S1013 H1013 W1013
  have N1013 := Fr.snoc X1013 N1012 (by omega : n0 ≤ b1001)
  refine GoalH.step (T' := T1013) (g' := (mkF m 81 #[.val (.int p1), .val (.int p2), .val (.long q3), .second, .val (.long q4), .second, .val (.long q5), .second, .val (.int (Int32.ofNat m8)), .val (.int s9), .val (.ref b1001), .unset, .unset] [(.ref b1001)])) ?_ (fun t k => XS.aload X1013.here hx rfl (hb hby at_79) rfl rfl k)
  refine GoalH.step (T' := T1013) (g' := (mkF m 82 #[.val (.int p1), .val (.int p2), .val (.long q3), .second, .val (.long q4), .second, .val (.long q5), .second, .val (.int (Int32.ofNat m8)), .val (.int s9), .val (.ref b1001), .unset, .unset] [(.int (Int32.ofNat 4)), (.ref b1001)])) ?_ (fun t k => XS.iconst X1013.here hx rfl (hb hby at_81) k)
  refine GoalH.step (T' := T1013) (g' := (mkF m 83 #[.val (.int p1), .val (.int p2), .val (.long q3), .second, .val (.long q4), .second, .val (.long q5), .second, .val (.int (Int32.ofNat m8)), .val (.int s9), .val (.ref b1001), .unset, .unset] [(.int (4 : Int32)), (.int (Int32.ofNat 4)), (.ref b1001)])) ?_ (fun t k => XS.iconst X1013.here hx rfl (hb hby at_82) k)
  refine GoalH.step (T' := T1013) (g' := (mkF m 84 #[.val (.int p1), .val (.int p2), .val (.long q3), .second, .val (.long q4), .second, .val (.long q5), .second, .val (.int (Int32.ofNat m8)), .val (.int s9), .val (.ref b1001), .unset, .unset] [(.int p2), (.int (4 : Int32)), (.int (Int32.ofNat 4)), (.ref b1001)])) ?_ (fun t k => XS.iloadN X1013.here hx rfl (hb hby at_83) rfl k)
  refine GoalH.step (T' := T1013) (g' := (mkF m 86 #[.val (.int p1), .val (.int p2), .val (.long q3), .second, .val (.long q4), .second, .val (.long q5), .second, .val (.int (Int32.ofNat m8)), .val (.int s9), .val (.ref b1001), .unset, .unset] [(.int s9), (.int p2), (.int (4 : Int32)), (.int (Int32.ofNat 4)), (.ref b1001)])) ?_ (fun t k => XS.iload X1013.here hx rfl (hb hby at_84) rfl k)
  refine GoalH.step (T' := T1013) (g' := (mkF m 88 #[.val (.int p1), .val (.int p2), .val (.long q3), .second, .val (.long q4), .second, .val (.long q5), .second, .val (.int (Int32.ofNat m8)), .val (.int s9), .val (.ref b1001), .unset, .unset] [(.long q4), (.int s9), (.int p2), (.int (4 : Int32)), (.int (Int32.ofNat 4)), (.ref b1001)])) ?_ (fun t k => XS.lload X1013.here hx rfl (hb hby at_86) rfl k)
  obtain ⟨v1015, T1015, h1015, L1015, X1015, e1015, hQ1015, st1015⟩ := callStatic X1013 hx hZ hown (hw _ (List.mem_of_getElem? (i := 2) rfl)) (hw _ (List.mem_of_getElem? (i := 3) rfl)) (hw _ (List.mem_of_getElem? (i := 4) rfl)) (hw _ (List.mem_of_getElem? (i := 5) rfl)) (by decide) (rmPK l Z a0 hw (4 : Int32) p2 s9 q4 h1013 n0 (by omega)) e1013 (W := 2) (by decide) (by decide) (by decide) (by decide) (g := (mkF m 88 #[.val (.int p1), .val (.int p2), .val (.long q3), .second, .val (.long q4), .second, .val (.long q5), .second, .val (.int (Int32.ofNat m8)), .val (.int s9), .val (.ref b1001), .unset, .unset] [(.long q4), (.int s9), (.int p2), (.int (4 : Int32)), (.int (Int32.ofNat 4)), (.ref b1001)])) rfl (by rw [hml]; rfl) (argsL := [(.int (4 : Int32)), (.int p2), (.int s9), (.long q4)]) (rest := [(.int (Int32.ofNat 4)), (.ref b1001)]) (lenOf pd_23 rfl) rfl (by show 2 * 0 + _ ≤ _; exact Nat.le_of_eq rfl) (hb hby at_88) rfl
  obtain ⟨c4, rfl, r4, M1015, q1015⟩ := hQ1015
  rw [q1015] at e1015
  have N1015 := Fr.app N1013 M1015
  refine GoalH.step (T' := T1015) (g' := (mkF m 91 #[.val (.int p1), .val (.int p2), .val (.long q3), .second, .val (.long q4), .second, .val (.long q5), .second, .val (.int (Int32.ofNat m8)), .val (.int s9), .val (.ref b1001), .unset, .unset] [(.int c4), (.int (Int32.ofNat 4)), (.ref b1001)])) ?_ st1015
  obtain ⟨cl1016, Ar1016, q1016, S1016, H1016⟩ := (id V1013)
  have hlt1016 : 4 < 10 := by omega
  have hn1016 : 10 < 2 ^ 31 := by omega
  have hin1016 : ¬ ((Int32.ofNat 4) < 0 ∨ cl1016.slots.size ≤ ((Int32.ofNat 4)).toNatClampNeg) := nat_inb S1016 hlt1016 hn1016
  obtain ⟨T1016, h1016, X1016, e1016, W1016, st1016⟩ := stC X1015 hx hZ e1015 Ar1016 (j := (Int32.ofNat 4)) hin1016 (g := (mkF m 91 #[.val (.int p1), .val (.int p2), .val (.long q3), .second, .val (.long q4), .second, .val (.long q5), .second, .val (.int (Int32.ofNat m8)), .val (.int s9), .val (.ref b1001), .unset, .unset] [(.int c4), (.int (Int32.ofNat 4)), (.ref b1001)])) rfl rfl (hb hby at_91)
  rw [nat_clamp (show 4 < 2 ^ 31 by omega)] at W1016 X1016
  refine GoalH.step (T' := T1016) (g' := (mkF m 92 #[.val (.int p1), .val (.int p2), .val (.long q3), .second, .val (.long q4), .second, .val (.long q5), .second, .val (.int (Int32.ofNat m8)), .val (.int s9), .val (.ref b1001), .unset, .unset] [])) ?_ st1016
  have sz1017 : h1013.size ≤ h1016.size := Nat.le_of_eq W1016.size.symm
  have V1016 : Arf Z h1016 b1001 k1001 .char 10 (fun z => if z = 4 then (nar .char c4) else ((fun z => if z = 3 then (nar .char c3) else ((fun z => if z = 2 then (nar .char c2) else ((fun z => if z = 1 then (nar .char c1) else ((fun z => if z = 0 then (nar .char c0) else ((fun _ => 0)) z)) z)) z)) z)) z) := Arf.set Ar1016 q1016 S1016 H1016 W1016
  have N1016 := Fr.snoc X1016 N1015 (by omega : n0 ≤ b1001)
  refine GoalH.step (T' := T1016) (g' := (mkF m 94 #[.val (.int p1), .val (.int p2), .val (.long q3), .second, .val (.long q4), .second, .val (.long q5), .second, .val (.int (Int32.ofNat m8)), .val (.int s9), .val (.ref b1001), .unset, .unset] [(.ref b1001)])) ?_ (fun t k => XS.aload X1016.here hx rfl (hb hby at_92) rfl rfl k)
  refine GoalH.step (T' := T1016) (g' := (mkF m 95 #[.val (.int p1), .val (.int p2), .val (.long q3), .second, .val (.long q4), .second, .val (.long q5), .second, .val (.int (Int32.ofNat m8)), .val (.int s9), .val (.ref b1001), .unset, .unset] [(.int (Int32.ofNat 5)), (.ref b1001)])) ?_ (fun t k => XS.iconst X1016.here hx rfl (hb hby at_94) k)
  refine GoalH.step (T' := T1016) (g' := (mkF m 96 #[.val (.int p1), .val (.int p2), .val (.long q3), .second, .val (.long q4), .second, .val (.long q5), .second, .val (.int (Int32.ofNat m8)), .val (.int s9), .val (.ref b1001), .unset, .unset] [(.int (5 : Int32)), (.int (Int32.ofNat 5)), (.ref b1001)])) ?_ (fun t k => XS.iconst X1016.here hx rfl (hb hby at_95) k)
  refine GoalH.step (T' := T1016) (g' := (mkF m 97 #[.val (.int p1), .val (.int p2), .val (.long q3), .second, .val (.long q4), .second, .val (.long q5), .second, .val (.int (Int32.ofNat m8)), .val (.int s9), .val (.ref b1001), .unset, .unset] [(.int p2), (.int (5 : Int32)), (.int (Int32.ofNat 5)), (.ref b1001)])) ?_ (fun t k => XS.iloadN X1016.here hx rfl (hb hby at_96) rfl k)
  refine GoalH.step (T' := T1016) (g' := (mkF m 99 #[.val (.int p1), .val (.int p2), .val (.long q3), .second, .val (.long q4), .second, .val (.long q5), .second, .val (.int (Int32.ofNat m8)), .val (.int s9), .val (.ref b1001), .unset, .unset] [(.int s9), (.int p2), (.int (5 : Int32)), (.int (Int32.ofNat 5)), (.ref b1001)])) ?_ (fun t k => XS.iload X1016.here hx rfl (hb hby at_97) rfl k)
  refine GoalH.step (T' := T1016) (g' := (mkF m 101 #[.val (.int p1), .val (.int p2), .val (.long q3), .second, .val (.long q4), .second, .val (.long q5), .second, .val (.int (Int32.ofNat m8)), .val (.int s9), .val (.ref b1001), .unset, .unset] [(.long q4), (.int s9), (.int p2), (.int (5 : Int32)), (.int (Int32.ofNat 5)), (.ref b1001)])) ?_ (fun t k => XS.lload X1016.here hx rfl (hb hby at_99) rfl k)
  obtain ⟨v1018, T1018, h1018, L1018, X1018, e1018, hQ1018, st1018⟩ := callStatic X1016 hx hZ hown (hw _ (List.mem_of_getElem? (i := 2) rfl)) (hw _ (List.mem_of_getElem? (i := 3) rfl)) (hw _ (List.mem_of_getElem? (i := 4) rfl)) (hw _ (List.mem_of_getElem? (i := 5) rfl)) (by decide) (rmPK l Z a0 hw (5 : Int32) p2 s9 q4 h1016 n0 (by omega)) e1016 (W := 2) (by decide) (by decide) (by decide) (by decide) (g := (mkF m 101 #[.val (.int p1), .val (.int p2), .val (.long q3), .second, .val (.long q4), .second, .val (.long q5), .second, .val (.int (Int32.ofNat m8)), .val (.int s9), .val (.ref b1001), .unset, .unset] [(.long q4), (.int s9), (.int p2), (.int (5 : Int32)), (.int (Int32.ofNat 5)), (.ref b1001)])) rfl (by rw [hml]; rfl) (argsL := [(.int (5 : Int32)), (.int p2), (.int s9), (.long q4)]) (rest := [(.int (Int32.ofNat 5)), (.ref b1001)]) (lenOf pd_23 rfl) rfl (by show 2 * 0 + _ ≤ _; exact Nat.le_of_eq rfl) (hb hby at_101) rfl
  obtain ⟨c5, rfl, r5, M1018, q1018⟩ := hQ1018
  rw [q1018] at e1018
  have N1018 := Fr.app N1016 M1018
  refine GoalH.step (T' := T1018) (g' := (mkF m 104 #[.val (.int p1), .val (.int p2), .val (.long q3), .second, .val (.long q4), .second, .val (.long q5), .second, .val (.int (Int32.ofNat m8)), .val (.int s9), .val (.ref b1001), .unset, .unset] [(.int c5), (.int (Int32.ofNat 5)), (.ref b1001)])) ?_ st1018
  obtain ⟨cl1019, Ar1019, q1019, S1019, H1019⟩ := (id V1016)
  have hlt1019 : 5 < 10 := by omega
  have hn1019 : 10 < 2 ^ 31 := by omega
  have hin1019 : ¬ ((Int32.ofNat 5) < 0 ∨ cl1019.slots.size ≤ ((Int32.ofNat 5)).toNatClampNeg) := nat_inb S1019 hlt1019 hn1019
  obtain ⟨T1019, h1019, X1019, e1019, W1019, st1019⟩ := stC X1018 hx hZ e1018 Ar1019 (j := (Int32.ofNat 5)) hin1019 (g := (mkF m 104 #[.val (.int p1), .val (.int p2), .val (.long q3), .second, .val (.long q4), .second, .val (.long q5), .second, .val (.int (Int32.ofNat m8)), .val (.int s9), .val (.ref b1001), .unset, .unset] [(.int c5), (.int (Int32.ofNat 5)), (.ref b1001)])) rfl rfl (hb hby at_104)
  rw [nat_clamp (show 5 < 2 ^ 31 by omega)] at W1019 X1019
  refine GoalH.step (T' := T1019) (g' := (mkF m 105 #[.val (.int p1), .val (.int p2), .val (.long q3), .second, .val (.long q4), .second, .val (.long q5), .second, .val (.int (Int32.ofNat m8)), .val (.int s9), .val (.ref b1001), .unset, .unset] [])) ?_ st1019
  have sz1020 : h1016.size ≤ h1019.size := Nat.le_of_eq W1019.size.symm
  have V1019 : Arf Z h1019 b1001 k1001 .char 10 (fun z => if z = 5 then (nar .char c5) else ((fun z => if z = 4 then (nar .char c4) else ((fun z => if z = 3 then (nar .char c3) else ((fun z => if z = 2 then (nar .char c2) else ((fun z => if z = 1 then (nar .char c1) else ((fun z => if z = 0 then (nar .char c0) else ((fun _ => 0)) z)) z)) z)) z)) z)) z) := Arf.set Ar1019 q1019 S1019 H1019 W1019
  have N1019 := Fr.snoc X1019 N1018 (by omega : n0 ≤ b1001)
  refine GoalH.step (T' := T1019) (g' := (mkF m 107 #[.val (.int p1), .val (.int p2), .val (.long q3), .second, .val (.long q4), .second, .val (.long q5), .second, .val (.int (Int32.ofNat m8)), .val (.int s9), .val (.ref b1001), .unset, .unset] [(.ref b1001)])) ?_ (fun t k => XS.aload X1019.here hx rfl (hb hby at_105) rfl rfl k)
  refine GoalH.step (T' := T1019) (g' := (mkF m 109 #[.val (.int p1), .val (.int p2), .val (.long q3), .second, .val (.long q4), .second, .val (.long q5), .second, .val (.int (Int32.ofNat m8)), .val (.int s9), .val (.ref b1001), .unset, .unset] [(.int (Int32.ofNat 6)), (.ref b1001)])) ?_ (fun t k => XS.bipush X1019.here hx rfl (hb hby at_107) k)
  refine GoalH.step (T' := T1019) (g' := (mkF m 111 #[.val (.int p1), .val (.int p2), .val (.long q3), .second, .val (.long q4), .second, .val (.long q5), .second, .val (.int (Int32.ofNat m8)), .val (.int s9), .val (.ref b1001), .unset, .unset] [(.int (6 : Int32)), (.int (Int32.ofNat 6)), (.ref b1001)])) ?_ (fun t k => XS.bipush X1019.here hx rfl (hb hby at_109) k)
  refine GoalH.step (T' := T1019) (g' := (mkF m 112 #[.val (.int p1), .val (.int p2), .val (.long q3), .second, .val (.long q4), .second, .val (.long q5), .second, .val (.int (Int32.ofNat m8)), .val (.int s9), .val (.ref b1001), .unset, .unset] [(.int p2), (.int (6 : Int32)), (.int (Int32.ofNat 6)), (.ref b1001)])) ?_ (fun t k => XS.iloadN X1019.here hx rfl (hb hby at_111) rfl k)
  refine GoalH.step (T' := T1019) (g' := (mkF m 114 #[.val (.int p1), .val (.int p2), .val (.long q3), .second, .val (.long q4), .second, .val (.long q5), .second, .val (.int (Int32.ofNat m8)), .val (.int s9), .val (.ref b1001), .unset, .unset] [(.int s9), (.int p2), (.int (6 : Int32)), (.int (Int32.ofNat 6)), (.ref b1001)])) ?_ (fun t k => XS.iload X1019.here hx rfl (hb hby at_112) rfl k)
  refine GoalH.step (T' := T1019) (g' := (mkF m 116 #[.val (.int p1), .val (.int p2), .val (.long q3), .second, .val (.long q4), .second, .val (.long q5), .second, .val (.int (Int32.ofNat m8)), .val (.int s9), .val (.ref b1001), .unset, .unset] [(.long q4), (.int s9), (.int p2), (.int (6 : Int32)), (.int (Int32.ofNat 6)), (.ref b1001)])) ?_ (fun t k => XS.lload X1019.here hx rfl (hb hby at_114) rfl k)
  obtain ⟨v1021, T1021, h1021, L1021, X1021, e1021, hQ1021, st1021⟩ := callStatic X1019 hx hZ hown (hw _ (List.mem_of_getElem? (i := 2) rfl)) (hw _ (List.mem_of_getElem? (i := 3) rfl)) (hw _ (List.mem_of_getElem? (i := 4) rfl)) (hw _ (List.mem_of_getElem? (i := 5) rfl)) (by decide) (rmPK l Z a0 hw (6 : Int32) p2 s9 q4 h1019 n0 (by omega)) e1019 (W := 2) (by decide) (by decide) (by decide) (by decide) (g := (mkF m 116 #[.val (.int p1), .val (.int p2), .val (.long q3), .second, .val (.long q4), .second, .val (.long q5), .second, .val (.int (Int32.ofNat m8)), .val (.int s9), .val (.ref b1001), .unset, .unset] [(.long q4), (.int s9), (.int p2), (.int (6 : Int32)), (.int (Int32.ofNat 6)), (.ref b1001)])) rfl (by rw [hml]; rfl) (argsL := [(.int (6 : Int32)), (.int p2), (.int s9), (.long q4)]) (rest := [(.int (Int32.ofNat 6)), (.ref b1001)]) (lenOf pd_23 rfl) rfl (by show 2 * 0 + _ ≤ _; exact Nat.le_of_eq rfl) (hb hby at_116) rfl
  obtain ⟨c6, rfl, r6, M1021, q1021⟩ := hQ1021
  rw [q1021] at e1021
  have N1021 := Fr.app N1019 M1021
  refine GoalH.step (T' := T1021) (g' := (mkF m 119 #[.val (.int p1), .val (.int p2), .val (.long q3), .second, .val (.long q4), .second, .val (.long q5), .second, .val (.int (Int32.ofNat m8)), .val (.int s9), .val (.ref b1001), .unset, .unset] [(.int c6), (.int (Int32.ofNat 6)), (.ref b1001)])) ?_ st1021
  obtain ⟨cl1022, Ar1022, q1022, S1022, H1022⟩ := (id V1019)
  have hlt1022 : 6 < 10 := by omega
  have hn1022 : 10 < 2 ^ 31 := by omega
  have hin1022 : ¬ ((Int32.ofNat 6) < 0 ∨ cl1022.slots.size ≤ ((Int32.ofNat 6)).toNatClampNeg) := nat_inb S1022 hlt1022 hn1022
  obtain ⟨T1022, h1022, X1022, e1022, W1022, st1022⟩ := stC X1021 hx hZ e1021 Ar1022 (j := (Int32.ofNat 6)) hin1022 (g := (mkF m 119 #[.val (.int p1), .val (.int p2), .val (.long q3), .second, .val (.long q4), .second, .val (.long q5), .second, .val (.int (Int32.ofNat m8)), .val (.int s9), .val (.ref b1001), .unset, .unset] [(.int c6), (.int (Int32.ofNat 6)), (.ref b1001)])) rfl rfl (hb hby at_119)
  rw [nat_clamp (show 6 < 2 ^ 31 by omega)] at W1022 X1022
  refine GoalH.step (T' := T1022) (g' := (mkF m 120 #[.val (.int p1), .val (.int p2), .val (.long q3), .second, .val (.long q4), .second, .val (.long q5), .second, .val (.int (Int32.ofNat m8)), .val (.int s9), .val (.ref b1001), .unset, .unset] [])) ?_ st1022
  have sz1023 : h1019.size ≤ h1022.size := Nat.le_of_eq W1022.size.symm
  have V1022 : Arf Z h1022 b1001 k1001 .char 10 (fun z => if z = 6 then (nar .char c6) else ((fun z => if z = 5 then (nar .char c5) else ((fun z => if z = 4 then (nar .char c4) else ((fun z => if z = 3 then (nar .char c3) else ((fun z => if z = 2 then (nar .char c2) else ((fun z => if z = 1 then (nar .char c1) else ((fun z => if z = 0 then (nar .char c0) else ((fun _ => 0)) z)) z)) z)) z)) z)) z)) z) := Arf.set Ar1022 q1022 S1022 H1022 W1022
  have N1022 := Fr.snoc X1022 N1021 (by omega : n0 ≤ b1001)
  refine GoalH.step (T' := T1022) (g' := (mkF m 122 #[.val (.int p1), .val (.int p2), .val (.long q3), .second, .val (.long q4), .second, .val (.long q5), .second, .val (.int (Int32.ofNat m8)), .val (.int s9), .val (.ref b1001), .unset, .unset] [(.ref b1001)])) ?_ (fun t k => XS.aload X1022.here hx rfl (hb hby at_120) rfl rfl k)
  refine GoalH.step (T' := T1022) (g' := (mkF m 124 #[.val (.int p1), .val (.int p2), .val (.long q3), .second, .val (.long q4), .second, .val (.long q5), .second, .val (.int (Int32.ofNat m8)), .val (.int s9), .val (.ref b1001), .unset, .unset] [(.int (Int32.ofNat 7)), (.ref b1001)])) ?_ (fun t k => XS.bipush X1022.here hx rfl (hb hby at_122) k)
  refine GoalH.step (T' := T1022) (g' := (mkF m 126 #[.val (.int p1), .val (.int p2), .val (.long q3), .second, .val (.long q4), .second, .val (.long q5), .second, .val (.int (Int32.ofNat m8)), .val (.int s9), .val (.ref b1001), .unset, .unset] [(.int (7 : Int32)), (.int (Int32.ofNat 7)), (.ref b1001)])) ?_ (fun t k => XS.bipush X1022.here hx rfl (hb hby at_124) k)
  refine GoalH.step (T' := T1022) (g' := (mkF m 127 #[.val (.int p1), .val (.int p2), .val (.long q3), .second, .val (.long q4), .second, .val (.long q5), .second, .val (.int (Int32.ofNat m8)), .val (.int s9), .val (.ref b1001), .unset, .unset] [(.int p2), (.int (7 : Int32)), (.int (Int32.ofNat 7)), (.ref b1001)])) ?_ (fun t k => XS.iloadN X1022.here hx rfl (hb hby at_126) rfl k)
  refine GoalH.step (T' := T1022) (g' := (mkF m 129 #[.val (.int p1), .val (.int p2), .val (.long q3), .second, .val (.long q4), .second, .val (.long q5), .second, .val (.int (Int32.ofNat m8)), .val (.int s9), .val (.ref b1001), .unset, .unset] [(.int s9), (.int p2), (.int (7 : Int32)), (.int (Int32.ofNat 7)), (.ref b1001)])) ?_ (fun t k => XS.iload X1022.here hx rfl (hb hby at_127) rfl k)
  refine GoalH.step (T' := T1022) (g' := (mkF m 131 #[.val (.int p1), .val (.int p2), .val (.long q3), .second, .val (.long q4), .second, .val (.long q5), .second, .val (.int (Int32.ofNat m8)), .val (.int s9), .val (.ref b1001), .unset, .unset] [(.long q4), (.int s9), (.int p2), (.int (7 : Int32)), (.int (Int32.ofNat 7)), (.ref b1001)])) ?_ (fun t k => XS.lload X1022.here hx rfl (hb hby at_129) rfl k)
  obtain ⟨v1024, T1024, h1024, L1024, X1024, e1024, hQ1024, st1024⟩ := callStatic X1022 hx hZ hown (hw _ (List.mem_of_getElem? (i := 2) rfl)) (hw _ (List.mem_of_getElem? (i := 3) rfl)) (hw _ (List.mem_of_getElem? (i := 4) rfl)) (hw _ (List.mem_of_getElem? (i := 5) rfl)) (by decide) (rmPK l Z a0 hw (7 : Int32) p2 s9 q4 h1022 n0 (by omega)) e1022 (W := 2) (by decide) (by decide) (by decide) (by decide) (g := (mkF m 131 #[.val (.int p1), .val (.int p2), .val (.long q3), .second, .val (.long q4), .second, .val (.long q5), .second, .val (.int (Int32.ofNat m8)), .val (.int s9), .val (.ref b1001), .unset, .unset] [(.long q4), (.int s9), (.int p2), (.int (7 : Int32)), (.int (Int32.ofNat 7)), (.ref b1001)])) rfl (by rw [hml]; rfl) (argsL := [(.int (7 : Int32)), (.int p2), (.int s9), (.long q4)]) (rest := [(.int (Int32.ofNat 7)), (.ref b1001)]) (lenOf pd_23 rfl) rfl (by show 2 * 0 + _ ≤ _; exact Nat.le_of_eq rfl) (hb hby at_131) rfl
  obtain ⟨c7, rfl, r7, M1024, q1024⟩ := hQ1024
  rw [q1024] at e1024
  have N1024 := Fr.app N1022 M1024
  refine GoalH.step (T' := T1024) (g' := (mkF m 134 #[.val (.int p1), .val (.int p2), .val (.long q3), .second, .val (.long q4), .second, .val (.long q5), .second, .val (.int (Int32.ofNat m8)), .val (.int s9), .val (.ref b1001), .unset, .unset] [(.int c7), (.int (Int32.ofNat 7)), (.ref b1001)])) ?_ st1024
  obtain ⟨cl1025, Ar1025, q1025, S1025, H1025⟩ := (id V1022)
  have hlt1025 : 7 < 10 := by omega
  have hn1025 : 10 < 2 ^ 31 := by omega
  have hin1025 : ¬ ((Int32.ofNat 7) < 0 ∨ cl1025.slots.size ≤ ((Int32.ofNat 7)).toNatClampNeg) := nat_inb S1025 hlt1025 hn1025
  obtain ⟨T1025, h1025, X1025, e1025, W1025, st1025⟩ := stC X1024 hx hZ e1024 Ar1025 (j := (Int32.ofNat 7)) hin1025 (g := (mkF m 134 #[.val (.int p1), .val (.int p2), .val (.long q3), .second, .val (.long q4), .second, .val (.long q5), .second, .val (.int (Int32.ofNat m8)), .val (.int s9), .val (.ref b1001), .unset, .unset] [(.int c7), (.int (Int32.ofNat 7)), (.ref b1001)])) rfl rfl (hb hby at_134)
  rw [nat_clamp (show 7 < 2 ^ 31 by omega)] at W1025 X1025
  refine GoalH.step (T' := T1025) (g' := (mkF m 135 #[.val (.int p1), .val (.int p2), .val (.long q3), .second, .val (.long q4), .second, .val (.long q5), .second, .val (.int (Int32.ofNat m8)), .val (.int s9), .val (.ref b1001), .unset, .unset] [])) ?_ st1025
  have sz1026 : h1022.size ≤ h1025.size := Nat.le_of_eq W1025.size.symm
  have V1025 : Arf Z h1025 b1001 k1001 .char 10 (fun z => if z = 7 then (nar .char c7) else ((fun z => if z = 6 then (nar .char c6) else ((fun z => if z = 5 then (nar .char c5) else ((fun z => if z = 4 then (nar .char c4) else ((fun z => if z = 3 then (nar .char c3) else ((fun z => if z = 2 then (nar .char c2) else ((fun z => if z = 1 then (nar .char c1) else ((fun z => if z = 0 then (nar .char c0) else ((fun _ => 0)) z)) z)) z)) z)) z)) z)) z)) z) := Arf.set Ar1025 q1025 S1025 H1025 W1025
  have N1025 := Fr.snoc X1025 N1024 (by omega : n0 ≤ b1001)
  refine GoalH.step (T' := T1025) (g' := (mkF m 137 #[.val (.int p1), .val (.int p2), .val (.long q3), .second, .val (.long q4), .second, .val (.long q5), .second, .val (.int (Int32.ofNat m8)), .val (.int s9), .val (.ref b1001), .unset, .unset] [(.ref b1001)])) ?_ (fun t k => XS.aload X1025.here hx rfl (hb hby at_135) rfl rfl k)
  refine GoalH.step (T' := T1025) (g' := (mkF m 139 #[.val (.int p1), .val (.int p2), .val (.long q3), .second, .val (.long q4), .second, .val (.long q5), .second, .val (.int (Int32.ofNat m8)), .val (.int s9), .val (.ref b1001), .unset, .unset] [(.int (Int32.ofNat 8)), (.ref b1001)])) ?_ (fun t k => XS.bipush X1025.here hx rfl (hb hby at_137) k)
  refine GoalH.step (T' := T1025) (g' := (mkF m 141 #[.val (.int p1), .val (.int p2), .val (.long q3), .second, .val (.long q4), .second, .val (.long q5), .second, .val (.int (Int32.ofNat m8)), .val (.int s9), .val (.ref b1001), .unset, .unset] [(.int (8 : Int32)), (.int (Int32.ofNat 8)), (.ref b1001)])) ?_ (fun t k => XS.bipush X1025.here hx rfl (hb hby at_139) k)
  refine GoalH.step (T' := T1025) (g' := (mkF m 142 #[.val (.int p1), .val (.int p2), .val (.long q3), .second, .val (.long q4), .second, .val (.long q5), .second, .val (.int (Int32.ofNat m8)), .val (.int s9), .val (.ref b1001), .unset, .unset] [(.int p2), (.int (8 : Int32)), (.int (Int32.ofNat 8)), (.ref b1001)])) ?_ (fun t k => XS.iloadN X1025.here hx rfl (hb hby at_141) rfl k)
  refine GoalH.step (T' := T1025) (g' := (mkF m 144 #[.val (.int p1), .val (.int p2), .val (.long q3), .second, .val (.long q4), .second, .val (.long q5), .second, .val (.int (Int32.ofNat m8)), .val (.int s9), .val (.ref b1001), .unset, .unset] [(.int s9), (.int p2), (.int (8 : Int32)), (.int (Int32.ofNat 8)), (.ref b1001)])) ?_ (fun t k => XS.iload X1025.here hx rfl (hb hby at_142) rfl k)
  refine GoalH.step (T' := T1025) (g' := (mkF m 146 #[.val (.int p1), .val (.int p2), .val (.long q3), .second, .val (.long q4), .second, .val (.long q5), .second, .val (.int (Int32.ofNat m8)), .val (.int s9), .val (.ref b1001), .unset, .unset] [(.long q5), (.int s9), (.int p2), (.int (8 : Int32)), (.int (Int32.ofNat 8)), (.ref b1001)])) ?_ (fun t k => XS.lload X1025.here hx rfl (hb hby at_144) rfl k)
  obtain ⟨v1027, T1027, h1027, L1027, X1027, e1027, hQ1027, st1027⟩ := callStatic X1025 hx hZ hown (hw _ (List.mem_of_getElem? (i := 2) rfl)) (hw _ (List.mem_of_getElem? (i := 3) rfl)) (hw _ (List.mem_of_getElem? (i := 4) rfl)) (hw _ (List.mem_of_getElem? (i := 5) rfl)) (by decide) (rmPK l Z a0 hw (8 : Int32) p2 s9 q5 h1025 n0 (by omega)) e1025 (W := 2) (by decide) (by decide) (by decide) (by decide) (g := (mkF m 146 #[.val (.int p1), .val (.int p2), .val (.long q3), .second, .val (.long q4), .second, .val (.long q5), .second, .val (.int (Int32.ofNat m8)), .val (.int s9), .val (.ref b1001), .unset, .unset] [(.long q5), (.int s9), (.int p2), (.int (8 : Int32)), (.int (Int32.ofNat 8)), (.ref b1001)])) rfl (by rw [hml]; rfl) (argsL := [(.int (8 : Int32)), (.int p2), (.int s9), (.long q5)]) (rest := [(.int (Int32.ofNat 8)), (.ref b1001)]) (lenOf pd_23 rfl) rfl (by show 2 * 0 + _ ≤ _; exact Nat.le_of_eq rfl) (hb hby at_146) rfl
  obtain ⟨c8, rfl, r8, M1027, q1027⟩ := hQ1027
  rw [q1027] at e1027
  have N1027 := Fr.app N1025 M1027
  refine GoalH.step (T' := T1027) (g' := (mkF m 149 #[.val (.int p1), .val (.int p2), .val (.long q3), .second, .val (.long q4), .second, .val (.long q5), .second, .val (.int (Int32.ofNat m8)), .val (.int s9), .val (.ref b1001), .unset, .unset] [(.int c8), (.int (Int32.ofNat 8)), (.ref b1001)])) ?_ st1027
  obtain ⟨cl1028, Ar1028, q1028, S1028, H1028⟩ := (id V1025)
  have hlt1028 : 8 < 10 := by omega
  have hn1028 : 10 < 2 ^ 31 := by omega
  have hin1028 : ¬ ((Int32.ofNat 8) < 0 ∨ cl1028.slots.size ≤ ((Int32.ofNat 8)).toNatClampNeg) := nat_inb S1028 hlt1028 hn1028
  obtain ⟨T1028, h1028, X1028, e1028, W1028, st1028⟩ := stC X1027 hx hZ e1027 Ar1028 (j := (Int32.ofNat 8)) hin1028 (g := (mkF m 149 #[.val (.int p1), .val (.int p2), .val (.long q3), .second, .val (.long q4), .second, .val (.long q5), .second, .val (.int (Int32.ofNat m8)), .val (.int s9), .val (.ref b1001), .unset, .unset] [(.int c8), (.int (Int32.ofNat 8)), (.ref b1001)])) rfl rfl (hb hby at_149)
  rw [nat_clamp (show 8 < 2 ^ 31 by omega)] at W1028 X1028
  refine GoalH.step (T' := T1028) (g' := (mkF m 150 #[.val (.int p1), .val (.int p2), .val (.long q3), .second, .val (.long q4), .second, .val (.long q5), .second, .val (.int (Int32.ofNat m8)), .val (.int s9), .val (.ref b1001), .unset, .unset] [])) ?_ st1028
  have sz1029 : h1025.size ≤ h1028.size := Nat.le_of_eq W1028.size.symm
  have V1028 : Arf Z h1028 b1001 k1001 .char 10 (fun z => if z = 8 then (nar .char c8) else ((fun z => if z = 7 then (nar .char c7) else ((fun z => if z = 6 then (nar .char c6) else ((fun z => if z = 5 then (nar .char c5) else ((fun z => if z = 4 then (nar .char c4) else ((fun z => if z = 3 then (nar .char c3) else ((fun z => if z = 2 then (nar .char c2) else ((fun z => if z = 1 then (nar .char c1) else ((fun z => if z = 0 then (nar .char c0) else ((fun _ => 0)) z)) z)) z)) z)) z)) z)) z)) z)) z) := Arf.set Ar1028 q1028 S1028 H1028 W1028
  have N1028 := Fr.snoc X1028 N1027 (by omega : n0 ≤ b1001)
  refine GoalH.step (T' := T1028) (g' := (mkF m 152 #[.val (.int p1), .val (.int p2), .val (.long q3), .second, .val (.long q4), .second, .val (.long q5), .second, .val (.int (Int32.ofNat m8)), .val (.int s9), .val (.ref b1001), .unset, .unset] [(.ref b1001)])) ?_ (fun t k => XS.aload X1028.here hx rfl (hb hby at_150) rfl rfl k)
  refine GoalH.step (T' := T1028) (g' := (mkF m 154 #[.val (.int p1), .val (.int p2), .val (.long q3), .second, .val (.long q4), .second, .val (.long q5), .second, .val (.int (Int32.ofNat m8)), .val (.int s9), .val (.ref b1001), .unset, .unset] [(.int (Int32.ofNat 9)), (.ref b1001)])) ?_ (fun t k => XS.bipush X1028.here hx rfl (hb hby at_152) k)
  refine GoalH.step (T' := T1028) (g' := (mkF m 156 #[.val (.int p1), .val (.int p2), .val (.long q3), .second, .val (.long q4), .second, .val (.long q5), .second, .val (.int (Int32.ofNat m8)), .val (.int s9), .val (.ref b1001), .unset, .unset] [(.int (9 : Int32)), (.int (Int32.ofNat 9)), (.ref b1001)])) ?_ (fun t k => XS.bipush X1028.here hx rfl (hb hby at_154) k)
  refine GoalH.step (T' := T1028) (g' := (mkF m 157 #[.val (.int p1), .val (.int p2), .val (.long q3), .second, .val (.long q4), .second, .val (.long q5), .second, .val (.int (Int32.ofNat m8)), .val (.int s9), .val (.ref b1001), .unset, .unset] [(.int p2), (.int (9 : Int32)), (.int (Int32.ofNat 9)), (.ref b1001)])) ?_ (fun t k => XS.iloadN X1028.here hx rfl (hb hby at_156) rfl k)
  refine GoalH.step (T' := T1028) (g' := (mkF m 159 #[.val (.int p1), .val (.int p2), .val (.long q3), .second, .val (.long q4), .second, .val (.long q5), .second, .val (.int (Int32.ofNat m8)), .val (.int s9), .val (.ref b1001), .unset, .unset] [(.int s9), (.int p2), (.int (9 : Int32)), (.int (Int32.ofNat 9)), (.ref b1001)])) ?_ (fun t k => XS.iload X1028.here hx rfl (hb hby at_157) rfl k)
  refine GoalH.step (T' := T1028) (g' := (mkF m 161 #[.val (.int p1), .val (.int p2), .val (.long q3), .second, .val (.long q4), .second, .val (.long q5), .second, .val (.int (Int32.ofNat m8)), .val (.int s9), .val (.ref b1001), .unset, .unset] [(.long q5), (.int s9), (.int p2), (.int (9 : Int32)), (.int (Int32.ofNat 9)), (.ref b1001)])) ?_ (fun t k => XS.lload X1028.here hx rfl (hb hby at_159) rfl k)
  obtain ⟨v1030, T1030, h1030, L1030, X1030, e1030, hQ1030, st1030⟩ := callStatic X1028 hx hZ hown (hw _ (List.mem_of_getElem? (i := 2) rfl)) (hw _ (List.mem_of_getElem? (i := 3) rfl)) (hw _ (List.mem_of_getElem? (i := 4) rfl)) (hw _ (List.mem_of_getElem? (i := 5) rfl)) (by decide) (rmPK l Z a0 hw (9 : Int32) p2 s9 q5 h1028 n0 (by omega)) e1028 (W := 2) (by decide) (by decide) (by decide) (by decide) (g := (mkF m 161 #[.val (.int p1), .val (.int p2), .val (.long q3), .second, .val (.long q4), .second, .val (.long q5), .second, .val (.int (Int32.ofNat m8)), .val (.int s9), .val (.ref b1001), .unset, .unset] [(.long q5), (.int s9), (.int p2), (.int (9 : Int32)), (.int (Int32.ofNat 9)), (.ref b1001)])) rfl (by rw [hml]; rfl) (argsL := [(.int (9 : Int32)), (.int p2), (.int s9), (.long q5)]) (rest := [(.int (Int32.ofNat 9)), (.ref b1001)]) (lenOf pd_23 rfl) rfl (by show 2 * 0 + _ ≤ _; exact Nat.le_of_eq rfl) (hb hby at_161) rfl
  obtain ⟨c9, rfl, r9, M1030, q1030⟩ := hQ1030
  rw [q1030] at e1030
  have N1030 := Fr.app N1028 M1030
  refine GoalH.step (T' := T1030) (g' := (mkF m 164 #[.val (.int p1), .val (.int p2), .val (.long q3), .second, .val (.long q4), .second, .val (.long q5), .second, .val (.int (Int32.ofNat m8)), .val (.int s9), .val (.ref b1001), .unset, .unset] [(.int c9), (.int (Int32.ofNat 9)), (.ref b1001)])) ?_ st1030
  obtain ⟨cl1031, Ar1031, q1031, S1031, H1031⟩ := (id V1028)
  have hlt1031 : 9 < 10 := by omega
  have hn1031 : 10 < 2 ^ 31 := by omega
  have hin1031 : ¬ ((Int32.ofNat 9) < 0 ∨ cl1031.slots.size ≤ ((Int32.ofNat 9)).toNatClampNeg) := nat_inb S1031 hlt1031 hn1031
  obtain ⟨T1031, h1031, X1031, e1031, W1031, st1031⟩ := stC X1030 hx hZ e1030 Ar1031 (j := (Int32.ofNat 9)) hin1031 (g := (mkF m 164 #[.val (.int p1), .val (.int p2), .val (.long q3), .second, .val (.long q4), .second, .val (.long q5), .second, .val (.int (Int32.ofNat m8)), .val (.int s9), .val (.ref b1001), .unset, .unset] [(.int c9), (.int (Int32.ofNat 9)), (.ref b1001)])) rfl rfl (hb hby at_164)
  rw [nat_clamp (show 9 < 2 ^ 31 by omega)] at W1031 X1031
  refine GoalH.step (T' := T1031) (g' := (mkF m 165 #[.val (.int p1), .val (.int p2), .val (.long q3), .second, .val (.long q4), .second, .val (.long q5), .second, .val (.int (Int32.ofNat m8)), .val (.int s9), .val (.ref b1001), .unset, .unset] [])) ?_ st1031
  have sz1032 : h1028.size ≤ h1031.size := Nat.le_of_eq W1031.size.symm
  have V1031 : Arf Z h1031 b1001 k1001 .char 10 (fun z => if z = 9 then (nar .char c9) else ((fun z => if z = 8 then (nar .char c8) else ((fun z => if z = 7 then (nar .char c7) else ((fun z => if z = 6 then (nar .char c6) else ((fun z => if z = 5 then (nar .char c5) else ((fun z => if z = 4 then (nar .char c4) else ((fun z => if z = 3 then (nar .char c3) else ((fun z => if z = 2 then (nar .char c2) else ((fun z => if z = 1 then (nar .char c1) else ((fun z => if z = 0 then (nar .char c0) else ((fun _ => 0)) z)) z)) z)) z)) z)) z)) z)) z)) z)) z) := Arf.set Ar1031 q1031 S1031 H1031 W1031
  have N1031 := Fr.snoc X1031 N1030 (by omega : n0 ≤ b1001)
  have kk1033 : Keep h0 h1031 [] := ((((((((((((Keep.refl h0 []).ext E1001).wr W1004 (Or.inr (by omega))).wr W1007 (Or.inr (by omega))).wr W1010 (Or.inr (by omega))).wr W1013 (Or.inr (by omega))).wr W1016 (Or.inr (by omega))).wr W1019 (Or.inr (by omega))).wr W1022 (Or.inr (by omega))).wr W1025 (Or.inr (by omega))).wr W1028 (Or.inr (by omega))).wr W1031 (Or.inr (by omega)))
  have CH1034 := CHr.trans CH0 (CHr.keep kk1033 all0 CH0.1)
  have f1035 : Old Z n0 h1031 := (((((((((((O0.ext E1001).wr W1004 (by omega)).wr W1007 (by omega)).wr W1010 (by omega)).wr W1013 (by omega)).wr W1016 (by omega)).wr W1019 (by omega)).wr W1022 (by omega)).wr W1025 (by omega)).wr W1028 (by omega)).wr W1031 (by omega))
  have A10 : Arf Z h1031 b1001 k1001 .char 10 (ten c0 c1 c2 c3 c4 c5 c6 c7 c8 c9) := Arf.congr V1031 (own_st (f := (ten c0 c1 c2 c3 c4 c5 c6 c7 c8 c9)) (i := 9) (own_st (f := (ten c0 c1 c2 c3 c4 c5 c6 c7 c8 c9)) (i := 8) (own_st (f := (ten c0 c1 c2 c3 c4 c5 c6 c7 c8 c9)) (i := 7) (own_st (f := (ten c0 c1 c2 c3 c4 c5 c6 c7 c8 c9)) (i := 6) (own_st (f := (ten c0 c1 c2 c3 c4 c5 c6 c7 c8 c9)) (i := 5) (own_st (f := (ten c0 c1 c2 c3 c4 c5 c6 c7 c8 c9)) (i := 4) (own_st (f := (ten c0 c1 c2 c3 c4 c5 c6 c7 c8 c9)) (i := 3) (own_st (f := (ten c0 c1 c2 c3 c4 c5 c6 c7 c8 c9)) (i := 2) (own_st (f := (ten c0 c1 c2 c3 c4 c5 c6 c7 c8 c9)) (i := 1) (own_st (f := (ten c0 c1 c2 c3 c4 c5 c6 c7 c8 c9)) (i := 0) (fun j hj => absurd hj (Nat.not_lt_zero _)) (own_ten r0 r1 r2 r3 r4 r5 r6 r7 r8 r9 0)) (own_ten r0 r1 r2 r3 r4 r5 r6 r7 r8 r9 1)) (own_ten r0 r1 r2 r3 r4 r5 r6 r7 r8 r9 2)) (own_ten r0 r1 r2 r3 r4 r5 r6 r7 r8 r9 3)) (own_ten r0 r1 r2 r3 r4 r5 r6 r7 r8 r9 4)) (own_ten r0 r1 r2 r3 r4 r5 r6 r7 r8 r9 5)) (own_ten r0 r1 r2 r3 r4 r5 r6 r7 r8 r9 6)) (own_ten r0 r1 r2 r3 r4 r5 r6 r7 r8 r9 7)) (own_ten r0 r1 r2 r3 r4 r5 r6 r7 r8 r9 8)) (own_ten r0 r1 r2 r3 r4 r5 r6 r7 r8 r9 9))
  exact seg165 hw C0 p1 p2 q3 q4 q5 m8 s9 c0 c1 c2 c3 c4 c5 c6 c7 c8 c9 b1001 k1001 hB ca u0 u1 kc cs fm h1031 n0 (by omega) X1031 hS (by omega) hZ hown e1031 N1031 CH1034 SE f1035 S0 AV U0 U1 hm r0 r1 r2 r3 r4 r5 r6 r7 r8 r9 A10 (by omega)
theorem ef_0 (m : MethodId) (x0 : Int32) (x1 : Int32) (x2 : Int64) (x3 : Int64) (x4 : Int64) : entryFrame m #[(.int x0), (.int x1), (.long x2), (.long x3), (.long x4)] maxLocals = mkF m 0 #[.val (.int x0), .val (.int x1), .val (.long x2), .second, .val (.long x3), .second, .val (.long x4), .second, .unset, .unset, .unset, .unset, .unset] [] := by first | (simp [entryFrame, mkF, argsToLocals, Value.category, maxLocals]; done) | rfl
set_option maxRecDepth 65536 in
set_option maxHeartbeats 40000000 in
theorem rm0 (l : Launch) (Z : State) (a0 : Array Value) (hw : ∀ d ∈ tables_1, d.before a0 Z = true) (p1 p2 : Int32) (q3 q4 q5 : Int64) (ca u0 u1 : Nat) (kc : ClassId) (cs : Int32) (fm : Value) (h0 : Heap) (n0 : Nat) (Z0 : n0 ≤ h0.size) (SE : SEnv Z cs fm) (O0 : Old Z n0 h0) (S0 : Sta Z Z.heap "com/example/gids/gids/LocRule" "SCHEMES" "[Ljava/lang/String;" (.ref ca)) (AV : Arv Z Z.heap ca kc (.object "java/lang/String") (2 : Int32) [.ref u0, .ref u1] .null) (U0 : Str Z Z.heap u0 7 sch0) (U1 : Str Z Z.heap u1 8 sch1) :
    MetH l x code maxLocals ret tables_1 room_1 Z consts_1 [] #[(.int p1), (.int p2), (.long q3), (.long q4), (.long q5)] h0 (fun v h L => v = some (.int 1) ∧ Fr n0 L) := by
  refine of_goalH (plainFor_of_name (by first | (simp [plainName, overriddenIn]; done) | decide +kernel)) ?_
  intro p e s m below meth c s₁ C X0 hS e0 hCH hSf
  have C0 := C
  obtain ⟨hx, hZ, hby, hml, hret, hown, hnm⟩ := C
  have hown : s.vm.findClass "com/example/gids/gids/LocRuleAuthorityStartPinLaw" = some m.cls := hown
  have hret : meth.sig.returnType = (some .boolean) := hret
  have CH0 := CHr.refl hCH
  have N0 := Fr.nil n0
  rw [ef_0]
  refine GoalH.step (T' := s₁) (g' := (mkF m 1 #[.val (.int p1), .val (.int p2), .val (.long q3), .second, .val (.long q4), .second, .val (.long q5), .second, .unset, .unset, .unset, .unset, .unset] [(.int p1)])) ?_ (fun t k => XS.iloadN X0.here hx rfl (hb hby at_0) rfl k)
  refine GoalH.step (T' := s₁) (g' := (mkF m 3 #[.val (.int p1), .val (.int p2), .val (.long q3), .second, .val (.long q4), .second, .val (.long q5), .second, .unset, .unset, .unset, .unset, .unset] [(.int (2147483647 : Int32)), (.int p1)])) ?_ (fun t k => X0.ldcInt hx hown (mvT hZ (hw _ (List.mem_of_getElem? (i := 0) rfl))) (g := (mkF m 1 #[.val (.int p1), .val (.int p2), .val (.long q3), .second, .val (.long q4), .second, .val (.long q5), .second, .unset, .unset, .unset, .unset, .unset] [(.int p1)])) rfl (hb hby at_1) _ k)
  refine GoalH.step (T' := s₁) (g' := (mkF m 4 #[.val (.int p1), .val (.int p2), .val (.long q3), .second, .val (.long q4), .second, .val (.long q5), .second, .unset, .unset, .unset, .unset, .unset] [(.int (p1 &&& (2147483647 : Int32)))])) ?_ (fun t k => XS.iand X0.here hx rfl (hb hby at_3) rfl k)
  refine GoalH.step (T' := s₁) (g' := (mkF m 6 #[.val (.int p1), .val (.int p2), .val (.long q3), .second, .val (.long q4), .second, .val (.long q5), .second, .unset, .unset, .unset, .unset, .unset] [(.int (11 : Int32)), (.int (p1 &&& (2147483647 : Int32)))])) ?_ (fun t k => XS.bipush X0.here hx rfl (hb hby at_4) k)
  refine GoalH.step (T' := s₁) (g' := (mkF m 7 #[.val (.int p1), .val (.int p2), .val (.long q3), .second, .val (.long q4), .second, .val (.long q5), .second, .unset, .unset, .unset, .unset, .unset] [(.int ((p1 &&& (2147483647 : Int32)) % (11 : Int32)))])) ?_ (fun t k => iremM X0 hx rfl (hb hby at_6) rfl (by decide) k)
  obtain ⟨m8, hm, em8⟩ := own_m p1
  rw [em8]
  refine GoalH.step (T' := s₁) (g' := (mkF m 9 #[.val (.int p1), .val (.int p2), .val (.long q3), .second, .val (.long q4), .second, .val (.long q5), .second, .val (.int (Int32.ofNat m8)), .unset, .unset, .unset, .unset] [])) ?_ (fun t k => XS.istore X0.here hx rfl (hb hby at_7) rfl (l' := #[.val (.int p1), .val (.int p2), .val (.long q3), .second, .val (.long q4), .second, .val (.long q5), .second, .val (.int (Int32.ofNat m8)), .unset, .unset, .unset, .unset]) rfl k)
  refine GoalH.step (T' := s₁) (g' := (mkF m 10 #[.val (.int p1), .val (.int p2), .val (.long q3), .second, .val (.long q4), .second, .val (.long q5), .second, .val (.int (Int32.ofNat m8)), .unset, .unset, .unset, .unset] [(.int p2)])) ?_ (fun t k => XS.iloadN X0.here hx rfl (hb hby at_9) rfl k)
  refine GoalH.step (T' := s₁) (g' := (mkF m 12 #[.val (.int p1), .val (.int p2), .val (.long q3), .second, .val (.long q4), .second, .val (.long q5), .second, .val (.int (Int32.ofNat m8)), .unset, .unset, .unset, .unset] [(.int (20 : Int32)), (.int p2)])) ?_ (fun t k => XS.bipush X0.here hx rfl (hb hby at_10) k)
  refine GoalH.step (T' := s₁) (g' := (mkF m 13 #[.val (.int p1), .val (.int p2), .val (.long q3), .second, .val (.long q4), .second, .val (.long q5), .second, .val (.int (Int32.ofNat m8)), .unset, .unset, .unset, .unset] [(.int ((p2.toUInt32 >>> ((20 : Int32) &&& 31).toUInt32).toInt32))])) ?_ (fun t k => XS.iushr X0.here hx rfl (hb hby at_12) rfl k)
  refine GoalH.step (T' := s₁) (g' := (mkF m 14 #[.val (.int p1), .val (.int p2), .val (.long q3), .second, .val (.long q4), .second, .val (.long q5), .second, .val (.int (Int32.ofNat m8)), .unset, .unset, .unset, .unset] [(.int (1 : Int32)), (.int ((p2.toUInt32 >>> ((20 : Int32) &&& 31).toUInt32).toInt32))])) ?_ (fun t k => XS.iconst X0.here hx rfl (hb hby at_13) k)
  refine GoalH.step (T' := s₁) (g' := (mkF m 15 #[.val (.int p1), .val (.int p2), .val (.long q3), .second, .val (.long q4), .second, .val (.long q5), .second, .val (.int (Int32.ofNat m8)), .unset, .unset, .unset, .unset] [(.int (((p2.toUInt32 >>> ((20 : Int32) &&& 31).toUInt32).toInt32) &&& (1 : Int32)))])) ?_ (fun t k => XS.iand X0.here hx rfl (hb hby at_14) rfl k)
  by_cases c1001 : (((p2.toUInt32 >>> ((20 : Int32) &&& 31).toUInt32).toInt32) &&& (1 : Int32)) = (0 : Int32)
  · refine GoalH.step (T' := s₁) (g' := (mkF m 22 #[.val (.int p1), .val (.int p2), .val (.long q3), .second, .val (.long q4), .second, .val (.long q5), .second, .val (.int (Int32.ofNat m8)), .unset, .unset, .unset, .unset] [])) ?_ (fun t k => XS.ifYes X0.here hx rfl (pc0 := 15) (pc' := 22) rfl (hb hby at_15) rfl ((if0 _ _).trans (teq c1001).1) (by decide) (by decide) k)
    refine GoalH.step (T' := s₁) (g' := (mkF m 23 #[.val (.int p1), .val (.int p2), .val (.long q3), .second, .val (.long q4), .second, .val (.long q5), .second, .val (.int (Int32.ofNat m8)), .unset, .unset, .unset, .unset] [(.int (0 : Int32))])) ?_ (fun t k => XS.iconst X0.here hx rfl (hb hby at_22) k)
    refine GoalH.step (T' := s₁) (g' := (mkF m 25 #[.val (.int p1), .val (.int p2), .val (.long q3), .second, .val (.long q4), .second, .val (.long q5), .second, .val (.int (Int32.ofNat m8)), .val (.int (0 : Int32)), .unset, .unset, .unset] [])) ?_ (fun t k => XS.istore X0.here hx rfl (hb hby at_23) rfl (l' := #[.val (.int p1), .val (.int p2), .val (.long q3), .second, .val (.long q4), .second, .val (.long q5), .second, .val (.int (Int32.ofNat m8)), .val (.int (0 : Int32)), .unset, .unset, .unset]) rfl k)
    exact seg25 hw C0 p1 p2 q3 q4 q5 m8 (0 : Int32) h0 ca u0 u1 kc cs fm h0 n0 Z0 X0 hS (by omega) hZ hown e0 N0 CH0 SE O0 S0 AV U0 U1 hm
  · refine GoalH.step (T' := s₁) (g' := (mkF m 18 #[.val (.int p1), .val (.int p2), .val (.long q3), .second, .val (.long q4), .second, .val (.long q5), .second, .val (.int (Int32.ofNat m8)), .unset, .unset, .unset, .unset] [])) ?_ (fun t k => XS.ifNo X0.here hx rfl (hb hby at_15) rfl ((if0 _ _).trans (feq c1001).1) k)
    refine GoalH.step (T' := s₁) (g' := (mkF m 19 #[.val (.int p1), .val (.int p2), .val (.long q3), .second, .val (.long q4), .second, .val (.long q5), .second, .val (.int (Int32.ofNat m8)), .unset, .unset, .unset, .unset] [(.int (1 : Int32))])) ?_ (fun t k => XS.iconst X0.here hx rfl (hb hby at_18) k)
    refine GoalH.step (T' := s₁) (g' := (mkF m 23 #[.val (.int p1), .val (.int p2), .val (.long q3), .second, .val (.long q4), .second, .val (.long q5), .second, .val (.int (Int32.ofNat m8)), .unset, .unset, .unset, .unset] [(.int (1 : Int32))])) ?_ (fun t k => XS.goto X0.here hx rfl (pc0 := 19) (pc' := 23) rfl (hb hby at_19) (by decide) (by decide) k)
    refine GoalH.step (T' := s₁) (g' := (mkF m 25 #[.val (.int p1), .val (.int p2), .val (.long q3), .second, .val (.long q4), .second, .val (.long q5), .second, .val (.int (Int32.ofNat m8)), .val (.int (1 : Int32)), .unset, .unset, .unset] [])) ?_ (fun t k => XS.istore X0.here hx rfl (hb hby at_23) rfl (l' := #[.val (.int p1), .val (.int p2), .val (.long q3), .second, .val (.long q4), .second, .val (.long q5), .second, .val (.int (Int32.ofNat m8)), .val (.int (1 : Int32)), .unset, .unset, .unset]) rfl k)
    exact seg25 hw C0 p1 p2 q3 q4 q5 m8 (1 : Int32) h0 ca u0 u1 kc cs fm h0 n0 Z0 X0 hS (by omega) hZ hown e0 N0 CH0 SE O0 S0 AV U0 U1 hm
set_option maxRecDepth 65536 in
set_option maxHeartbeats 40000000 in
theorem comes_1 {Post : Tables → Env → Array Value → State → Outcome → State → Prop} (hpost : ∀ tb e args s v u, (limb_1_1.after args s (.returned v) u = true ∧ limb_1_2.after args s (.returned v) u = true ∧ True) → ReturnedEndW s (.returned v) u (Jvm.fieldLocs frame_1_writes args s ++ Jvm.arrayLocs frame_1_arrays args s ++ Jvm.staticLocs frame_1_statics s) 24 1216 → Post tb e args s (.returned v) u) :
    ArmFor flags0 classFile x code maxLocals ret World_1 tables_1 room_1 Calls_1 rest_1 Pre_1 Post := by
  intro l hfl _ _ p e ha hc hk s m args below hf hA hF happ hP
  obtain ⟨hcalls, hrest, hpre⟩ := hP
  obtain ⟨-, -, -, hnamed, -, -, -, hat⟩ := (Spec.applies_iff hf).mp happ
  obtain ⟨hg, hn⟩ := and_e (Cond.before_iff.mp (show (Jvm.Cond.and given_1 narrow_1).before args s = true from hpre))
  obtain ⟨gc, gr0⟩ := and_e hg
  obtain ⟨ga0, gr1⟩ := and_e gr0
  obtain ⟨ga1, gr2⟩ := and_e gr1
  obtain ⟨ga2, gr3⟩ := and_e gr2
  obtain ⟨ga3, gr4⟩ := and_e gr3
  obtain ⟨w0, w1, w2, w3, w4, rfl⟩ : ∃ w0 w1 w2 w3 w4 : Value, args = #[w0, w1, w2, w3, w4] := by
    have hs : args.size = 5 := by simpa [Cond.value, given_1] using gc
    obtain ⟨L⟩ := args
    match L, hs with
    | [w0, w1, w2, w3, w4], _ => exact ⟨w0, w1, w2, w3, w4, rfl⟩
  have hw := fun d (hd : d ∈ tables_1) => atoms_spec (ws := Jvm.Cond.code x code maxLocals ret :: tables_1) hat d (List.mem_cons_of_mem _ hd)
  have hfit : Fit s := fun {y c} hc i hi => by
    obtain ⟨ha, rfl⟩ := Array.getElem?_eq_some_iff.mp hc
    have q := List.all_eq_true.mp ((Array.all_eq_true_iff_forall_mem.mp hF) _ (Array.getElem_mem ha)) i (List.mem_range.mpr hi)
    simpa [Array.getElem?_eq_getElem hi] using q
  obtain ⟨hsets, hown0⟩ := atoms_of _ (rest_1_c_eq ▸ (show rest_1_c.before _ s = true from hrest))
  have hr0 := Cond.before_iff.mp hown0
  obtain ⟨i0, ei0⟩ := is_v ga0
  obtain rfl : w0 = (.int i0) := Option.some.inj ei0
  obtain ⟨i1, ei1⟩ := is_v ga1
  obtain rfl : w1 = (.int i1) := Option.some.inj ei1
  obtain ⟨i2, ei2⟩ := isL_v ga2
  obtain rfl : w2 = (.long i2) := Option.some.inj ei2
  obtain ⟨i3, ei3⟩ := isL_v ga3
  obtain rfl : w3 = (.long i3) := Option.some.inj ei3
  obtain ⟨i4, ei4⟩ := isL_v gr4
  obtain rfl : w4 = (.long i4) := Option.some.inj ei4
  obtain ⟨cs, ecs⟩ := is_v (Cond.before_iff.mp (hsets _ (List.mem_of_getElem? (i := 1) rfl)))
  have hcs := own_ne0 (Cond.before_iff.mp (hsets _ (List.mem_of_getElem? (i := 2) rfl))) ecs
  obtain ⟨fm, efm, hfm⟩ := own_isref (Cond.before_iff.mp (hsets _ (List.mem_of_getElem? (i := 8) rfl)))
  have SE : SEnv s cs fm := ⟨Sta.start ecs (Or.inl (hsets _ (List.mem_of_getElem? (i := 0) rfl))), hcs, Sta.start (eqv_i (y := 1) rfl (Cond.before_iff.mp (hsets _ (List.mem_of_getElem? (i := 12) rfl)))) (Or.inl (hsets _ (List.mem_of_getElem? (i := 11) rfl))), Sta.start (eqv_i (y := 0) rfl (Cond.before_iff.mp (hsets _ (List.mem_of_getElem? (i := 15) rfl)))) (Or.inl (hsets _ (List.mem_of_getElem? (i := 14) rfl))), Sta.start (eqv_i (y := 8) rfl (Cond.before_iff.mp (hsets _ (List.mem_of_getElem? (i := 18) rfl)))) (Or.inl (hsets _ (List.mem_of_getElem? (i := 17) rfl))), Sta.start efm (Or.inl (hsets _ (List.mem_of_getElem? (i := 7) rfl))), hfm⟩
  have hCH0 : CHv s consts_1 s.vm s.heap := CHv.start (own_EW hw) (fun p hp => hcalls.1 p hp) (hsets _ (List.mem_of_getElem? (i := 2) rfl)) (own_atoms hw _ (by simp [Bundle.stringAtoms])) (own_atoms hw _ (by simp [Bundle.stringAtoms, Bundle.sN]))
  have hnn : narrow_1.value _ s none s [] = some true := hn
  unfold narrow_1 at hnn
  obtain ⟨m0, hnn⟩ := and_e hnn
  obtain ⟨m1, hnn⟩ := and_e hnn
  obtain ⟨m2, hnn⟩ := and_e hnn
  obtain ⟨m3, hnn⟩ := and_e hnn
  obtain ⟨m4, hnn⟩ := and_e hnn
  obtain ⟨m5, hnn⟩ := and_e hnn
  obtain ⟨m6, hnn⟩ := and_e hnn
  obtain ⟨m7, hnn⟩ := and_e hnn
  obtain ⟨m8, hnn⟩ := and_e hnn
  obtain ⟨m9, hnn⟩ := and_e hnn
  obtain ⟨m10, hnn⟩ := and_e hnn
  obtain ⟨m11, hnn⟩ := and_e hnn
  obtain ⟨m12, hnn⟩ := and_e hnn
  obtain ⟨m13, hnn⟩ := and_e hnn
  obtain ⟨m14, hnn⟩ := and_e hnn
  obtain ⟨m15, hnn⟩ := and_e hnn
  obtain ⟨m16, hnn⟩ := and_e hnn
  obtain ⟨m17, hnn⟩ := and_e hnn
  obtain ⟨m18, hnn⟩ := and_e hnn
  obtain ⟨m19, hnn⟩ := and_e hnn
  obtain ⟨m20, hnn⟩ := and_e hnn
  obtain ⟨m21, hnn⟩ := and_e hnn
  obtain ⟨m22, hnn⟩ := and_e hnn
  obtain ⟨m23, hnn⟩ := and_e hnn
  obtain ⟨ca, ec⟩ := arr_v m0
  obtain ⟨cc, Ac⟩ := Arr.start ec m0
  have Sz := own_size (n := 2) (by decide) ec (Ac.fin (Vm.Alike.refl _)) (eqv_i (y := 2) rfl m1)
  obtain ⟨u0, e0⟩ := exa_v m2
  obtain ⟨u1, e1⟩ := exa_v m6
  have g0 := (elem_in e0 ec rfl Ac.1).2
  have g1 := (elem_in e1 ec rfl Ac.1).2
  have S0 := Sta.start ec (Or.inr ⟨(hw _ (List.mem_of_getElem? (i := 36) rfl)), (hw _ (List.mem_of_getElem? (i := 39) rfl))⟩)
  have AV := own_arr2 Ac Sz g0 g1
  obtain ⟨v0, ev0⟩ := arr_v m3
  obtain ⟨cv0, Av0⟩ := Arr.start ev0 m3
  have Zv0 := own_size (n := 7) (by decide) ev0 (Av0.fin (Vm.Alike.refl _)) (eqv_i (y := 7) rfl m4)
  have y0_0 := (elem_in (eqv_i (y := 104) rfl m10) ev0 rfl Av0.1).2
  have y0_1 := (elem_in (eqv_i (y := 116) rfl m11) ev0 rfl Av0.1).2
  have y0_2 := (elem_in (eqv_i (y := 116) rfl m12) ev0 rfl Av0.1).2
  have y0_3 := (elem_in (eqv_i (y := 112) rfl m13) ev0 rfl Av0.1).2
  have y0_4 := (elem_in (eqv_i (y := 58) rfl m14) ev0 rfl Av0.1).2
  have y0_5 := (elem_in (eqv_i (y := 47) rfl m15) ev0 rfl Av0.1).2
  have y0_6 := (elem_in (eqv_i (y := 47) rfl m16) ev0 rfl Av0.1).2
  have U0 : Str s s.heap u0 7 sch0 := ⟨own_ch0.1, Exa.start e0 m2, v0, cv0.cls, Fld.start ((fld_at e0).symm.trans ev0), Or.inl ⟨Fld.start ((fld_at e0).symm.trans (eqv_i (y := 0) rfl m5)), own_ch0.2, own_arf0 Av0 Zv0 y0_0 y0_1 y0_2 y0_3 y0_4 y0_5 y0_6⟩⟩
  obtain ⟨v1, ev1⟩ := arr_v m7
  obtain ⟨cv1, Av1⟩ := Arr.start ev1 m7
  have Zv1 := own_size (n := 8) (by decide) ev1 (Av1.fin (Vm.Alike.refl _)) (eqv_i (y := 8) rfl m8)
  have y1_0 := (elem_in (eqv_i (y := 104) rfl m17) ev1 rfl Av1.1).2
  have y1_1 := (elem_in (eqv_i (y := 116) rfl m18) ev1 rfl Av1.1).2
  have y1_2 := (elem_in (eqv_i (y := 116) rfl m19) ev1 rfl Av1.1).2
  have y1_3 := (elem_in (eqv_i (y := 112) rfl m20) ev1 rfl Av1.1).2
  have y1_4 := (elem_in (eqv_i (y := 115) rfl m21) ev1 rfl Av1.1).2
  have y1_5 := (elem_in (eqv_i (y := 58) rfl m22) ev1 rfl Av1.1).2
  have y1_6 := (elem_in (eqv_i (y := 47) rfl m23) ev1 rfl Av1.1).2
  have y1_7 := (elem_in (eqv_i (y := 47) rfl hnn) ev1 rfl Av1.1).2
  have U1 : Str s s.heap u1 8 sch1 := ⟨own_ch1.1, Exa.start e1 m6, v1, cv1.cls, Fld.start ((fld_at e1).symm.trans ev1), Or.inl ⟨Fld.start ((fld_at e1).symm.trans (eqv_i (y := 0) rfl m9)), own_ch1.2, own_arf1 Av1 Zv1 y1_0 y1_1 y1_2 y1_3 y1_4 y1_5 y1_6 y1_7⟩⟩
  obtain ⟨n, o, h1, h2, h3, _, L, rfl, ⟨rfl, N⟩, -, hq⟩ := rm0 l s _ hw i0 i1 i2 i3 i4 ca u0 u1 cc.cls cs fm s.heap s.heap.size (Nat.le_refl _) SE (Old.start s) S0 AV U0 U1 p e ha hc hk s m _ below hf ((Spec.applies_iff_loose hf).mp happ).1 ⟨rfl, State.Warmed39.refl s, rfl, hCH0, nofun⟩ trivial
  refine ⟨n, _, h1, h2, h3, hpost _ _ _ _ _ _ ⟨Cond.after_iff.mpr rfl, Cond.after_iff.mpr (eq_i res_at (Term.int_eval (1)) rfl), trivial⟩ ⟨hq.1, hq.2.1, hq.2.2.1, (hq.2.2.2.sift fun y hy => Or.inr (N y hy)).mono (by decide) (by decide)⟩⟩
theorem main_1_1 : Claimed_1_1 := comes_1 fun _ _ _ _ _ _ h hF => ⟨h.1, hF⟩
theorem main_1_2 : Claimed_1_2 := comes_1 fun _ _ _ _ _ _ h hF => ⟨h.2.1, hF⟩
end Jvm.Pilot.@@N@@
namespace Jvm.Pilot.@@N@@
open Jvm Jvm.ClassFile Sem Op Lib Jvm.Free Jvm.Stand Jvm.Pilot.@@N@@.Jvm.D
/-! MADE BY PROGRAM (witnessworld.py) out of the Statement's table words and the real class files: 22 classes; the members and pool entries that the words name. The judged class is class 1, her method 1. -/
namespace start1
open Jvm.ClassFile
def u (s : String) : CpInfo := .utf8 (stringToUtf16 s)
/-- a pool by its gaps: so many unusable entries, then the entry; so many at the end -/
def gap : Nat → List CpInfo → List CpInfo
  | 0, r => r
  | n + 1, r => .unusable :: gap n r
def poolList (es : List (Nat × CpInfo)) (last : Nat) : List CpInfo := es.foldr (fun e r => gap e.1 (e.2 :: r)) (gap last [])
def pool (es : List (Nat × CpInfo)) (last : Nat) : Array CpInfo := ⟨poolList es last⟩
def fileOf (pool : Array CpInfo) (this : Nat) (attrs : Array Attribute := #[]) (ms : Array MethodInfo := #[]) (fl : Nat := 33) (sup : Nat := 0) (ifs : Array Nat := #[]) (fds : Array FieldInfo := #[]) : ClassFile where
  minorVersion := 0
  majorVersion := 65
  constantPool := pool
  accessFlags := fl
  thisClass := this
  superClass := sup
  interfaces := ifs
  fields := fds
  methods := ms
  attributes := attrs
def plain (name : String) (sup : Option ClassId) : Class where
  name := name
  kind := .ordinary
  loader := none
  accessFlags := 33
  super := sup
  interfaces := #[]
  cf := none
  fields := #[]
  methods := #[]
  instanceTypes := #[]
  staticTypes := #[]
  resolved := #[]
  callSites := []
  init := .initialized
  statics := none
  mirror := none

def pool0 : Array CpInfo := pool [(5, u "<init>"), (0, u "()V"), (1, .class_ 10), (1, u "java/lang/Object")] 113

def k0c0 : Code := { maxStack := 0, maxLocals := 1, code := object_method_1_code, exceptionTable := #[], attributes := #[] }
def k0m0 : Method := { name := "<init>", desc := "()V", sig := { parameters := [], returnType := none }, accessFlags := 1, code := some k0c0 }
/-- java/lang/Object -/
def k0 : Class := { plain "java/lang/Object" none with
  accessFlags := 33
  interfaces := #[]
  cf := some (fileOf pool0 8 #[] #[{ accessFlags := 1, nameIndex := 5, descriptorIndex := 6, attributes := #[] }] 33 0 #[] #[])
  fields := #[]
  methods := #[k0m0]
  instanceTypes := #[]
  staticTypes := #[]
  resolved := Array.replicate 124 none
  statics := none }

def pool1 : Array CpInfo := pool [(2, .class_ 4), (1, u "java/lang/Object"), (0, u "<init>"), (0, u "()V"), (0, .integer 2147483647), (0, .methodref 9 10), (0, .class_ 11), (0, .nameAndType 12 13), (0, u "com/example/gids/gids/LocRuleAuthorityStartPinLaw"), (0, u "pick"), (0, u "(IIZJ)C"), (0, .methodref 9 15), (0, .nameAndType 16 17), (0, u "make"), (0, u "(I[C)Ljava/lang/String;"), (0, .methodref 9 19), (0, .nameAndType 20 21), (0, u "is"), (0, u "(CCC)Z"), (0, .methodref 23 24), (0, .class_ 25), (0, .nameAndType 26 27), (0, u "com/example/gids/gids/LocRule"), (0, u "authorityStart"), (0, u "(Ljava/lang/String;)I"), (0, .long 65535), (1, .methodref 9 31), (0, .nameAndType 32 33), (0, u "pat"), (0, u "(IZ)C"), (0, .class_ 35), (0, u "java/lang/String"), (0, .methodref 34 37), (0, .nameAndType 5 38), (0, u "([C)V"), (2, u "law"), (0, u "(IIJJJ)Z")] 5

def k1m0 : Method := { name := "<init>", desc := "()V", sig := { parameters := [], returnType := none }, accessFlags := 2, code := none }
def k1c1 : Code := { maxStack := 7, maxLocals := 13, code := code, exceptionTable := #[], attributes := #[] }
def k1m1 : Method := { name := "law", desc := "(IIJJJ)Z", sig := { parameters := [.int, .int, .long, .long, .long], returnType := some .boolean }, accessFlags := 9, code := some k1c1 }
def k1c2 : Code := { maxStack := 2, maxLocals := 3, code := method_3_code, exceptionTable := #[], attributes := #[] }
def k1m2 : Method := { name := "is", desc := "(CCC)Z", sig := { parameters := [.char, .char, .char], returnType := some .boolean }, accessFlags := 10, code := some k1c2 }
def k1c3 : Code := { maxStack := 5, maxLocals := 9, code := method_4_code, exceptionTable := #[], attributes := #[] }
def k1m3 : Method := { name := "pick", desc := "(IIZJ)C", sig := { parameters := [.int, .int, .boolean, .long], returnType := some .char }, accessFlags := 10, code := some k1c3 }
def k1c4 : Code := { maxStack := 2, maxLocals := 2, code := method_5_code, exceptionTable := #[], attributes := #[] }
def k1m4 : Method := { name := "pat", desc := "(IZ)C", sig := { parameters := [.int, .boolean], returnType := some .char }, accessFlags := 10, code := some k1c4 }
def k1c5 : Code := { maxStack := 7, maxLocals := 2, code := method_6_code, exceptionTable := #[], attributes := #[] }
def k1m5 : Method := { name := "make", desc := "(I[C)Ljava/lang/String;", sig := { parameters := [.int, (.array .char)], returnType := some (.object "java/lang/String") }, accessFlags := 10, code := some k1c5 }
/-- com/example/gids/gids/LocRuleAuthorityStartPinLaw -/
def k1 : Class := { plain "com/example/gids/gids/LocRuleAuthorityStartPinLaw" (some 0) with
  accessFlags := 49
  interfaces := #[]
  cf := some (fileOf pool1 9 #[] #[{ accessFlags := 2, nameIndex := 5, descriptorIndex := 6, attributes := #[] }, { accessFlags := 9, nameIndex := 41, descriptorIndex := 42, attributes := #[] }, { accessFlags := 10, nameIndex := 20, descriptorIndex := 21, attributes := #[] }, { accessFlags := 10, nameIndex := 12, descriptorIndex := 13, attributes := #[] }, { accessFlags := 10, nameIndex := 32, descriptorIndex := 33, attributes := #[] }, { accessFlags := 10, nameIndex := 16, descriptorIndex := 17, attributes := #[] }] 49 2 #[] #[])
  fields := #[]
  methods := #[k1m0, k1m1, k1m2, k1m3, k1m4, k1m5]
  instanceTypes := #[]
  staticTypes := #[]
  resolved := Array.replicate 48 none
  statics := none }

def pool2 : Array CpInfo := pool [(1, .class_ 2), (0, u "java/io/Serializable"), (0, .class_ 4), (0, u "java/lang/Object")] 2

/-- java/io/Serializable -/
def k2 : Class := { plain "java/io/Serializable" (some 0) with
  accessFlags := 1537
  interfaces := #[]
  cf := some (fileOf pool2 1 #[] #[] 1537 3 #[] #[])
  fields := #[]
  methods := #[]
  instanceTypes := #[]
  staticTypes := #[]
  resolved := Array.replicate 7 none
  statics := none }

def pool3 : Array CpInfo := pool [(1, .class_ 2), (0, u "java/lang/Comparable"), (0, .class_ 4), (0, u "java/lang/Object")] 7

/-- java/lang/Comparable -/
def k3 : Class := { plain "java/lang/Comparable" (some 0) with
  accessFlags := 1537
  interfaces := #[]
  cf := some (fileOf pool3 1 #[] #[] 1537 3 #[] #[])
  fields := #[]
  methods := #[]
  instanceTypes := #[]
  staticTypes := #[]
  resolved := Array.replicate 12 none
  statics := none }

def pool4 : Array CpInfo := pool [(2, .class_ 4), (1, u "java/lang/CharSequence"), (42, .class_ 48), (0, u "java/lang/CharSequence$1CodePointIterator"), (10, .class_ 60), (0, u "java/lang/CharSequence$1CharIterator"), (5, .class_ 67), (0, u "java/lang/Object")] 63

/-- java/lang/CharSequence -/
def k4 : Class := { plain "java/lang/CharSequence" (some 0) with
  accessFlags := 1537
  interfaces := #[]
  cf := some (fileOf pool4 2 #[.nestMembers #[47, 59]] #[] 1537 66 #[] #[])
  fields := #[]
  methods := #[]
  instanceTypes := #[]
  staticTypes := #[]
  resolved := Array.replicate 131 none
  statics := none }

def pool5 : Array CpInfo := pool [(1, .class_ 2), (0, u "java/lang/constant/Constable"), (0, .class_ 4), (0, u "java/lang/Object")] 6

/-- java/lang/constant/Constable -/
def k5 : Class := { plain "java/lang/constant/Constable" (some 0) with
  accessFlags := 1537
  interfaces := #[]
  cf := some (fileOf pool5 1 #[] #[] 1537 3 #[] #[])
  fields := #[]
  methods := #[]
  instanceTypes := #[]
  staticTypes := #[]
  resolved := Array.replicate 11 none
  statics := none }

def pool6 : Array CpInfo := pool [(1, .class_ 2), (0, u "java/lang/constant/ConstantDesc"), (0, .class_ 4), (0, u "java/lang/Object")] 32

/-- java/lang/constant/ConstantDesc -/
def k6 : Class := { plain "java/lang/constant/ConstantDesc" (some 0) with
  accessFlags := 1537
  interfaces := #[]
  cf := some (fileOf pool6 1 #[] #[] 1537 3 #[] #[])
  fields := #[]
  methods := #[]
  instanceTypes := #[]
  staticTypes := #[]
  resolved := Array.replicate 37 none
  statics := none }

def pool7 : Array CpInfo := pool [(1, .methodref 2 3), (0, .class_ 4), (0, .nameAndType 5 6), (0, u "java/lang/Object"), (0, u "<init>"), (0, u "()V"), (0, .string 8), (0, u ""), (0, .fieldref 10 11), (0, .class_ 12), (0, .nameAndType 13 14), (0, u "java/lang/String"), (0, u "value"), (0, u "[B"), (0, .fieldref 10 16), (0, .nameAndType 17 18), (0, u "coder"), (0, u "B"), (2, u "hash"), (0, u "I"), (2, u "hashIsZero"), (0, u "Z"), (0, .methodref 10 28), (0, .nameAndType 5 29), (0, u "([CIILjava/lang/Void;)V"), (8, .fieldref 10 39), (0, .nameAndType 40 26), (0, u "COMPACT_STRINGS"), (1, .class_ 44), (1, u "java/lang/StringUTF16"), (0, u "compress"), (1, .methodref 42 48), (0, .nameAndType 49 50), (0, u "coderFromArrayLen"), (0, u "([BI)B"), (56, .class_ 109), (1, u "java/lang/StringLatin1"), (32, u "()Z"), (34, .methodref 42 178), (0, .nameAndType 45 179), (0, u "([CII)[B"), (154, u "()I"), (0, .methodref 10 336), (0, .nameAndType 17 337), (0, u "()B"), (25, u "([BI)C"), (27, u "(II)V"), (35, u "(I)C"), (64, .methodref 10 493), (0, .nameAndType 494 142), (0, u "isLatin1"), (0, .methodref 107 496), (0, .nameAndType 497 363), (0, u "charAt"), (0, .methodref 42 496), (2, u "checkIndex"), (5, u "length"), (67, .class_ 576), (0, u "java/lang/CharSequence"), (22, u "CASE_INSENSITIVE_ORDER"), (0, u "Ljava/util/Comparator;"), (409, u "([C)V"), (42, .fieldref 1054 1055), (0, .class_ 1056), (0, .nameAndType 1057 1058), (0, u "jdk/internal/util/Preconditions"), (0, u "SIOOBE_FORMATTER"), (0, u "Ljava/util/function/BiFunction;"), (0, .methodref 1054 1060), (0, .nameAndType 501 1061), (0, u "(IILjava/util/function/BiFunction;)I"), (39, u "serialPersistentFields"), (0, u "[Ljava/io/ObjectStreamField;"), (0, .class_ 1104), (0, u "java/lang/String$CaseInsensitiveComparator"), (1, .class_ 1107), (0, u "java/io/Serializable"), (0, .class_ 1109), (0, u "java/lang/Comparable"), (0, .class_ 1111), (0, u "java/lang/constant/Constable"), (0, .class_ 1113), (0, u "java/lang/constant/ConstantDesc"), (2, u "serialVersionUID"), (0, u "J"), (3, u "REPL"), (0, u "C"), (2, u "LATIN1"), (1, u "UTF16")] 323

def k7m0 : Method := { name := "<init>", desc := "()V", sig := { parameters := [], returnType := none }, accessFlags := 1, code := none }
def k7c1 : Code := { maxStack := 5, maxLocals := 2, code := jdk_42_method_3_code, exceptionTable := #[], attributes := #[] }
def k7m1 : Method := { name := "<init>", desc := "([C)V", sig := { parameters := [(.array .char)], returnType := none }, accessFlags := 1, code := some k7c1 }
def k7c2 : Code := { maxStack := 2, maxLocals := 1, code := jdk_42_method_54_code, exceptionTable := #[], attributes := #[] }
def k7m2 : Method := { name := "length", desc := "()I", sig := { parameters := [], returnType := some .int }, accessFlags := 1, code := some k7c2 }
def k7c3 : Code := { maxStack := 2, maxLocals := 2, code := jdk_42_method_56_code, exceptionTable := #[], attributes := #[] }
def k7m3 : Method := { name := "charAt", desc := "(I)C", sig := { parameters := [.int], returnType := some .char }, accessFlags := 1, code := some k7c3 }
def k7c4 : Code := { maxStack := 4, maxLocals := 6, code := jdk_42_method_149_code, exceptionTable := #[], attributes := #[] }
def k7m4 : Method := { name := "<init>", desc := "([CIILjava/lang/Void;)V", sig := { parameters := [(.array .char), .int, .int, (.object "java/lang/Void")], returnType := none }, accessFlags := 2, code := some k7c4 }
def k7c5 : Code := { maxStack := 1, maxLocals := 1, code := jdk_42_method_152_code, exceptionTable := #[], attributes := #[] }
def k7m5 : Method := { name := "coder", desc := "()B", sig := { parameters := [], returnType := some .byte }, accessFlags := 0, code := some k7c5 }
def k7c6 : Code := { maxStack := 1, maxLocals := 1, code := jdk_42_method_154_code, exceptionTable := #[], attributes := #[] }
def k7m6 : Method := { name := "isLatin1", desc := "()Z", sig := { parameters := [], returnType := some .boolean }, accessFlags := 0, code := some k7c6 }
def k7c7 : Code := { maxStack := 3, maxLocals := 2, code := jdk_42_method_155_code, exceptionTable := #[], attributes := #[] }
def k7m7 : Method := { name := "checkIndex", desc := "(II)V", sig := { parameters := [.int, .int], returnType := none }, accessFlags := 8, code := some k7c7 }
/-- java/lang/String -/
def k7 : Class := { plain "java/lang/String" (some 0) with
  accessFlags := 49
  interfaces := #[2, 3, 4, 5, 6]
  cf := some (fileOf pool7 10 #[.nestMembers #[1103]] #[{ accessFlags := 1, nameIndex := 5, descriptorIndex := 6, attributes := #[] }, { accessFlags := 1, nameIndex := 5, descriptorIndex := 1010, attributes := #[] }, { accessFlags := 1, nameIndex := 507, descriptorIndex := 334, attributes := #[] }, { accessFlags := 1, nameIndex := 497, descriptorIndex := 427, attributes := #[] }, { accessFlags := 2, nameIndex := 5, descriptorIndex := 29, attributes := #[] }, { accessFlags := 0, nameIndex := 17, descriptorIndex := 337, attributes := #[] }, { accessFlags := 0, nameIndex := 494, descriptorIndex := 142, attributes := #[] }, { accessFlags := 8, nameIndex := 501, descriptorIndex := 391, attributes := #[] }] 49 2 #[1106, 1108, 575, 1110, 1112] #[{ accessFlags := 18, nameIndex := 13, descriptorIndex := 14, attributes := #[] }, { accessFlags := 18, nameIndex := 17, descriptorIndex := 18, attributes := #[] }, { accessFlags := 2, nameIndex := 21, descriptorIndex := 22, attributes := #[] }, { accessFlags := 2, nameIndex := 25, descriptorIndex := 26, attributes := #[] }, { accessFlags := 26, nameIndex := 1116, descriptorIndex := 1117, attributes := #[] }, { accessFlags := 24, nameIndex := 40, descriptorIndex := 26, attributes := #[] }, { accessFlags := 26, nameIndex := 1101, descriptorIndex := 1102, attributes := #[] }, { accessFlags := 26, nameIndex := 1121, descriptorIndex := 1122, attributes := #[] }, { accessFlags := 25, nameIndex := 599, descriptorIndex := 600, attributes := #[] }, { accessFlags := 24, nameIndex := 1125, descriptorIndex := 18, attributes := #[] }, { accessFlags := 24, nameIndex := 1127, descriptorIndex := 18, attributes := #[] }])
  fields := #[{ name := "value", type := (.array .byte), accessFlags := 18, slot := 0, constantValue := 0 }, { name := "coder", type := .byte, accessFlags := 18, slot := 1, constantValue := 0 }, { name := "hash", type := .int, accessFlags := 2, slot := 2, constantValue := 0 }, { name := "hashIsZero", type := .boolean, accessFlags := 2, slot := 3, constantValue := 0 }, { name := "serialVersionUID", type := .long, accessFlags := 26, slot := 0, constantValue := 0 }, { name := "COMPACT_STRINGS", type := .boolean, accessFlags := 24, slot := 1, constantValue := 0 }, { name := "serialPersistentFields", type := (.array (.object "java/io/ObjectStreamField")), accessFlags := 26, slot := 2, constantValue := 0 }, { name := "REPL", type := .char, accessFlags := 26, slot := 3, constantValue := 0 }, { name := "CASE_INSENSITIVE_ORDER", type := (.object "java/util/Comparator"), accessFlags := 25, slot := 4, constantValue := 0 }, { name := "LATIN1", type := .byte, accessFlags := 24, slot := 5, constantValue := 0 }, { name := "UTF16", type := .byte, accessFlags := 24, slot := 6, constantValue := 0 }]
  methods := #[k7m0, k7m1, k7m2, k7m3, k7m4, k7m5, k7m6, k7m7]
  instanceTypes := #[(.array .byte), .byte, .int, .boolean]
  staticTypes := #[.long, .boolean, (.array (.object "java/io/ObjectStreamField")), .char, (.object "java/util/Comparator"), .byte, .byte]
  resolved := Array.replicate 1451 none
  statics := some 0 }

def pool8 : Array CpInfo := pool [(2, .class_ 4), (1, u "java/lang/Object"), (0, u "<init>"), (0, u "()V"), (0, .methodref 8 9), (0, .class_ 10), (0, .nameAndType 11 12), (0, u "java/lang/String"), (0, u "length"), (0, u "()I"), (19, .class_ 34), (1, u "com/example/gids/gids/LocRule"), (0, u "authorityStart"), (0, u "(Ljava/lang/String;)I"), (21, .fieldref 32 59), (0, .nameAndType 60 61), (0, u "SCHEMES"), (0, u "[Ljava/lang/String;"), (0, .methodref 63 64), (0, .class_ 65), (0, .nameAndType 66 67), (0, u "com/example/gids/gids/Ascii"), (0, u "startsWithIgnoringCase"), (0, u "(Ljava/lang/String;Ljava/lang/String;)Z"), (12, u "DELETE"), (0, u "C")] 13

def k8m0 : Method := { name := "<init>", desc := "()V", sig := { parameters := [], returnType := none }, accessFlags := 2, code := none }
def k8c1 : Code := { maxStack := 2, maxLocals := 5, code := prog_31_method_3_code, exceptionTable := #[], attributes := #[] }
def k8m1 : Method := { name := "authorityStart", desc := "(Ljava/lang/String;)I", sig := { parameters := [(.object "java/lang/String")], returnType := some .int }, accessFlags := 8, code := some k8c1 }
/-- com/example/gids/gids/LocRule -/
def k8 : Class := { plain "com/example/gids/gids/LocRule" (some 0) with
  accessFlags := 48
  interfaces := #[]
  cf := some (fileOf pool8 32 #[] #[{ accessFlags := 2, nameIndex := 5, descriptorIndex := 6, attributes := #[] }, { accessFlags := 8, nameIndex := 35, descriptorIndex := 36, attributes := #[] }] 48 2 #[] #[{ accessFlags := 26, nameIndex := 60, descriptorIndex := 61, attributes := #[] }, { accessFlags := 26, nameIndex := 80, descriptorIndex := 81, attributes := #[] }])
  fields := #[{ name := "SCHEMES", type := (.array (.object "java/lang/String")), accessFlags := 26, slot := 0, constantValue := 0 }, { name := "DELETE", type := .char, accessFlags := 26, slot := 1, constantValue := 0 }]
  methods := #[k8m0, k8m1]
  instanceTypes := #[]
  staticTypes := #[(.array (.object "java/lang/String")), .char]
  resolved := Array.replicate 95 none
  statics := some 1 }

def pool9 : Array CpInfo := pool [(2, .class_ 4), (1, u "java/lang/Object"), (0, u "<init>"), (0, u "()V"), (0, .methodref 8 9), (0, .class_ 10), (0, .nameAndType 11 12), (0, u "java/lang/String"), (0, u "length"), (0, u "()I"), (0, .methodref 8 14), (0, .nameAndType 15 16), (0, u "charAt"), (0, u "(I)C"), (0, .methodref 18 19), (0, .class_ 20), (0, .nameAndType 21 22), (0, u "com/example/gids/gids/Ascii"), (0, u "toLowerCase"), (0, u "(C)C"), (15, u "startsWithIgnoringCase"), (0, u "(Ljava/lang/String;Ljava/lang/String;)Z")] 4

def k9m0 : Method := { name := "<init>", desc := "()V", sig := { parameters := [], returnType := none }, accessFlags := 2, code := none }
def k9c1 : Code := { maxStack := 3, maxLocals := 3, code := prog_7_method_2_code, exceptionTable := #[], attributes := #[] }
def k9m1 : Method := { name := "startsWithIgnoringCase", desc := "(Ljava/lang/String;Ljava/lang/String;)Z", sig := { parameters := [(.object "java/lang/String"), (.object "java/lang/String")], returnType := some .boolean }, accessFlags := 8, code := some k9c1 }
def k9c2 : Code := { maxStack := 2, maxLocals := 1, code := prog_7_method_4_code, exceptionTable := #[], attributes := #[] }
def k9m2 : Method := { name := "toLowerCase", desc := "(C)C", sig := { parameters := [.char], returnType := some .char }, accessFlags := 10, code := some k9c2 }
/-- com/example/gids/gids/Ascii -/
def k9 : Class := { plain "com/example/gids/gids/Ascii" (some 0) with
  accessFlags := 48
  interfaces := #[]
  cf := some (fileOf pool9 18 #[] #[{ accessFlags := 2, nameIndex := 5, descriptorIndex := 6, attributes := #[] }, { accessFlags := 8, nameIndex := 38, descriptorIndex := 39, attributes := #[] }, { accessFlags := 10, nameIndex := 21, descriptorIndex := 22, attributes := #[] }] 48 2 #[] #[])
  fields := #[]
  methods := #[k9m0, k9m1, k9m2]
  instanceTypes := #[]
  staticTypes := #[]
  resolved := Array.replicate 44 none
  statics := none }

def pool10 : Array CpInfo := pool [(3, .class_ 4), (0, u "java/lang/String"), (1, .class_ 8), (1, u "java/lang/Object"), (0, u "<init>"), (0, u "()V"), (0, .methodref 12 13), (0, .class_ 14), (0, .nameAndType 15 16), (0, u "java/lang/StringUTF16"), (0, u "newBytesLength"), (0, u "(I)I"), (3, .integer 1073741823), (23, .fieldref 12 45), (0, .nameAndType 46 47), (0, u "$assertionsDisabled"), (0, u "Z"), (0, .methodref 12 49), (0, .nameAndType 50 51), (0, u "length"), (0, u "([B)I"), (7, .fieldref 12 60), (0, .nameAndType 61 62), (0, u "HI_BYTE_SHIFT"), (0, u "I"), (0, .fieldref 12 64), (0, .nameAndType 65 62), (0, u "LO_BYTE_SHIFT"), (1, .methodref 12 68), (0, .nameAndType 69 70), (0, u "checkIndex"), (0, u "(I[B)V"), (0, .methodref 12 72), (0, .nameAndType 73 74), (0, u "getChar"), (0, u "([BI)C"), (32, .methodref 12 108), (0, .nameAndType 109 110), (0, u "newBytesFor"), (0, u "(I)[B"), (0, .methodref 12 112), (0, .nameAndType 113 114), (0, u "putChar"), (0, u "([BII)V"), (0, .methodref 12 116), (0, .nameAndType 117 118), (0, u "compress"), (0, u "([CI[BII)I"), (0, .methodref 12 120), (0, .nameAndType 121 122), (0, u "toBytes"), (0, u "([CII)[B"), (138, u "coderFromArrayLen"), (0, u "([BI)B"), (106, .class_ 371), (1, u "java/lang/StringUTF16$LinesSpliterator"), (20, u "charAt"), (21, .methodref 3 415), (0, .nameAndType 69 416), (0, u "(II)V"), (13, u "MAX_LENGTH"), (196, .class_ 628), (0, u "java/lang/StringUTF16$CodePointsSpliterator"), (0, .class_ 630), (0, u "java/lang/StringUTF16$CharsSpliterator")] 4

def k10m0 : Method := { name := "<init>", desc := "()V", sig := { parameters := [], returnType := none }, accessFlags := 0, code := none }
def k10c1 : Code := { maxStack := 1, maxLocals := 1, code := jdk_52_method_2_code, exceptionTable := #[], attributes := #[] }
def k10m1 : Method := { name := "newBytesFor", desc := "(I)[B", sig := { parameters := [.int], returnType := some (.array .byte) }, accessFlags := 9, code := some k10c1 }
def k10c2 : Code := { maxStack := 4, maxLocals := 1, code := jdk_52_method_3_code, exceptionTable := #[], attributes := #[] }
def k10m2 : Method := { name := "newBytesLength", desc := "(I)I", sig := { parameters := [.int], returnType := some .int }, accessFlags := 9, code := some k10c2 }
def k10c3 : Code := { maxStack := 4, maxLocals := 3, code := jdk_52_method_4_code, exceptionTable := #[], attributes := #[] }
def k10m3 : Method := { name := "putChar", desc := "([BII)V", sig := { parameters := [(.array .byte), .int, .int], returnType := none }, accessFlags := 8, code := some k10c3 }
def k10c4 : Code := { maxStack := 3, maxLocals := 2, code := jdk_52_method_5_code, exceptionTable := #[], attributes := #[] }
def k10m4 : Method := { name := "getChar", desc := "([BI)C", sig := { parameters := [(.array .byte), .int], returnType := some .char }, accessFlags := 8, code := some k10c4 }
def k10c5 : Code := { maxStack := 2, maxLocals := 1, code := jdk_52_method_6_code, exceptionTable := #[], attributes := #[] }
def k10m5 : Method := { name := "length", desc := "([B)I", sig := { parameters := [(.array .byte)], returnType := some .int }, accessFlags := 9, code := some k10c5 }
def k10c6 : Code := { maxStack := 4, maxLocals := 5, code := jdk_52_method_14_code, exceptionTable := #[], attributes := #[] }
def k10m6 : Method := { name := "toBytes", desc := "([CII)[B", sig := { parameters := [(.array .char), .int, .int], returnType := some (.array .byte) }, accessFlags := 9, code := some k10c6 }
def k10c7 : Code := { maxStack := 2, maxLocals := 2, code := jdk_52_method_15_code, exceptionTable := #[], attributes := #[] }
def k10m7 : Method := { name := "coderFromArrayLen", desc := "([BI)B", sig := { parameters := [(.array .byte), .int], returnType := some .byte }, accessFlags := 8, code := some k10c7 }
def k10c8 : Code := { maxStack := 5, maxLocals := 6, code := jdk_52_method_16_code, exceptionTable := #[], attributes := #[] }
def k10m8 : Method := { name := "compress", desc := "([CII)[B", sig := { parameters := [(.array .char), .int, .int], returnType := some (.array .byte) }, accessFlags := 9, code := some k10c8 }
def k10c9 : Code := { maxStack := 3, maxLocals := 7, code := jdk_52_method_21_code, exceptionTable := #[], attributes := #[] }
def k10m9 : Method := { name := "compress", desc := "([CI[BII)I", sig := { parameters := [(.array .char), .int, (.array .byte), .int, .int], returnType := some .int }, accessFlags := 9, code := some k10c9 }
def k10c10 : Code := { maxStack := 2, maxLocals := 2, code := jdk_52_method_83_code, exceptionTable := #[], attributes := #[] }
def k10m10 : Method := { name := "charAt", desc := "([BI)C", sig := { parameters := [(.array .byte), .int], returnType := some .char }, accessFlags := 9, code := some k10c10 }
def k10c11 : Code := { maxStack := 2, maxLocals := 2, code := jdk_52_method_91_code, exceptionTable := #[], attributes := #[] }
def k10m11 : Method := { name := "checkIndex", desc := "(I[B)V", sig := { parameters := [.int, (.array .byte)], returnType := none }, accessFlags := 9, code := some k10c11 }
/-- java/lang/StringUTF16 -/
def k10 : Class := { plain "java/lang/StringUTF16" (some 0) with
  accessFlags := 48
  interfaces := #[]
  cf := some (fileOf pool10 12 #[.nestMembers #[627, 629, 369]] #[{ accessFlags := 0, nameIndex := 9, descriptorIndex := 10, attributes := #[] }, { accessFlags := 9, nameIndex := 109, descriptorIndex := 110, attributes := #[] }, { accessFlags := 9, nameIndex := 15, descriptorIndex := 16, attributes := #[] }, { accessFlags := 8, nameIndex := 113, descriptorIndex := 114, attributes := #[] }, { accessFlags := 8, nameIndex := 73, descriptorIndex := 74, attributes := #[] }, { accessFlags := 9, nameIndex := 50, descriptorIndex := 51, attributes := #[] }, { accessFlags := 9, nameIndex := 121, descriptorIndex := 122, attributes := #[] }, { accessFlags := 8, nameIndex := 261, descriptorIndex := 262, attributes := #[] }, { accessFlags := 9, nameIndex := 117, descriptorIndex := 122, attributes := #[] }, { accessFlags := 9, nameIndex := 117, descriptorIndex := 118, attributes := #[] }, { accessFlags := 9, nameIndex := 392, descriptorIndex := 74, attributes := #[] }, { accessFlags := 9, nameIndex := 69, descriptorIndex := 70, attributes := #[] }] 48 6 #[] #[{ accessFlags := 26, nameIndex := 61, descriptorIndex := 62, attributes := #[] }, { accessFlags := 26, nameIndex := 65, descriptorIndex := 62, attributes := #[] }, { accessFlags := 24, nameIndex := 430, descriptorIndex := 62, attributes := #[] }, { accessFlags := 4120, nameIndex := 46, descriptorIndex := 47, attributes := #[] }])
  fields := #[{ name := "HI_BYTE_SHIFT", type := .int, accessFlags := 26, slot := 0, constantValue := 0 }, { name := "LO_BYTE_SHIFT", type := .int, accessFlags := 26, slot := 1, constantValue := 0 }, { name := "MAX_LENGTH", type := .int, accessFlags := 24, slot := 2, constantValue := 0 }, { name := "$assertionsDisabled", type := .boolean, accessFlags := 4120, slot := 3, constantValue := 0 }]
  methods := #[k10m0, k10m1, k10m2, k10m3, k10m4, k10m5, k10m6, k10m7, k10m8, k10m9, k10m10, k10m11]
  instanceTypes := #[]
  staticTypes := #[.int, .int, .int, .boolean]
  resolved := Array.replicate 635 none
  statics := some 2 }

def pool11 : Array CpInfo := pool [(2, .class_ 4), (1, u "java/lang/Object"), (0, u "<init>"), (0, u "()V"), (17, .class_ 26), (1, u "jdk/internal/util/Preconditions"), (6, u "checkIndex"), (21, .class_ 56), (0, u "jdk/internal/util/Preconditions$4"), (57, .class_ 115), (0, u "jdk/internal/util/Preconditions$1"), (7, u "SIOOBE_FORMATTER"), (0, u "Ljava/util/function/BiFunction;"), (0, .class_ 126), (0, u "jdk/internal/util/Preconditions$2"), (3, u "AIOOBE_FORMATTER"), (0, .class_ 132), (0, u "jdk/internal/util/Preconditions$3"), (3, u "IOOBE_FORMATTER"), (41, u "(IILjava/util/function/BiFunction;)I")] 15

def k11m0 : Method := { name := "<init>", desc := "()V", sig := { parameters := [], returnType := none }, accessFlags := 1, code := none }
def k11c1 : Code := { maxStack := 3, maxLocals := 3, code := jdk_41_method_11_code, exceptionTable := #[], attributes := #[] }
def k11m1 : Method := { name := "checkIndex", desc := "(IILjava/util/function/BiFunction;)I", sig := { parameters := [.int, .int, (.object "java/util/function/BiFunction")], returnType := some .int }, accessFlags := 9, code := some k11c1 }
/-- jdk/internal/util/Preconditions -/
def k11 : Class := { plain "jdk/internal/util/Preconditions" (some 0) with
  accessFlags := 33
  interfaces := #[]
  cf := some (fileOf pool11 24 #[.nestMembers #[55, 131, 125, 114]] #[{ accessFlags := 1, nameIndex := 5, descriptorIndex := 6, attributes := #[] }, { accessFlags := 9, nameIndex := 33, descriptorIndex := 178, attributes := #[] }] 33 2 #[] #[{ accessFlags := 25, nameIndex := 123, descriptorIndex := 124, attributes := #[] }, { accessFlags := 25, nameIndex := 130, descriptorIndex := 124, attributes := #[] }, { accessFlags := 25, nameIndex := 136, descriptorIndex := 124, attributes := #[] }])
  fields := #[{ name := "SIOOBE_FORMATTER", type := (.object "java/util/function/BiFunction"), accessFlags := 25, slot := 0, constantValue := 0 }, { name := "AIOOBE_FORMATTER", type := (.object "java/util/function/BiFunction"), accessFlags := 25, slot := 1, constantValue := 0 }, { name := "IOOBE_FORMATTER", type := (.object "java/util/function/BiFunction"), accessFlags := 25, slot := 2, constantValue := 0 }]
  methods := #[k11m0, k11m1]
  instanceTypes := #[]
  staticTypes := #[(.object "java/util/function/BiFunction"), (.object "java/util/function/BiFunction"), (.object "java/util/function/BiFunction")]
  resolved := Array.replicate 194 none
  statics := some 3 }

def pool12 : Array CpInfo := pool [(1, .class_ 2), (0, u "java/lang/String"), (1, .class_ 6), (1, u "java/lang/Object"), (0, u "<init>"), (0, u "()V"), (0, .methodref 1 10), (0, .nameAndType 11 12), (0, u "checkIndex"), (0, u "(II)V"), (1, .class_ 16), (1, u "java/lang/StringLatin1"), (36, u "([BI)C"), (67, u "$assertionsDisabled"), (0, u "Z"), (98, .class_ 223), (1, u "java/lang/StringLatin1$LinesSpliterator"), (28, u "charAt"), (137, .class_ 391), (0, u "java/lang/StringLatin1$CharsSpliterator")] 3

def k12m0 : Method := { name := "<init>", desc := "()V", sig := { parameters := [], returnType := none }, accessFlags := 0, code := none }
def k12c1 : Code := { maxStack := 2, maxLocals := 2, code := jdk_43_method_2_code, exceptionTable := #[], attributes := #[] }
def k12m1 : Method := { name := "charAt", desc := "([BI)C", sig := { parameters := [(.array .byte), .int], returnType := some .char }, accessFlags := 9, code := some k12c1 }
/-- java/lang/StringLatin1 -/
def k12 : Class := { plain "java/lang/StringLatin1" (some 0) with
  accessFlags := 48
  interfaces := #[]
  cf := some (fileOf pool12 14 #[.nestMembers #[390, 221]] #[{ accessFlags := 0, nameIndex := 7, descriptorIndex := 8, attributes := #[] }, { accessFlags := 9, nameIndex := 252, descriptorIndex := 53, attributes := #[] }] 48 4 #[] #[{ accessFlags := 4120, nameIndex := 121, descriptorIndex := 122, attributes := #[] }])
  fields := #[{ name := "$assertionsDisabled", type := .boolean, accessFlags := 4120, slot := 0, constantValue := 0 }]
  methods := #[k12m0, k12m1]
  instanceTypes := #[]
  staticTypes := #[.boolean]
  resolved := Array.replicate 395 none
  statics := none }

def pool13 : Array CpInfo := pool [(9, u "<init>"), (6, .class_ 18), (1, u "java/lang/Object"), (0, u "()V"), (1, .class_ 23), (1, u "jdk/internal/util/ArraysSupport"), (0, u "LOG2_ARRAY_LONG_INDEX_SCALE"), (0, u "I"), (2, u "U"), (0, u "Ljdk/internal/misc/Unsafe;"), (8, u "BIG_ENDIAN"), (0, u "Z"), (8, u "LOG2_BYTE_BIT_SIZE"), (4, u "LOG2_ARRAY_INT_INDEX_SCALE"), (54, u "JLA"), (0, u "Ljdk/internal/access/JavaLangAccess;"), (11, u "LOG2_ARRAY_BOOLEAN_INDEX_SCALE"), (9, u "LOG2_ARRAY_BYTE_INDEX_SCALE"), (5, u "LOG2_ARRAY_CHAR_INDEX_SCALE"), (5, u "LOG2_ARRAY_SHORT_INDEX_SCALE"), (18, u "LOG2_ARRAY_FLOAT_INDEX_SCALE"), (24, u "LOG2_ARRAY_DOUBLE_INDEX_SCALE"), (89, u "T_BOOLEAN"), (2, u "T_CHAR"), (1, u "T_FLOAT"), (1, u "T_DOUBLE"), (1, u "T_BYTE"), (1, u "T_SHORT"), (1, u "T_INT"), (1, u "T_LONG"), (1, u "SOFT_MAX_ARRAY_LENGTH")] 83

def k13m0 : Method := { name := "<init>", desc := "()V", sig := { parameters := [], returnType := none }, accessFlags := 2, code := none }
/-- jdk/internal/util/ArraysSupport -/
def k13 : Class := { plain "jdk/internal/util/ArraysSupport" (some 0) with
  accessFlags := 33
  interfaces := #[]
  cf := some (fileOf pool13 21 #[] #[{ accessFlags := 2, nameIndex := 9, descriptorIndex := 19, attributes := #[] }] 33 16 #[] #[{ accessFlags := 24, nameIndex := 28, descriptorIndex := 29, attributes := #[] }, { accessFlags := 26, nameIndex := 38, descriptorIndex := 39, attributes := #[] }, { accessFlags := 25, nameIndex := 121, descriptorIndex := 25, attributes := #[] }, { accessFlags := 25, nameIndex := 131, descriptorIndex := 25, attributes := #[] }, { accessFlags := 25, nameIndex := 137, descriptorIndex := 25, attributes := #[] }, { accessFlags := 25, nameIndex := 143, descriptorIndex := 25, attributes := #[] }, { accessFlags := 25, nameIndex := 53, descriptorIndex := 25, attributes := #[] }, { accessFlags := 25, nameIndex := 24, descriptorIndex := 25, attributes := #[] }, { accessFlags := 25, nameIndex := 162, descriptorIndex := 25, attributes := #[] }, { accessFlags := 25, nameIndex := 187, descriptorIndex := 25, attributes := #[] }, { accessFlags := 26, nameIndex := 48, descriptorIndex := 25, attributes := #[] }, { accessFlags := 25, nameIndex := 277, descriptorIndex := 25, attributes := #[] }, { accessFlags := 25, nameIndex := 280, descriptorIndex := 25, attributes := #[] }, { accessFlags := 25, nameIndex := 282, descriptorIndex := 25, attributes := #[] }, { accessFlags := 25, nameIndex := 284, descriptorIndex := 25, attributes := #[] }, { accessFlags := 25, nameIndex := 286, descriptorIndex := 25, attributes := #[] }, { accessFlags := 25, nameIndex := 288, descriptorIndex := 25, attributes := #[] }, { accessFlags := 25, nameIndex := 290, descriptorIndex := 25, attributes := #[] }, { accessFlags := 25, nameIndex := 292, descriptorIndex := 25, attributes := #[] }, { accessFlags := 26, nameIndex := 108, descriptorIndex := 109, attributes := #[] }, { accessFlags := 25, nameIndex := 294, descriptorIndex := 25, attributes := #[] }])
  fields := #[{ name := "U", type := (.object "jdk/internal/misc/Unsafe"), accessFlags := 24, slot := 0, constantValue := 0 }, { name := "BIG_ENDIAN", type := .boolean, accessFlags := 26, slot := 1, constantValue := 0 }, { name := "LOG2_ARRAY_BOOLEAN_INDEX_SCALE", type := .int, accessFlags := 25, slot := 2, constantValue := 0 }, { name := "LOG2_ARRAY_BYTE_INDEX_SCALE", type := .int, accessFlags := 25, slot := 3, constantValue := 0 }, { name := "LOG2_ARRAY_CHAR_INDEX_SCALE", type := .int, accessFlags := 25, slot := 4, constantValue := 0 }, { name := "LOG2_ARRAY_SHORT_INDEX_SCALE", type := .int, accessFlags := 25, slot := 5, constantValue := 0 }, { name := "LOG2_ARRAY_INT_INDEX_SCALE", type := .int, accessFlags := 25, slot := 6, constantValue := 0 }, { name := "LOG2_ARRAY_LONG_INDEX_SCALE", type := .int, accessFlags := 25, slot := 7, constantValue := 0 }, { name := "LOG2_ARRAY_FLOAT_INDEX_SCALE", type := .int, accessFlags := 25, slot := 8, constantValue := 0 }, { name := "LOG2_ARRAY_DOUBLE_INDEX_SCALE", type := .int, accessFlags := 25, slot := 9, constantValue := 0 }, { name := "LOG2_BYTE_BIT_SIZE", type := .int, accessFlags := 26, slot := 10, constantValue := 0 }, { name := "T_BOOLEAN", type := .int, accessFlags := 25, slot := 11, constantValue := 0 }, { name := "T_CHAR", type := .int, accessFlags := 25, slot := 12, constantValue := 0 }, { name := "T_FLOAT", type := .int, accessFlags := 25, slot := 13, constantValue := 0 }, { name := "T_DOUBLE", type := .int, accessFlags := 25, slot := 14, constantValue := 0 }, { name := "T_BYTE", type := .int, accessFlags := 25, slot := 15, constantValue := 0 }, { name := "T_SHORT", type := .int, accessFlags := 25, slot := 16, constantValue := 0 }, { name := "T_INT", type := .int, accessFlags := 25, slot := 17, constantValue := 0 }, { name := "T_LONG", type := .int, accessFlags := 25, slot := 18, constantValue := 0 }, { name := "JLA", type := (.object "jdk/internal/access/JavaLangAccess"), accessFlags := 26, slot := 19, constantValue := 0 }, { name := "SOFT_MAX_ARRAY_LENGTH", type := .int, accessFlags := 25, slot := 20, constantValue := 0 }]
  methods := #[k13m0]
  instanceTypes := #[]
  staticTypes := #[(.object "jdk/internal/misc/Unsafe"), .boolean, .int, .int, .int, .int, .int, .int, .int, .int, .int, .int, .int, .int, .int, .int, .int, .int, .int, (.object "jdk/internal/access/JavaLangAccess"), .int]
  resolved := Array.replicate 378 none
  statics := none }

def pool14 : Array CpInfo := pool [(1, u "java/lang/Cloneable"), (0, .class_ 1), (0, u "java/lang/Object"), (0, .class_ 3)] 3

/-- java/lang/Cloneable -/
def k14 : Class := { plain "java/lang/Cloneable" (some 0) with
  accessFlags := 1537
  interfaces := #[]
  cf := some (fileOf pool14 2 #[] #[] 1537 4 #[] #[])
  fields := #[]
  methods := #[]
  instanceTypes := #[]
  staticTypes := #[]
  resolved := Array.replicate 8 none
  statics := none }

/-- the primitive byte -/
def k15 : Class := { plain "byte" none with kind := .primitive 'B', accessFlags := 0x411 }
/-- [B -/
def k16 : Class := { plain "[B" (some 0) with kind := .array 15 .byte, interfaces := #[14, 2], accessFlags := 1041 }

/-- the primitive char -/
def k17 : Class := { plain "char" none with kind := .primitive 'C', accessFlags := 0x411 }
/-- [C -/
def k18 : Class := { plain "[C" (some 0) with kind := .array 17 .char, interfaces := #[14, 2], accessFlags := 1041 }

/-- the primitive int -/
def k19 : Class := { plain "int" none with kind := .primitive 'I', accessFlags := 0x411 }
/-- [I -/
def k20 : Class := { plain "[I" (some 0) with kind := .array 19 .int, interfaces := #[14, 2], accessFlags := 1041 }

/-- [Ljava/lang/String; -/
def k21 : Class := { plain "[Ljava/lang/String;" (some 0) with kind := .array 7 (.object "java/lang/String"), interfaces := #[14, 2], accessFlags := 1041 }

def heap : Heap := #[{ cls := 7, slots := #[.long 0, .int 1, .null, .int 0, .null, .int 0, .int 0], vm := .statics 7 },
  { cls := 8, slots := #[.ref 4, .int 0], vm := .statics 8 },
  { cls := 10, slots := #[.int 0, .int 8, .int 0, .int 1], vm := .statics 10 },
  { cls := 11, slots := #[.null, .null, .null], vm := .statics 11 },
  { cls := 21, slots := #[.ref 5, .ref 7], vm := .none },
  { cls := 7, slots := #[.ref 6, .int 0, .int 0, .int 0], vm := .none },
  { cls := 16, slots := #[.int 104, .int 116, .int 116, .int 112, .int 58, .int 47, .int 47], vm := .none },
  { cls := 7, slots := #[.ref 8, .int 0, .int 0, .int 0], vm := .none },
  { cls := 16, slots := #[.int 104, .int 116, .int 116, .int 112, .int 115, .int 58, .int 47, .int 47], vm := .none }]
def classes : Array Class := #[k0, k1, k2, k3, k4, k5, k6, k7, k8, k9, k10, k11, k12, k13, k14, k15, k16, k17, k18, k19, k20, k21]
def interned : List (Array UInt16 × Addr) := []
def slotsUsed : Nat := 41
def theMethod : MethodId := ⟨1, 1⟩
def args0 : Array Value := #[.int 5, .int 6, .long 7, .long 8, .long 9]
def aboutOver (below : List Frame) : State where
  vm := { classes := classes, interned := interned.toArray }
  heap := heap
  slotsUsed := slotsUsed
  threads := #[{ frames := .invoking theMethod args0 :: below }]
def below0 : List Frame := [.native { method := ⟨0, 0⟩, args := #[] }]
def about1 : State := aboutOver below0
def p0 : Program := .bare "" "" ""
def e0 : Env := launch0.env 0 0 0
theorem w_frames : about1.frames = Frame.invoking theMethod args0 :: below0 := rfl
set_option maxRecDepth 65536 in
theorem w_args : argsFit about1.vm theMethod args0 = true := by decide +kernel
set_option maxRecDepth 65536 in
theorem w_heap : heapFits about1 = true := by decide +kernel
set_option maxRecDepth 65536 in
theorem w_runnable : about1.curStatus? = some .runnable := by decide +kernel
set_option maxRecDepth 65536 in
theorem w_alone : about1.alone = true := by decide +kernel
set_option maxRecDepth 65536 in
theorem w_named : about1.methodNamed? x = some theMethod := by decide +kernel
set_option maxRecDepth 65536 in
theorem w_hears : about1.hears theMethod below0 = true := by decide +kernel
set_option maxRecDepth 65536 in
theorem w_ripe : about1.ripe theMethod args0 below0 = true := by decide +kernel
theorem w_running : about1.status = .running := rfl
set_option maxRecDepth 65536 in
theorem w_room : about1.hasRoom e0.platform room_1 = true :=
  launch0.hasRoom_least _ room_1 (by decide +kernel) (by decide +kernel) (by decide +kernel) (by decide +kernel) (by decide +kernel) (by decide +kernel)
theorem allAtoms_all (ts : List Jvm.Cond) (a : Array Jvm.Value) (st : Jvm.State) : (allAtoms ts).before a st = ts.all (fun c => c.before a st) := by
  induction ts with
  | nil => rfl
  | cons c t ih =>
    show (Jvm.Cond.and c (allAtoms t)).before a st = _
    rw [Jvm.Cond.before_and, ih, List.all_cons]
def words1 : List Jvm.Cond := Jvm.Cond.code x code maxLocals ret :: tables_1
/-- a 'code' word, met by the world's own term for the bytes: nothing is compared byte by byte -/
theorem code_word {y : MethodName} {bytes : ByteArray} {mx : Nat} {rt : Option FieldType} {a : Array Value} {s : State} {m : MethodId} {meth : Method} {c : Code} (h1 : s.methodNamed? y = some m) (h2 : s.vm.method? m = some meth) (h3 : meth.code = some c) (h4 : c.code = bytes)
    (h5 : (c.maxLocals == mx && c.exceptionTable.isEmpty && decide (c.maxStack ≤ mostOperands) && decide (meth.sig.returnType = rt) && !meth.locks && decide (parseMethodDescriptor y.desc = some meth.sig)) = true) : (Jvm.Cond.code y bytes mx rt).before a s = true := by
  simp only [Bool.and_eq_true, beq_iff_eq, Bool.not_eq_true', decide_eq_true_eq] at h5
  obtain ⟨⟨⟨⟨⟨g1, g2⟩, g3⟩, g4⟩, g5⟩, g6⟩ := h5
  simp [Cond.before, Cond.holds, Cond.value, h1, h2, h3, h4, g1, g2, g3, g4, g5, g6]
def isCode : Jvm.Cond → Bool
  | .code _ _ _ _ => true
  | _ => false
theorem all_split {L : List Jvm.Cond} {P : Jvm.Cond → Bool} (h1 : L.all (fun c => isCode c || P c) = true) (h2 : ∀ c ∈ L.filter isCode, P c = true) : L.all P = true := by
  refine List.all_eq_true.mpr fun c hc => ?_
  have h := List.all_eq_true.mp h1 c hc
  rcases Bool.eq_false_or_eq_true (isCode c) with hi | hi
  · exact h2 c (List.mem_filter.mpr ⟨hc, hi⟩)
  · simpa [hi] using h
set_option maxRecDepth 65536 in
theorem w_c0 : (Jvm.Cond.code x code maxLocals ret).before args0 about1 = true := code_word (m := ⟨1, 1⟩) (meth := k1m1) (c := k1c1) (by decide +kernel) rfl rfl rfl (by decide +kernel)
set_option maxRecDepth 65536 in
theorem w_c1 : (Jvm.Cond.code ({ cls := "com/example/gids/gids/LocRuleAuthorityStartPinLaw", name := "pick", desc := "(IIZJ)C" } : Jvm.MethodName) method_4_code (9 : Nat) (Option.some Jvm.ClassFile.FieldType.char)).before args0 about1 = true := code_word (m := ⟨1, 3⟩) (meth := k1m3) (c := k1c3) (by decide +kernel) rfl rfl rfl (by decide +kernel)
set_option maxRecDepth 65536 in
theorem w_c2 : (Jvm.Cond.code ({ cls := "com/example/gids/gids/LocRuleAuthorityStartPinLaw", name := "pat", desc := "(IZ)C" } : Jvm.MethodName) method_5_code (2 : Nat) (Option.some Jvm.ClassFile.FieldType.char)).before args0 about1 = true := code_word (m := ⟨1, 4⟩) (meth := k1m4) (c := k1c4) (by decide +kernel) rfl rfl rfl (by decide +kernel)
set_option maxRecDepth 65536 in
theorem w_c3 : (Jvm.Cond.code ({ cls := "com/example/gids/gids/LocRuleAuthorityStartPinLaw", name := "make", desc := "(I[C)Ljava/lang/String;" } : Jvm.MethodName) method_6_code (2 : Nat) (Option.some (Jvm.ClassFile.FieldType.object "java/lang/String"))).before args0 about1 = true := code_word (m := ⟨1, 5⟩) (meth := k1m5) (c := k1c5) (by decide +kernel) rfl rfl rfl (by decide +kernel)
set_option maxRecDepth 65536 in
theorem w_c4 : (Jvm.Cond.code ({ cls := "java/lang/String", name := "<init>", desc := "([C)V" } : Jvm.MethodName) jdk_42_method_3_code (2 : Nat) (Option.none : Option Jvm.ClassFile.FieldType)).before args0 about1 = true := code_word (m := ⟨7, 1⟩) (meth := k7m1) (c := k7c1) (by decide +kernel) rfl rfl rfl (by decide +kernel)
set_option maxRecDepth 65536 in
theorem w_c5 : (Jvm.Cond.code ({ cls := "java/lang/String", name := "<init>", desc := "([CIILjava/lang/Void;)V" } : Jvm.MethodName) jdk_42_method_149_code (6 : Nat) (Option.none : Option Jvm.ClassFile.FieldType)).before args0 about1 = true := code_word (m := ⟨7, 4⟩) (meth := k7m4) (c := k7c4) (by decide +kernel) rfl rfl rfl (by decide +kernel)
set_option maxRecDepth 65536 in
theorem w_c6 : (Jvm.Cond.code ({ cls := "java/lang/Object", name := "<init>", desc := "()V" } : Jvm.MethodName) object_method_1_code (1 : Nat) (Option.none : Option Jvm.ClassFile.FieldType)).before args0 about1 = true := code_word (m := ⟨0, 0⟩) (meth := k0m0) (c := k0c0) (by decide +kernel) rfl rfl rfl (by decide +kernel)
set_option maxRecDepth 65536 in
theorem w_c7 : (Jvm.Cond.code ({ cls := "com/example/gids/gids/LocRule", name := "authorityStart", desc := "(Ljava/lang/String;)I" } : Jvm.MethodName) prog_31_method_3_code (5 : Nat) (Option.some Jvm.ClassFile.FieldType.int)).before args0 about1 = true := code_word (m := ⟨8, 1⟩) (meth := k8m1) (c := k8c1) (by decide +kernel) rfl rfl rfl (by decide +kernel)
set_option maxRecDepth 65536 in
theorem w_c8 : (Jvm.Cond.code ({ cls := "com/example/gids/gids/Ascii", name := "startsWithIgnoringCase", desc := "(Ljava/lang/String;Ljava/lang/String;)Z" } : Jvm.MethodName) prog_7_method_2_code (3 : Nat) (Option.some Jvm.ClassFile.FieldType.boolean)).before args0 about1 = true := code_word (m := ⟨9, 1⟩) (meth := k9m1) (c := k9c1) (by decide +kernel) rfl rfl rfl (by decide +kernel)
set_option maxRecDepth 65536 in
theorem w_c9 : (Jvm.Cond.code ({ cls := "java/lang/String", name := "length", desc := "()I" } : Jvm.MethodName) jdk_42_method_54_code (1 : Nat) (Option.some Jvm.ClassFile.FieldType.int)).before args0 about1 = true := code_word (m := ⟨7, 2⟩) (meth := k7m2) (c := k7c2) (by decide +kernel) rfl rfl rfl (by decide +kernel)
set_option maxRecDepth 65536 in
theorem w_c10 : (Jvm.Cond.code ({ cls := "java/lang/String", name := "coder", desc := "()B" } : Jvm.MethodName) jdk_42_method_152_code (1 : Nat) (Option.some Jvm.ClassFile.FieldType.byte)).before args0 about1 = true := code_word (m := ⟨7, 5⟩) (meth := k7m5) (c := k7c5) (by decide +kernel) rfl rfl rfl (by decide +kernel)
set_option maxRecDepth 65536 in
theorem w_c11 : (Jvm.Cond.code ({ cls := "java/lang/StringUTF16", name := "compress", desc := "([CII)[B" } : Jvm.MethodName) jdk_52_method_16_code (6 : Nat) (Option.some (Jvm.ClassFile.FieldType.array Jvm.ClassFile.FieldType.byte))).before args0 about1 = true := code_word (m := ⟨10, 8⟩) (meth := k10m8) (c := k10c8) (by decide +kernel) rfl rfl rfl (by decide +kernel)
set_option maxRecDepth 65536 in
theorem w_c12 : (Jvm.Cond.code ({ cls := "java/lang/StringUTF16", name := "compress", desc := "([CI[BII)I" } : Jvm.MethodName) jdk_52_method_21_code (7 : Nat) (Option.some Jvm.ClassFile.FieldType.int)).before args0 about1 = true := code_word (m := ⟨10, 9⟩) (meth := k10m9) (c := k10c9) (by decide +kernel) rfl rfl rfl (by decide +kernel)
set_option maxRecDepth 65536 in
theorem w_c13 : (Jvm.Cond.code ({ cls := "java/lang/StringUTF16", name := "toBytes", desc := "([CII)[B" } : Jvm.MethodName) jdk_52_method_14_code (5 : Nat) (Option.some (Jvm.ClassFile.FieldType.array Jvm.ClassFile.FieldType.byte))).before args0 about1 = true := code_word (m := ⟨10, 6⟩) (meth := k10m6) (c := k10c6) (by decide +kernel) rfl rfl rfl (by decide +kernel)
set_option maxRecDepth 65536 in
theorem w_c14 : (Jvm.Cond.code ({ cls := "java/lang/StringUTF16", name := "newBytesFor", desc := "(I)[B" } : Jvm.MethodName) jdk_52_method_2_code (1 : Nat) (Option.some (Jvm.ClassFile.FieldType.array Jvm.ClassFile.FieldType.byte))).before args0 about1 = true := code_word (m := ⟨10, 1⟩) (meth := k10m1) (c := k10c1) (by decide +kernel) rfl rfl rfl (by decide +kernel)
set_option maxRecDepth 65536 in
theorem w_c15 : (Jvm.Cond.code ({ cls := "java/lang/StringUTF16", name := "newBytesLength", desc := "(I)I" } : Jvm.MethodName) jdk_52_method_3_code (1 : Nat) (Option.some Jvm.ClassFile.FieldType.int)).before args0 about1 = true := code_word (m := ⟨10, 2⟩) (meth := k10m2) (c := k10c2) (by decide +kernel) rfl rfl rfl (by decide +kernel)
set_option maxRecDepth 65536 in
theorem w_c16 : (Jvm.Cond.code ({ cls := "java/lang/StringUTF16", name := "putChar", desc := "([BII)V" } : Jvm.MethodName) jdk_52_method_4_code (3 : Nat) (Option.none : Option Jvm.ClassFile.FieldType)).before args0 about1 = true := code_word (m := ⟨10, 3⟩) (meth := k10m3) (c := k10c3) (by decide +kernel) rfl rfl rfl (by decide +kernel)
set_option maxRecDepth 65536 in
theorem w_c17 : (Jvm.Cond.code ({ cls := "java/lang/StringUTF16", name := "getChar", desc := "([BI)C" } : Jvm.MethodName) jdk_52_method_5_code (2 : Nat) (Option.some Jvm.ClassFile.FieldType.char)).before args0 about1 = true := code_word (m := ⟨10, 4⟩) (meth := k10m4) (c := k10c4) (by decide +kernel) rfl rfl rfl (by decide +kernel)
set_option maxRecDepth 65536 in
theorem w_c18 : (Jvm.Cond.code ({ cls := "java/lang/StringUTF16", name := "coderFromArrayLen", desc := "([BI)B" } : Jvm.MethodName) jdk_52_method_15_code (2 : Nat) (Option.some Jvm.ClassFile.FieldType.byte)).before args0 about1 = true := code_word (m := ⟨10, 7⟩) (meth := k10m7) (c := k10c7) (by decide +kernel) rfl rfl rfl (by decide +kernel)
set_option maxRecDepth 65536 in
theorem w_c19 : (Jvm.Cond.code ({ cls := "com/example/gids/gids/LocRuleAuthorityStartPinLaw", name := "is", desc := "(CCC)Z" } : Jvm.MethodName) method_3_code (3 : Nat) (Option.some Jvm.ClassFile.FieldType.boolean)).before args0 about1 = true := code_word (m := ⟨1, 2⟩) (meth := k1m2) (c := k1c2) (by decide +kernel) rfl rfl rfl (by decide +kernel)
set_option maxRecDepth 65536 in
theorem w_c20 : (Jvm.Cond.code ({ cls := "java/lang/String", name := "charAt", desc := "(I)C" } : Jvm.MethodName) jdk_42_method_56_code (2 : Nat) (Option.some Jvm.ClassFile.FieldType.char)).before args0 about1 = true := code_word (m := ⟨7, 3⟩) (meth := k7m3) (c := k7c3) (by decide +kernel) rfl rfl rfl (by decide +kernel)
set_option maxRecDepth 65536 in
theorem w_c21 : (Jvm.Cond.code ({ cls := "java/lang/String", name := "isLatin1", desc := "()Z" } : Jvm.MethodName) jdk_42_method_154_code (1 : Nat) (Option.some Jvm.ClassFile.FieldType.boolean)).before args0 about1 = true := code_word (m := ⟨7, 6⟩) (meth := k7m6) (c := k7c6) (by decide +kernel) rfl rfl rfl (by decide +kernel)
set_option maxRecDepth 65536 in
theorem w_c22 : (Jvm.Cond.code ({ cls := "java/lang/StringUTF16", name := "charAt", desc := "([BI)C" } : Jvm.MethodName) jdk_52_method_83_code (2 : Nat) (Option.some Jvm.ClassFile.FieldType.char)).before args0 about1 = true := code_word (m := ⟨10, 10⟩) (meth := k10m10) (c := k10c10) (by decide +kernel) rfl rfl rfl (by decide +kernel)
set_option maxRecDepth 65536 in
theorem w_c23 : (Jvm.Cond.code ({ cls := "java/lang/StringUTF16", name := "checkIndex", desc := "(I[B)V" } : Jvm.MethodName) jdk_52_method_91_code (2 : Nat) (Option.none : Option Jvm.ClassFile.FieldType)).before args0 about1 = true := code_word (m := ⟨10, 11⟩) (meth := k10m11) (c := k10c11) (by decide +kernel) rfl rfl rfl (by decide +kernel)
set_option maxRecDepth 65536 in
theorem w_c24 : (Jvm.Cond.code ({ cls := "java/lang/StringUTF16", name := "length", desc := "([B)I" } : Jvm.MethodName) jdk_52_method_6_code (1 : Nat) (Option.some Jvm.ClassFile.FieldType.int)).before args0 about1 = true := code_word (m := ⟨10, 5⟩) (meth := k10m5) (c := k10c5) (by decide +kernel) rfl rfl rfl (by decide +kernel)
set_option maxRecDepth 65536 in
theorem w_c25 : (Jvm.Cond.code ({ cls := "java/lang/String", name := "checkIndex", desc := "(II)V" } : Jvm.MethodName) jdk_42_method_155_code (2 : Nat) (Option.none : Option Jvm.ClassFile.FieldType)).before args0 about1 = true := code_word (m := ⟨7, 7⟩) (meth := k7m7) (c := k7c7) (by decide +kernel) rfl rfl rfl (by decide +kernel)
set_option maxRecDepth 65536 in
theorem w_c26 : (Jvm.Cond.code ({ cls := "jdk/internal/util/Preconditions", name := "checkIndex", desc := "(IILjava/util/function/BiFunction;)I" } : Jvm.MethodName) jdk_41_method_11_code (3 : Nat) (Option.some Jvm.ClassFile.FieldType.int)).before args0 about1 = true := code_word (m := ⟨11, 1⟩) (meth := k11m1) (c := k11c1) (by decide +kernel) rfl rfl rfl (by decide +kernel)
set_option maxRecDepth 65536 in
theorem w_c27 : (Jvm.Cond.code ({ cls := "com/example/gids/gids/Ascii", name := "toLowerCase", desc := "(C)C" } : Jvm.MethodName) prog_7_method_4_code (1 : Nat) (Option.some Jvm.ClassFile.FieldType.char)).before args0 about1 = true := code_word (m := ⟨9, 2⟩) (meth := k9m2) (c := k9c2) (by decide +kernel) rfl rfl rfl (by decide +kernel)
set_option maxRecDepth 65536 in
theorem w_c28 : (Jvm.Cond.code ({ cls := "java/lang/StringLatin1", name := "charAt", desc := "([BI)C" } : Jvm.MethodName) jdk_43_method_2_code (2 : Nat) (Option.some Jvm.ClassFile.FieldType.char)).before args0 about1 = true := code_word (m := ⟨12, 1⟩) (meth := k12m1) (c := k12c1) (by decide +kernel) rfl rfl rfl (by decide +kernel)
def codes1 : List Jvm.Cond := [Jvm.Cond.code x code maxLocals ret, Jvm.Cond.code ({ cls := "com/example/gids/gids/LocRuleAuthorityStartPinLaw", name := "pick", desc := "(IIZJ)C" } : Jvm.MethodName) method_4_code (9 : Nat) (Option.some Jvm.ClassFile.FieldType.char), Jvm.Cond.code ({ cls := "com/example/gids/gids/LocRuleAuthorityStartPinLaw", name := "pat", desc := "(IZ)C" } : Jvm.MethodName) method_5_code (2 : Nat) (Option.some Jvm.ClassFile.FieldType.char), Jvm.Cond.code ({ cls := "com/example/gids/gids/LocRuleAuthorityStartPinLaw", name := "make", desc := "(I[C)Ljava/lang/String;" } : Jvm.MethodName) method_6_code (2 : Nat) (Option.some (Jvm.ClassFile.FieldType.object "java/lang/String")), Jvm.Cond.code ({ cls := "java/lang/String", name := "<init>", desc := "([C)V" } : Jvm.MethodName) jdk_42_method_3_code (2 : Nat) (Option.none : Option Jvm.ClassFile.FieldType), Jvm.Cond.code ({ cls := "java/lang/String", name := "<init>", desc := "([CIILjava/lang/Void;)V" } : Jvm.MethodName) jdk_42_method_149_code (6 : Nat) (Option.none : Option Jvm.ClassFile.FieldType), Jvm.Cond.code ({ cls := "java/lang/Object", name := "<init>", desc := "()V" } : Jvm.MethodName) object_method_1_code (1 : Nat) (Option.none : Option Jvm.ClassFile.FieldType), Jvm.Cond.code ({ cls := "com/example/gids/gids/LocRule", name := "authorityStart", desc := "(Ljava/lang/String;)I" } : Jvm.MethodName) prog_31_method_3_code (5 : Nat) (Option.some Jvm.ClassFile.FieldType.int), Jvm.Cond.code ({ cls := "com/example/gids/gids/Ascii", name := "startsWithIgnoringCase", desc := "(Ljava/lang/String;Ljava/lang/String;)Z" } : Jvm.MethodName) prog_7_method_2_code (3 : Nat) (Option.some Jvm.ClassFile.FieldType.boolean), Jvm.Cond.code ({ cls := "java/lang/String", name := "length", desc := "()I" } : Jvm.MethodName) jdk_42_method_54_code (1 : Nat) (Option.some Jvm.ClassFile.FieldType.int), Jvm.Cond.code ({ cls := "java/lang/String", name := "coder", desc := "()B" } : Jvm.MethodName) jdk_42_method_152_code (1 : Nat) (Option.some Jvm.ClassFile.FieldType.byte), Jvm.Cond.code ({ cls := "java/lang/StringUTF16", name := "compress", desc := "([CII)[B" } : Jvm.MethodName) jdk_52_method_16_code (6 : Nat) (Option.some (Jvm.ClassFile.FieldType.array Jvm.ClassFile.FieldType.byte)), Jvm.Cond.code ({ cls := "java/lang/StringUTF16", name := "compress", desc := "([CI[BII)I" } : Jvm.MethodName) jdk_52_method_21_code (7 : Nat) (Option.some Jvm.ClassFile.FieldType.int), Jvm.Cond.code ({ cls := "java/lang/StringUTF16", name := "toBytes", desc := "([CII)[B" } : Jvm.MethodName) jdk_52_method_14_code (5 : Nat) (Option.some (Jvm.ClassFile.FieldType.array Jvm.ClassFile.FieldType.byte)), Jvm.Cond.code ({ cls := "java/lang/StringUTF16", name := "newBytesFor", desc := "(I)[B" } : Jvm.MethodName) jdk_52_method_2_code (1 : Nat) (Option.some (Jvm.ClassFile.FieldType.array Jvm.ClassFile.FieldType.byte)), Jvm.Cond.code ({ cls := "java/lang/StringUTF16", name := "newBytesLength", desc := "(I)I" } : Jvm.MethodName) jdk_52_method_3_code (1 : Nat) (Option.some Jvm.ClassFile.FieldType.int), Jvm.Cond.code ({ cls := "java/lang/StringUTF16", name := "putChar", desc := "([BII)V" } : Jvm.MethodName) jdk_52_method_4_code (3 : Nat) (Option.none : Option Jvm.ClassFile.FieldType), Jvm.Cond.code ({ cls := "java/lang/StringUTF16", name := "getChar", desc := "([BI)C" } : Jvm.MethodName) jdk_52_method_5_code (2 : Nat) (Option.some Jvm.ClassFile.FieldType.char), Jvm.Cond.code ({ cls := "java/lang/StringUTF16", name := "coderFromArrayLen", desc := "([BI)B" } : Jvm.MethodName) jdk_52_method_15_code (2 : Nat) (Option.some Jvm.ClassFile.FieldType.byte), Jvm.Cond.code ({ cls := "com/example/gids/gids/LocRuleAuthorityStartPinLaw", name := "is", desc := "(CCC)Z" } : Jvm.MethodName) method_3_code (3 : Nat) (Option.some Jvm.ClassFile.FieldType.boolean), Jvm.Cond.code ({ cls := "java/lang/String", name := "charAt", desc := "(I)C" } : Jvm.MethodName) jdk_42_method_56_code (2 : Nat) (Option.some Jvm.ClassFile.FieldType.char), Jvm.Cond.code ({ cls := "java/lang/String", name := "isLatin1", desc := "()Z" } : Jvm.MethodName) jdk_42_method_154_code (1 : Nat) (Option.some Jvm.ClassFile.FieldType.boolean), Jvm.Cond.code ({ cls := "java/lang/StringUTF16", name := "charAt", desc := "([BI)C" } : Jvm.MethodName) jdk_52_method_83_code (2 : Nat) (Option.some Jvm.ClassFile.FieldType.char), Jvm.Cond.code ({ cls := "java/lang/StringUTF16", name := "checkIndex", desc := "(I[B)V" } : Jvm.MethodName) jdk_52_method_91_code (2 : Nat) (Option.none : Option Jvm.ClassFile.FieldType), Jvm.Cond.code ({ cls := "java/lang/StringUTF16", name := "length", desc := "([B)I" } : Jvm.MethodName) jdk_52_method_6_code (1 : Nat) (Option.some Jvm.ClassFile.FieldType.int), Jvm.Cond.code ({ cls := "java/lang/String", name := "checkIndex", desc := "(II)V" } : Jvm.MethodName) jdk_42_method_155_code (2 : Nat) (Option.none : Option Jvm.ClassFile.FieldType), Jvm.Cond.code ({ cls := "jdk/internal/util/Preconditions", name := "checkIndex", desc := "(IILjava/util/function/BiFunction;)I" } : Jvm.MethodName) jdk_41_method_11_code (3 : Nat) (Option.some Jvm.ClassFile.FieldType.int), Jvm.Cond.code ({ cls := "com/example/gids/gids/Ascii", name := "toLowerCase", desc := "(C)C" } : Jvm.MethodName) prog_7_method_4_code (1 : Nat) (Option.some Jvm.ClassFile.FieldType.char), Jvm.Cond.code ({ cls := "java/lang/StringLatin1", name := "charAt", desc := "([BI)C" } : Jvm.MethodName) jdk_43_method_2_code (2 : Nat) (Option.some Jvm.ClassFile.FieldType.char)]
set_option maxRecDepth 65536 in
theorem codes_eq : words1.filter isCode = codes1 := rfl
theorem w_codes : ∀ c ∈ words1.filter isCode, c.before args0 about1 = true := by
  rw [codes_eq]
  intro c hc
  simp only [codes1, List.mem_cons, List.not_mem_nil, or_false] at hc
  rcases hc with rfl | rfl | rfl | rfl | rfl | rfl | rfl | rfl | rfl | rfl | rfl | rfl | rfl | rfl | rfl | rfl | rfl | rfl | rfl | rfl | rfl | rfl | rfl | rfl | rfl | rfl | rfl | rfl | rfl
  · exact w_c0
  · exact w_c1
  · exact w_c2
  · exact w_c3
  · exact w_c4
  · exact w_c5
  · exact w_c6
  · exact w_c7
  · exact w_c8
  · exact w_c9
  · exact w_c10
  · exact w_c11
  · exact w_c12
  · exact w_c13
  · exact w_c14
  · exact w_c15
  · exact w_c16
  · exact w_c17
  · exact w_c18
  · exact w_c19
  · exact w_c20
  · exact w_c21
  · exact w_c22
  · exact w_c23
  · exact w_c24
  · exact w_c25
  · exact w_c26
  · exact w_c27
  · exact w_c28
set_option maxRecDepth 65536 in
theorem w_t1 : (words1.take 24).all (fun c => isCode c || c.before args0 about1) = true := by decide +kernel
set_option maxRecDepth 65536 in
theorem w_t2 : ((words1.drop 24).take 24).all (fun c => isCode c || c.before args0 about1) = true := by decide +kernel
set_option maxRecDepth 65536 in
theorem w_t3 : (((words1.drop 24).drop 24).take 24).all (fun c => isCode c || c.before args0 about1) = true := by decide +kernel
set_option maxRecDepth 65536 in
theorem w_t4 : ((((words1.drop 24).drop 24).drop 24).take 24).all (fun c => isCode c || c.before args0 about1) = true := by decide +kernel
set_option maxRecDepth 65536 in
theorem w_t5 : (((((words1.drop 24).drop 24).drop 24).drop 24).take 24).all (fun c => isCode c || c.before args0 about1) = true := by decide +kernel
set_option maxRecDepth 65536 in
theorem w_t6 : (((((words1.drop 24).drop 24).drop 24).drop 24).drop 24).all (fun c => isCode c || c.before args0 about1) = true := by decide +kernel
theorem w_tables : (allAtoms (Jvm.Cond.code x code maxLocals ret :: tables_1)).before args0 about1 = true := by
  rw [allAtoms_all]
  show words1.all (fun c => c.before args0 about1) = true
  refine all_split ?_ w_codes
  rw [← List.take_append_drop 24 words1, List.all_append, w_t1, ← List.take_append_drop 24 (words1.drop 24), List.all_append, w_t2, ← List.take_append_drop 24 ((words1.drop 24).drop 24), List.all_append, w_t3, ← List.take_append_drop 24 (((words1.drop 24).drop 24).drop 24), List.all_append, w_t4, ← List.take_append_drop 24 ((((words1.drop 24).drop 24).drop 24).drop 24), List.all_append, w_t5, w_t6]
  rfl
set_option maxRecDepth 65536 in
theorem w_rest : rest_1_c.before args0 about1 = true := by decide +kernel
set_option maxRecDepth 65536 in
theorem w_case : (Jvm.Cond.and given_1 narrow_1).before args0 about1 = true := by decide +kernel
set_option maxRecDepth 65536 in
theorem w_consts : constsHeld consts_1 about1 := Jvm.Lit.constsHeldB_iff.mp (by decide +kernel)
theorem w_applies : (headSpec (Jvm.Cond.code x code maxLocals ret :: tables_1) room_1).applies x e0.platform about1 = true :=
  (Spec.applies_iff w_frames).mpr ⟨w_running, w_runnable, w_alone, w_named, w_hears, w_ripe, w_room, w_tables⟩
theorem atStart : AtStart classFile x code maxLocals ret World_1 tables_1 room_1 Calls_1 rest_1 Pre_1 launch0 p0 e0 about1 theMethod args0 below0 :=
  ⟨lists_1, trivial, launch0.admits_env _ _ _, launch0.least_env, fairChoices_fair.cas, fairChoices_fair.clock, w_frames, w_args, w_heap, w_applies, ⟨w_consts, trivial⟩, w_rest, w_case⟩
end start1
theorem witness_1 : WitnessClaimed_1 := ⟨start1.p0, start1.e0, start1.about1, start1.theMethod, start1.args0, start1.below0, start1.atStart⟩
end Jvm.Pilot.@@N@@
