import JvmDerived
import JvmDerived.Pilot.@@N@@Statement
import JvmDerived.Pilot.@@N@@Code
set_option linter.unusedVariables false
set_option linter.unusedSimpArgs false
@@BLOCK:NumsL.lean.txt@@
namespace Jvm.Pilot.@@N@@
open Jvm Jvm.ClassFile Sem Op Lib Jvm.Free Jvm.Stand Jvm.LawKit Jvm.RoadKit Bundle Jvm.Pilot.@@N@@.Jvm.D
section Own
variable {p : Program} {l : Launch} {e : Env} {R : Room} {s : State} {m : MethodId} {args : Array Value} {below : List Frame} {meth : Method} {c : Code} {T T' : State} {locs : List Loc} {cells slots : Nat} {g g' : JFrame} {Q : Option Value → Heap → List Loc → Nat → Nat → Prop} {Z : State} {a0 : Array Value} {h : Heap}
/-- from this frame, in this state, the run comes to a return, and what it leaves meets Q -/
def Goal (p : Program) (l : Launch) (e : Env) (R : Room) (s : State) (m : MethodId) (args : Array Value) (below : List Frame) (meth : Method) (c : Code) (Q : Option Value → Heap → List Loc → Nat → Nat → Prop) (T : State) (g : JFrame) : Prop :=
  ∃ v U L k n, Stand p l e R s m args below meth c U L k n ∧ (meth.sig.returnType = none → v = none) ∧ Q v U.heap L k n ∧
    ∀ fs, (∀ (f : JFrame) (acts : List Action), f.method = m → f.locked = none → f.entered = [] → (doReturn e (U.setTop f) acts v).1 = U.setFrames fs) → Steps p.tables e below (T.setTop g) (U.setFrames fs)
theorem Goal.step (h : Goal p l e R s m args below meth c Q T' g') (st : ∀ t, Steps p.tables e below (T'.setTop g') t → Steps p.tables e below (T.setTop g) t) : Goal p l e R s m args below meth c Q T g := by
  obtain ⟨v, U, L, k, n, X, hv, hq, hs⟩ := h
  exact ⟨v, U, L, k, n, X, hv, hq, fun fs hl => st _ (hs fs hl)⟩
theorem Goal.imp {Q' : Option Value → Heap → List Loc → Nat → Nat → Prop} (h : Goal p l e R s m args below meth c Q T g) (q : ∀ v h L k n, Q v h L k n → Q' v h L k n) : Goal p l e R s m args below meth c Q' T g := by
  obtain ⟨v, U, L, k, n, X, hv, hq, hs⟩ := h
  exact ⟨v, U, L, k, n, X, hv, q _ _ _ _ _ hq, hs⟩
theorem Goal.retN (X : Stand p l e R s m args below meth c T locs cells slots) (hx : p.tables.exec = Jvm.exec) {pc : Nat} {Ls : Array Slot} {z : Int32} {t : FieldType} {rest : List Value} (hret : meth.sig.returnType = some t) (ht : t = .boolean ∨ t = .byte ∨ t = .char ∨ t = .short)
    (hd : decode c.code pc = .ok (.ireturn, 1)) (hq : Q (some (.int (nar t z))) T.heap locs cells slots) : Goal p l e R s m args below meth c Q T (mkF m pc Ls (.int z :: rest)) :=
  ⟨_, T, _, _, _, X, fun q => (by rw [hret] at q; cases q), hq, fun fs hl => Jvm.RoadKit.retN X hx hret ht hd hl⟩
theorem Goal.retI (X : Stand p l e R s m args below meth c T locs cells slots) (hx : p.tables.exec = Jvm.exec) {pc : Nat} {Ls : Array Slot} {z : Int32} {rest : List Value} (hret : meth.sig.returnType = some .int)
    (hd : decode c.code pc = .ok (.ireturn, 1)) (hq : Q (some (.int z)) T.heap locs cells slots) : Goal p l e R s m args below meth c Q T (mkF m pc Ls (.int z :: rest)) :=
  ⟨_, T, _, _, _, X, fun q => (by rw [hret] at q; cases q), hq, fun fs hl => retOut X hx hret rfl (Or.inl ⟨rfl, Or.inl rfl, _, rfl⟩) hd hl⟩
theorem Goal.retJ (X : Stand p l e R s m args below meth c T locs cells slots) (hx : p.tables.exec = Jvm.exec) {pc : Nat} {Ls : Array Slot} {z : Int64} {rest : List Value} (hret : meth.sig.returnType = some .long)
    (hd : decode c.code pc = .ok (.lreturn, 1)) (hq : Q (some (.long z)) T.heap locs cells slots) : Goal p l e R s m args below meth c Q T (mkF m pc Ls (.long z :: rest)) :=
  ⟨_, T, _, _, _, X, fun q => (by rw [hret] at q; cases q), hq, fun fs hl => retOut X hx hret rfl (Or.inr (Or.inl ⟨rfl, rfl, _, rfl⟩)) hd hl⟩
theorem Goal.retD (X : Stand p l e R s m args below meth c T locs cells slots) (hx : p.tables.exec = Jvm.exec) {pc : Nat} {Ls : Array Slot} {z : UInt64} {rest : List Value} (hret : meth.sig.returnType = some .double)
    (hd : decode c.code pc = .ok (.dreturn, 1)) (hq : Q (some (.double z)) T.heap locs cells slots) : Goal p l e R s m args below meth c Q T (mkF m pc Ls (.double z :: rest)) :=
  ⟨_, T, _, _, _, X, fun q => (by rw [hret] at q; cases q), hq, fun fs hl => retOut X hx hret rfl (Or.inr (Or.inr (Or.inl ⟨rfl, rfl, _, rfl⟩))) hd hl⟩
theorem Goal.retA (X : Stand p l e R s m args below meth c T locs cells slots) (hx : p.tables.exec = Jvm.exec) {pc : Nat} {Ls : Array Slot} {w : Value} {t : FieldType} {rest : List Value} (hret : meth.sig.returnType = some t) (ht : t.isReference = true) (hn : narrow t w = w) (hw : w.isRef = true)
    (hd : decode c.code pc = .ok (.areturn, 1)) (hq : Q (some w) T.heap locs cells slots) : Goal p l e R s m args below meth c Q T (mkF m pc Ls (w :: rest)) :=
  ⟨_, T, _, _, _, X, fun q => (by rw [hret] at q; cases q), hq, fun fs hl => retOut X hx hret hn (Or.inr (Or.inr (Or.inr (Or.inr ⟨rfl, ht, hw⟩)))) hd hl⟩
theorem Goal.retV (X : Stand p l e R s m args below meth c T locs cells slots) (hx : p.tables.exec = Jvm.exec) {pc : Nat} {Ls : Array Slot} (hret : meth.sig.returnType = none)
    (hd : decode c.code pc = .ok (.return_, 1)) (hq : Q none T.heap locs cells slots) : Goal p l e R s m args below meth c Q T (mkF m pc Ls []) :=
  ⟨_, T, _, _, _, X, fun _ => rfl, hq, fun fs hl => X.returnOut hx hret hd hl⟩
/-- what a walk knows of where it runs -/
def Ctx (p : Program) (s : State) (m : MethodId) (meth : Method) (c : Code) (Z : State) (bytes : ByteArray) (maxL : Nat) (ret : Option FieldType) (own nm : String) : Prop :=
  p.tables.exec = Jvm.exec ∧ Z.Warmed39 s.vm ∧ c.code = bytes ∧ c.maxLocals = maxL ∧ meth.sig.returnType = ret ∧ s.vm.findClass own = some m.cls ∧ meth.name = nm
/-- a body's contract: called with as' at the heap h0, it returns, and what it leaves meets Q -/
def Met (l : Launch) (y : MethodName) (bytes : ByteArray) (maxL : Nat) (ret : Option FieldType) (ws : List Jvm.Cond) (rm : Room) (Z : State) (as' : Array Value) (h0 : Heap) (Q : Option Value → Heap → List Loc → Prop) : Prop :=
  MetFree l y (head1 (Jvm.Cond.code y bytes maxL ret :: ws) rm) (fun a U => a = as' ∧ Z.Warmed39 U.vm ∧ U.heap = h0) (fun _ _ _ _ _ => True) (fun _ U o U' => ∃ v L, o = .returned v ∧ Q v U'.heap L ∧ FrameEnd U o U' L rm.cells rm.slots)
/-- Q within the room -/
def In (rm : Room) (Q : Option Value → Heap → List Loc → Prop) (v : Option Value) (h : Heap) (L : List Loc) (k n : Nat) : Prop := Q v h L ∧ k ≤ rm.cells ∧ n ≤ rm.slots
theorem of_goal {y : MethodName} {bytes : ByteArray} {maxL : Nat} {ret : Option FieldType} {ws : List Jvm.Cond} {rm : Room} {as' : Array Value} {h0 : Heap} {Q : Option Value → Heap → List Loc → Prop} (hpl : plainFor y = true)
    (body : ∀ (p : Program) (e : Env) (s : State) (m : MethodId) (below : List Frame) (meth : Method) (c : Code) (s₁ : State), Ctx p s m meth c Z bytes maxL ret y.cls y.name → Stand p l e rm s m as' below meth c s₁ [] 0 0 → s₁.heap = h0 →
      Goal p l e rm s m as' below meth c (In rm Q) s₁ (entryFrame m as' maxL)) : Met l y bytes maxL ret ws rm Z as' h0 Q := by
  refine MetFree.of_bodySF hpl hisR ?_
  intro p e s m args below meth c s₁ Bd hml0 hP hK
  obtain ⟨rfl, hZ, hh⟩ := hP
  have X0 : Stand p l e rm s m _ below meth c s₁ [] 0 0 := Stand.of_body Bd
  have e0 : s₁.heap = h0 := by rw [← hh, Bd.state]; rfl
  obtain ⟨v, U, L, k, n, X, hv, ⟨hq, hk, hn⟩, hs⟩ := body p e s m below meth c s₁ ⟨Bd.exec, hZ, Bd.bytes, hml0, Bd.returns, findClass_of_methodNamed Bd.named, (name_of_methodNamed Bd.named Bd.method).1⟩ X0 e0
  obtain ⟨fs, hr, hrun, hended, hW, hsame⟩ := X.leave (v := v) hv
  exact ⟨_, _, hs fs hr, hrun, hended, _, _, rfl, hq, ⟨_, rfl⟩, hW, hsame.mono hk hn⟩
variable {own : String} {index maxL : Nat} {y z : MethodName} {bytes : ByteArray} {ret : Option FieldType} {rm : Room} {as' : Array Value} {Qc : Option Value → Heap → List Loc → Prop}
theorem callStatic (X : Stand p l e R s m args below meth c T locs cells slots) (hx : p.tables.exec = Jvm.exec) (hZ : Z.Warmed39 s.vm) (hown : s.vm.findClass own = some m.cls)
    (w1 : (Cond.methodLink own index y).before a0 Z = true) (w2 : (Cond.static y).before a0 Z = true) (w3 : (Cond.initialized y.cls).before a0 Z = true) (w4 : (Cond.code y bytes maxL ret).before a0 Z = true)
    (hy : y.cls ≠ "java/lang/invoke/MethodHandle" ∧ y.cls ≠ "java/lang/invoke/VarHandle") (hM : Met l y bytes maxL ret [] rm Z as' h Qc) (eT : T.heap = h) {W : Nat} (hf : rm.frames + 1 ≤ R.frames) (hl : W + (maxL + 11) + rm.locals ≤ R.locals)
    (hc : cells + rm.cells ≤ R.cells) (hs : slots + rm.slots ≤ R.slots)
    {g : JFrame} (hg : g.method = m) (hsize : g.locals.size = c.maxLocals) {argsL rest : List Value} (hlen : ∀ sig, parseMethodDescriptor y.desc = some sig → argsL.length = sig.parameters.length)
    (hstack : g.stack = argsL.reverse ++ rest) (hW : 2 * g.monitorRoom + (rest.map fun v => v.category).sum ≤ W) (hdg : decode c.code g.pc = .ok (.invokestatic index, 3)) (has : argsL.toArray = as') :
    ∃ v T' h' L, Stand p l e R s m args below meth c T' (locs ++ L) (cells + rm.cells) (slots + rm.slots) ∧ T'.heap = h' ∧ Qc v h' L ∧ ∀ target, Steps p.tables e below (T'.setTop { g with pc := g.pc + 3, stack := v.toList ++ rest }) target → Steps p.tables e below (T.setTop g) target := by
  subst has
  obtain ⟨v, _, ⟨T', L', k', n'⟩, -, X', ⟨Lc, hQ, l1, y1, z1⟩, st⟩ := Jvm.LawKit.callS X hx (y := y) hown (mvT hZ w1) (mvT hZ w2) (mvT hZ w3) (mvT hZ w4) hy (backOf (W := W) hM hZ w4 w3 hf hl) (g := g) hg hsize (argsL := argsL) (rest := rest) hlen hstack hW hdg (fun _ _ => ⟨rfl, eT, hc, hs⟩)
  dsimp only [Pt.U, Pt.locs, Pt.cells, Pt.slots] at X' l1 y1 z1 st hQ
  subst l1 y1 z1
  exact ⟨v, T', _, Lc, X', rfl, hQ, st⟩
theorem callInit (X : Stand p l e R s m args below meth c T locs cells slots) (hx : p.tables.exec = Jvm.exec) (hZ : Z.Warmed39 s.vm) (hown : s.vm.findClass own = some m.cls) (hy1 : y.name = "<init>")
    (w1 : (Cond.methodLink own index y).before a0 Z = true) (w2 : (Cond.instanceMethod y).before a0 Z = true) (w3 : (Cond.initialized y.cls).before a0 Z = true) (w4 : (Cond.code y bytes maxL none).before a0 Z = true)
    (hy : y.cls ≠ "java/lang/invoke/MethodHandle" ∧ y.cls ≠ "java/lang/invoke/VarHandle") (hM : Met l y bytes maxL none [] rm Z as' h Qc) (eT : T.heap = h) {W : Nat} (hf : rm.frames + 1 ≤ R.frames) (hl : W + (maxL + 11) + rm.locals ≤ R.locals)
    (hc : cells + rm.cells ≤ R.cells) (hs : slots + rm.slots ≤ R.slots)
    {g : JFrame} (hg : g.method = m) (hsize : g.locals.size = c.maxLocals) {a : Addr} {argsL rest : List Value} (hlen : ∀ sig, parseMethodDescriptor y.desc = some sig → argsL.length = sig.parameters.length)
    (hstack : g.stack = argsL.reverse ++ .ref a :: rest) (hW : 2 * g.monitorRoom + (rest.map fun v => v.category).sum ≤ W) (hdg : decode c.code g.pc = .ok (.invokespecial index, 3)) (has : (Value.ref a :: argsL).toArray = as') :
    ∃ v T' h' L, Stand p l e R s m args below meth c T' (locs ++ L) (cells + rm.cells) (slots + rm.slots) ∧ T'.heap = h' ∧ Qc v h' L ∧ ∀ target, Steps p.tables e below (T'.setTop { g with pc := g.pc + 3, stack := v.toList ++ rest }) target → Steps p.tables e below (T.setTop g) target := by
  subst has
  obtain ⟨v, _, ⟨T', L', k', n'⟩, -, X', ⟨Lc, hQ, l1, y1, z1⟩, st⟩ := X.specialBack hx (y := y) hy1 hown (mvT hZ w1) (mvT hZ w2) (mvT hZ w4) hy (backOf (W := W) hM hZ w4 w3 hf hl) (g := g) hg hsize (Steps.refl _) (a := a) (argsL := argsL) (rest := rest) hlen hstack hW hdg (fun _ _ => ⟨rfl, eT, hc, hs⟩)
  dsimp only [Pt.U, Pt.locs, Pt.cells, Pt.slots] at X' l1 y1 z1 st hQ
  subst l1 y1 z1
  exact ⟨v, T', _, Lc, X', rfl, hQ, fun t k => st.trans k⟩
theorem callVirt (X : Stand p l e R s m args below meth c T locs cells slots) (hx : p.tables.exec = Jvm.exec) (hZ : Z.Warmed39 s.vm) (hown : s.vm.findClass own = some m.cls) {C : String}
    (w1 : (Cond.methodLink own index y).before a0 Z = true) (w2 : (Cond.declares y).before a0 Z = true) (hnf : NotFace s y) (w5 : (Cond.selects C y z).before a0 Z = true) (w6 : (Cond.instanceMethod z).before a0 Z = true) (w3 : (Cond.initialized z.cls).before a0 Z = true) (w4 : (Cond.code z bytes maxL ret).before a0 Z = true)
    (hy : y.cls ≠ "java/lang/invoke/MethodHandle" ∧ y.cls ≠ "java/lang/invoke/VarHandle") (hM : Met l z bytes maxL ret [] rm Z as' h Qc) (eT : T.heap = h) {a : Addr} (E : Exa Z h a C) {W : Nat} (hf : rm.frames + 1 ≤ R.frames) (hl : W + (maxL + 11) + rm.locals ≤ R.locals)
    (hc : cells + rm.cells ≤ R.cells) (hs : slots + rm.slots ≤ R.slots)
    {g : JFrame} (hg : g.method = m) (hsize : g.locals.size = c.maxLocals) {argsL rest : List Value} (hlen : ∀ sig, parseMethodDescriptor y.desc = some sig → argsL.length = sig.parameters.length)
    (hstack : g.stack = argsL.reverse ++ .ref a :: rest) (hW : 2 * g.monitorRoom + (rest.map fun v => v.category).sum ≤ W) (hdg : decode c.code g.pc = .ok (.invokevirtual index, 3)) (has : (Value.ref a :: argsL).toArray = as') :
    ∃ v T' h' L, Stand p l e R s m args below meth c T' (locs ++ L) (cells + rm.cells) (slots + rm.slots) ∧ T'.heap = h' ∧ Qc v h' L ∧ ∀ target, Steps p.tables e below (T'.setTop { g with pc := g.pc + 3, stack := v.toList ++ rest }) target → Steps p.tables e below (T.setTop g) target := by
  subst has
  obtain ⟨cq, kq, qa, qb, qc⟩ := isOf hZ eT E
  obtain ⟨v, _, ⟨T', L', k', n'⟩, -, X', ⟨Lc, hQ, l1, y1, z1⟩, st⟩ := X.virtualBack hx (y := y) (z := z) hown (mvT hZ w1) (mvT hZ w2) hnf (mvT hZ w5) (mvT hZ w6) hy (backOf (W := W) hM hZ w4 w3 hf hl) qa qc (g := g) hg hsize (Steps.refl _) (argsL := argsL) (rest := rest) hlen hstack hW hdg (fun _ _ => ⟨rfl, eT, hc, hs⟩)
  dsimp only [Pt.U, Pt.locs, Pt.cells, Pt.slots] at X' l1 y1 z1 st hQ
  subst l1 y1 z1
  exact ⟨v, T', _, Lc, X', rfl, hQ, fun t k => st.trans k⟩
theorem nne {x y : Nat} (q : ¬ x = y) : @Ne Addr x y := q
end Own

def xs (x : Int64) : Int64 := x ^^^ ((x.toUInt64 >>> ((33 : Int32) &&& 0x3f).toInt64.toUInt64).toInt64)
def nst (c i : Int64) : Int64 := i * ((2 : Int64) - c * i)
def inv (c : Int64) : Int64 := nst c (nst c (nst c (nst c (nst c c))))
theorem xs_bv (x : Int64) : (xs x).toBitVec = x.toBitVec ^^^ (x.toBitVec >>> 33) := by
  have h : (((33 : Int32) &&& 0x3f).toInt64.toUInt64) = 33 := by decide
  simp only [xs, h, Int64.toBitVec_xor, UInt64.toBitVec_toInt64, UInt64.toBitVec_shiftRight, Int64.toBitVec_toUInt64]
  congr 1
theorem xs_xs (x : Int64) : xs (xs x) = x := by
  apply Int64.toBitVec_inj.mp
  rw [xs_bv, xs_bv]
  generalize x.toBitVec = b
  ext i hi
  simp only [BitVec.getElem_xor, BitVec.getElem_ushiftRight, BitVec.getLsbD_xor, BitVec.getLsbD_ushiftRight]
  have : b.getLsbD (33 + (33 + i)) = false := BitVec.getLsbD_of_ge _ _ (by omega)
  rw [this]
  simp
theorem inv1 : (-49064778989728563 : Int64) * inv (-49064778989728563) = 1 := by decide
theorem inv2 : (-4265267296055464877 : Int64) * inv (-4265267296055464877) = 1 := by decide
def mixed (h : Int64) : Int64 := xs (xs (xs h * (-49064778989728563 : Int64)) * (-4265267296055464877 : Int64))
def unmixed (h : Int64) : Int64 := xs (xs (xs h * inv (-4265267296055464877 : Int64)) * inv (-49064778989728563 : Int64))
theorem own_law (h : Int64) : unmixed (mixed h) = h := by
  unfold unmixed mixed
  rw [xs_xs, Int64.mul_assoc, inv2, Int64.mul_one, xs_xs, Int64.mul_assoc, inv1, Int64.mul_one, xs_xs]
theorem d3_0 : decode method_2_code 0 = .ok (.lload_n 0, 1) := by decide +kernel
theorem d3_1 : decode method_2_code 1 = .ok (.lstore_n 2, 1) := by decide +kernel
theorem d3_2 : decode method_2_code 2 = .ok (.lload_n 2, 1) := by decide +kernel
theorem d3_3 : decode method_2_code 3 = .ok (.ldc2_w 7, 3) := by decide +kernel
theorem d3_6 : decode method_2_code 6 = .ok (.lload_n 0, 1) := by decide +kernel
theorem d3_7 : decode method_2_code 7 = .ok (.lload_n 2, 1) := by decide +kernel
theorem d3_8 : decode method_2_code 8 = .ok (.lmul, 1) := by decide +kernel
theorem d3_9 : decode method_2_code 9 = .ok (.lsub, 1) := by decide +kernel
theorem d3_10 : decode method_2_code 10 = .ok (.lmul, 1) := by decide +kernel
theorem d3_11 : decode method_2_code 11 = .ok (.lstore_n 2, 1) := by decide +kernel
theorem d3_12 : decode method_2_code 12 = .ok (.lload_n 2, 1) := by decide +kernel
theorem d3_13 : decode method_2_code 13 = .ok (.ldc2_w 7, 3) := by decide +kernel
theorem d3_16 : decode method_2_code 16 = .ok (.lload_n 0, 1) := by decide +kernel
theorem d3_17 : decode method_2_code 17 = .ok (.lload_n 2, 1) := by decide +kernel
theorem d3_18 : decode method_2_code 18 = .ok (.lmul, 1) := by decide +kernel
theorem d3_19 : decode method_2_code 19 = .ok (.lsub, 1) := by decide +kernel
theorem d3_20 : decode method_2_code 20 = .ok (.lmul, 1) := by decide +kernel
theorem d3_21 : decode method_2_code 21 = .ok (.lstore_n 2, 1) := by decide +kernel
theorem d3_22 : decode method_2_code 22 = .ok (.lload_n 2, 1) := by decide +kernel
theorem d3_23 : decode method_2_code 23 = .ok (.ldc2_w 7, 3) := by decide +kernel
theorem d3_26 : decode method_2_code 26 = .ok (.lload_n 0, 1) := by decide +kernel
theorem d3_27 : decode method_2_code 27 = .ok (.lload_n 2, 1) := by decide +kernel
theorem d3_28 : decode method_2_code 28 = .ok (.lmul, 1) := by decide +kernel
theorem d3_29 : decode method_2_code 29 = .ok (.lsub, 1) := by decide +kernel
theorem d3_30 : decode method_2_code 30 = .ok (.lmul, 1) := by decide +kernel
theorem d3_31 : decode method_2_code 31 = .ok (.lstore_n 2, 1) := by decide +kernel
theorem d3_32 : decode method_2_code 32 = .ok (.lload_n 2, 1) := by decide +kernel
theorem d3_33 : decode method_2_code 33 = .ok (.ldc2_w 7, 3) := by decide +kernel
theorem d3_36 : decode method_2_code 36 = .ok (.lload_n 0, 1) := by decide +kernel
theorem d3_37 : decode method_2_code 37 = .ok (.lload_n 2, 1) := by decide +kernel
theorem d3_38 : decode method_2_code 38 = .ok (.lmul, 1) := by decide +kernel
theorem d3_39 : decode method_2_code 39 = .ok (.lsub, 1) := by decide +kernel
theorem d3_40 : decode method_2_code 40 = .ok (.lmul, 1) := by decide +kernel
theorem d3_41 : decode method_2_code 41 = .ok (.lstore_n 2, 1) := by decide +kernel
theorem d3_42 : decode method_2_code 42 = .ok (.lload_n 2, 1) := by decide +kernel
theorem d3_43 : decode method_2_code 43 = .ok (.ldc2_w 7, 3) := by decide +kernel
theorem d3_46 : decode method_2_code 46 = .ok (.lload_n 0, 1) := by decide +kernel
theorem d3_47 : decode method_2_code 47 = .ok (.lload_n 2, 1) := by decide +kernel
theorem d3_48 : decode method_2_code 48 = .ok (.lmul, 1) := by decide +kernel
theorem d3_49 : decode method_2_code 49 = .ok (.lsub, 1) := by decide +kernel
theorem d3_50 : decode method_2_code 50 = .ok (.lmul, 1) := by decide +kernel
theorem d3_51 : decode method_2_code 51 = .ok (.lstore_n 2, 1) := by decide +kernel
theorem d3_52 : decode method_2_code 52 = .ok (.lload_n 2, 1) := by decide +kernel
theorem d3_53 : decode method_2_code 53 = .ok (.lreturn, 1) := by decide +kernel
theorem ef_3 (m : MethodId) (x0 : Int64) : entryFrame m #[(.long x0)] 4 = mkF m 0 #[.val (.long x0), .second, .unset, .unset] [] := by first | (simp [entryFrame, mkF, argsToLocals, Value.category]; done) | rfl
set_option maxRecDepth 65536 in
set_option maxHeartbeats 40000000 in
theorem rmInv (l : Launch) (Z : State) (a0 : Array Value) (hw : ∀ d ∈ tables_1, d.before a0 Z = true) (q1 : Int64) (h0 : Heap) (n0 : Nat) (Z0 : n0 ≤ h0.size) :
    Met l (⟨"com/example/reticula/reticula/HashesMixPinLaw", "inverse", "(J)J"⟩ : MethodName) method_2_code 4 (some .long) [] ({ frames := 0, cells := 0, slots := 0, locals := 0 } : Room) Z #[(.long q1)] h0 (fun v h L => v = some (.long (inv q1)) ∧ Fr n0 L ∧ h = h0) := by
  refine of_goal (plainFor_of_name (by first | (simp [plainName, overriddenIn]; done) | decide +kernel)) ?_
  intro p e s m below meth c s₁ C X0 e0
  have C0 := C
  obtain ⟨hx, hZ, hby, hml, hret, hown, hnm⟩ := C
  have hown : s.vm.findClass "com/example/reticula/reticula/HashesMixPinLaw" = some m.cls := hown
  have hret : meth.sig.returnType = (some .long) := hret
  have N0 := Fr.nil n0
  rw [ef_3]
  refine Goal.step (T' := s₁) (g' := (mkF m 1 #[.val (.long q1), .second, .unset, .unset] [(.long q1)])) ?_ (fun t k => XS.lloadN X0.here hx rfl (hb hby d3_0) rfl k)
  refine Goal.step (T' := s₁) (g' := (mkF m 2 #[.val (.long q1), .second, .val (.long q1), .second] [])) ?_ (fun t k => XS.lstoreN X0.here hx rfl (hb hby d3_1) rfl (l' := #[.val (.long q1), .second, .val (.long q1), .second]) rfl k)
  refine Goal.step (T' := s₁) (g' := (mkF m 3 #[.val (.long q1), .second, .val (.long q1), .second] [(.long q1)])) ?_ (fun t k => XS.lloadN X0.here hx rfl (hb hby d3_2) rfl k)
  refine Goal.step (T' := s₁) (g' := (mkF m 6 #[.val (.long q1), .second, .val (.long q1), .second] [(.long (2 : Int64)), (.long q1)])) ?_ (fun t k => X0.ldc2Long hx hown (mvT hZ (hw _ (List.mem_of_getElem? (i := 14) rfl))) (g := (mkF m 3 #[.val (.long q1), .second, .val (.long q1), .second] [(.long q1)])) rfl (hb hby d3_3) _ k)
  refine Goal.step (T' := s₁) (g' := (mkF m 7 #[.val (.long q1), .second, .val (.long q1), .second] [(.long q1), (.long (2 : Int64)), (.long q1)])) ?_ (fun t k => XS.lloadN X0.here hx rfl (hb hby d3_6) rfl k)
  refine Goal.step (T' := s₁) (g' := (mkF m 8 #[.val (.long q1), .second, .val (.long q1), .second] [(.long q1), (.long q1), (.long (2 : Int64)), (.long q1)])) ?_ (fun t k => XS.lloadN X0.here hx rfl (hb hby d3_7) rfl k)
  refine Goal.step (T' := s₁) (g' := (mkF m 9 #[.val (.long q1), .second, .val (.long q1), .second] [(.long (q1 * q1)), (.long (2 : Int64)), (.long q1)])) ?_ (fun t k => XS.lmul X0.here hx rfl (hb hby d3_8) rfl k)
  refine Goal.step (T' := s₁) (g' := (mkF m 10 #[.val (.long q1), .second, .val (.long q1), .second] [(.long ((2 : Int64) - (q1 * q1))), (.long q1)])) ?_ (fun t k => XS.lsub X0.here hx rfl (hb hby d3_9) rfl k)
  refine Goal.step (T' := s₁) (g' := (mkF m 11 #[.val (.long q1), .second, .val (.long q1), .second] [(.long (q1 * ((2 : Int64) - (q1 * q1))))])) ?_ (fun t k => XS.lmul X0.here hx rfl (hb hby d3_10) rfl k)
  refine Goal.step (T' := s₁) (g' := (mkF m 12 #[.val (.long q1), .second, .val (.long (nst q1 q1)), .second] [])) ?_ (fun t k => XS.lstoreN X0.here hx rfl (hb hby d3_11) rfl (l' := #[.val (.long q1), .second, .val (.long (nst q1 q1)), .second]) rfl k)
  refine Goal.step (T' := s₁) (g' := (mkF m 13 #[.val (.long q1), .second, .val (.long (nst q1 q1)), .second] [(.long (nst q1 q1))])) ?_ (fun t k => XS.lloadN X0.here hx rfl (hb hby d3_12) rfl k)
  refine Goal.step (T' := s₁) (g' := (mkF m 16 #[.val (.long q1), .second, .val (.long (nst q1 q1)), .second] [(.long (2 : Int64)), (.long (nst q1 q1))])) ?_ (fun t k => X0.ldc2Long hx hown (mvT hZ (hw _ (List.mem_of_getElem? (i := 14) rfl))) (g := (mkF m 13 #[.val (.long q1), .second, .val (.long (nst q1 q1)), .second] [(.long (nst q1 q1))])) rfl (hb hby d3_13) _ k)
  refine Goal.step (T' := s₁) (g' := (mkF m 17 #[.val (.long q1), .second, .val (.long (nst q1 q1)), .second] [(.long q1), (.long (2 : Int64)), (.long (nst q1 q1))])) ?_ (fun t k => XS.lloadN X0.here hx rfl (hb hby d3_16) rfl k)
  refine Goal.step (T' := s₁) (g' := (mkF m 18 #[.val (.long q1), .second, .val (.long (nst q1 q1)), .second] [(.long (nst q1 q1)), (.long q1), (.long (2 : Int64)), (.long (nst q1 q1))])) ?_ (fun t k => XS.lloadN X0.here hx rfl (hb hby d3_17) rfl k)
  refine Goal.step (T' := s₁) (g' := (mkF m 19 #[.val (.long q1), .second, .val (.long (nst q1 q1)), .second] [(.long (q1 * (nst q1 q1))), (.long (2 : Int64)), (.long (nst q1 q1))])) ?_ (fun t k => XS.lmul X0.here hx rfl (hb hby d3_18) rfl k)
  refine Goal.step (T' := s₁) (g' := (mkF m 20 #[.val (.long q1), .second, .val (.long (nst q1 q1)), .second] [(.long ((2 : Int64) - (q1 * (nst q1 q1)))), (.long (nst q1 q1))])) ?_ (fun t k => XS.lsub X0.here hx rfl (hb hby d3_19) rfl k)
  refine Goal.step (T' := s₁) (g' := (mkF m 21 #[.val (.long q1), .second, .val (.long (nst q1 q1)), .second] [(.long ((nst q1 q1) * ((2 : Int64) - (q1 * (nst q1 q1)))))])) ?_ (fun t k => XS.lmul X0.here hx rfl (hb hby d3_20) rfl k)
  refine Goal.step (T' := s₁) (g' := (mkF m 22 #[.val (.long q1), .second, .val (.long (nst q1 (nst q1 q1))), .second] [])) ?_ (fun t k => XS.lstoreN X0.here hx rfl (hb hby d3_21) rfl (l' := #[.val (.long q1), .second, .val (.long (nst q1 (nst q1 q1))), .second]) rfl k)
  refine Goal.step (T' := s₁) (g' := (mkF m 23 #[.val (.long q1), .second, .val (.long (nst q1 (nst q1 q1))), .second] [(.long (nst q1 (nst q1 q1)))])) ?_ (fun t k => XS.lloadN X0.here hx rfl (hb hby d3_22) rfl k)
  refine Goal.step (T' := s₁) (g' := (mkF m 26 #[.val (.long q1), .second, .val (.long (nst q1 (nst q1 q1))), .second] [(.long (2 : Int64)), (.long (nst q1 (nst q1 q1)))])) ?_ (fun t k => X0.ldc2Long hx hown (mvT hZ (hw _ (List.mem_of_getElem? (i := 14) rfl))) (g := (mkF m 23 #[.val (.long q1), .second, .val (.long (nst q1 (nst q1 q1))), .second] [(.long (nst q1 (nst q1 q1)))])) rfl (hb hby d3_23) _ k)
  refine Goal.step (T' := s₁) (g' := (mkF m 27 #[.val (.long q1), .second, .val (.long (nst q1 (nst q1 q1))), .second] [(.long q1), (.long (2 : Int64)), (.long (nst q1 (nst q1 q1)))])) ?_ (fun t k => XS.lloadN X0.here hx rfl (hb hby d3_26) rfl k)
  refine Goal.step (T' := s₁) (g' := (mkF m 28 #[.val (.long q1), .second, .val (.long (nst q1 (nst q1 q1))), .second] [(.long (nst q1 (nst q1 q1))), (.long q1), (.long (2 : Int64)), (.long (nst q1 (nst q1 q1)))])) ?_ (fun t k => XS.lloadN X0.here hx rfl (hb hby d3_27) rfl k)
  refine Goal.step (T' := s₁) (g' := (mkF m 29 #[.val (.long q1), .second, .val (.long (nst q1 (nst q1 q1))), .second] [(.long (q1 * (nst q1 (nst q1 q1)))), (.long (2 : Int64)), (.long (nst q1 (nst q1 q1)))])) ?_ (fun t k => XS.lmul X0.here hx rfl (hb hby d3_28) rfl k)
  refine Goal.step (T' := s₁) (g' := (mkF m 30 #[.val (.long q1), .second, .val (.long (nst q1 (nst q1 q1))), .second] [(.long ((2 : Int64) - (q1 * (nst q1 (nst q1 q1))))), (.long (nst q1 (nst q1 q1)))])) ?_ (fun t k => XS.lsub X0.here hx rfl (hb hby d3_29) rfl k)
  refine Goal.step (T' := s₁) (g' := (mkF m 31 #[.val (.long q1), .second, .val (.long (nst q1 (nst q1 q1))), .second] [(.long ((nst q1 (nst q1 q1)) * ((2 : Int64) - (q1 * (nst q1 (nst q1 q1))))))])) ?_ (fun t k => XS.lmul X0.here hx rfl (hb hby d3_30) rfl k)
  refine Goal.step (T' := s₁) (g' := (mkF m 32 #[.val (.long q1), .second, .val (.long (nst q1 (nst q1 (nst q1 q1)))), .second] [])) ?_ (fun t k => XS.lstoreN X0.here hx rfl (hb hby d3_31) rfl (l' := #[.val (.long q1), .second, .val (.long (nst q1 (nst q1 (nst q1 q1)))), .second]) rfl k)
  refine Goal.step (T' := s₁) (g' := (mkF m 33 #[.val (.long q1), .second, .val (.long (nst q1 (nst q1 (nst q1 q1)))), .second] [(.long (nst q1 (nst q1 (nst q1 q1))))])) ?_ (fun t k => XS.lloadN X0.here hx rfl (hb hby d3_32) rfl k)
  refine Goal.step (T' := s₁) (g' := (mkF m 36 #[.val (.long q1), .second, .val (.long (nst q1 (nst q1 (nst q1 q1)))), .second] [(.long (2 : Int64)), (.long (nst q1 (nst q1 (nst q1 q1))))])) ?_ (fun t k => X0.ldc2Long hx hown (mvT hZ (hw _ (List.mem_of_getElem? (i := 14) rfl))) (g := (mkF m 33 #[.val (.long q1), .second, .val (.long (nst q1 (nst q1 (nst q1 q1)))), .second] [(.long (nst q1 (nst q1 (nst q1 q1))))])) rfl (hb hby d3_33) _ k)
  refine Goal.step (T' := s₁) (g' := (mkF m 37 #[.val (.long q1), .second, .val (.long (nst q1 (nst q1 (nst q1 q1)))), .second] [(.long q1), (.long (2 : Int64)), (.long (nst q1 (nst q1 (nst q1 q1))))])) ?_ (fun t k => XS.lloadN X0.here hx rfl (hb hby d3_36) rfl k)
  refine Goal.step (T' := s₁) (g' := (mkF m 38 #[.val (.long q1), .second, .val (.long (nst q1 (nst q1 (nst q1 q1)))), .second] [(.long (nst q1 (nst q1 (nst q1 q1)))), (.long q1), (.long (2 : Int64)), (.long (nst q1 (nst q1 (nst q1 q1))))])) ?_ (fun t k => XS.lloadN X0.here hx rfl (hb hby d3_37) rfl k)
  refine Goal.step (T' := s₁) (g' := (mkF m 39 #[.val (.long q1), .second, .val (.long (nst q1 (nst q1 (nst q1 q1)))), .second] [(.long (q1 * (nst q1 (nst q1 (nst q1 q1))))), (.long (2 : Int64)), (.long (nst q1 (nst q1 (nst q1 q1))))])) ?_ (fun t k => XS.lmul X0.here hx rfl (hb hby d3_38) rfl k)
  refine Goal.step (T' := s₁) (g' := (mkF m 40 #[.val (.long q1), .second, .val (.long (nst q1 (nst q1 (nst q1 q1)))), .second] [(.long ((2 : Int64) - (q1 * (nst q1 (nst q1 (nst q1 q1)))))), (.long (nst q1 (nst q1 (nst q1 q1))))])) ?_ (fun t k => XS.lsub X0.here hx rfl (hb hby d3_39) rfl k)
  refine Goal.step (T' := s₁) (g' := (mkF m 41 #[.val (.long q1), .second, .val (.long (nst q1 (nst q1 (nst q1 q1)))), .second] [(.long ((nst q1 (nst q1 (nst q1 q1))) * ((2 : Int64) - (q1 * (nst q1 (nst q1 (nst q1 q1)))))))])) ?_ (fun t k => XS.lmul X0.here hx rfl (hb hby d3_40) rfl k)
  refine Goal.step (T' := s₁) (g' := (mkF m 42 #[.val (.long q1), .second, .val (.long (nst q1 (nst q1 (nst q1 (nst q1 q1))))), .second] [])) ?_ (fun t k => XS.lstoreN X0.here hx rfl (hb hby d3_41) rfl (l' := #[.val (.long q1), .second, .val (.long (nst q1 (nst q1 (nst q1 (nst q1 q1))))), .second]) rfl k)
  refine Goal.step (T' := s₁) (g' := (mkF m 43 #[.val (.long q1), .second, .val (.long (nst q1 (nst q1 (nst q1 (nst q1 q1))))), .second] [(.long (nst q1 (nst q1 (nst q1 (nst q1 q1)))))])) ?_ (fun t k => XS.lloadN X0.here hx rfl (hb hby d3_42) rfl k)
  refine Goal.step (T' := s₁) (g' := (mkF m 46 #[.val (.long q1), .second, .val (.long (nst q1 (nst q1 (nst q1 (nst q1 q1))))), .second] [(.long (2 : Int64)), (.long (nst q1 (nst q1 (nst q1 (nst q1 q1)))))])) ?_ (fun t k => X0.ldc2Long hx hown (mvT hZ (hw _ (List.mem_of_getElem? (i := 14) rfl))) (g := (mkF m 43 #[.val (.long q1), .second, .val (.long (nst q1 (nst q1 (nst q1 (nst q1 q1))))), .second] [(.long (nst q1 (nst q1 (nst q1 (nst q1 q1)))))])) rfl (hb hby d3_43) _ k)
  refine Goal.step (T' := s₁) (g' := (mkF m 47 #[.val (.long q1), .second, .val (.long (nst q1 (nst q1 (nst q1 (nst q1 q1))))), .second] [(.long q1), (.long (2 : Int64)), (.long (nst q1 (nst q1 (nst q1 (nst q1 q1)))))])) ?_ (fun t k => XS.lloadN X0.here hx rfl (hb hby d3_46) rfl k)
  refine Goal.step (T' := s₁) (g' := (mkF m 48 #[.val (.long q1), .second, .val (.long (nst q1 (nst q1 (nst q1 (nst q1 q1))))), .second] [(.long (nst q1 (nst q1 (nst q1 (nst q1 q1))))), (.long q1), (.long (2 : Int64)), (.long (nst q1 (nst q1 (nst q1 (nst q1 q1)))))])) ?_ (fun t k => XS.lloadN X0.here hx rfl (hb hby d3_47) rfl k)
  refine Goal.step (T' := s₁) (g' := (mkF m 49 #[.val (.long q1), .second, .val (.long (nst q1 (nst q1 (nst q1 (nst q1 q1))))), .second] [(.long (q1 * (nst q1 (nst q1 (nst q1 (nst q1 q1)))))), (.long (2 : Int64)), (.long (nst q1 (nst q1 (nst q1 (nst q1 q1)))))])) ?_ (fun t k => XS.lmul X0.here hx rfl (hb hby d3_48) rfl k)
  refine Goal.step (T' := s₁) (g' := (mkF m 50 #[.val (.long q1), .second, .val (.long (nst q1 (nst q1 (nst q1 (nst q1 q1))))), .second] [(.long ((2 : Int64) - (q1 * (nst q1 (nst q1 (nst q1 (nst q1 q1))))))), (.long (nst q1 (nst q1 (nst q1 (nst q1 q1)))))])) ?_ (fun t k => XS.lsub X0.here hx rfl (hb hby d3_49) rfl k)
  refine Goal.step (T' := s₁) (g' := (mkF m 51 #[.val (.long q1), .second, .val (.long (nst q1 (nst q1 (nst q1 (nst q1 q1))))), .second] [(.long ((nst q1 (nst q1 (nst q1 (nst q1 q1)))) * ((2 : Int64) - (q1 * (nst q1 (nst q1 (nst q1 (nst q1 q1))))))))])) ?_ (fun t k => XS.lmul X0.here hx rfl (hb hby d3_50) rfl k)
  refine Goal.step (T' := s₁) (g' := (mkF m 52 #[.val (.long q1), .second, .val (.long (nst q1 (nst q1 (nst q1 (nst q1 (nst q1 q1)))))), .second] [])) ?_ (fun t k => XS.lstoreN X0.here hx rfl (hb hby d3_51) rfl (l' := #[.val (.long q1), .second, .val (.long (nst q1 (nst q1 (nst q1 (nst q1 (nst q1 q1)))))), .second]) rfl k)
  refine Goal.step (T' := s₁) (g' := (mkF m 53 #[.val (.long q1), .second, .val (.long (nst q1 (nst q1 (nst q1 (nst q1 (nst q1 q1)))))), .second] [(.long (nst q1 (nst q1 (nst q1 (nst q1 (nst q1 q1))))))])) ?_ (fun t k => XS.lloadN X0.here hx rfl (hb hby d3_52) rfl k)
  refine Goal.retJ X0 hx hret (hb hby d3_53) ?_
  refine ⟨?_, by decide, by decide⟩
  rw [e0]
  exact ⟨rfl, N0, rfl⟩
theorem d1_0 : decode prog_27_method_4_code 0 = .ok (.lload_n 0, 1) := by decide +kernel
theorem d1_1 : decode prog_27_method_4_code 1 = .ok (.lload_n 0, 1) := by decide +kernel
theorem d1_2 : decode prog_27_method_4_code 2 = .ok (.bipush 33, 2) := by decide +kernel
theorem d1_4 : decode prog_27_method_4_code 4 = .ok (.lushr, 1) := by decide +kernel
theorem d1_5 : decode prog_27_method_4_code 5 = .ok (.lxor, 1) := by decide +kernel
theorem d1_6 : decode prog_27_method_4_code 6 = .ok (.lstore_n 0, 1) := by decide +kernel
theorem d1_7 : decode prog_27_method_4_code 7 = .ok (.lload_n 0, 1) := by decide +kernel
theorem d1_8 : decode prog_27_method_4_code 8 = .ok (.ldc2_w 13, 3) := by decide +kernel
theorem d1_11 : decode prog_27_method_4_code 11 = .ok (.lmul, 1) := by decide +kernel
theorem d1_12 : decode prog_27_method_4_code 12 = .ok (.lstore_n 0, 1) := by decide +kernel
theorem d1_13 : decode prog_27_method_4_code 13 = .ok (.lload_n 0, 1) := by decide +kernel
theorem d1_14 : decode prog_27_method_4_code 14 = .ok (.lload_n 0, 1) := by decide +kernel
theorem d1_15 : decode prog_27_method_4_code 15 = .ok (.bipush 33, 2) := by decide +kernel
theorem d1_17 : decode prog_27_method_4_code 17 = .ok (.lushr, 1) := by decide +kernel
theorem d1_18 : decode prog_27_method_4_code 18 = .ok (.lxor, 1) := by decide +kernel
theorem d1_19 : decode prog_27_method_4_code 19 = .ok (.lstore_n 0, 1) := by decide +kernel
theorem d1_20 : decode prog_27_method_4_code 20 = .ok (.lload_n 0, 1) := by decide +kernel
theorem d1_21 : decode prog_27_method_4_code 21 = .ok (.ldc2_w 15, 3) := by decide +kernel
theorem d1_24 : decode prog_27_method_4_code 24 = .ok (.lmul, 1) := by decide +kernel
theorem d1_25 : decode prog_27_method_4_code 25 = .ok (.lstore_n 0, 1) := by decide +kernel
theorem d1_26 : decode prog_27_method_4_code 26 = .ok (.lload_n 0, 1) := by decide +kernel
theorem d1_27 : decode prog_27_method_4_code 27 = .ok (.lload_n 0, 1) := by decide +kernel
theorem d1_28 : decode prog_27_method_4_code 28 = .ok (.bipush 33, 2) := by decide +kernel
theorem d1_30 : decode prog_27_method_4_code 30 = .ok (.lushr, 1) := by decide +kernel
theorem d1_31 : decode prog_27_method_4_code 31 = .ok (.lxor, 1) := by decide +kernel
theorem d1_32 : decode prog_27_method_4_code 32 = .ok (.lreturn, 1) := by decide +kernel
theorem ef_1 (m : MethodId) (x0 : Int64) : entryFrame m #[(.long x0)] 2 = mkF m 0 #[.val (.long x0), .second] [] := by first | (simp [entryFrame, mkF, argsToLocals, Value.category]; done) | rfl
set_option maxRecDepth 65536 in
set_option maxHeartbeats 40000000 in
theorem rmMix (l : Launch) (Z : State) (a0 : Array Value) (hw : ∀ d ∈ tables_1, d.before a0 Z = true) (q1 : Int64) (h0 : Heap) (n0 : Nat) (Z0 : n0 ≤ h0.size) :
    Met l (⟨"com/example/reticula/reticula/Hashes", "mix", "(J)J"⟩ : MethodName) prog_27_method_4_code 2 (some .long) [] ({ frames := 0, cells := 0, slots := 0, locals := 0 } : Room) Z #[(.long q1)] h0 (fun v h L => v = some (.long (mixed q1)) ∧ Fr n0 L ∧ h = h0) := by
  refine of_goal (plainFor_of_name (by first | (simp [plainName, overriddenIn]; done) | decide +kernel)) ?_
  intro p e s m below meth c s₁ C X0 e0
  have C0 := C
  obtain ⟨hx, hZ, hby, hml, hret, hown, hnm⟩ := C
  have hown : s.vm.findClass "com/example/reticula/reticula/Hashes" = some m.cls := hown
  have hret : meth.sig.returnType = (some .long) := hret
  have N0 := Fr.nil n0
  rw [ef_1]
  refine Goal.step (T' := s₁) (g' := (mkF m 1 #[.val (.long q1), .second] [(.long q1)])) ?_ (fun t k => XS.lloadN X0.here hx rfl (hb hby d1_0) rfl k)
  refine Goal.step (T' := s₁) (g' := (mkF m 2 #[.val (.long q1), .second] [(.long q1), (.long q1)])) ?_ (fun t k => XS.lloadN X0.here hx rfl (hb hby d1_1) rfl k)
  refine Goal.step (T' := s₁) (g' := (mkF m 4 #[.val (.long q1), .second] [(.int (33 : Int32)), (.long q1), (.long q1)])) ?_ (fun t k => XS.bipush X0.here hx rfl (hb hby d1_2) k)
  refine Goal.step (T' := s₁) (g' := (mkF m 5 #[.val (.long q1), .second] [(.long ((q1.toUInt64 >>> ((33 : Int32) &&& 0x3f).toInt64.toUInt64).toInt64)), (.long q1)])) ?_ (fun t k => XS.lushr X0.here hx rfl (hb hby d1_4) rfl k)
  refine Goal.step (T' := s₁) (g' := (mkF m 6 #[.val (.long q1), .second] [(.long (q1 ^^^ ((q1.toUInt64 >>> ((33 : Int32) &&& 0x3f).toInt64.toUInt64).toInt64)))])) ?_ (fun t k => XS.lxor X0.here hx rfl (hb hby d1_5) rfl k)
  refine Goal.step (T' := s₁) (g' := (mkF m 7 #[.val (.long (xs q1)), .second] [])) ?_ (fun t k => XS.lstoreN X0.here hx rfl (hb hby d1_6) rfl (l' := #[.val (.long (xs q1)), .second]) rfl k)
  refine Goal.step (T' := s₁) (g' := (mkF m 8 #[.val (.long (xs q1)), .second] [(.long (xs q1))])) ?_ (fun t k => XS.lloadN X0.here hx rfl (hb hby d1_7) rfl k)
  refine Goal.step (T' := s₁) (g' := (mkF m 11 #[.val (.long (xs q1)), .second] [(.long (-49064778989728563 : Int64)), (.long (xs q1))])) ?_ (fun t k => X0.ldc2Long hx hown (mvT hZ (hw _ (List.mem_of_getElem? (i := 4) rfl))) (g := (mkF m 8 #[.val (.long (xs q1)), .second] [(.long (xs q1))])) rfl (hb hby d1_8) _ k)
  refine Goal.step (T' := s₁) (g' := (mkF m 12 #[.val (.long (xs q1)), .second] [(.long ((xs q1) * (-49064778989728563 : Int64)))])) ?_ (fun t k => XS.lmul X0.here hx rfl (hb hby d1_11) rfl k)
  refine Goal.step (T' := s₁) (g' := (mkF m 13 #[.val (.long ((xs q1) * (-49064778989728563 : Int64))), .second] [])) ?_ (fun t k => XS.lstoreN X0.here hx rfl (hb hby d1_12) rfl (l' := #[.val (.long ((xs q1) * (-49064778989728563 : Int64))), .second]) rfl k)
  refine Goal.step (T' := s₁) (g' := (mkF m 14 #[.val (.long ((xs q1) * (-49064778989728563 : Int64))), .second] [(.long ((xs q1) * (-49064778989728563 : Int64)))])) ?_ (fun t k => XS.lloadN X0.here hx rfl (hb hby d1_13) rfl k)
  refine Goal.step (T' := s₁) (g' := (mkF m 15 #[.val (.long ((xs q1) * (-49064778989728563 : Int64))), .second] [(.long ((xs q1) * (-49064778989728563 : Int64))), (.long ((xs q1) * (-49064778989728563 : Int64)))])) ?_ (fun t k => XS.lloadN X0.here hx rfl (hb hby d1_14) rfl k)
  refine Goal.step (T' := s₁) (g' := (mkF m 17 #[.val (.long ((xs q1) * (-49064778989728563 : Int64))), .second] [(.int (33 : Int32)), (.long ((xs q1) * (-49064778989728563 : Int64))), (.long ((xs q1) * (-49064778989728563 : Int64)))])) ?_ (fun t k => XS.bipush X0.here hx rfl (hb hby d1_15) k)
  refine Goal.step (T' := s₁) (g' := (mkF m 18 #[.val (.long ((xs q1) * (-49064778989728563 : Int64))), .second] [(.long ((((xs q1) * (-49064778989728563 : Int64)).toUInt64 >>> ((33 : Int32) &&& 0x3f).toInt64.toUInt64).toInt64)), (.long ((xs q1) * (-49064778989728563 : Int64)))])) ?_ (fun t k => XS.lushr X0.here hx rfl (hb hby d1_17) rfl k)
  refine Goal.step (T' := s₁) (g' := (mkF m 19 #[.val (.long ((xs q1) * (-49064778989728563 : Int64))), .second] [(.long (((xs q1) * (-49064778989728563 : Int64)) ^^^ ((((xs q1) * (-49064778989728563 : Int64)).toUInt64 >>> ((33 : Int32) &&& 0x3f).toInt64.toUInt64).toInt64)))])) ?_ (fun t k => XS.lxor X0.here hx rfl (hb hby d1_18) rfl k)
  refine Goal.step (T' := s₁) (g' := (mkF m 20 #[.val (.long (xs ((xs q1) * (-49064778989728563 : Int64)))), .second] [])) ?_ (fun t k => XS.lstoreN X0.here hx rfl (hb hby d1_19) rfl (l' := #[.val (.long (xs ((xs q1) * (-49064778989728563 : Int64)))), .second]) rfl k)
  refine Goal.step (T' := s₁) (g' := (mkF m 21 #[.val (.long (xs ((xs q1) * (-49064778989728563 : Int64)))), .second] [(.long (xs ((xs q1) * (-49064778989728563 : Int64))))])) ?_ (fun t k => XS.lloadN X0.here hx rfl (hb hby d1_20) rfl k)
  refine Goal.step (T' := s₁) (g' := (mkF m 24 #[.val (.long (xs ((xs q1) * (-49064778989728563 : Int64)))), .second] [(.long (-4265267296055464877 : Int64)), (.long (xs ((xs q1) * (-49064778989728563 : Int64))))])) ?_ (fun t k => X0.ldc2Long hx hown (mvT hZ (hw _ (List.mem_of_getElem? (i := 5) rfl))) (g := (mkF m 21 #[.val (.long (xs ((xs q1) * (-49064778989728563 : Int64)))), .second] [(.long (xs ((xs q1) * (-49064778989728563 : Int64))))])) rfl (hb hby d1_21) _ k)
  refine Goal.step (T' := s₁) (g' := (mkF m 25 #[.val (.long (xs ((xs q1) * (-49064778989728563 : Int64)))), .second] [(.long ((xs ((xs q1) * (-49064778989728563 : Int64))) * (-4265267296055464877 : Int64)))])) ?_ (fun t k => XS.lmul X0.here hx rfl (hb hby d1_24) rfl k)
  refine Goal.step (T' := s₁) (g' := (mkF m 26 #[.val (.long ((xs ((xs q1) * (-49064778989728563 : Int64))) * (-4265267296055464877 : Int64))), .second] [])) ?_ (fun t k => XS.lstoreN X0.here hx rfl (hb hby d1_25) rfl (l' := #[.val (.long ((xs ((xs q1) * (-49064778989728563 : Int64))) * (-4265267296055464877 : Int64))), .second]) rfl k)
  refine Goal.step (T' := s₁) (g' := (mkF m 27 #[.val (.long ((xs ((xs q1) * (-49064778989728563 : Int64))) * (-4265267296055464877 : Int64))), .second] [(.long ((xs ((xs q1) * (-49064778989728563 : Int64))) * (-4265267296055464877 : Int64)))])) ?_ (fun t k => XS.lloadN X0.here hx rfl (hb hby d1_26) rfl k)
  refine Goal.step (T' := s₁) (g' := (mkF m 28 #[.val (.long ((xs ((xs q1) * (-49064778989728563 : Int64))) * (-4265267296055464877 : Int64))), .second] [(.long ((xs ((xs q1) * (-49064778989728563 : Int64))) * (-4265267296055464877 : Int64))), (.long ((xs ((xs q1) * (-49064778989728563 : Int64))) * (-4265267296055464877 : Int64)))])) ?_ (fun t k => XS.lloadN X0.here hx rfl (hb hby d1_27) rfl k)
  refine Goal.step (T' := s₁) (g' := (mkF m 30 #[.val (.long ((xs ((xs q1) * (-49064778989728563 : Int64))) * (-4265267296055464877 : Int64))), .second] [(.int (33 : Int32)), (.long ((xs ((xs q1) * (-49064778989728563 : Int64))) * (-4265267296055464877 : Int64))), (.long ((xs ((xs q1) * (-49064778989728563 : Int64))) * (-4265267296055464877 : Int64)))])) ?_ (fun t k => XS.bipush X0.here hx rfl (hb hby d1_28) k)
  refine Goal.step (T' := s₁) (g' := (mkF m 31 #[.val (.long ((xs ((xs q1) * (-49064778989728563 : Int64))) * (-4265267296055464877 : Int64))), .second] [(.long ((((xs ((xs q1) * (-49064778989728563 : Int64))) * (-4265267296055464877 : Int64)).toUInt64 >>> ((33 : Int32) &&& 0x3f).toInt64.toUInt64).toInt64)), (.long ((xs ((xs q1) * (-49064778989728563 : Int64))) * (-4265267296055464877 : Int64)))])) ?_ (fun t k => XS.lushr X0.here hx rfl (hb hby d1_30) rfl k)
  refine Goal.step (T' := s₁) (g' := (mkF m 32 #[.val (.long ((xs ((xs q1) * (-49064778989728563 : Int64))) * (-4265267296055464877 : Int64))), .second] [(.long (((xs ((xs q1) * (-49064778989728563 : Int64))) * (-4265267296055464877 : Int64)) ^^^ ((((xs ((xs q1) * (-49064778989728563 : Int64))) * (-4265267296055464877 : Int64)).toUInt64 >>> ((33 : Int32) &&& 0x3f).toInt64.toUInt64).toInt64)))])) ?_ (fun t k => XS.lxor X0.here hx rfl (hb hby d1_31) rfl k)
  refine Goal.retJ X0 hx hret (hb hby d1_32) ?_
  refine ⟨?_, by decide, by decide⟩
  rw [e0]
  exact ⟨rfl, N0, rfl⟩
theorem d2_0 : decode method_3_code 0 = .ok (.lload_n 0, 1) := by decide +kernel
theorem d2_1 : decode method_3_code 1 = .ok (.lload_n 0, 1) := by decide +kernel
theorem d2_2 : decode method_3_code 2 = .ok (.bipush 33, 2) := by decide +kernel
theorem d2_4 : decode method_3_code 4 = .ok (.lushr, 1) := by decide +kernel
theorem d2_5 : decode method_3_code 5 = .ok (.lxor, 1) := by decide +kernel
theorem d2_6 : decode method_3_code 6 = .ok (.lstore_n 0, 1) := by decide +kernel
theorem d2_7 : decode method_3_code 7 = .ok (.lload_n 0, 1) := by decide +kernel
theorem d2_8 : decode method_3_code 8 = .ok (.ldc2_w 11, 3) := by decide +kernel
theorem d2_11 : decode method_3_code 11 = .ok (.invokestatic 13, 3) := by decide +kernel
theorem pd_0 : parseMethodDescriptor "(J)J" = some ⟨[.long], some .long⟩ := by decide +kernel
theorem d2_14 : decode method_3_code 14 = .ok (.lmul, 1) := by decide +kernel
theorem d2_15 : decode method_3_code 15 = .ok (.lstore_n 0, 1) := by decide +kernel
theorem d2_16 : decode method_3_code 16 = .ok (.lload_n 0, 1) := by decide +kernel
theorem d2_17 : decode method_3_code 17 = .ok (.lload_n 0, 1) := by decide +kernel
theorem d2_18 : decode method_3_code 18 = .ok (.bipush 33, 2) := by decide +kernel
theorem d2_20 : decode method_3_code 20 = .ok (.lushr, 1) := by decide +kernel
theorem d2_21 : decode method_3_code 21 = .ok (.lxor, 1) := by decide +kernel
theorem d2_22 : decode method_3_code 22 = .ok (.lstore_n 0, 1) := by decide +kernel
theorem d2_23 : decode method_3_code 23 = .ok (.lload_n 0, 1) := by decide +kernel
theorem d2_24 : decode method_3_code 24 = .ok (.ldc2_w 17, 3) := by decide +kernel
theorem d2_27 : decode method_3_code 27 = .ok (.invokestatic 13, 3) := by decide +kernel
theorem d2_30 : decode method_3_code 30 = .ok (.lmul, 1) := by decide +kernel
theorem d2_31 : decode method_3_code 31 = .ok (.lstore_n 0, 1) := by decide +kernel
theorem d2_32 : decode method_3_code 32 = .ok (.lload_n 0, 1) := by decide +kernel
theorem d2_33 : decode method_3_code 33 = .ok (.lload_n 0, 1) := by decide +kernel
theorem d2_34 : decode method_3_code 34 = .ok (.bipush 33, 2) := by decide +kernel
theorem d2_36 : decode method_3_code 36 = .ok (.lushr, 1) := by decide +kernel
theorem d2_37 : decode method_3_code 37 = .ok (.lxor, 1) := by decide +kernel
theorem d2_38 : decode method_3_code 38 = .ok (.lstore_n 0, 1) := by decide +kernel
theorem d2_39 : decode method_3_code 39 = .ok (.lload_n 0, 1) := by decide +kernel
theorem d2_40 : decode method_3_code 40 = .ok (.lreturn, 1) := by decide +kernel
theorem ef_2 (m : MethodId) (x0 : Int64) : entryFrame m #[(.long x0)] 2 = mkF m 0 #[.val (.long x0), .second] [] := by first | (simp [entryFrame, mkF, argsToLocals, Value.category]; done) | rfl
set_option maxRecDepth 65536 in
set_option maxHeartbeats 40000000 in
theorem rmUn (l : Launch) (Z : State) (a0 : Array Value) (hw : ∀ d ∈ tables_1, d.before a0 Z = true) (q1 : Int64) (h0 : Heap) (n0 : Nat) (Z0 : n0 ≤ h0.size) :
    Met l (⟨"com/example/reticula/reticula/HashesMixPinLaw", "unmix", "(J)J"⟩ : MethodName) method_3_code 2 (some .long) [] ({ frames := 1, cells := 0, slots := 0, locals := 17 } : Room) Z #[(.long q1)] h0 (fun v h L => v = some (.long (unmixed q1)) ∧ Fr n0 L ∧ h = h0) := by
  refine of_goal (plainFor_of_name (by first | (simp [plainName, overriddenIn]; done) | decide +kernel)) ?_
  intro p e s m below meth c s₁ C X0 e0
  have C0 := C
  obtain ⟨hx, hZ, hby, hml, hret, hown, hnm⟩ := C
  have hown : s.vm.findClass "com/example/reticula/reticula/HashesMixPinLaw" = some m.cls := hown
  have hret : meth.sig.returnType = (some .long) := hret
  have N0 := Fr.nil n0
  rw [ef_2]
  refine Goal.step (T' := s₁) (g' := (mkF m 1 #[.val (.long q1), .second] [(.long q1)])) ?_ (fun t k => XS.lloadN X0.here hx rfl (hb hby d2_0) rfl k)
  refine Goal.step (T' := s₁) (g' := (mkF m 2 #[.val (.long q1), .second] [(.long q1), (.long q1)])) ?_ (fun t k => XS.lloadN X0.here hx rfl (hb hby d2_1) rfl k)
  refine Goal.step (T' := s₁) (g' := (mkF m 4 #[.val (.long q1), .second] [(.int (33 : Int32)), (.long q1), (.long q1)])) ?_ (fun t k => XS.bipush X0.here hx rfl (hb hby d2_2) k)
  refine Goal.step (T' := s₁) (g' := (mkF m 5 #[.val (.long q1), .second] [(.long ((q1.toUInt64 >>> ((33 : Int32) &&& 0x3f).toInt64.toUInt64).toInt64)), (.long q1)])) ?_ (fun t k => XS.lushr X0.here hx rfl (hb hby d2_4) rfl k)
  refine Goal.step (T' := s₁) (g' := (mkF m 6 #[.val (.long q1), .second] [(.long (q1 ^^^ ((q1.toUInt64 >>> ((33 : Int32) &&& 0x3f).toInt64.toUInt64).toInt64)))])) ?_ (fun t k => XS.lxor X0.here hx rfl (hb hby d2_5) rfl k)
  refine Goal.step (T' := s₁) (g' := (mkF m 7 #[.val (.long (xs q1)), .second] [])) ?_ (fun t k => XS.lstoreN X0.here hx rfl (hb hby d2_6) rfl (l' := #[.val (.long (xs q1)), .second]) rfl k)
  refine Goal.step (T' := s₁) (g' := (mkF m 8 #[.val (.long (xs q1)), .second] [(.long (xs q1))])) ?_ (fun t k => XS.lloadN X0.here hx rfl (hb hby d2_7) rfl k)
  refine Goal.step (T' := s₁) (g' := (mkF m 11 #[.val (.long (xs q1)), .second] [(.long (-4265267296055464877 : Int64)), (.long (xs q1))])) ?_ (fun t k => X0.ldc2Long hx hown (mvT hZ (hw _ (List.mem_of_getElem? (i := 10) rfl))) (g := (mkF m 8 #[.val (.long (xs q1)), .second] [(.long (xs q1))])) rfl (hb hby d2_8) _ k)
  obtain ⟨v1001, T1001, h1001, L1001, X1001, e1001, hQ1001, st1001⟩ := callStatic X0 hx hZ hown (hw _ (List.mem_of_getElem? (i := 11) rfl)) (hw _ (List.mem_of_getElem? (i := 12) rfl)) (hw _ (List.mem_of_getElem? (i := 8) rfl)) (hw _ (List.mem_of_getElem? (i := 13) rfl)) (by decide) (rmInv l Z a0 hw (-4265267296055464877 : Int64) h0 n0 (by omega) ) e0 (W := 2) (by decide) (by decide) (by decide) (by decide) (g := (mkF m 11 #[.val (.long (xs q1)), .second] [(.long (-4265267296055464877 : Int64)), (.long (xs q1))])) rfl (by rw [hml]; rfl) (argsL := [(.long (-4265267296055464877 : Int64))]) (rest := [(.long (xs q1))]) (lenOf pd_0 rfl) rfl (by show 2 * 0 + _ ≤ _; exact Nat.le_of_eq rfl) (hb hby d2_11) rfl
  obtain ⟨rfl, M1001, q1001⟩ := hQ1001
  rw [q1001] at e1001
  have N1001 := Fr.app N0 M1001
  refine Goal.step (T' := T1001) (g' := (mkF m 14 #[.val (.long (xs q1)), .second] [(.long (inv (-4265267296055464877 : Int64))), (.long (xs q1))])) ?_ st1001
  refine Goal.step (T' := T1001) (g' := (mkF m 15 #[.val (.long (xs q1)), .second] [(.long ((xs q1) * (inv (-4265267296055464877 : Int64))))])) ?_ (fun t k => XS.lmul X1001.here hx rfl (hb hby d2_14) rfl k)
  refine Goal.step (T' := T1001) (g' := (mkF m 16 #[.val (.long ((xs q1) * (inv (-4265267296055464877 : Int64)))), .second] [])) ?_ (fun t k => XS.lstoreN X1001.here hx rfl (hb hby d2_15) rfl (l' := #[.val (.long ((xs q1) * (inv (-4265267296055464877 : Int64)))), .second]) rfl k)
  refine Goal.step (T' := T1001) (g' := (mkF m 17 #[.val (.long ((xs q1) * (inv (-4265267296055464877 : Int64)))), .second] [(.long ((xs q1) * (inv (-4265267296055464877 : Int64))))])) ?_ (fun t k => XS.lloadN X1001.here hx rfl (hb hby d2_16) rfl k)
  refine Goal.step (T' := T1001) (g' := (mkF m 18 #[.val (.long ((xs q1) * (inv (-4265267296055464877 : Int64)))), .second] [(.long ((xs q1) * (inv (-4265267296055464877 : Int64)))), (.long ((xs q1) * (inv (-4265267296055464877 : Int64))))])) ?_ (fun t k => XS.lloadN X1001.here hx rfl (hb hby d2_17) rfl k)
  refine Goal.step (T' := T1001) (g' := (mkF m 20 #[.val (.long ((xs q1) * (inv (-4265267296055464877 : Int64)))), .second] [(.int (33 : Int32)), (.long ((xs q1) * (inv (-4265267296055464877 : Int64)))), (.long ((xs q1) * (inv (-4265267296055464877 : Int64))))])) ?_ (fun t k => XS.bipush X1001.here hx rfl (hb hby d2_18) k)
  refine Goal.step (T' := T1001) (g' := (mkF m 21 #[.val (.long ((xs q1) * (inv (-4265267296055464877 : Int64)))), .second] [(.long ((((xs q1) * (inv (-4265267296055464877 : Int64))).toUInt64 >>> ((33 : Int32) &&& 0x3f).toInt64.toUInt64).toInt64)), (.long ((xs q1) * (inv (-4265267296055464877 : Int64))))])) ?_ (fun t k => XS.lushr X1001.here hx rfl (hb hby d2_20) rfl k)
  refine Goal.step (T' := T1001) (g' := (mkF m 22 #[.val (.long ((xs q1) * (inv (-4265267296055464877 : Int64)))), .second] [(.long (((xs q1) * (inv (-4265267296055464877 : Int64))) ^^^ ((((xs q1) * (inv (-4265267296055464877 : Int64))).toUInt64 >>> ((33 : Int32) &&& 0x3f).toInt64.toUInt64).toInt64)))])) ?_ (fun t k => XS.lxor X1001.here hx rfl (hb hby d2_21) rfl k)
  refine Goal.step (T' := T1001) (g' := (mkF m 23 #[.val (.long (xs ((xs q1) * (inv (-4265267296055464877 : Int64))))), .second] [])) ?_ (fun t k => XS.lstoreN X1001.here hx rfl (hb hby d2_22) rfl (l' := #[.val (.long (xs ((xs q1) * (inv (-4265267296055464877 : Int64))))), .second]) rfl k)
  refine Goal.step (T' := T1001) (g' := (mkF m 24 #[.val (.long (xs ((xs q1) * (inv (-4265267296055464877 : Int64))))), .second] [(.long (xs ((xs q1) * (inv (-4265267296055464877 : Int64)))))])) ?_ (fun t k => XS.lloadN X1001.here hx rfl (hb hby d2_23) rfl k)
  refine Goal.step (T' := T1001) (g' := (mkF m 27 #[.val (.long (xs ((xs q1) * (inv (-4265267296055464877 : Int64))))), .second] [(.long (-49064778989728563 : Int64)), (.long (xs ((xs q1) * (inv (-4265267296055464877 : Int64)))))])) ?_ (fun t k => X1001.ldc2Long hx hown (mvT hZ (hw _ (List.mem_of_getElem? (i := 15) rfl))) (g := (mkF m 24 #[.val (.long (xs ((xs q1) * (inv (-4265267296055464877 : Int64))))), .second] [(.long (xs ((xs q1) * (inv (-4265267296055464877 : Int64)))))])) rfl (hb hby d2_24) _ k)
  obtain ⟨v1002, T1002, h1002, L1002, X1002, e1002, hQ1002, st1002⟩ := callStatic X1001 hx hZ hown (hw _ (List.mem_of_getElem? (i := 11) rfl)) (hw _ (List.mem_of_getElem? (i := 12) rfl)) (hw _ (List.mem_of_getElem? (i := 8) rfl)) (hw _ (List.mem_of_getElem? (i := 13) rfl)) (by decide) (rmInv l Z a0 hw (-49064778989728563 : Int64) h0 n0 (by omega) ) e1001 (W := 2) (by decide) (by decide) (by decide) (by decide) (g := (mkF m 27 #[.val (.long (xs ((xs q1) * (inv (-4265267296055464877 : Int64))))), .second] [(.long (-49064778989728563 : Int64)), (.long (xs ((xs q1) * (inv (-4265267296055464877 : Int64)))))])) rfl (by rw [hml]; rfl) (argsL := [(.long (-49064778989728563 : Int64))]) (rest := [(.long (xs ((xs q1) * (inv (-4265267296055464877 : Int64)))))]) (lenOf pd_0 rfl) rfl (by show 2 * 0 + _ ≤ _; exact Nat.le_of_eq rfl) (hb hby d2_27) rfl
  obtain ⟨rfl, M1002, q1002⟩ := hQ1002
  rw [q1002] at e1002
  have N1002 := Fr.app N1001 M1002
  refine Goal.step (T' := T1002) (g' := (mkF m 30 #[.val (.long (xs ((xs q1) * (inv (-4265267296055464877 : Int64))))), .second] [(.long (inv (-49064778989728563 : Int64))), (.long (xs ((xs q1) * (inv (-4265267296055464877 : Int64)))))])) ?_ st1002
  refine Goal.step (T' := T1002) (g' := (mkF m 31 #[.val (.long (xs ((xs q1) * (inv (-4265267296055464877 : Int64))))), .second] [(.long ((xs ((xs q1) * (inv (-4265267296055464877 : Int64)))) * (inv (-49064778989728563 : Int64))))])) ?_ (fun t k => XS.lmul X1002.here hx rfl (hb hby d2_30) rfl k)
  refine Goal.step (T' := T1002) (g' := (mkF m 32 #[.val (.long ((xs ((xs q1) * (inv (-4265267296055464877 : Int64)))) * (inv (-49064778989728563 : Int64)))), .second] [])) ?_ (fun t k => XS.lstoreN X1002.here hx rfl (hb hby d2_31) rfl (l' := #[.val (.long ((xs ((xs q1) * (inv (-4265267296055464877 : Int64)))) * (inv (-49064778989728563 : Int64)))), .second]) rfl k)
  refine Goal.step (T' := T1002) (g' := (mkF m 33 #[.val (.long ((xs ((xs q1) * (inv (-4265267296055464877 : Int64)))) * (inv (-49064778989728563 : Int64)))), .second] [(.long ((xs ((xs q1) * (inv (-4265267296055464877 : Int64)))) * (inv (-49064778989728563 : Int64))))])) ?_ (fun t k => XS.lloadN X1002.here hx rfl (hb hby d2_32) rfl k)
  refine Goal.step (T' := T1002) (g' := (mkF m 34 #[.val (.long ((xs ((xs q1) * (inv (-4265267296055464877 : Int64)))) * (inv (-49064778989728563 : Int64)))), .second] [(.long ((xs ((xs q1) * (inv (-4265267296055464877 : Int64)))) * (inv (-49064778989728563 : Int64)))), (.long ((xs ((xs q1) * (inv (-4265267296055464877 : Int64)))) * (inv (-49064778989728563 : Int64))))])) ?_ (fun t k => XS.lloadN X1002.here hx rfl (hb hby d2_33) rfl k)
  refine Goal.step (T' := T1002) (g' := (mkF m 36 #[.val (.long ((xs ((xs q1) * (inv (-4265267296055464877 : Int64)))) * (inv (-49064778989728563 : Int64)))), .second] [(.int (33 : Int32)), (.long ((xs ((xs q1) * (inv (-4265267296055464877 : Int64)))) * (inv (-49064778989728563 : Int64)))), (.long ((xs ((xs q1) * (inv (-4265267296055464877 : Int64)))) * (inv (-49064778989728563 : Int64))))])) ?_ (fun t k => XS.bipush X1002.here hx rfl (hb hby d2_34) k)
  refine Goal.step (T' := T1002) (g' := (mkF m 37 #[.val (.long ((xs ((xs q1) * (inv (-4265267296055464877 : Int64)))) * (inv (-49064778989728563 : Int64)))), .second] [(.long ((((xs ((xs q1) * (inv (-4265267296055464877 : Int64)))) * (inv (-49064778989728563 : Int64))).toUInt64 >>> ((33 : Int32) &&& 0x3f).toInt64.toUInt64).toInt64)), (.long ((xs ((xs q1) * (inv (-4265267296055464877 : Int64)))) * (inv (-49064778989728563 : Int64))))])) ?_ (fun t k => XS.lushr X1002.here hx rfl (hb hby d2_36) rfl k)
  refine Goal.step (T' := T1002) (g' := (mkF m 38 #[.val (.long ((xs ((xs q1) * (inv (-4265267296055464877 : Int64)))) * (inv (-49064778989728563 : Int64)))), .second] [(.long (((xs ((xs q1) * (inv (-4265267296055464877 : Int64)))) * (inv (-49064778989728563 : Int64))) ^^^ ((((xs ((xs q1) * (inv (-4265267296055464877 : Int64)))) * (inv (-49064778989728563 : Int64))).toUInt64 >>> ((33 : Int32) &&& 0x3f).toInt64.toUInt64).toInt64)))])) ?_ (fun t k => XS.lxor X1002.here hx rfl (hb hby d2_37) rfl k)
  refine Goal.step (T' := T1002) (g' := (mkF m 39 #[.val (.long (xs ((xs ((xs q1) * (inv (-4265267296055464877 : Int64)))) * (inv (-49064778989728563 : Int64))))), .second] [])) ?_ (fun t k => XS.lstoreN X1002.here hx rfl (hb hby d2_38) rfl (l' := #[.val (.long (xs ((xs ((xs q1) * (inv (-4265267296055464877 : Int64)))) * (inv (-49064778989728563 : Int64))))), .second]) rfl k)
  refine Goal.step (T' := T1002) (g' := (mkF m 40 #[.val (.long (xs ((xs ((xs q1) * (inv (-4265267296055464877 : Int64)))) * (inv (-49064778989728563 : Int64))))), .second] [(.long (xs ((xs ((xs q1) * (inv (-4265267296055464877 : Int64)))) * (inv (-49064778989728563 : Int64)))))])) ?_ (fun t k => XS.lloadN X1002.here hx rfl (hb hby d2_39) rfl k)
  refine Goal.retJ X1002 hx hret (hb hby d2_40) ?_
  refine ⟨?_, by decide, by decide⟩
  rw [e1002]
  exact ⟨rfl, N1002, rfl⟩
theorem ef_0 (m : MethodId) (x0 : Int64) : entryFrame m #[(.long x0)] maxLocals = mkF m 0 #[.val (.long x0), .second] [] := by first | (simp [entryFrame, mkF, argsToLocals, Value.category, maxLocals]; done) | rfl
set_option maxRecDepth 65536 in
set_option maxHeartbeats 40000000 in
theorem rm0 (l : Launch) (Z : State) (a0 : Array Value) (hw : ∀ d ∈ tables_1, d.before a0 Z = true) (q1 : Int64) (h0 : Heap) (n0 : Nat) (Z0 : n0 ≤ h0.size) :
    Met l x code maxLocals ret tables_1 room_1 Z #[(.long q1)] h0 (fun v h L => v = some (.int 1) ∧ Fr n0 L) := by
  refine of_goal (plainFor_of_name (by first | (simp [plainName, overriddenIn]; done) | decide +kernel)) ?_
  intro p e s m below meth c s₁ C X0 e0
  have C0 := C
  obtain ⟨hx, hZ, hby, hml, hret, hown, hnm⟩ := C
  have hown : s.vm.findClass "com/example/reticula/reticula/HashesMixPinLaw" = some m.cls := hown
  have hret : meth.sig.returnType = (some .boolean) := hret
  have N0 := Fr.nil n0
  rw [ef_0]
  refine Goal.step (T' := s₁) (g' := (mkF m 1 #[.val (.long q1), .second] [(.long q1)])) ?_ (fun t k => XS.lloadN X0.here hx rfl (hb hby at_0) rfl k)
  obtain ⟨v1001, T1001, h1001, L1001, X1001, e1001, hQ1001, st1001⟩ := callStatic X0 hx hZ hown (hw _ (List.mem_of_getElem? (i := 0) rfl)) (hw _ (List.mem_of_getElem? (i := 1) rfl)) (hw _ (List.mem_of_getElem? (i := 2) rfl)) (hw _ (List.mem_of_getElem? (i := 3) rfl)) (by decide) (rmMix l Z a0 hw q1 h0 n0 (by omega) ) e0 (W := 0) (by decide) (by decide) (by decide) (by decide) (g := (mkF m 1 #[.val (.long q1), .second] [(.long q1)])) rfl (by rw [hml]; rfl) (argsL := [(.long q1)]) (rest := []) (lenOf pd_0 rfl) rfl (by show 2 * 0 + _ ≤ _; exact Nat.le_of_eq rfl) (hb hby at_1) rfl
  obtain ⟨rfl, M1001, q1001⟩ := hQ1001
  rw [q1001] at e1001
  have N1001 := Fr.app N0 M1001
  refine Goal.step (T' := T1001) (g' := (mkF m 4 #[.val (.long q1), .second] [(.long (mixed q1))])) ?_ st1001
  obtain ⟨v1002, T1002, h1002, L1002, X1002, e1002, hQ1002, st1002⟩ := callStatic X1001 hx hZ hown (hw _ (List.mem_of_getElem? (i := 6) rfl)) (hw _ (List.mem_of_getElem? (i := 7) rfl)) (hw _ (List.mem_of_getElem? (i := 8) rfl)) (hw _ (List.mem_of_getElem? (i := 9) rfl)) (by decide) (rmUn l Z a0 hw (mixed q1) h0 n0 (by omega) ) e1001 (W := 0) (by decide) (by decide) (by decide) (by decide) (g := (mkF m 4 #[.val (.long q1), .second] [(.long (mixed q1))])) rfl (by rw [hml]; rfl) (argsL := [(.long (mixed q1))]) (rest := []) (lenOf pd_0 rfl) rfl (by show 2 * 0 + _ ≤ _; exact Nat.le_of_eq rfl) (hb hby at_4) rfl
  obtain ⟨rfl, M1002, q1002⟩ := hQ1002
  rw [q1002] at e1002
  have N1002 := Fr.app N1001 M1002
  refine Goal.step (T' := T1002) (g' := (mkF m 7 #[.val (.long q1), .second] [(.long (unmixed (mixed q1)))])) ?_ st1002
  refine Goal.step (T' := T1002) (g' := (mkF m 8 #[.val (.long q1), .second] [(.long q1), (.long (unmixed (mixed q1)))])) ?_ (fun t k => XS.lloadN X1002.here hx rfl (hb hby at_7) rfl k)
  refine Goal.step (T' := T1002) (g' := (mkF m 9 #[.val (.long q1), .second] [(.int (Jvm.Free.XT.cmpL (unmixed (mixed q1)) q1))])) ?_ (fun t k => Jvm.Free.XT.lcmp X1002.here hx rfl (hb hby at_8) rfl k)
  refine Goal.step (T' := T1002) (g' := (mkF m 12 #[.val (.long q1), .second] [])) ?_ (fun t k => XS.ifNo X1002.here hx rfl (hb hby at_9) rfl (Jvm.Free.XT.ll_ne_f (own_law q1)) k)
  refine Goal.step (T' := T1002) (g' := (mkF m 13 #[.val (.long q1), .second] [(.int (1 : Int32))])) ?_ (fun t k => XS.iconst X1002.here hx rfl (hb hby at_12) k)
  refine Goal.step (T' := T1002) (g' := (mkF m 17 #[.val (.long q1), .second] [(.int (1 : Int32))])) ?_ (fun t k => XS.goto X1002.here hx rfl (pc0 := 13) (pc' := 17) rfl (hb hby at_13) (by decide) (by decide) k)
  refine Goal.retN (t := .boolean) X1002 hx hret (by simp) (hb hby at_17) ?_
  exact ⟨⟨rfl, N1002⟩, by decide, by decide⟩
set_option maxRecDepth 65536 in
set_option maxHeartbeats 40000000 in
theorem comes_1 {Post : Tables → Env → Array Value → State → Outcome → State → Prop} (hpost : ∀ tb e args s v u, (limb_1_1.after args s (.returned v) u = true ∧ limb_1_2.after args s (.returned v) u = true ∧ True) → FrameEnd s (.returned v) u (Jvm.fieldLocs frame_1_writes args s ++ Jvm.arrayLocs frame_1_arrays args s ++ Jvm.staticLocs frame_1_statics s) 0 0 → Post tb e args s (.returned v) u) :
    ArmFor flags0 classFile x code maxLocals ret World_1 tables_1 room_1 Calls_1 rest_1 Pre_1 Post := by
  intro l hfl _ _ p e ha hc hk s m args below hf hA hF happ hP
  obtain ⟨hcalls, hrest, hpre⟩ := hP
  obtain ⟨-, -, -, hnamed, -, -, -, hat⟩ := (Spec.applies_iff hf).mp happ
  obtain ⟨hg, hn⟩ := and_e (Cond.before_iff.mp (show (Jvm.Cond.and given_1 narrow_1).before args s = true from hpre))
  obtain ⟨gc, gr0⟩ := and_e hg
  obtain ⟨w0, rfl⟩ : ∃ w0 : Value, args = #[w0] := by
    have hs : args.size = 1 := by simpa [Cond.value, given_1] using gc
    obtain ⟨L⟩ := args
    match L, hs with
    | [w0], _ => exact ⟨w0, rfl⟩
  have hw := fun d (hd : d ∈ tables_1) => atoms_spec (ws := Jvm.Cond.code x code maxLocals ret :: tables_1) hat d (List.mem_cons_of_mem _ hd)
  have hfit : Fit s := fun {y c} hc i hi => by
    obtain ⟨ha, rfl⟩ := Array.getElem?_eq_some_iff.mp hc
    have q := List.all_eq_true.mp ((Array.all_eq_true_iff_forall_mem.mp hF) _ (Array.getElem_mem ha)) i (List.mem_range.mpr hi)
    simpa [Array.getElem?_eq_getElem hi] using q
  obtain ⟨i0, ei0⟩ := isL_v gr0
  obtain rfl : w0 = (.long i0) := Option.some.inj ei0
  obtain ⟨n, o, h1, h2, h3, _, L, rfl, ⟨rfl, N⟩, hq⟩ := rm0 l s _ hw i0  s.heap s.heap.size (Nat.le_refl _)  p e ha hc hk s m _ below hf ((Spec.applies_iff_loose hf).mp happ).1 ⟨rfl, State.Warmed39.refl s, rfl⟩ trivial
  refine ⟨n, _, h1, h2, h3, hpost _ _ _ _ _ _ ⟨Cond.after_iff.mpr rfl, Cond.after_iff.mpr (eq_i res_at (Term.int_eval (1)) rfl), trivial⟩ ⟨hq.1, hq.2.1, (hq.2.2.sift fun y hy => Or.inr (N y hy)).mono (by decide) (by decide)⟩⟩
theorem main_1_1 : Claimed_1_1 := comes_1 fun _ _ _ _ _ _ h hF => ⟨h.1, hF⟩
theorem main_1_2 : Claimed_1_2 := comes_1 fun _ _ _ _ _ _ h hF => ⟨h.2.1, hF⟩
end Jvm.Pilot.@@N@@
namespace Jvm.Pilot.@@N@@
open Jvm Jvm.ClassFile Sem Op Lib Jvm.Free Jvm.Stand Jvm.Pilot.@@N@@.Jvm.D
/-! MADE BY PROGRAM (witnessworld.py) out of the Statement's table words and the real class files: 9 classes; the members and pool entries that the words name. The judged class is class 1, her method 3. -/
namespace start1
open Jvm.ClassFile
def u (s : String) : CpInfo := .utf8 (stringToUtf16 s)
/-- a pool by its gaps: so many unusable entries, then the entry; so many at the end -/
def gap : Nat → List CpInfo → List CpInfo
  | 0, r => r
  | n + 1, r => .unusable :: gap n r
def poolList (es : List (Nat × CpInfo)) (last : Nat) : List CpInfo := es.foldr (fun e r => gap e.1 (e.2 :: r)) (gap last [])
def pool (es : List (Nat × CpInfo)) (last : Nat) : Array CpInfo := ⟨poolList es last⟩
def fileOf (pool : Array CpInfo) (this : Nat) (attrs : Array Attribute := #[]) (ms : Array MethodInfo := #[]) (fl : Nat := 33) (sup : Nat := 0) (ifs : Array Nat := #[]) (fds : Array FieldInfo := #[]) : ClassFile where
  minorVersion := 0
  majorVersion := 65
  constantPool := pool
  accessFlags := fl
  thisClass := this
  superClass := sup
  interfaces := ifs
  fields := fds
  methods := ms
  attributes := attrs
def plain (name : String) (sup : Option ClassId) : Class where
  name := name
  kind := .ordinary
  loader := none
  accessFlags := 33
  super := sup
  interfaces := #[]
  cf := none
  fields := #[]
  methods := #[]
  instanceTypes := #[]
  staticTypes := #[]
  resolved := #[]
  callSites := []
  init := .initialized
  statics := none
  mirror := none

def pool0 : Array CpInfo := pool [(5, u "<init>"), (0, u "()V"), (1, .class_ 10), (1, u "java/lang/Object")] 113

def k0m0 : Method := { name := "<init>", desc := "()V", sig := { parameters := [], returnType := none }, accessFlags := 1, code := none }
/-- java/lang/Object -/
def k0 : Class := { plain "java/lang/Object" none with
  accessFlags := 33
  interfaces := #[]
  cf := some (fileOf pool0 8 #[] #[{ accessFlags := 1, nameIndex := 5, descriptorIndex := 6, attributes := #[] }] 33 0 #[] #[])
  fields := #[]
  methods := #[k0m0]
  instanceTypes := #[]
  staticTypes := #[]
  resolved := Array.replicate 124 none
  statics := none }

def pool1 : Array CpInfo := pool [(2, .class_ 4), (1, u "java/lang/Object"), (0, u "<init>"), (0, u "()V"), (0, .long 2), (1, .class_ 10), (0, u "com/example/reticula/reticula/HashesMixPinLaw"), (0, .long 14181476777654086739), (1, .methodref 9 14), (0, .nameAndType 15 16), (0, u "inverse"), (0, u "(J)J"), (0, .long 18397679294719823053), (1, .methodref 20 21), (0, .class_ 22), (0, .nameAndType 23 16), (0, u "com/example/reticula/reticula/Hashes"), (0, u "mix"), (0, .methodref 9 25), (0, .nameAndType 26 16), (0, u "unmix"), (0, u "C1"), (0, u "J"), (1, u "C2"), (2, u "law"), (0, u "(J)Z")] 3

def k1m0 : Method := { name := "<init>", desc := "()V", sig := { parameters := [], returnType := none }, accessFlags := 2, code := none }
def k1c1 : Code := { maxStack := 8, maxLocals := 4, code := method_2_code, exceptionTable := #[], attributes := #[] }
def k1m1 : Method := { name := "inverse", desc := "(J)J", sig := { parameters := [.long], returnType := some .long }, accessFlags := 10, code := some k1c1 }
def k1c2 : Code := { maxStack := 5, maxLocals := 2, code := method_3_code, exceptionTable := #[], attributes := #[] }
def k1m2 : Method := { name := "unmix", desc := "(J)J", sig := { parameters := [.long], returnType := some .long }, accessFlags := 10, code := some k1c2 }
def k1c3 : Code := { maxStack := 4, maxLocals := 2, code := code, exceptionTable := #[], attributes := #[] }
def k1m3 : Method := { name := "law", desc := "(J)Z", sig := { parameters := [.long], returnType := some .boolean }, accessFlags := 9, code := some k1c3 }
/-- com/example/reticula/reticula/HashesMixPinLaw -/
def k1 : Class := { plain "com/example/reticula/reticula/HashesMixPinLaw" (some 0) with
  accessFlags := 49
  interfaces := #[]
  cf := some (fileOf pool1 9 #[] #[{ accessFlags := 2, nameIndex := 5, descriptorIndex := 6, attributes := #[] }, { accessFlags := 10, nameIndex := 15, descriptorIndex := 16, attributes := #[] }, { accessFlags := 10, nameIndex := 26, descriptorIndex := 16, attributes := #[] }, { accessFlags := 9, nameIndex := 33, descriptorIndex := 34, attributes := #[] }] 49 2 #[] #[{ accessFlags := 26, nameIndex := 27, descriptorIndex := 28, attributes := #[] }, { accessFlags := 26, nameIndex := 30, descriptorIndex := 28, attributes := #[] }])
  fields := #[{ name := "C1", type := .long, accessFlags := 26, slot := 0, constantValue := 0 }, { name := "C2", type := .long, accessFlags := 26, slot := 1, constantValue := 0 }]
  methods := #[k1m0, k1m1, k1m2, k1m3]
  instanceTypes := #[]
  staticTypes := #[.long, .long]
  resolved := Array.replicate 38 none
  statics := none }

def pool2 : Array CpInfo := pool [(2, .class_ 4), (1, u "java/lang/Object"), (0, u "<init>"), (0, u "()V"), (1, .class_ 10), (1, u "com/example/reticula/reticula/Hashes"), (0, u "mix"), (0, u "(J)J"), (0, .long 18397679294719823053), (1, .long 14181476777654086739)] 13

def k2m0 : Method := { name := "<init>", desc := "()V", sig := { parameters := [], returnType := none }, accessFlags := 2, code := none }
def k2c1 : Code := { maxStack := 5, maxLocals := 2, code := prog_27_method_4_code, exceptionTable := #[], attributes := #[] }
def k2m1 : Method := { name := "mix", desc := "(J)J", sig := { parameters := [.long], returnType := some .long }, accessFlags := 8, code := some k2c1 }
/-- com/example/reticula/reticula/Hashes -/
def k2 : Class := { plain "com/example/reticula/reticula/Hashes" (some 0) with
  accessFlags := 48
  interfaces := #[]
  cf := some (fileOf pool2 8 #[] #[{ accessFlags := 2, nameIndex := 5, descriptorIndex := 6, attributes := #[] }, { accessFlags := 8, nameIndex := 11, descriptorIndex := 12, attributes := #[] }] 48 2 #[] #[])
  fields := #[]
  methods := #[k2m0, k2m1]
  instanceTypes := #[]
  staticTypes := #[]
  resolved := Array.replicate 29 none
  statics := none }

def pool3 : Array CpInfo := pool [(1, u "java/lang/Cloneable"), (0, .class_ 1), (0, u "java/lang/Object"), (0, .class_ 3)] 3

/-- java/lang/Cloneable -/
def k3 : Class := { plain "java/lang/Cloneable" (some 0) with
  accessFlags := 1537
  interfaces := #[]
  cf := some (fileOf pool3 2 #[] #[] 1537 4 #[] #[])
  fields := #[]
  methods := #[]
  instanceTypes := #[]
  staticTypes := #[]
  resolved := Array.replicate 8 none
  statics := none }

def pool4 : Array CpInfo := pool [(1, u "java/io/Serializable"), (0, .class_ 1), (0, u "java/lang/Object"), (0, .class_ 3)] 3

/-- java/io/Serializable -/
def k4 : Class := { plain "java/io/Serializable" (some 0) with
  accessFlags := 1537
  interfaces := #[]
  cf := some (fileOf pool4 2 #[] #[] 1537 4 #[] #[])
  fields := #[]
  methods := #[]
  instanceTypes := #[]
  staticTypes := #[]
  resolved := Array.replicate 8 none
  statics := none }

/-- the primitive byte -/
def k5 : Class := { plain "byte" none with kind := .primitive 'B', accessFlags := 0x411 }
/-- [B -/
def k6 : Class := { plain "[B" (some 0) with kind := .array 5 .byte, interfaces := #[3, 4], accessFlags := 1041 }

/-- the primitive int -/
def k7 : Class := { plain "int" none with kind := .primitive 'I', accessFlags := 0x411 }
/-- [I -/
def k8 : Class := { plain "[I" (some 0) with kind := .array 7 .int, interfaces := #[3, 4], accessFlags := 1041 }

def heap : Heap := #[]
def classes : Array Class := #[k0, k1, k2, k3, k4, k5, k6, k7, k8]
def interned : List (Array UInt16 × Addr) := []
def slotsUsed : Nat := 0
def theMethod : MethodId := ⟨1, 3⟩
def args0 : Array Value := #[.long 5]
def aboutOver (below : List Frame) : State where
  vm := { classes := classes, interned := interned.toArray }
  heap := heap
  slotsUsed := slotsUsed
  threads := #[{ frames := .invoking theMethod args0 :: below }]
def below0 : List Frame := [.native { method := ⟨0, 0⟩, args := #[] }]
def about1 : State := aboutOver below0
def p0 : Program := .bare "" "" ""
def e0 : Env := launch0.env 0 0 0
theorem w_frames : about1.frames = Frame.invoking theMethod args0 :: below0 := rfl
set_option maxRecDepth 65536 in
theorem w_args : argsFit about1.vm theMethod args0 = true := by decide +kernel
set_option maxRecDepth 65536 in
theorem w_heap : heapFits about1 = true := by decide +kernel
set_option maxRecDepth 65536 in
theorem w_runnable : about1.curStatus? = some .runnable := by decide +kernel
set_option maxRecDepth 65536 in
theorem w_alone : about1.alone = true := by decide +kernel
set_option maxRecDepth 65536 in
theorem w_named : about1.methodNamed? x = some theMethod := by decide +kernel
set_option maxRecDepth 65536 in
theorem w_hears : about1.hears theMethod below0 = true := by decide +kernel
set_option maxRecDepth 65536 in
theorem w_ripe : about1.ripe theMethod args0 below0 = true := by decide +kernel
theorem w_running : about1.status = .running := rfl
set_option maxRecDepth 65536 in
theorem w_room : about1.hasRoom e0.platform room_1 = true :=
  launch0.hasRoom_least _ room_1 (by decide +kernel) (by decide +kernel) (by decide +kernel) (by decide +kernel) (by decide +kernel) (by decide +kernel)
theorem allAtoms_all (ts : List Jvm.Cond) (a : Array Jvm.Value) (st : Jvm.State) : (allAtoms ts).before a st = ts.all (fun c => c.before a st) := by
  induction ts with
  | nil => rfl
  | cons c t ih =>
    show (Jvm.Cond.and c (allAtoms t)).before a st = _
    rw [Jvm.Cond.before_and, ih, List.all_cons]
def words1 : List Jvm.Cond := Jvm.Cond.code x code maxLocals ret :: tables_1
/-- a 'code' word, met by the world's own term for the bytes: nothing is compared byte by byte -/
theorem code_word {y : MethodName} {bytes : ByteArray} {mx : Nat} {rt : Option FieldType} {a : Array Value} {s : State} {m : MethodId} {meth : Method} {c : Code} (h1 : s.methodNamed? y = some m) (h2 : s.vm.method? m = some meth) (h3 : meth.code = some c) (h4 : c.code = bytes)
    (h5 : (c.maxLocals == mx && c.exceptionTable.isEmpty && decide (c.maxStack ≤ mostOperands) && decide (meth.sig.returnType = rt) && !meth.locks && decide (parseMethodDescriptor y.desc = some meth.sig)) = true) : (Jvm.Cond.code y bytes mx rt).before a s = true := by
  simp only [Bool.and_eq_true, beq_iff_eq, Bool.not_eq_true', decide_eq_true_eq] at h5
  obtain ⟨⟨⟨⟨⟨g1, g2⟩, g3⟩, g4⟩, g5⟩, g6⟩ := h5
  simp [Cond.before, Cond.holds, Cond.value, h1, h2, h3, h4, g1, g2, g3, g4, g5, g6]
def isCode : Jvm.Cond → Bool
  | .code _ _ _ _ => true
  | _ => false
theorem all_split {L : List Jvm.Cond} {P : Jvm.Cond → Bool} (h1 : L.all (fun c => isCode c || P c) = true) (h2 : ∀ c ∈ L.filter isCode, P c = true) : L.all P = true := by
  refine List.all_eq_true.mpr fun c hc => ?_
  have h := List.all_eq_true.mp h1 c hc
  rcases Bool.eq_false_or_eq_true (isCode c) with hi | hi
  · exact h2 c (List.mem_filter.mpr ⟨hc, hi⟩)
  · simpa [hi] using h
set_option maxRecDepth 65536 in
theorem w_c0 : (Jvm.Cond.code x code maxLocals ret).before args0 about1 = true := code_word (m := ⟨1, 3⟩) (meth := k1m3) (c := k1c3) (by decide +kernel) rfl rfl rfl (by decide +kernel)
set_option maxRecDepth 65536 in
theorem w_c1 : (Jvm.Cond.code ({ cls := "com/example/reticula/reticula/Hashes", name := "mix", desc := "(J)J" } : Jvm.MethodName) prog_27_method_4_code (2 : Nat) (Option.some Jvm.ClassFile.FieldType.long)).before args0 about1 = true := code_word (m := ⟨2, 1⟩) (meth := k2m1) (c := k2c1) (by decide +kernel) rfl rfl rfl (by decide +kernel)
set_option maxRecDepth 65536 in
theorem w_c2 : (Jvm.Cond.code ({ cls := "com/example/reticula/reticula/HashesMixPinLaw", name := "unmix", desc := "(J)J" } : Jvm.MethodName) method_3_code (2 : Nat) (Option.some Jvm.ClassFile.FieldType.long)).before args0 about1 = true := code_word (m := ⟨1, 2⟩) (meth := k1m2) (c := k1c2) (by decide +kernel) rfl rfl rfl (by decide +kernel)
set_option maxRecDepth 65536 in
theorem w_c3 : (Jvm.Cond.code ({ cls := "com/example/reticula/reticula/HashesMixPinLaw", name := "inverse", desc := "(J)J" } : Jvm.MethodName) method_2_code (4 : Nat) (Option.some Jvm.ClassFile.FieldType.long)).before args0 about1 = true := code_word (m := ⟨1, 1⟩) (meth := k1m1) (c := k1c1) (by decide +kernel) rfl rfl rfl (by decide +kernel)
def codes1 : List Jvm.Cond := [Jvm.Cond.code x code maxLocals ret, Jvm.Cond.code ({ cls := "com/example/reticula/reticula/Hashes", name := "mix", desc := "(J)J" } : Jvm.MethodName) prog_27_method_4_code (2 : Nat) (Option.some Jvm.ClassFile.FieldType.long), Jvm.Cond.code ({ cls := "com/example/reticula/reticula/HashesMixPinLaw", name := "unmix", desc := "(J)J" } : Jvm.MethodName) method_3_code (2 : Nat) (Option.some Jvm.ClassFile.FieldType.long), Jvm.Cond.code ({ cls := "com/example/reticula/reticula/HashesMixPinLaw", name := "inverse", desc := "(J)J" } : Jvm.MethodName) method_2_code (4 : Nat) (Option.some Jvm.ClassFile.FieldType.long)]
set_option maxRecDepth 65536 in
theorem codes_eq : words1.filter isCode = codes1 := rfl
theorem w_codes : ∀ c ∈ words1.filter isCode, c.before args0 about1 = true := by
  rw [codes_eq]
  intro c hc
  simp only [codes1, List.mem_cons, List.not_mem_nil, or_false] at hc
  rcases hc with rfl | rfl | rfl | rfl
  · exact w_c0
  · exact w_c1
  · exact w_c2
  · exact w_c3
set_option maxRecDepth 65536 in
theorem w_t1 : words1.all (fun c => isCode c || c.before args0 about1) = true := by decide +kernel
theorem w_tables : (allAtoms (Jvm.Cond.code x code maxLocals ret :: tables_1)).before args0 about1 = true := by
  rw [allAtoms_all]
  show words1.all (fun c => c.before args0 about1) = true
  refine all_split ?_ w_codes
  rw [w_t1]
set_option maxRecDepth 65536 in
theorem w_case : (Jvm.Cond.and given_1 narrow_1).before args0 about1 = true := by decide +kernel
theorem w_applies : (headSpec (Jvm.Cond.code x code maxLocals ret :: tables_1) room_1).applies x e0.platform about1 = true :=
  (Spec.applies_iff w_frames).mpr ⟨w_running, w_runnable, w_alone, w_named, w_hears, w_ripe, w_room, w_tables⟩
theorem atStart : AtStart classFile x code maxLocals ret World_1 tables_1 room_1 Calls_1 rest_1 Pre_1 launch0 p0 e0 about1 theMethod args0 below0 :=
  ⟨lists_1, trivial, launch0.admits_env _ _ _, launch0.least_env, fairChoices_fair.cas, fairChoices_fair.clock, w_frames, w_args, w_heap, w_applies, trivial, trivial, w_case⟩
end start1
theorem witness_1 : WitnessClaimed_1 := ⟨start1.p0, start1.e0, start1.about1, start1.theMethod, start1.args0, start1.below0, start1.atStart⟩
end Jvm.Pilot.@@N@@
