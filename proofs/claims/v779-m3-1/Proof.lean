import JvmDerived
import JvmDerived.Pilot.@@N@@Statement
import JvmDerived.Pilot.@@N@@Code
set_option linter.unusedVariables false
set_option linter.unusedSimpArgs false
@@BLOCK:NumsL.lean.txt@@
namespace Jvm.Pilot.@@N@@
open Jvm Jvm.ClassFile Sem Op Lib Jvm.Free Jvm.Stand Jvm.LawKit Jvm.RoadKit Bundle Jvm.Pilot.@@N@@.Jvm.D
section Own
variable {p : Program} {l : Launch} {e : Env} {R : Room} {s : State} {m : MethodId} {args : Array Value} {below : List Frame} {meth : Method} {c : Code} {T T' : State} {locs : List Loc} {cells slots : Nat} {g g' : JFrame} {Q : Option Value → Heap → List Loc → Nat → Nat → Prop} {Z : State} {a0 : Array Value} {h : Heap}
/-- from this frame, in this state, the run comes to a return, and what it leaves meets Q -/
def Goal (p : Program) (l : Launch) (e : Env) (R : Room) (s : State) (m : MethodId) (args : Array Value) (below : List Frame) (meth : Method) (c : Code) (Q : Option Value → Heap → List Loc → Nat → Nat → Prop) (T : State) (g : JFrame) : Prop :=
  ∃ v U L k n, Stand p l e R s m args below meth c U L k n ∧ (meth.sig.returnType = none → v = none) ∧ Q v U.heap L k n ∧
    ∀ fs, (∀ (f : JFrame) (acts : List Action), f.method = m → f.locked = none → f.entered = [] → (doReturn e (U.setTop f) acts v).1 = U.setFrames fs) → Steps p.tables e below (T.setTop g) (U.setFrames fs)
theorem Goal.step (h : Goal p l e R s m args below meth c Q T' g') (st : ∀ t, Steps p.tables e below (T'.setTop g') t → Steps p.tables e below (T.setTop g) t) : Goal p l e R s m args below meth c Q T g := by
  obtain ⟨v, U, L, k, n, X, hv, hq, hs⟩ := h
  exact ⟨v, U, L, k, n, X, hv, hq, fun fs hl => st _ (hs fs hl)⟩
theorem Goal.imp {Q' : Option Value → Heap → List Loc → Nat → Nat → Prop} (h : Goal p l e R s m args below meth c Q T g) (q : ∀ v h L k n, Q v h L k n → Q' v h L k n) : Goal p l e R s m args below meth c Q' T g := by
  obtain ⟨v, U, L, k, n, X, hv, hq, hs⟩ := h
  exact ⟨v, U, L, k, n, X, hv, q _ _ _ _ _ hq, hs⟩
theorem Goal.retN (X : Stand p l e R s m args below meth c T locs cells slots) (hx : p.tables.exec = Jvm.exec) {pc : Nat} {Ls : Array Slot} {z : Int32} {t : FieldType} {rest : List Value} (hret : meth.sig.returnType = some t) (ht : t = .boolean ∨ t = .byte ∨ t = .char ∨ t = .short)
    (hd : decode c.code pc = .ok (.ireturn, 1)) (hq : Q (some (.int (nar t z))) T.heap locs cells slots) : Goal p l e R s m args below meth c Q T (mkF m pc Ls (.int z :: rest)) :=
  ⟨_, T, _, _, _, X, fun q => (by rw [hret] at q; cases q), hq, fun fs hl => Jvm.RoadKit.retN X hx hret ht hd hl⟩
theorem Goal.retI (X : Stand p l e R s m args below meth c T locs cells slots) (hx : p.tables.exec = Jvm.exec) {pc : Nat} {Ls : Array Slot} {z : Int32} {rest : List Value} (hret : meth.sig.returnType = some .int)
    (hd : decode c.code pc = .ok (.ireturn, 1)) (hq : Q (some (.int z)) T.heap locs cells slots) : Goal p l e R s m args below meth c Q T (mkF m pc Ls (.int z :: rest)) :=
  ⟨_, T, _, _, _, X, fun q => (by rw [hret] at q; cases q), hq, fun fs hl => retOut X hx hret rfl (Or.inl ⟨rfl, Or.inl rfl, _, rfl⟩) hd hl⟩
theorem Goal.retJ (X : Stand p l e R s m args below meth c T locs cells slots) (hx : p.tables.exec = Jvm.exec) {pc : Nat} {Ls : Array Slot} {z : Int64} {rest : List Value} (hret : meth.sig.returnType = some .long)
    (hd : decode c.code pc = .ok (.lreturn, 1)) (hq : Q (some (.long z)) T.heap locs cells slots) : Goal p l e R s m args below meth c Q T (mkF m pc Ls (.long z :: rest)) :=
  ⟨_, T, _, _, _, X, fun q => (by rw [hret] at q; cases q), hq, fun fs hl => retOut X hx hret rfl (Or.inr (Or.inl ⟨rfl, rfl, _, rfl⟩)) hd hl⟩
theorem Goal.retD (X : Stand p l e R s m args below meth c T locs cells slots) (hx : p.tables.exec = Jvm.exec) {pc : Nat} {Ls : Array Slot} {z : UInt64} {rest : List Value} (hret : meth.sig.returnType = some .double)
    (hd : decode c.code pc = .ok (.dreturn, 1)) (hq : Q (some (.double z)) T.heap locs cells slots) : Goal p l e R s m args below meth c Q T (mkF m pc Ls (.double z :: rest)) :=
  ⟨_, T, _, _, _, X, fun q => (by rw [hret] at q; cases q), hq, fun fs hl => retOut X hx hret rfl (Or.inr (Or.inr (Or.inl ⟨rfl, rfl, _, rfl⟩))) hd hl⟩
theorem Goal.retA (X : Stand p l e R s m args below meth c T locs cells slots) (hx : p.tables.exec = Jvm.exec) {pc : Nat} {Ls : Array Slot} {w : Value} {t : FieldType} {rest : List Value} (hret : meth.sig.returnType = some t) (ht : t.isReference = true) (hn : narrow t w = w) (hw : w.isRef = true)
    (hd : decode c.code pc = .ok (.areturn, 1)) (hq : Q (some w) T.heap locs cells slots) : Goal p l e R s m args below meth c Q T (mkF m pc Ls (w :: rest)) :=
  ⟨_, T, _, _, _, X, fun q => (by rw [hret] at q; cases q), hq, fun fs hl => retOut X hx hret hn (Or.inr (Or.inr (Or.inr (Or.inr ⟨rfl, ht, hw⟩)))) hd hl⟩
theorem Goal.retV (X : Stand p l e R s m args below meth c T locs cells slots) (hx : p.tables.exec = Jvm.exec) {pc : Nat} {Ls : Array Slot} (hret : meth.sig.returnType = none)
    (hd : decode c.code pc = .ok (.return_, 1)) (hq : Q none T.heap locs cells slots) : Goal p l e R s m args below meth c Q T (mkF m pc Ls []) :=
  ⟨_, T, _, _, _, X, fun _ => rfl, hq, fun fs hl => X.returnOut hx hret hd hl⟩
/-- what a walk knows of where it runs -/
def Ctx (p : Program) (s : State) (m : MethodId) (meth : Method) (c : Code) (Z : State) (bytes : ByteArray) (maxL : Nat) (ret : Option FieldType) (own nm : String) : Prop :=
  p.tables.exec = Jvm.exec ∧ Z.Warmed39 s.vm ∧ c.code = bytes ∧ c.maxLocals = maxL ∧ meth.sig.returnType = ret ∧ s.vm.findClass own = some m.cls ∧ meth.name = nm
/-- a body's contract: called with as' at the heap h0, it returns, and what it leaves meets Q -/
def Met (l : Launch) (y : MethodName) (bytes : ByteArray) (maxL : Nat) (ret : Option FieldType) (ws : List Jvm.Cond) (rm : Room) (Z : State) (as' : Array Value) (h0 : Heap) (Q : Option Value → Heap → List Loc → Prop) : Prop :=
  MetFree l y (head1 (Jvm.Cond.code y bytes maxL ret :: ws) rm) (fun a U => a = as' ∧ Z.Warmed39 U.vm ∧ U.heap = h0) (fun _ _ _ _ _ => True) (fun _ U o U' => ∃ v L, o = .returned v ∧ Q v U'.heap L ∧ FrameEnd U o U' L rm.cells rm.slots)
/-- Q within the room -/
def In (rm : Room) (Q : Option Value → Heap → List Loc → Prop) (v : Option Value) (h : Heap) (L : List Loc) (k n : Nat) : Prop := Q v h L ∧ k ≤ rm.cells ∧ n ≤ rm.slots
theorem of_goal {y : MethodName} {bytes : ByteArray} {maxL : Nat} {ret : Option FieldType} {ws : List Jvm.Cond} {rm : Room} {as' : Array Value} {h0 : Heap} {Q : Option Value → Heap → List Loc → Prop} (hpl : plainFor y = true)
    (body : ∀ (p : Program) (e : Env) (s : State) (m : MethodId) (below : List Frame) (meth : Method) (c : Code) (s₁ : State), Ctx p s m meth c Z bytes maxL ret y.cls y.name → Stand p l e rm s m as' below meth c s₁ [] 0 0 → s₁.heap = h0 →
      Goal p l e rm s m as' below meth c (In rm Q) s₁ (entryFrame m as' maxL)) : Met l y bytes maxL ret ws rm Z as' h0 Q := by
  refine MetFree.of_bodySF hpl hisR ?_
  intro p e s m args below meth c s₁ Bd hml0 hP hK
  obtain ⟨rfl, hZ, hh⟩ := hP
  have X0 : Stand p l e rm s m _ below meth c s₁ [] 0 0 := Stand.of_body Bd
  have e0 : s₁.heap = h0 := by rw [← hh, Bd.state]; rfl
  obtain ⟨v, U, L, k, n, X, hv, ⟨hq, hk, hn⟩, hs⟩ := body p e s m below meth c s₁ ⟨Bd.exec, hZ, Bd.bytes, hml0, Bd.returns, findClass_of_methodNamed Bd.named, (name_of_methodNamed Bd.named Bd.method).1⟩ X0 e0
  obtain ⟨fs, hr, hrun, hended, hW, hsame⟩ := X.leave (v := v) hv
  exact ⟨_, _, hs fs hr, hrun, hended, _, _, rfl, hq, ⟨_, rfl⟩, hW, hsame.mono hk hn⟩
variable {own : String} {index maxL : Nat} {y z : MethodName} {bytes : ByteArray} {ret : Option FieldType} {rm : Room} {as' : Array Value} {Qc : Option Value → Heap → List Loc → Prop}
theorem callStatic (X : Stand p l e R s m args below meth c T locs cells slots) (hx : p.tables.exec = Jvm.exec) (hZ : Z.Warmed39 s.vm) (hown : s.vm.findClass own = some m.cls)
    (w1 : (Cond.methodLink own index y).before a0 Z = true) (w2 : (Cond.static y).before a0 Z = true) (w3 : (Cond.initialized y.cls).before a0 Z = true) (w4 : (Cond.code y bytes maxL ret).before a0 Z = true)
    (hy : y.cls ≠ "java/lang/invoke/MethodHandle" ∧ y.cls ≠ "java/lang/invoke/VarHandle") (hM : Met l y bytes maxL ret [] rm Z as' h Qc) (eT : T.heap = h) {W : Nat} (hf : rm.frames + 1 ≤ R.frames) (hl : W + (maxL + 11) + rm.locals ≤ R.locals)
    (hc : cells + rm.cells ≤ R.cells) (hs : slots + rm.slots ≤ R.slots)
    {g : JFrame} (hg : g.method = m) (hsize : g.locals.size = c.maxLocals) {argsL rest : List Value} (hlen : ∀ sig, parseMethodDescriptor y.desc = some sig → argsL.length = sig.parameters.length)
    (hstack : g.stack = argsL.reverse ++ rest) (hW : 2 * g.monitorRoom + (rest.map fun v => v.category).sum ≤ W) (hdg : decode c.code g.pc = .ok (.invokestatic index, 3)) (has : argsL.toArray = as') :
    ∃ v T' h' L, Stand p l e R s m args below meth c T' (locs ++ L) (cells + rm.cells) (slots + rm.slots) ∧ T'.heap = h' ∧ Qc v h' L ∧ ∀ target, Steps p.tables e below (T'.setTop { g with pc := g.pc + 3, stack := v.toList ++ rest }) target → Steps p.tables e below (T.setTop g) target := by
  subst has
  obtain ⟨v, _, ⟨T', L', k', n'⟩, -, X', ⟨Lc, hQ, l1, y1, z1⟩, st⟩ := Jvm.LawKit.callS X hx (y := y) hown (mvT hZ w1) (mvT hZ w2) (mvT hZ w3) (mvT hZ w4) hy (backOf (W := W) hM hZ w4 w3 hf hl) (g := g) hg hsize (argsL := argsL) (rest := rest) hlen hstack hW hdg (fun _ _ => ⟨rfl, eT, hc, hs⟩)
  dsimp only [Pt.U, Pt.locs, Pt.cells, Pt.slots] at X' l1 y1 z1 st hQ
  subst l1 y1 z1
  exact ⟨v, T', _, Lc, X', rfl, hQ, st⟩
theorem callInit (X : Stand p l e R s m args below meth c T locs cells slots) (hx : p.tables.exec = Jvm.exec) (hZ : Z.Warmed39 s.vm) (hown : s.vm.findClass own = some m.cls) (hy1 : y.name = "<init>")
    (w1 : (Cond.methodLink own index y).before a0 Z = true) (w2 : (Cond.instanceMethod y).before a0 Z = true) (w3 : (Cond.initialized y.cls).before a0 Z = true) (w4 : (Cond.code y bytes maxL none).before a0 Z = true)
    (hy : y.cls ≠ "java/lang/invoke/MethodHandle" ∧ y.cls ≠ "java/lang/invoke/VarHandle") (hM : Met l y bytes maxL none [] rm Z as' h Qc) (eT : T.heap = h) {W : Nat} (hf : rm.frames + 1 ≤ R.frames) (hl : W + (maxL + 11) + rm.locals ≤ R.locals)
    (hc : cells + rm.cells ≤ R.cells) (hs : slots + rm.slots ≤ R.slots)
    {g : JFrame} (hg : g.method = m) (hsize : g.locals.size = c.maxLocals) {a : Addr} {argsL rest : List Value} (hlen : ∀ sig, parseMethodDescriptor y.desc = some sig → argsL.length = sig.parameters.length)
    (hstack : g.stack = argsL.reverse ++ .ref a :: rest) (hW : 2 * g.monitorRoom + (rest.map fun v => v.category).sum ≤ W) (hdg : decode c.code g.pc = .ok (.invokespecial index, 3)) (has : (Value.ref a :: argsL).toArray = as') :
    ∃ v T' h' L, Stand p l e R s m args below meth c T' (locs ++ L) (cells + rm.cells) (slots + rm.slots) ∧ T'.heap = h' ∧ Qc v h' L ∧ ∀ target, Steps p.tables e below (T'.setTop { g with pc := g.pc + 3, stack := v.toList ++ rest }) target → Steps p.tables e below (T.setTop g) target := by
  subst has
  obtain ⟨v, _, ⟨T', L', k', n'⟩, -, X', ⟨Lc, hQ, l1, y1, z1⟩, st⟩ := X.specialBack hx (y := y) hy1 hown (mvT hZ w1) (mvT hZ w2) (mvT hZ w4) hy (backOf (W := W) hM hZ w4 w3 hf hl) (g := g) hg hsize (Steps.refl _) (a := a) (argsL := argsL) (rest := rest) hlen hstack hW hdg (fun _ _ => ⟨rfl, eT, hc, hs⟩)
  dsimp only [Pt.U, Pt.locs, Pt.cells, Pt.slots] at X' l1 y1 z1 st hQ
  subst l1 y1 z1
  exact ⟨v, T', _, Lc, X', rfl, hQ, fun t k => st.trans k⟩
theorem callVirt (X : Stand p l e R s m args below meth c T locs cells slots) (hx : p.tables.exec = Jvm.exec) (hZ : Z.Warmed39 s.vm) (hown : s.vm.findClass own = some m.cls) {C : String}
    (w1 : (Cond.methodLink own index y).before a0 Z = true) (w2 : (Cond.declares y).before a0 Z = true) (hnf : NotFace s y) (w5 : (Cond.selects C y z).before a0 Z = true) (w6 : (Cond.instanceMethod z).before a0 Z = true) (w3 : (Cond.initialized z.cls).before a0 Z = true) (w4 : (Cond.code z bytes maxL ret).before a0 Z = true)
    (hy : y.cls ≠ "java/lang/invoke/MethodHandle" ∧ y.cls ≠ "java/lang/invoke/VarHandle") (hM : Met l z bytes maxL ret [] rm Z as' h Qc) (eT : T.heap = h) {a : Addr} (E : Exa Z h a C) {W : Nat} (hf : rm.frames + 1 ≤ R.frames) (hl : W + (maxL + 11) + rm.locals ≤ R.locals)
    (hc : cells + rm.cells ≤ R.cells) (hs : slots + rm.slots ≤ R.slots)
    {g : JFrame} (hg : g.method = m) (hsize : g.locals.size = c.maxLocals) {argsL rest : List Value} (hlen : ∀ sig, parseMethodDescriptor y.desc = some sig → argsL.length = sig.parameters.length)
    (hstack : g.stack = argsL.reverse ++ .ref a :: rest) (hW : 2 * g.monitorRoom + (rest.map fun v => v.category).sum ≤ W) (hdg : decode c.code g.pc = .ok (.invokevirtual index, 3)) (has : (Value.ref a :: argsL).toArray = as') :
    ∃ v T' h' L, Stand p l e R s m args below meth c T' (locs ++ L) (cells + rm.cells) (slots + rm.slots) ∧ T'.heap = h' ∧ Qc v h' L ∧ ∀ target, Steps p.tables e below (T'.setTop { g with pc := g.pc + 3, stack := v.toList ++ rest }) target → Steps p.tables e below (T.setTop g) target := by
  subst has
  obtain ⟨cq, kq, qa, qb, qc⟩ := isOf hZ eT E
  obtain ⟨v, _, ⟨T', L', k', n'⟩, -, X', ⟨Lc, hQ, l1, y1, z1⟩, st⟩ := X.virtualBack hx (y := y) (z := z) hown (mvT hZ w1) (mvT hZ w2) hnf (mvT hZ w5) (mvT hZ w6) hy (backOf (W := W) hM hZ w4 w3 hf hl) qa qc (g := g) hg hsize (Steps.refl _) (argsL := argsL) (rest := rest) hlen hstack hW hdg (fun _ _ => ⟨rfl, eT, hc, hs⟩)
  dsimp only [Pt.U, Pt.locs, Pt.cells, Pt.slots] at X' l1 y1 z1 st hQ
  subst l1 y1 z1
  exact ⟨v, T', _, Lc, X', rfl, hQ, fun t k => st.trans k⟩
theorem nne {x y : Nat} (q : ¬ x = y) : @Ne Addr x y := q
end Own

def mx (a b : Int64) : Int64 := if a < b then b else a
def pidx (p w : Int32) : Int32 := (mx (((p.toInt64 * w.toInt64) + (99 : Int64)) / (100 : Int64)) (1 : Int64)).toInt32 - (1 : Int32)
def bxv (j : Int32) : Value := .long (j - 128).toInt64
theorem own_box (q : Int64) (h1 : ¬ q < -128) (h2 : ¬ (127 : Int64) < q) : (¬ (q.toInt32 + 128) < 0 ∧ (q.toInt32 + 128) < 256) ∧ bxv (q.toInt32 + 128) = .long q := by
  have k1 : (-128 : Int64).toInt = -128 := by decide
  have k2 : (127 : Int64).toInt = 127 := by decide
  have k3 : (128 : Int32).toInt = 128 := by decide
  have k4 : (0 : Int32).toInt = 0 := by decide
  have k5 : (256 : Int32).toInt = 256 := by decide
  rw [Int64.lt_iff_toInt_lt, k1] at h1
  rw [Int64.lt_iff_toInt_lt, k2] at h2
  have e1 : q.toInt32.toInt = q.toInt := Jvm.Kit.i32_of_i64 (by omega) (by omega)
  have e2 : (q.toInt32 + 128).toInt = q.toInt + 128 := by rw [Jvm.Kit.i32_add (by rw [k3]; omega) (by rw [k3]; omega), k3, e1]
  refine ⟨⟨by rw [Int32.lt_iff_toInt_lt, k4]; omega, by rw [Int32.lt_iff_toInt_lt, k5]; omega⟩, ?_⟩
  have e3 : (q.toInt32 + 128 - 128).toInt = q.toInt := by rw [Jvm.Kit.i32_sub (by rw [k3]; omega) (by rw [k3]; omega), k3, e2]; omega
  unfold bxv
  congr 1
  apply Int64.toInt_inj.mp
  rw [Jvm.Kit.i64_of_i32, e3]

theorem own_len {args : Array Value} {first s : State} {o : Option Outcome} {idx : List Nat} {t : Term} {a : Nat} {cell : Cell} {v : Value} (ht : t.eval args first o idx s = some (.ref a)) (hc : s.arrayAt? a = some cell)
    (h : (Term.length t).eval args first o idx s = some v) : cell.slots.size < 2 ^ 31 := by
  simp only [Term.eval, ht, hc, Option.bind_eq_bind, Option.bind_some] at h
  by_cases hn : cell.slots.size < 2 ^ 31
  · exact hn
  · simp [hn] at h
theorem own_sub {Z : State} {args : Array Value} {j : Int32} (nn : ¬ j < 0) : (Term.op1 .i2l (Term.sub (Term.index 0) (Term.int 128))).eval args Z none [j.toNatClampNeg] Z = some (.long (j - 128).toInt64) := by
  refine i2l_at ?_
  have q := idx_at (args := args) (s := Z) (first := Z) (o := none) nn
  simp only [Term.eval] at q ⊢
  simp at q
  simp [q]
theorem d11_0 : decode jdk_18_method_1_code 0 = .ok (.aload_n 0, 1) := by decide +kernel
theorem d11_1 : decode jdk_18_method_1_code 1 = .ok (.invokespecial 1, 3) := by decide +kernel
theorem d11_4 : decode jdk_18_method_1_code 4 = .ok (.return_, 1) := by decide +kernel
theorem ef_11 (m : MethodId) (x0 : Nat) : entryFrame m #[(.ref x0)] 1 = mkF m 0 #[.val (.ref x0)] [] := by first | (simp [entryFrame, mkF, argsToLocals, Value.category]; done) | rfl
set_option maxRecDepth 65536 in
set_option maxHeartbeats 40000000 in
theorem rmNI (l : Launch) (Z : State) (a0 : Array Value) (hw : ∀ d ∈ tables_1, d.before a0 Z = true) (a1 : Nat) (h0 : Heap) (n0 : Nat) (Z0 : n0 ≤ h0.size) :
    Met l (⟨"java/lang/Number", "<init>", "()V"⟩ : MethodName) jdk_18_method_1_code 1 none [] ({ frames := 1, cells := 0, slots := 0, locals := 12 } : Room) Z #[(.ref a1)] h0 (fun v h L => v = none ∧ Fr n0 L ∧ h = h0) := by
  refine of_goal (plainFor_of_name (by first | (simp [plainName, overriddenIn]; done) | decide +kernel)) ?_
  intro p e s m below meth c s₁ C X0 e0
  have C0 := C
  obtain ⟨hx, hZ, hby, hml, hret, hown, hnm⟩ := C
  have hown : s.vm.findClass "java/lang/Number" = some m.cls := hown
  have hret : meth.sig.returnType = none := hret
  have N0 := Fr.nil n0
  rw [ef_11]
  refine Goal.step (T' := s₁) (g' := (mkF m 1 #[.val (.ref a1)] [(.ref a1)])) ?_ (fun t k => XS.aloadN X0.here hx rfl (hb hby d11_0) rfl rfl k)
  obtain ⟨T1001, X1001, e1001, st1001⟩ := initO X0 hx hZ hown (hw _ (List.mem_of_getElem? (i := 66) rfl)) (hw _ (List.mem_of_getElem? (i := 7) rfl)) (hw _ (List.mem_of_getElem? (i := 8) rfl)) e0 (g := (mkF m 1 #[.val (.ref a1)] [(.ref a1)])) rfl (by rw [hml]; rfl) rfl (hb hby d11_1) (by decide) (W := 0) (by show 2 * 0 + _ ≤ _; exact Nat.le_of_eq rfl) (by decide)
  refine Goal.step (T' := T1001) (g' := (mkF m 4 #[.val (.ref a1)] [])) ?_ st1001
  refine Goal.retV X1001 hx hret (hb hby d11_4) ?_
  refine ⟨?_, by decide, by decide⟩
  rw [e1001]
  exact ⟨rfl, N0, rfl⟩
theorem d10_0 : decode jdk_35_method_26_code 0 = .ok (.aload_n 0, 1) := by decide +kernel
theorem d10_1 : decode jdk_35_method_26_code 1 = .ok (.invokespecial 270, 3) := by decide +kernel
theorem pd_0 : parseMethodDescriptor "()V" = some ⟨[], none⟩ := by decide +kernel
theorem d10_4 : decode jdk_35_method_26_code 4 = .ok (.aload_n 0, 1) := by decide +kernel
theorem d10_5 : decode jdk_35_method_26_code 5 = .ok (.lload_n 1, 1) := by decide +kernel
theorem d10_6 : decode jdk_35_method_26_code 6 = .ok (.putfield 273, 3) := by decide +kernel
theorem d10_9 : decode jdk_35_method_26_code 9 = .ok (.return_, 1) := by decide +kernel
theorem ef_10 (m : MethodId) (x0 : Nat) (x1 : Int64) : entryFrame m #[(.ref x0), (.long x1)] 3 = mkF m 0 #[.val (.ref x0), .val (.long x1), .second] [] := by first | (simp [entryFrame, mkF, argsToLocals, Value.category]; done) | rfl
set_option maxRecDepth 65536 in
set_option maxHeartbeats 40000000 in
theorem rmLI (l : Launch) (Z : State) (a0 : Array Value) (hw : ∀ d ∈ tables_1, d.before a0 Z = true) (a1 : Nat) (q2 : Int64) (u1 : Value) (h0 : Heap) (n0 : Nat) (Z0 : n0 ≤ h0.size) (E1 : Exa Z h0 a1 "java/lang/Long") (F1 : Fld Z h0 a1 "java/lang/Long" "value" "J" u1) (g1 : n0 ≤ a1) :
    Met l (⟨"java/lang/Long", "<init>", "(J)V"⟩ : MethodName) jdk_35_method_26_code 3 none [] ({ frames := 2, cells := 0, slots := 0, locals := 24 } : Room) Z #[(.ref a1), (.long q2)] h0 (fun v h L => v = none ∧ Fr n0 L ∧ Keep h0 h [a1] ∧ Fld Z h a1 "java/lang/Long" "value" "J" (.long q2)) := by
  refine of_goal (plainFor_of_name (by first | (simp [plainName, overriddenIn]; done) | decide +kernel)) ?_
  intro p e s m below meth c s₁ C X0 e0
  have C0 := C
  obtain ⟨hx, hZ, hby, hml, hret, hown, hnm⟩ := C
  have hown : s.vm.findClass "java/lang/Long" = some m.cls := hown
  have hret : meth.sig.returnType = none := hret
  have N0 := Fr.nil n0
  rw [ef_10]
  refine Goal.step (T' := s₁) (g' := (mkF m 1 #[.val (.ref a1), .val (.long q2), .second] [(.ref a1)])) ?_ (fun t k => XS.aloadN X0.here hx rfl (hb hby d10_0) rfl rfl k)
  obtain ⟨v1001, T1001, h1001, L1001, X1001, e1001, hQ1001, st1001⟩ := callInit X0 hx hZ hown rfl (hw _ (List.mem_of_getElem? (i := 60) rfl)) (hw _ (List.mem_of_getElem? (i := 61) rfl)) (hw _ (List.mem_of_getElem? (i := 64) rfl)) (hw _ (List.mem_of_getElem? (i := 65) rfl)) (by decide) (rmNI l Z a0 hw a1 h0 n0 (by omega) ) e0 (W := 0) (by decide) (by decide) (by decide) (by decide) (g := (mkF m 1 #[.val (.ref a1), .val (.long q2), .second] [(.ref a1)])) rfl (by rw [hml]; rfl) (a := a1) (argsL := []) (rest := []) (lenOf pd_0 rfl) rfl (by show 2 * 0 + _ ≤ _; exact Nat.le_of_eq rfl) (hb hby d10_1) rfl
  obtain ⟨rfl, M1001, q1001⟩ := hQ1001
  rw [q1001] at e1001
  have N1001 := Fr.app N0 M1001
  refine Goal.step (T' := T1001) (g' := (mkF m 4 #[.val (.ref a1), .val (.long q2), .second] [])) ?_ st1001
  refine Goal.step (T' := T1001) (g' := (mkF m 5 #[.val (.ref a1), .val (.long q2), .second] [(.ref a1)])) ?_ (fun t k => XS.aloadN X1001.here hx rfl (hb hby d10_4) rfl rfl k)
  refine Goal.step (T' := T1001) (g' := (mkF m 6 #[.val (.ref a1), .val (.long q2), .second] [(.long q2), (.ref a1)])) ?_ (fun t k => XS.lloadN X1001.here hx rfl (hb hby d10_5) rfl k)
  obtain ⟨T1002, h1002, X1002, e1002, W1002, st1002⟩ := putF X1001 hx hZ hown (host := "") (Or.inl (hw _ (List.mem_of_getElem? (i := 52) rfl))) Via.refl e1001 F1 E1 (Or.inr ⟨(hw _ (List.mem_of_getElem? (i := 53) rfl)), rfl, hnm⟩) (hw _ (List.mem_of_getElem? (i := 55) rfl)) (ty := .long) (by decide) rfl rfl (g := (mkF m 6 #[.val (.ref a1), .val (.long q2), .second] [(.long q2), (.ref a1)])) rfl rfl (hb hby d10_6)
  refine Goal.step (T' := T1002) (g' := (mkF m 9 #[.val (.ref a1), .val (.long q2), .second] [])) ?_ st1002
  have sz1003 : h0.size ≤ h1002.size := Nat.le_of_eq W1002.size.symm
  have F1002 := Fld.same W1002 F1
  have N1002 := Fr.snoc X1002 N1001 (by omega : n0 ≤ a1)
  refine Goal.retV X1002 hx hret (hb hby d10_9) ?_
  have k1004 : Keep h0 h1002 [a1] := ((Keep.refl h0 [a1]).wr W1002 (Or.inl (by simp)))
  refine ⟨?_, by decide, by decide⟩
  rw [e1002]
  exact ⟨rfl, N1002, k1004, F1002⟩
theorem d7_0 : decode jdk_35_method_24_code 0 = .ok (.sipush 128, 3) := by decide +kernel
theorem d7_3 : decode jdk_35_method_24_code 3 = .ok (.istore_n 2, 1) := by decide +kernel
theorem d7_4 : decode jdk_35_method_24_code 4 = .ok (.lload_n 0, 1) := by decide +kernel
theorem d7_5 : decode jdk_35_method_24_code 5 = .ok (.ldc2_w 230, 3) := by decide +kernel
theorem d7_8 : decode jdk_35_method_24_code 8 = .ok (.lcmp, 1) := by decide +kernel
theorem d7_9 : decode jdk_35_method_24_code 9 = .ok (.ifCond .lt 22, 3) := by decide +kernel
theorem d7_31 : decode jdk_35_method_24_code 31 = .ok (.new 1, 3) := by decide +kernel
theorem d7_34 : decode jdk_35_method_24_code 34 = .ok (.dup, 1) := by decide +kernel
theorem d7_35 : decode jdk_35_method_24_code 35 = .ok (.lload_n 0, 1) := by decide +kernel
theorem d7_36 : decode jdk_35_method_24_code 36 = .ok (.invokespecial 240, 3) := by decide +kernel
theorem pd_1 : parseMethodDescriptor "(J)V" = some ⟨[.long], none⟩ := by decide +kernel
theorem d7_39 : decode jdk_35_method_24_code 39 = .ok (.areturn, 1) := by decide +kernel
theorem d7_12 : decode jdk_35_method_24_code 12 = .ok (.lload_n 0, 1) := by decide +kernel
theorem d7_13 : decode jdk_35_method_24_code 13 = .ok (.ldc2_w 232, 3) := by decide +kernel
theorem d7_16 : decode jdk_35_method_24_code 16 = .ok (.lcmp, 1) := by decide +kernel
theorem d7_17 : decode jdk_35_method_24_code 17 = .ok (.ifCond .gt 14, 3) := by decide +kernel
theorem d7_20 : decode jdk_35_method_24_code 20 = .ok (.getstatic 234, 3) := by decide +kernel
theorem d7_23 : decode jdk_35_method_24_code 23 = .ok (.lload_n 0, 1) := by decide +kernel
theorem d7_24 : decode jdk_35_method_24_code 24 = .ok (.l2i, 1) := by decide +kernel
theorem d7_25 : decode jdk_35_method_24_code 25 = .ok (.sipush 128, 3) := by decide +kernel
theorem d7_28 : decode jdk_35_method_24_code 28 = .ok (.iadd, 1) := by decide +kernel
theorem d7_29 : decode jdk_35_method_24_code 29 = .ok (.aaload, 1) := by decide +kernel
theorem d7_30 : decode jdk_35_method_24_code 30 = .ok (.areturn, 1) := by decide +kernel
theorem ef_7 (m : MethodId) (x0 : Int64) : entryFrame m #[(.long x0)] 3 = mkF m 0 #[.val (.long x0), .second, .unset] [] := by first | (simp [entryFrame, mkF, argsToLocals, Value.category]; done) | rfl
set_option maxRecDepth 65536 in
set_option maxHeartbeats 40000000 in
theorem rmLV (l : Launch) (Z : State) (a0 : Array Value) (hw : ∀ d ∈ tables_1, d.before a0 Z = true) (q1 : Int64) (ca : Nat) (cc : Cell) (h0 : Heap) (n0 : Nat) (Z0 : n0 ≤ h0.size) (S0 : Sta Z Z.heap "java/lang/Long$LongCache" "cache" "[Ljava/lang/Long;" (.ref ca)) (Bx : Bxs Z ca cc "java/lang/Long" "J" (256 : Int32) bxv) (O0 : Old Z n0 h0) :
    Met l (⟨"java/lang/Long", "valueOf", "(J)Ljava/lang/Long;"⟩ : MethodName) jdk_35_method_24_code 3 (some (.object "java/lang/Long")) [] ({ frames := 3, cells := 1, slots := 1, locals := 40 } : Room) Z #[(.long q1)] h0 (fun v h L => ∃ b : Nat, v = some (.ref b) ∧ Fr n0 L ∧ Keep h0 h [] ∧ Exa Z h b "java/lang/Long" ∧ Fld Z h b "java/lang/Long" "value" "J" (.long q1)) := by
  refine of_goal (plainFor_of_name (by first | (simp [plainName, overriddenIn]; done) | decide +kernel)) ?_
  intro p e s m below meth c s₁ C X0 e0
  have C0 := C
  obtain ⟨hx, hZ, hby, hml, hret, hown, hnm⟩ := C
  have hown : s.vm.findClass "java/lang/Long" = some m.cls := hown
  have hret : meth.sig.returnType = (some (.object "java/lang/Long")) := hret
  have N0 := Fr.nil n0
  rw [ef_7]
  refine Goal.step (T' := s₁) (g' := (mkF m 3 #[.val (.long q1), .second, .unset] [(.int (128 : Int32))])) ?_ (fun t k => XS.sipush X0.here hx rfl (hb hby d7_0) k)
  refine Goal.step (T' := s₁) (g' := (mkF m 4 #[.val (.long q1), .second, .val (.int (128 : Int32))] [])) ?_ (fun t k => XS.istoreN X0.here hx rfl (hb hby d7_3) rfl (l' := #[.val (.long q1), .second, .val (.int (128 : Int32))]) rfl k)
  refine Goal.step (T' := s₁) (g' := (mkF m 5 #[.val (.long q1), .second, .val (.int (128 : Int32))] [(.long q1)])) ?_ (fun t k => XS.lloadN X0.here hx rfl (hb hby d7_4) rfl k)
  refine Goal.step (T' := s₁) (g' := (mkF m 8 #[.val (.long q1), .second, .val (.int (128 : Int32))] [(.long (-128 : Int64)), (.long q1)])) ?_ (fun t k => X0.ldc2Long hx hown (mvT hZ (hw _ (List.mem_of_getElem? (i := 39) rfl))) (g := (mkF m 5 #[.val (.long q1), .second, .val (.int (128 : Int32))] [(.long q1)])) rfl (hb hby d7_5) _ k)
  refine Goal.step (T' := s₁) (g' := (mkF m 9 #[.val (.long q1), .second, .val (.int (128 : Int32))] [(.int (Jvm.Free.XT.cmpL q1 (-128 : Int64)))])) ?_ (fun t k => Jvm.Free.XT.lcmp X0.here hx rfl (hb hby d7_8) rfl k)
  by_cases c1001 : q1 < (-128 : Int64)
  · refine Goal.step (T' := s₁) (g' := (mkF m 31 #[.val (.long q1), .second, .val (.int (128 : Int32))] [])) ?_ (fun t k => XS.ifYes X0.here hx rfl (pc0 := 9) (pc' := 31) rfl (hb hby d7_9) rfl (Jvm.Free.XT.ll_lt_t c1001) (by decide) (by decide) k)
    obtain ⟨T1002, h1002, X1002, e1002, E1002, A1002, D1002, -, st1002⟩ := newO X0 hx hZ hown (hw _ (List.mem_of_getElem? (i := 54) rfl)) (hw _ (List.mem_of_getElem? (i := 55) rfl)) (hw _ (List.mem_of_getElem? (i := 37) rfl)) e0 (g := (mkF m 31 #[.val (.long q1), .second, .val (.int (128 : Int32))] [])) rfl (hb hby d7_31) (by decide) (by decide)
    obtain ⟨b1002, g1002⟩ : ∃ z, z = h0.size := ⟨_, rfl⟩
    rw [← g1002] at A1002 D1002 st1002
    refine Goal.step (T' := T1002) (g' := (mkF m 34 #[.val (.long q1), .second, .val (.int (128 : Int32))] [(.ref b1002)])) ?_ st1002
    have sz1003 : h0.size ≤ h1002.size := E1002.1
    have lt_b1002 : b1002 < h1002.size := A1002.lt
    refine Goal.step (T' := T1002) (g' := (mkF m 35 #[.val (.long q1), .second, .val (.int (128 : Int32))] [(.ref b1002), (.ref b1002)])) ?_ (fun t k => XS.dup X1002.here hx rfl (hb hby d7_34) rfl rfl k)
    refine Goal.step (T' := T1002) (g' := (mkF m 36 #[.val (.long q1), .second, .val (.int (128 : Int32))] [(.long q1), (.ref b1002), (.ref b1002)])) ?_ (fun t k => XS.lloadN X1002.here hx rfl (hb hby d7_35) rfl k)
    obtain ⟨v1004, T1004, h1004, L1004, X1004, e1004, hQ1004, st1004⟩ := callInit X1002 hx hZ hown rfl (hw _ (List.mem_of_getElem? (i := 56) rfl)) (hw _ (List.mem_of_getElem? (i := 57) rfl)) (hw _ (List.mem_of_getElem? (i := 37) rfl)) (hw _ (List.mem_of_getElem? (i := 59) rfl)) (by decide) (rmLI l Z a0 hw b1002 q1 (.long (0 : Int64)) h1002 n0 (by omega) A1002 (D1002 (Or.inr (hw _ (List.mem_of_getElem? (i := 53) rfl))) (ty := .long) (by decide)) (by omega)) e1002 (W := 1) (by decide) (by decide) (by decide) (by decide) (g := (mkF m 36 #[.val (.long q1), .second, .val (.int (128 : Int32))] [(.long q1), (.ref b1002), (.ref b1002)])) rfl (by rw [hml]; rfl) (a := b1002) (argsL := [(.long q1)]) (rest := [(.ref b1002)]) (lenOf pd_1 rfl) rfl (by show 2 * 0 + _ ≤ _; exact Nat.le_of_eq rfl) (hb hby d7_36) rfl
    obtain ⟨rfl, M1004, K1004, F1004⟩ := hQ1004
    have N1004 := Fr.app N0 M1004
    refine Goal.step (T' := T1004) (g' := (mkF m 39 #[.val (.long q1), .second, .val (.int (128 : Int32))] [(.ref b1002)])) ?_ st1004
    have sz1005 : h1002.size ≤ h1004.size := K1004.1
    refine Goal.retA X1004 hx hret rfl rfl rfl (hb hby d7_39) ?_
    have k1006 : Keep h0 h1004 [] := (((Keep.refl h0 []).ext E1002).trans K1004 (allS (Or.inr (by omega)) all0))
    have f1007 : Exa Z h1004 b1002 "java/lang/Long" := (A1002.keep K1004)
    refine ⟨?_, by decide, by decide⟩
    rw [e1004]
    exact ⟨b1002, rfl, N1004, k1006, f1007, F1004⟩
  · refine Goal.step (T' := s₁) (g' := (mkF m 12 #[.val (.long q1), .second, .val (.int (128 : Int32))] [])) ?_ (fun t k => XS.ifNo X0.here hx rfl (hb hby d7_9) rfl (Jvm.Free.XT.ll_lt_f c1001) k)
    refine Goal.step (T' := s₁) (g' := (mkF m 13 #[.val (.long q1), .second, .val (.int (128 : Int32))] [(.long q1)])) ?_ (fun t k => XS.lloadN X0.here hx rfl (hb hby d7_12) rfl k)
    refine Goal.step (T' := s₁) (g' := (mkF m 16 #[.val (.long q1), .second, .val (.int (128 : Int32))] [(.long (127 : Int64)), (.long q1)])) ?_ (fun t k => X0.ldc2Long hx hown (mvT hZ (hw _ (List.mem_of_getElem? (i := 40) rfl))) (g := (mkF m 13 #[.val (.long q1), .second, .val (.int (128 : Int32))] [(.long q1)])) rfl (hb hby d7_13) _ k)
    refine Goal.step (T' := s₁) (g' := (mkF m 17 #[.val (.long q1), .second, .val (.int (128 : Int32))] [(.int (Jvm.Free.XT.cmpL q1 (127 : Int64)))])) ?_ (fun t k => Jvm.Free.XT.lcmp X0.here hx rfl (hb hby d7_16) rfl k)
    by_cases c1008 : (127 : Int64) < q1
    · refine Goal.step (T' := s₁) (g' := (mkF m 31 #[.val (.long q1), .second, .val (.int (128 : Int32))] [])) ?_ (fun t k => XS.ifYes X0.here hx rfl (pc0 := 17) (pc' := 31) rfl (hb hby d7_17) rfl (Jvm.Free.XT.ll_gt_t c1008) (by decide) (by decide) k)
      obtain ⟨T1009, h1009, X1009, e1009, E1009, A1009, D1009, -, st1009⟩ := newO X0 hx hZ hown (hw _ (List.mem_of_getElem? (i := 54) rfl)) (hw _ (List.mem_of_getElem? (i := 55) rfl)) (hw _ (List.mem_of_getElem? (i := 37) rfl)) e0 (g := (mkF m 31 #[.val (.long q1), .second, .val (.int (128 : Int32))] [])) rfl (hb hby d7_31) (by decide) (by decide)
      obtain ⟨b1009, g1009⟩ : ∃ z, z = h0.size := ⟨_, rfl⟩
      rw [← g1009] at A1009 D1009 st1009
      refine Goal.step (T' := T1009) (g' := (mkF m 34 #[.val (.long q1), .second, .val (.int (128 : Int32))] [(.ref b1009)])) ?_ st1009
      have sz1010 : h0.size ≤ h1009.size := E1009.1
      have lt_b1009 : b1009 < h1009.size := A1009.lt
      refine Goal.step (T' := T1009) (g' := (mkF m 35 #[.val (.long q1), .second, .val (.int (128 : Int32))] [(.ref b1009), (.ref b1009)])) ?_ (fun t k => XS.dup X1009.here hx rfl (hb hby d7_34) rfl rfl k)
      refine Goal.step (T' := T1009) (g' := (mkF m 36 #[.val (.long q1), .second, .val (.int (128 : Int32))] [(.long q1), (.ref b1009), (.ref b1009)])) ?_ (fun t k => XS.lloadN X1009.here hx rfl (hb hby d7_35) rfl k)
      obtain ⟨v1011, T1011, h1011, L1011, X1011, e1011, hQ1011, st1011⟩ := callInit X1009 hx hZ hown rfl (hw _ (List.mem_of_getElem? (i := 56) rfl)) (hw _ (List.mem_of_getElem? (i := 57) rfl)) (hw _ (List.mem_of_getElem? (i := 37) rfl)) (hw _ (List.mem_of_getElem? (i := 59) rfl)) (by decide) (rmLI l Z a0 hw b1009 q1 (.long (0 : Int64)) h1009 n0 (by omega) A1009 (D1009 (Or.inr (hw _ (List.mem_of_getElem? (i := 53) rfl))) (ty := .long) (by decide)) (by omega)) e1009 (W := 1) (by decide) (by decide) (by decide) (by decide) (g := (mkF m 36 #[.val (.long q1), .second, .val (.int (128 : Int32))] [(.long q1), (.ref b1009), (.ref b1009)])) rfl (by rw [hml]; rfl) (a := b1009) (argsL := [(.long q1)]) (rest := [(.ref b1009)]) (lenOf pd_1 rfl) rfl (by show 2 * 0 + _ ≤ _; exact Nat.le_of_eq rfl) (hb hby d7_36) rfl
      obtain ⟨rfl, M1011, K1011, F1011⟩ := hQ1011
      have N1011 := Fr.app N0 M1011
      refine Goal.step (T' := T1011) (g' := (mkF m 39 #[.val (.long q1), .second, .val (.int (128 : Int32))] [(.ref b1009)])) ?_ st1011
      have sz1012 : h1009.size ≤ h1011.size := K1011.1
      refine Goal.retA X1011 hx hret rfl rfl rfl (hb hby d7_39) ?_
      have k1013 : Keep h0 h1011 [] := (((Keep.refl h0 []).ext E1009).trans K1011 (allS (Or.inr (by omega)) all0))
      have f1014 : Exa Z h1011 b1009 "java/lang/Long" := (A1009.keep K1011)
      refine ⟨?_, by decide, by decide⟩
      rw [e1011]
      exact ⟨b1009, rfl, N1011, k1013, f1014, F1011⟩
    · refine Goal.step (T' := s₁) (g' := (mkF m 20 #[.val (.long q1), .second, .val (.int (128 : Int32))] [])) ?_ (fun t k => XS.ifNo X0.here hx rfl (hb hby d7_17) rfl (Jvm.Free.XT.ll_gt_f c1008) k)
      have S20 : Sta Z h0 "java/lang/Long$LongCache" "cache" "[Ljava/lang/Long;" (.ref ca) := Sta.ext O0.2 S0
      obtain ⟨T1015, X1015, e1015, st1015⟩ := getS2 X0 hx hZ hown (host := "") (Or.inl (hw _ (List.mem_of_getElem? (i := 41) rfl))) Via.refl e0 S20 (g := (mkF m 20 #[.val (.long q1), .second, .val (.int (128 : Int32))] [])) rfl (hb hby d7_20)
      refine Goal.step (T' := T1015) (g' := (mkF m 23 #[.val (.long q1), .second, .val (.int (128 : Int32))] [(.ref ca)])) ?_ st1015
      refine Goal.step (T' := T1015) (g' := (mkF m 24 #[.val (.long q1), .second, .val (.int (128 : Int32))] [(.long q1), (.ref ca)])) ?_ (fun t k => XS.lloadN X1015.here hx rfl (hb hby d7_23) rfl k)
      refine Goal.step (T' := T1015) (g' := (mkF m 25 #[.val (.long q1), .second, .val (.int (128 : Int32))] [(.int (q1.toInt32)), (.ref ca)])) ?_ (fun t k => XS.l2i X1015.here hx rfl (hb hby d7_24) rfl k)
      refine Goal.step (T' := T1015) (g' := (mkF m 28 #[.val (.long q1), .second, .val (.int (128 : Int32))] [(.int (128 : Int32)), (.int (q1.toInt32)), (.ref ca)])) ?_ (fun t k => XS.sipush X1015.here hx rfl (hb hby d7_25) k)
      refine Goal.step (T' := T1015) (g' := (mkF m 29 #[.val (.long q1), .second, .val (.int (128 : Int32))] [(.int ((q1.toInt32) + (128 : Int32))), (.ref ca)])) ?_ (fun t k => XS.iadd X1015.here hx rfl (hb hby d7_28) rfl k)
      obtain ⟨Ar29, S29, N29⟩ := Bx.ext O0.2
      obtain ⟨hin29, hval29⟩ := own_box q1 c1001 c1008
      have hi29 : ¬ (((q1.toInt32) + (128 : Int32)) < 0 ∨ cc.slots.size ≤ (((q1.toInt32) + (128 : Int32))).toNatClampNeg) := inb_of S29 hin29
      obtain ⟨b29, hat29, Eb29, Fb29⟩ := Bx.2.2.2 ((q1.toInt32) + (128 : Int32)) hi29
      rw [hval29] at Fb29
      refine Goal.step (T' := T1015) (g' := (mkF m 30 #[.val (.long q1), .second, .val (.int (128 : Int32))] [(.ref b29)])) ?_ (fun t k => X1015.aaload hx (j := ((q1.toInt32) + (128 : Int32))) (v := (.ref b29)) (by rw [e1015]; exact Ar29.1) (State.isArrayOf_alike hZ.alike Ar29.2.1) rfl Ar29.2.2 hi29 hat29 (g := (mkF m 29 #[.val (.long q1), .second, .val (.int (128 : Int32))] [(.int ((q1.toInt32) + (128 : Int32))), (.ref ca)])) rfl rfl (hb hby d7_29) _ k)
      refine Goal.retA X1015 hx hret rfl rfl rfl (hb hby d7_30) ?_
      refine ⟨?_, by decide, by decide⟩
      rw [e1015]
      exact ⟨b29, rfl, N0, (Keep.refl h0 []), (Exa.ext O0.2 Eb29), (Fld.ext O0.2 Fb29)⟩
theorem d9_0 : decode jdk_35_method_31_code 0 = .ok (.aload_n 0, 1) := by decide +kernel
theorem d9_1 : decode jdk_35_method_31_code 1 = .ok (.getfield 273, 3) := by decide +kernel
theorem d9_4 : decode jdk_35_method_31_code 4 = .ok (.lreturn, 1) := by decide +kernel
theorem ef_9 (m : MethodId) (x0 : Nat) : entryFrame m #[(.ref x0)] 1 = mkF m 0 #[.val (.ref x0)] [] := by first | (simp [entryFrame, mkF, argsToLocals, Value.category]; done) | rfl
set_option maxRecDepth 65536 in
set_option maxHeartbeats 40000000 in
theorem rmLO (l : Launch) (Z : State) (a0 : Array Value) (hw : ∀ d ∈ tables_1, d.before a0 Z = true) (a1 : Nat) (w1 : Int64) (h0 : Heap) (n0 : Nat) (Z0 : n0 ≤ h0.size) (F1 : Fld Z h0 a1 "java/lang/Long" "value" "J" (.long w1)) :
    Met l (⟨"java/lang/Long", "longValue", "()J"⟩ : MethodName) jdk_35_method_31_code 1 (some .long) [] ({ frames := 0, cells := 0, slots := 0, locals := 0 } : Room) Z #[(.ref a1)] h0 (fun v h L => v = some (.long w1) ∧ Fr n0 L ∧ h = h0) := by
  refine of_goal (plainFor_of_name (by first | (simp [plainName, overriddenIn]; done) | decide +kernel)) ?_
  intro p e s m below meth c s₁ C X0 e0
  have C0 := C
  obtain ⟨hx, hZ, hby, hml, hret, hown, hnm⟩ := C
  have hown : s.vm.findClass "java/lang/Long" = some m.cls := hown
  have hret : meth.sig.returnType = (some .long) := hret
  have N0 := Fr.nil n0
  rw [ef_9]
  refine Goal.step (T' := s₁) (g' := (mkF m 1 #[.val (.ref a1)] [(.ref a1)])) ?_ (fun t k => XS.aloadN X0.here hx rfl (hb hby d9_0) rfl rfl k)
  obtain ⟨T1001, X1001, e1001, st1001⟩ := getF X0 hx hZ hown (host := "") (Or.inl (hw _ (List.mem_of_getElem? (i := 52) rfl))) Via.refl e0 F1 (g := (mkF m 1 #[.val (.ref a1)] [(.ref a1)])) rfl rfl (hb hby d9_1)
  refine Goal.step (T' := T1001) (g' := (mkF m 4 #[.val (.ref a1)] [(.long w1)])) ?_ st1001
  refine Goal.retJ X1001 hx hret (hb hby d9_4) ?_
  refine ⟨?_, by decide, by decide⟩
  rw [e1001]
  exact ⟨rfl, N0, rfl⟩
theorem d6_0 : decode jdk_29_method_66_code 0 = .ok (.lload_n 0, 1) := by decide +kernel
theorem d6_1 : decode jdk_29_method_66_code 1 = .ok (.lload_n 2, 1) := by decide +kernel
theorem d6_2 : decode jdk_29_method_66_code 2 = .ok (.lcmp, 1) := by decide +kernel
theorem d6_3 : decode jdk_29_method_66_code 3 = .ok (.ifCond .lt 7, 3) := by decide +kernel
theorem d6_10 : decode jdk_29_method_66_code 10 = .ok (.lload_n 2, 1) := by decide +kernel
theorem d6_11 : decode jdk_29_method_66_code 11 = .ok (.lreturn, 1) := by decide +kernel
theorem d6_6 : decode jdk_29_method_66_code 6 = .ok (.lload_n 0, 1) := by decide +kernel
theorem d6_7 : decode jdk_29_method_66_code 7 = .ok (.goto 4, 3) := by decide +kernel
theorem ef_6 (m : MethodId) (x0 : Int64) (x1 : Int64) : entryFrame m #[(.long x0), (.long x1)] 4 = mkF m 0 #[.val (.long x0), .second, .val (.long x1), .second] [] := by first | (simp [entryFrame, mkF, argsToLocals, Value.category]; done) | rfl
set_option maxRecDepth 65536 in
set_option maxHeartbeats 40000000 in
theorem rmMX (l : Launch) (Z : State) (a0 : Array Value) (hw : ∀ d ∈ tables_1, d.before a0 Z = true) (q1 q2 : Int64) (h0 : Heap) (n0 : Nat) (Z0 : n0 ≤ h0.size) :
    Met l (⟨"java/lang/Math", "max", "(JJ)J"⟩ : MethodName) jdk_29_method_66_code 4 (some .long) [] ({ frames := 0, cells := 0, slots := 0, locals := 0 } : Room) Z #[(.long q1), (.long q2)] h0 (fun v h L => v = some (.long (mx q1 q2)) ∧ Fr n0 L ∧ h = h0) := by
  refine of_goal (Jvm.Free.JP.mathPlain rfl (by decide +kernel)) ?_
  intro p e s m below meth c s₁ C X0 e0
  have C0 := C
  obtain ⟨hx, hZ, hby, hml, hret, hown, hnm⟩ := C
  have hown : s.vm.findClass "java/lang/Math" = some m.cls := hown
  have hret : meth.sig.returnType = (some .long) := hret
  have N0 := Fr.nil n0
  rw [ef_6]
  refine Goal.step (T' := s₁) (g' := (mkF m 1 #[.val (.long q1), .second, .val (.long q2), .second] [(.long q1)])) ?_ (fun t k => XS.lloadN X0.here hx rfl (hb hby d6_0) rfl k)
  refine Goal.step (T' := s₁) (g' := (mkF m 2 #[.val (.long q1), .second, .val (.long q2), .second] [(.long q2), (.long q1)])) ?_ (fun t k => XS.lloadN X0.here hx rfl (hb hby d6_1) rfl k)
  refine Goal.step (T' := s₁) (g' := (mkF m 3 #[.val (.long q1), .second, .val (.long q2), .second] [(.int (Jvm.Free.XT.cmpL q1 q2))])) ?_ (fun t k => Jvm.Free.XT.lcmp X0.here hx rfl (hb hby d6_2) rfl k)
  by_cases c1001 : q1 < q2
  · refine Goal.step (T' := s₁) (g' := (mkF m 10 #[.val (.long q1), .second, .val (.long q2), .second] [])) ?_ (fun t k => XS.ifYes X0.here hx rfl (pc0 := 3) (pc' := 10) rfl (hb hby d6_3) rfl (Jvm.Free.XT.ll_lt_t c1001) (by decide) (by decide) k)
    refine Goal.step (T' := s₁) (g' := (mkF m 11 #[.val (.long q1), .second, .val (.long q2), .second] [(.long q2)])) ?_ (fun t k => XS.lloadN X0.here hx rfl (hb hby d6_10) rfl k)
    refine Goal.retJ X0 hx hret (hb hby d6_11) ?_
    refine ⟨?_, by decide, by decide⟩
    rw [e0]
    exact ⟨by simp [mx, c1001], N0, rfl⟩
  · refine Goal.step (T' := s₁) (g' := (mkF m 6 #[.val (.long q1), .second, .val (.long q2), .second] [])) ?_ (fun t k => XS.ifNo X0.here hx rfl (hb hby d6_3) rfl (Jvm.Free.XT.ll_lt_f c1001) k)
    refine Goal.step (T' := s₁) (g' := (mkF m 7 #[.val (.long q1), .second, .val (.long q2), .second] [(.long q1)])) ?_ (fun t k => XS.lloadN X0.here hx rfl (hb hby d6_6) rfl k)
    refine Goal.step (T' := s₁) (g' := (mkF m 11 #[.val (.long q1), .second, .val (.long q2), .second] [(.long q1)])) ?_ (fun t k => XS.goto X0.here hx rfl (pc0 := 7) (pc' := 11) rfl (hb hby d6_7) (by decide) (by decide) k)
    refine Goal.retJ X0 hx hret (hb hby d6_11) ?_
    refine ⟨?_, by decide, by decide⟩
    rw [e0]
    exact ⟨by simp [mx, c1001], N0, rfl⟩
theorem d3_0 : decode prog_45_method_3_code 0 = .ok (.aload_n 0, 1) := by decide +kernel
theorem d3_1 : decode prog_45_method_3_code 1 = .ok (.getfield 13, 3) := by decide +kernel
theorem d3_4 : decode prog_45_method_3_code 4 = .ok (.ireturn, 1) := by decide +kernel
theorem ef_3 (m : MethodId) (x0 : Nat) : entryFrame m #[(.ref x0)] 1 = mkF m 0 #[.val (.ref x0)] [] := by first | (simp [entryFrame, mkF, argsToLocals, Value.category]; done) | rfl
set_option maxRecDepth 65536 in
set_option maxHeartbeats 40000000 in
theorem rmSZ (l : Launch) (Z : State) (a0 : Array Value) (hw : ∀ d ∈ tables_1, d.before a0 Z = true) (a1 : Nat) (w1 : Int32) (h0 : Heap) (n0 : Nat) (Z0 : n0 ≤ h0.size) (F1 : Fld Z h0 a1 "com/example/latch2/latch2/bench/Delays" "size" "I" (.int w1)) :
    Met l (⟨"com/example/latch2/latch2/bench/Delays", "size", "()I"⟩ : MethodName) prog_45_method_3_code 1 (some .int) [] ({ frames := 0, cells := 0, slots := 0, locals := 0 } : Room) Z #[(.ref a1)] h0 (fun v h L => v = some (.int w1) ∧ Fr n0 L ∧ h = h0) := by
  refine of_goal (plainFor_of_name (by first | (simp [plainName, overriddenIn]; done) | decide +kernel)) ?_
  intro p e s m below meth c s₁ C X0 e0
  have C0 := C
  obtain ⟨hx, hZ, hby, hml, hret, hown, hnm⟩ := C
  have hown : s.vm.findClass "com/example/latch2/latch2/bench/Delays" = some m.cls := hown
  have hret : meth.sig.returnType = (some .int) := hret
  have N0 := Fr.nil n0
  rw [ef_3]
  refine Goal.step (T' := s₁) (g' := (mkF m 1 #[.val (.ref a1)] [(.ref a1)])) ?_ (fun t k => XS.aloadN X0.here hx rfl (hb hby d3_0) rfl rfl k)
  obtain ⟨T1001, X1001, e1001, st1001⟩ := getF X0 hx hZ hown (host := "") (Or.inl (hw _ (List.mem_of_getElem? (i := 17) rfl))) Via.refl e0 F1 (g := (mkF m 1 #[.val (.ref a1)] [(.ref a1)])) rfl rfl (hb hby d3_1)
  refine Goal.step (T' := T1001) (g' := (mkF m 4 #[.val (.ref a1)] [(.int w1)])) ?_ st1001
  refine Goal.retI X1001 hx hret (hb hby d3_4) ?_
  refine ⟨?_, by decide, by decide⟩
  rw [e1001]
  exact ⟨rfl, N0, rfl⟩
theorem d8_0 : decode method_2_code 0 = .ok (.aload_n 0, 1) := by decide +kernel
theorem d8_1 : decode method_2_code 1 = .ok (.ifnull 16, 3) := by decide +kernel
theorem d8_4 : decode method_2_code 4 = .ok (.aload_n 0, 1) := by decide +kernel
theorem d8_5 : decode method_2_code 5 = .ok (.invokevirtual 7, 3) := by decide +kernel
theorem pd_2 : parseMethodDescriptor "()J" = some ⟨[], some .long⟩ := by decide +kernel
theorem d8_8 : decode method_2_code 8 = .ok (.lload_n 1, 1) := by decide +kernel
theorem d8_9 : decode method_2_code 9 = .ok (.lcmp, 1) := by decide +kernel
theorem d8_10 : decode method_2_code 10 = .ok (.ifCond .ne 7, 3) := by decide +kernel
theorem d8_13 : decode method_2_code 13 = .ok (.iconst 1, 1) := by decide +kernel
theorem d8_14 : decode method_2_code 14 = .ok (.goto 4, 3) := by decide +kernel
theorem d8_18 : decode method_2_code 18 = .ok (.ireturn, 1) := by decide +kernel
theorem ef_8 (m : MethodId) (x0 : Nat) (x1 : Int64) : entryFrame m #[(.ref x0), (.long x1)] 3 = mkF m 0 #[.val (.ref x0), .val (.long x1), .second] [] := by first | (simp [entryFrame, mkF, argsToLocals, Value.category]; done) | rfl
set_option maxRecDepth 65536 in
set_option maxHeartbeats 40000000 in
theorem rmIS (l : Launch) (Z : State) (a0 : Array Value) (hw : ∀ d ∈ tables_1, d.before a0 Z = true) (a1 : Nat) (q2 : Int64) (h0 : Heap) (n0 : Nat) (Z0 : n0 ≤ h0.size) (E1 : Exa Z h0 a1 "java/lang/Long") (F1 : Fld Z h0 a1 "java/lang/Long" "value" "J" (.long q2)) :
    Met l (⟨"com/example/latch2/latch2/bench/DelaysAddPinLaw", "is", "(Ljava/lang/Long;J)Z"⟩ : MethodName) method_2_code 3 (some .boolean) [] ({ frames := 1, cells := 0, slots := 0, locals := 12 } : Room) Z #[(.ref a1), (.long q2)] h0 (fun v h L => v = some (.int 1) ∧ Fr n0 L ∧ h = h0) := by
  refine of_goal (plainFor_of_name (by first | (simp [plainName, overriddenIn]; done) | decide +kernel)) ?_
  intro p e s m below meth c s₁ C X0 e0
  have C0 := C
  obtain ⟨hx, hZ, hby, hml, hret, hown, hnm⟩ := C
  have hown : s.vm.findClass "com/example/latch2/latch2/bench/DelaysAddPinLaw" = some m.cls := hown
  have hret : meth.sig.returnType = (some .boolean) := hret
  have N0 := Fr.nil n0
  rw [ef_8]
  refine Goal.step (T' := s₁) (g' := (mkF m 1 #[.val (.ref a1), .val (.long q2), .second] [(.ref a1)])) ?_ (fun t k => XS.aloadN X0.here hx rfl (hb hby d8_0) rfl rfl k)
  refine Goal.step (T' := s₁) (g' := (mkF m 4 #[.val (.ref a1), .val (.long q2), .second] [])) ?_ (fun t k => XS.ifnullNo X0.here hx rfl (hb hby d8_1) rfl k)
  refine Goal.step (T' := s₁) (g' := (mkF m 5 #[.val (.ref a1), .val (.long q2), .second] [(.ref a1)])) ?_ (fun t k => XS.aloadN X0.here hx rfl (hb hby d8_4) rfl rfl k)
  obtain ⟨v1001, T1001, h1001, L1001, X1001, e1001, hQ1001, st1001⟩ := callVirt X0 hx hZ hown (hw _ (List.mem_of_getElem? (i := 47) rfl)) (hw _ (List.mem_of_getElem? (i := 48) rfl)) (notFace_of_selects (args := #[]) (mvT hZ (hw _ (List.mem_of_getElem? (i := 50) rfl)))) (hw _ (List.mem_of_getElem? (i := 50) rfl)) (hw _ (List.mem_of_getElem? (i := 49) rfl)) (hw _ (List.mem_of_getElem? (i := 37) rfl)) (hw _ (List.mem_of_getElem? (i := 51) rfl)) (by decide) (rmLO l Z a0 hw a1 q2 h0 n0 (by omega) F1) e0 E1 (W := 0) (by decide) (by decide) (by decide) (by decide) (g := (mkF m 5 #[.val (.ref a1), .val (.long q2), .second] [(.ref a1)])) rfl (by rw [hml]; rfl) (argsL := []) (rest := []) (lenOf pd_2 rfl) rfl (by show 2 * 0 + _ ≤ _; exact Nat.le_of_eq rfl) (hb hby d8_5) rfl
  obtain ⟨rfl, M1001, q1001⟩ := hQ1001
  rw [q1001] at e1001
  have N1001 := Fr.app N0 M1001
  refine Goal.step (T' := T1001) (g' := (mkF m 8 #[.val (.ref a1), .val (.long q2), .second] [(.long q2)])) ?_ st1001
  refine Goal.step (T' := T1001) (g' := (mkF m 9 #[.val (.ref a1), .val (.long q2), .second] [(.long q2), (.long q2)])) ?_ (fun t k => XS.lloadN X1001.here hx rfl (hb hby d8_8) rfl k)
  refine Goal.step (T' := T1001) (g' := (mkF m 10 #[.val (.ref a1), .val (.long q2), .second] [(.int (Jvm.Free.XT.cmpL q2 q2))])) ?_ (fun t k => Jvm.Free.XT.lcmp X1001.here hx rfl (hb hby d8_9) rfl k)
  refine Goal.step (T' := T1001) (g' := (mkF m 13 #[.val (.ref a1), .val (.long q2), .second] [])) ?_ (fun t k => XS.ifNo X1001.here hx rfl (hb hby d8_10) rfl (Jvm.Free.XT.ll_ne_f rfl) k)
  refine Goal.step (T' := T1001) (g' := (mkF m 14 #[.val (.ref a1), .val (.long q2), .second] [(.int (1 : Int32))])) ?_ (fun t k => XS.iconst X1001.here hx rfl (hb hby d8_13) k)
  refine Goal.step (T' := T1001) (g' := (mkF m 18 #[.val (.ref a1), .val (.long q2), .second] [(.int (1 : Int32))])) ?_ (fun t k => XS.goto X1001.here hx rfl (pc0 := 14) (pc' := 18) rfl (hb hby d8_14) (by decide) (by decide) k)
  refine Goal.retN (t := .boolean) X1001 hx hret (by simp) (hb hby d8_18) ?_
  refine ⟨?_, by decide, by decide⟩
  rw [e1001]
  exact ⟨rfl, N1001, rfl⟩
theorem d1_0 : decode prog_45_method_1_code 0 = .ok (.aload_n 0, 1) := by decide +kernel
theorem d1_1 : decode prog_45_method_1_code 1 = .ok (.invokespecial 1, 3) := by decide +kernel
theorem d1_4 : decode prog_45_method_1_code 4 = .ok (.aload_n 0, 1) := by decide +kernel
theorem d1_5 : decode prog_45_method_1_code 5 = .ok (.sipush 1024, 3) := by decide +kernel
theorem d1_8 : decode prog_45_method_1_code 8 = .ok (.newarray .long, 2) := by decide +kernel
theorem d1_10 : decode prog_45_method_1_code 10 = .ok (.putfield 7, 3) := by decide +kernel
theorem d1_13 : decode prog_45_method_1_code 13 = .ok (.return_, 1) := by decide +kernel
theorem ef_1 (m : MethodId) (x0 : Nat) : entryFrame m #[(.ref x0)] 1 = mkF m 0 #[.val (.ref x0)] [] := by first | (simp [entryFrame, mkF, argsToLocals, Value.category]; done) | rfl
set_option maxRecDepth 65536 in
set_option maxHeartbeats 40000000 in
theorem rmDI (l : Launch) (Z : State) (a0 : Array Value) (hw : ∀ d ∈ tables_1, d.before a0 Z = true) (a1 : Nat) (u1 u2 : Value) (h0 : Heap) (n0 : Nat) (Z0 : n0 ≤ h0.size) (E1 : Exa Z h0 a1 "com/example/latch2/latch2/bench/Delays") (Fu1 : Fld Z h0 a1 "com/example/latch2/latch2/bench/Delays" "samples" "[J" u1) (Fu2 : Fld Z h0 a1 "com/example/latch2/latch2/bench/Delays" "size" "I" u2) (g1 : n0 ≤ a1) (lt1 : a1 < h0.size) :
    Met l (⟨"com/example/latch2/latch2/bench/Delays", "<init>", "()V"⟩ : MethodName) prog_45_method_1_code 1 none [] ({ frames := 1, cells := 1, slots := 1024, locals := 12 } : Room) Z #[(.ref a1)] h0 (fun v h L => v = none ∧ Fr n0 L ∧ Keep h0 h [a1] ∧ Fld Z h a1 "com/example/latch2/latch2/bench/Delays" "size" "I" u2 ∧ ∃ (b : Nat) (k : ClassId), Fld Z h a1 "com/example/latch2/latch2/bench/Delays" "samples" "[J" (.ref b) ∧ Arh Z h b k .long (1024 : Int32) [] [] (.long (0 : Int64)) ∧ h0.size ≤ b ∧ b < h.size) := by
  refine of_goal (plainFor_of_name (by first | (simp [plainName, overriddenIn]; done) | decide +kernel)) ?_
  intro p e s m below meth c s₁ C X0 e0
  have C0 := C
  obtain ⟨hx, hZ, hby, hml, hret, hown, hnm⟩ := C
  have hown : s.vm.findClass "com/example/latch2/latch2/bench/Delays" = some m.cls := hown
  have hret : meth.sig.returnType = none := hret
  have N0 := Fr.nil n0
  rw [ef_1]
  refine Goal.step (T' := s₁) (g' := (mkF m 1 #[.val (.ref a1)] [(.ref a1)])) ?_ (fun t k => XS.aloadN X0.here hx rfl (hb hby d1_0) rfl rfl k)
  obtain ⟨T1001, X1001, e1001, st1001⟩ := initO X0 hx hZ hown (hw _ (List.mem_of_getElem? (i := 6) rfl)) (hw _ (List.mem_of_getElem? (i := 7) rfl)) (hw _ (List.mem_of_getElem? (i := 8) rfl)) e0 (g := (mkF m 1 #[.val (.ref a1)] [(.ref a1)])) rfl (by rw [hml]; rfl) rfl (hb hby d1_1) (by decide) (W := 0) (by show 2 * 0 + _ ≤ _; exact Nat.le_of_eq rfl) (by decide)
  refine Goal.step (T' := T1001) (g' := (mkF m 4 #[.val (.ref a1)] [])) ?_ st1001
  refine Goal.step (T' := T1001) (g' := (mkF m 5 #[.val (.ref a1)] [(.ref a1)])) ?_ (fun t k => XS.aloadN X1001.here hx rfl (hb hby d1_4) rfl rfl k)
  refine Goal.step (T' := T1001) (g' := (mkF m 8 #[.val (.ref a1)] [(.int (1024 : Int32)), (.ref a1)])) ?_ (fun t k => XS.sipush X1001.here hx rfl (hb hby d1_5) k)
  obtain ⟨T1002, h1002, k1002, X1002, e1002, E1002, A1002, st1002⟩ := newP X1001 hx hZ (hw _ (List.mem_of_getElem? (i := 9) rfl)) e1001 (g := (mkF m 8 #[.val (.ref a1)] [(.int (1024 : Int32)), (.ref a1)])) rfl (hb hby d1_8) rfl (by decide) (cap := 1024) (by decide) (by decide) (by decide) (by decide)
  obtain ⟨b1002, g1002⟩ : ∃ z, z = h0.size := ⟨_, rfl⟩
  rw [← g1002] at A1002 st1002
  refine Goal.step (T' := T1002) (g' := (mkF m 10 #[.val (.ref a1)] [(.ref b1002), (.ref a1)])) ?_ st1002
  have sz1003 : h0.size ≤ h1002.size := E1002.1
  have lt_b1002 : b1002 < h1002.size := A1002.lt
  have V1002 : Arh Z h1002 b1002 k1002 .long (1024 : Int32) [] [] (.long (0 : Int64)) := (Arv.new A1002 (by decide)).arh
  have f1004 : Fld Z h1002 a1 "com/example/latch2/latch2/bench/Delays" "samples" "[J" u1 := (Fu1.ext E1002)
  have f1005 : Exa Z h1002 a1 "com/example/latch2/latch2/bench/Delays" := (E1.ext E1002)
  obtain ⟨T1006, h1006, X1006, e1006, W1006, st1006⟩ := putF X1002 hx hZ hown (host := "") (Or.inl (hw _ (List.mem_of_getElem? (i := 10) rfl))) Via.refl e1002 f1004 f1005 (Or.inl (hw _ (List.mem_of_getElem? (i := 11) rfl))) (hw _ (List.mem_of_getElem? (i := 1) rfl)) (ty := (.array .long)) (by decide) rfl rfl (g := (mkF m 10 #[.val (.ref a1)] [(.ref b1002), (.ref a1)])) rfl rfl (hb hby d1_10)
  refine Goal.step (T' := T1006) (g' := (mkF m 13 #[.val (.ref a1)] [])) ?_ st1006
  have sz1007 : h1002.size ≤ h1006.size := Nat.le_of_eq W1006.size.symm
  have F1006 := Fld.same W1006 f1004
  have N1006 := Fr.snoc X1006 N0 (by omega : n0 ≤ a1)
  refine Goal.retV X1006 hx hret (hb hby d1_13) ?_
  have k1008 : Keep h0 h1006 [a1] := (((Keep.refl h0 [a1]).ext E1002).wr W1006 (Or.inl (by simp)))
  have f1009 : Fld Z h1006 a1 "com/example/latch2/latch2/bench/Delays" "size" "I" u2 := (Fld.other W1006 (Fu2.ext E1002) (Or.inr (slot_ne (Or.inl (hw _ (List.mem_of_getElem? (i := 18) rfl))) (Or.inl (hw _ (List.mem_of_getElem? (i := 11) rfl))) (by decide) (t := .int) (t' := (.array .long)) (by decide) (by decide))))
  have f1010 : Arh Z h1006 b1002 k1002 .long (1024 : Int32) [] [] (.long (0 : Int64)) := (V1002.other W1006 (nne (by omega)))
  refine ⟨?_, by decide, by decide⟩
  rw [e1006]
  exact ⟨rfl, N1006, k1008, f1009, b1002, _, F1006, f1010, by omega, by omega⟩
theorem d4_0 : decode prog_45_method_2_code 0 = .ok (.aload_n 0, 1) := by decide +kernel
theorem d4_1 : decode prog_45_method_2_code 1 = .ok (.getfield 13, 3) := by decide +kernel
theorem d4_4 : decode prog_45_method_2_code 4 = .ok (.aload_n 0, 1) := by decide +kernel
theorem d4_5 : decode prog_45_method_2_code 5 = .ok (.getfield 7, 3) := by decide +kernel
theorem d4_8 : decode prog_45_method_2_code 8 = .ok (.arraylength, 1) := by decide +kernel
theorem d4_9 : decode prog_45_method_2_code 9 = .ok (.if_icmp .ne 20, 3) := by decide +kernel
theorem d4_29 : decode prog_45_method_2_code 29 = .ok (.aload_n 0, 1) := by decide +kernel
theorem d4_30 : decode prog_45_method_2_code 30 = .ok (.getfield 7, 3) := by decide +kernel
theorem d4_33 : decode prog_45_method_2_code 33 = .ok (.aload_n 0, 1) := by decide +kernel
theorem d4_34 : decode prog_45_method_2_code 34 = .ok (.getfield 13, 3) := by decide +kernel
theorem d4_37 : decode prog_45_method_2_code 37 = .ok (.lload_n 1, 1) := by decide +kernel
theorem d4_38 : decode prog_45_method_2_code 38 = .ok (.lastore, 1) := by decide +kernel
theorem d4_39 : decode prog_45_method_2_code 39 = .ok (.aload_n 0, 1) := by decide +kernel
theorem d4_40 : decode prog_45_method_2_code 40 = .ok (.dup, 1) := by decide +kernel
theorem d4_41 : decode prog_45_method_2_code 41 = .ok (.getfield 13, 3) := by decide +kernel
theorem d4_44 : decode prog_45_method_2_code 44 = .ok (.iconst 1, 1) := by decide +kernel
theorem d4_45 : decode prog_45_method_2_code 45 = .ok (.iadd, 1) := by decide +kernel
theorem d4_46 : decode prog_45_method_2_code 46 = .ok (.putfield 13, 3) := by decide +kernel
theorem d4_49 : decode prog_45_method_2_code 49 = .ok (.return_, 1) := by decide +kernel
theorem ef_4 (m : MethodId) (x0 : Nat) (x1 : Int64) : entryFrame m #[(.ref x0), (.long x1)] 3 = mkF m 0 #[.val (.ref x0), .val (.long x1), .second] [] := by first | (simp [entryFrame, mkF, argsToLocals, Value.category]; done) | rfl
set_option maxRecDepth 65536 in
set_option maxHeartbeats 40000000 in
theorem rmAD (l : Launch) (Z : State) (a0 : Array Value) (hw : ∀ d ∈ tables_1, d.before a0 Z = true) (a1 : Nat) (q2 : Int64) (w1 : Int32) (b2 : Nat) (kk : ClassId) (hs : List (Int32 × Value)) (h0 : Heap) (n0 : Nat) (Z0 : n0 ≤ h0.size) (E1 : Exa Z h0 a1 "com/example/latch2/latch2/bench/Delays") (Fa : Fld Z h0 a1 "com/example/latch2/latch2/bench/Delays" "samples" "[J" (.ref b2)) (Fi : Fld Z h0 a1 "com/example/latch2/latch2/bench/Delays" "size" "I" (.int w1)) (A2 : Arh Z h0 b2 kk .long (1024 : Int32) hs [] (.long (0 : Int64))) (hin : ¬ w1 < 0 ∧ w1 < (1024 : Int32)) (hlen : ¬ w1 = (1024 : Int32)) (g1 : n0 ≤ a1) (g2 : n0 ≤ b2) (ne12 : a1 ≠ b2) :
    Met l (⟨"com/example/latch2/latch2/bench/Delays", "add", "(J)V"⟩ : MethodName) prog_45_method_2_code 3 none [] ({ frames := 0, cells := 0, slots := 0, locals := 0 } : Room) Z #[(.ref a1), (.long q2)] h0 (fun v h L => v = none ∧ Fr n0 L ∧ Keep h0 h [a1, b2] ∧ Fld Z h a1 "com/example/latch2/latch2/bench/Delays" "samples" "[J" (.ref b2) ∧ Fld Z h a1 "com/example/latch2/latch2/bench/Delays" "size" "I" (.int (w1 + (1 : Int32))) ∧ Arh Z h b2 kk .long (1024 : Int32) ((w1, (.long q2)) :: hs) [] (.long (0 : Int64))) := by
  refine of_goal (plainFor_of_name (by first | (simp [plainName, overriddenIn]; done) | decide +kernel)) ?_
  intro p e s m below meth c s₁ C X0 e0
  have C0 := C
  obtain ⟨hx, hZ, hby, hml, hret, hown, hnm⟩ := C
  have hown : s.vm.findClass "com/example/latch2/latch2/bench/Delays" = some m.cls := hown
  have hret : meth.sig.returnType = none := hret
  have N0 := Fr.nil n0
  rw [ef_4]
  refine Goal.step (T' := s₁) (g' := (mkF m 1 #[.val (.ref a1), .val (.long q2), .second] [(.ref a1)])) ?_ (fun t k => XS.aloadN X0.here hx rfl (hb hby d4_0) rfl rfl k)
  obtain ⟨T1001, X1001, e1001, st1001⟩ := getF X0 hx hZ hown (host := "") (Or.inl (hw _ (List.mem_of_getElem? (i := 17) rfl))) Via.refl e0 Fi (g := (mkF m 1 #[.val (.ref a1), .val (.long q2), .second] [(.ref a1)])) rfl rfl (hb hby d4_1)
  refine Goal.step (T' := T1001) (g' := (mkF m 4 #[.val (.ref a1), .val (.long q2), .second] [(.int w1)])) ?_ st1001
  refine Goal.step (T' := T1001) (g' := (mkF m 5 #[.val (.ref a1), .val (.long q2), .second] [(.ref a1), (.int w1)])) ?_ (fun t k => XS.aloadN X1001.here hx rfl (hb hby d4_4) rfl rfl k)
  obtain ⟨T1002, X1002, e1002, st1002⟩ := getF X1001 hx hZ hown (host := "") (Or.inl (hw _ (List.mem_of_getElem? (i := 10) rfl))) Via.refl e1001 Fa (g := (mkF m 5 #[.val (.ref a1), .val (.long q2), .second] [(.ref a1), (.int w1)])) rfl rfl (hb hby d4_5)
  refine Goal.step (T' := T1002) (g' := (mkF m 8 #[.val (.ref a1), .val (.long q2), .second] [(.ref b2), (.int w1)])) ?_ st1002
  obtain ⟨cl1003, Ar1003, q1003, S1003, N_1003, H1003, G1003⟩ := (id A2)
  refine Goal.step (T' := T1002) (g' := (mkF m 9 #[.val (.ref a1), .val (.long q2), .second] [(.int (1024 : Int32)), (.int w1)])) ?_ (fun t k => X1002.arraylength hx (by rw [e1002]; exact Ar1003.1) (State.isArrayOf_alike hZ.alike Ar1003.2.1) (g := (mkF m 8 #[.val (.ref a1), .val (.long q2), .second] [(.ref b2), (.int w1)])) rfl rfl (hb hby d4_8) _ (by rw [len_of S1003 N_1003]; exact k))
  refine Goal.step (T' := T1002) (g' := (mkF m 29 #[.val (.ref a1), .val (.long q2), .second] [])) ?_ (fun t k => XS.icmpYes X1002.here hx rfl (pc0 := 9) (pc' := 29) rfl (hb hby d4_9) rfl (feq hlen).2 (by decide) (by decide) k)
  refine Goal.step (T' := T1002) (g' := (mkF m 30 #[.val (.ref a1), .val (.long q2), .second] [(.ref a1)])) ?_ (fun t k => XS.aloadN X1002.here hx rfl (hb hby d4_29) rfl rfl k)
  obtain ⟨T1004, X1004, e1004, st1004⟩ := getF X1002 hx hZ hown (host := "") (Or.inl (hw _ (List.mem_of_getElem? (i := 10) rfl))) Via.refl e1002 Fa (g := (mkF m 30 #[.val (.ref a1), .val (.long q2), .second] [(.ref a1)])) rfl rfl (hb hby d4_30)
  refine Goal.step (T' := T1004) (g' := (mkF m 33 #[.val (.ref a1), .val (.long q2), .second] [(.ref b2)])) ?_ st1004
  refine Goal.step (T' := T1004) (g' := (mkF m 34 #[.val (.ref a1), .val (.long q2), .second] [(.ref a1), (.ref b2)])) ?_ (fun t k => XS.aloadN X1004.here hx rfl (hb hby d4_33) rfl rfl k)
  obtain ⟨T1005, X1005, e1005, st1005⟩ := getF X1004 hx hZ hown (host := "") (Or.inl (hw _ (List.mem_of_getElem? (i := 17) rfl))) Via.refl e1004 Fi (g := (mkF m 34 #[.val (.ref a1), .val (.long q2), .second] [(.ref a1), (.ref b2)])) rfl rfl (hb hby d4_34)
  refine Goal.step (T' := T1005) (g' := (mkF m 37 #[.val (.ref a1), .val (.long q2), .second] [(.int w1), (.ref b2)])) ?_ st1005
  refine Goal.step (T' := T1005) (g' := (mkF m 38 #[.val (.ref a1), .val (.long q2), .second] [(.long q2), (.int w1), (.ref b2)])) ?_ (fun t k => XS.lloadN X1005.here hx rfl (hb hby d4_37) rfl k)
  obtain ⟨cl1006, Ar1006, q1006, S1006, N_1006, H1006, G1006⟩ := (id A2)
  have hin1006 : ¬ (w1 < 0 ∨ cl1006.slots.size ≤ (w1).toNatClampNeg) := inb_of S1006 hin
  obtain ⟨T1006, h1006, X1006, e1006, W1006, st1006⟩ := stJ X1005 hx hZ e1005 Ar1006 (j := w1) hin1006  (g := (mkF m 38 #[.val (.ref a1), .val (.long q2), .second] [(.long q2), (.int w1), (.ref b2)])) rfl rfl (hb hby d4_38)
  refine Goal.step (T' := T1006) (g' := (mkF m 39 #[.val (.ref a1), .val (.long q2), .second] [])) ?_ st1006
  have sz1007 : h0.size ≤ h1006.size := Nat.le_of_eq W1006.size.symm
  have V1006 : Arh Z h1006 b2 kk .long (1024 : Int32) ((w1, (.long q2)) :: hs) [] (.long (0 : Int64)) := Arh.push Ar1006 q1006 S1006 N_1006 H1006 G1006 rfl W1006 hin1006
  have N1006 := Fr.snoc X1006 N0 (by omega : n0 ≤ b2)
  refine Goal.step (T' := T1006) (g' := (mkF m 40 #[.val (.ref a1), .val (.long q2), .second] [(.ref a1)])) ?_ (fun t k => XS.aloadN X1006.here hx rfl (hb hby d4_39) rfl rfl k)
  refine Goal.step (T' := T1006) (g' := (mkF m 41 #[.val (.ref a1), .val (.long q2), .second] [(.ref a1), (.ref a1)])) ?_ (fun t k => XS.dup X1006.here hx rfl (hb hby d4_40) rfl rfl k)
  have f1008 : Fld Z h1006 a1 "com/example/latch2/latch2/bench/Delays" "size" "I" (.int w1) := (Fld.other W1006 Fi (Or.inl (nne (by omega))))
  obtain ⟨T1009, X1009, e1009, st1009⟩ := getF X1006 hx hZ hown (host := "") (Or.inl (hw _ (List.mem_of_getElem? (i := 17) rfl))) Via.refl e1006 f1008 (g := (mkF m 41 #[.val (.ref a1), .val (.long q2), .second] [(.ref a1), (.ref a1)])) rfl rfl (hb hby d4_41)
  refine Goal.step (T' := T1009) (g' := (mkF m 44 #[.val (.ref a1), .val (.long q2), .second] [(.int w1), (.ref a1)])) ?_ st1009
  refine Goal.step (T' := T1009) (g' := (mkF m 45 #[.val (.ref a1), .val (.long q2), .second] [(.int (1 : Int32)), (.int w1), (.ref a1)])) ?_ (fun t k => XS.iconst X1009.here hx rfl (hb hby d4_44) k)
  refine Goal.step (T' := T1009) (g' := (mkF m 46 #[.val (.ref a1), .val (.long q2), .second] [(.int (w1 + (1 : Int32))), (.ref a1)])) ?_ (fun t k => XS.iadd X1009.here hx rfl (hb hby d4_45) rfl k)
  have f1010 : Exa Z h1006 a1 "com/example/latch2/latch2/bench/Delays" := (Exa.wr W1006 E1)
  obtain ⟨T1011, h1011, X1011, e1011, W1011, st1011⟩ := putF X1009 hx hZ hown (host := "") (Or.inl (hw _ (List.mem_of_getElem? (i := 17) rfl))) Via.refl e1009 f1008 f1010 (Or.inl (hw _ (List.mem_of_getElem? (i := 18) rfl))) (hw _ (List.mem_of_getElem? (i := 1) rfl)) (ty := .int) (by decide) rfl rfl (g := (mkF m 46 #[.val (.ref a1), .val (.long q2), .second] [(.int (w1 + (1 : Int32))), (.ref a1)])) rfl rfl (hb hby d4_46)
  refine Goal.step (T' := T1011) (g' := (mkF m 49 #[.val (.ref a1), .val (.long q2), .second] [])) ?_ st1011
  have sz1012 : h1006.size ≤ h1011.size := Nat.le_of_eq W1011.size.symm
  have F1011 := Fld.same W1011 f1008
  have N1011 := Fr.snoc X1011 N1006 (by omega : n0 ≤ a1)
  refine Goal.retV X1011 hx hret (hb hby d4_49) ?_
  have k1013 : Keep h0 h1011 [a1, b2] := (((Keep.refl h0 [a1, b2]).wr W1006 (Or.inl (by simp))).wr W1011 (Or.inl (by simp)))
  have f1014 : Fld Z h1011 a1 "com/example/latch2/latch2/bench/Delays" "samples" "[J" (.ref b2) := (Fld.other W1011 (Fld.other W1006 Fa (Or.inl (nne (by omega)))) (Or.inr (slot_ne (Or.inl (hw _ (List.mem_of_getElem? (i := 11) rfl))) (Or.inl (hw _ (List.mem_of_getElem? (i := 18) rfl))) (by decide) (t := (.array .long)) (t' := .int) (by decide) (by decide))))
  have f1015 : Arh Z h1011 b2 kk .long (1024 : Int32) ((w1, (.long q2)) :: hs) [] (.long (0 : Int64)) := (V1006.other W1011 (nne (by omega)))
  refine ⟨?_, by decide, by decide⟩
  rw [e1011]
  exact ⟨rfl, N1011, k1013, f1014, F1011, f1015⟩
theorem d5_0 : decode prog_45_method_5_code 0 = .ok (.aload_n 0, 1) := by decide +kernel
theorem d5_1 : decode prog_45_method_5_code 1 = .ok (.getfield 13, 3) := by decide +kernel
theorem d5_4 : decode prog_45_method_5_code 4 = .ok (.ifCond .ne 5, 3) := by decide +kernel
theorem d5_9 : decode prog_45_method_5_code 9 = .ok (.iload_n 1, 1) := by decide +kernel
theorem d5_10 : decode prog_45_method_5_code 10 = .ok (.i2l, 1) := by decide +kernel
theorem d5_11 : decode prog_45_method_5_code 11 = .ok (.aload_n 0, 1) := by decide +kernel
theorem d5_12 : decode prog_45_method_5_code 12 = .ok (.getfield 13, 3) := by decide +kernel
theorem d5_15 : decode prog_45_method_5_code 15 = .ok (.i2l, 1) := by decide +kernel
theorem d5_16 : decode prog_45_method_5_code 16 = .ok (.lmul, 1) := by decide +kernel
theorem d5_17 : decode prog_45_method_5_code 17 = .ok (.ldc2_w 56, 3) := by decide +kernel
theorem d5_20 : decode prog_45_method_5_code 20 = .ok (.ladd, 1) := by decide +kernel
theorem d5_21 : decode prog_45_method_5_code 21 = .ok (.ldc2_w 58, 3) := by decide +kernel
theorem d5_24 : decode prog_45_method_5_code 24 = .ok (.ldiv, 1) := by decide +kernel
theorem d5_25 : decode prog_45_method_5_code 25 = .ok (.lstore_n 2, 1) := by decide +kernel
theorem d5_26 : decode prog_45_method_5_code 26 = .ok (.aload_n 0, 1) := by decide +kernel
theorem d5_27 : decode prog_45_method_5_code 27 = .ok (.getfield 7, 3) := by decide +kernel
theorem d5_30 : decode prog_45_method_5_code 30 = .ok (.lload_n 2, 1) := by decide +kernel
theorem d5_31 : decode prog_45_method_5_code 31 = .ok (.lconst 1, 1) := by decide +kernel
theorem d5_32 : decode prog_45_method_5_code 32 = .ok (.invokestatic 60, 3) := by decide +kernel
theorem pd_3 : parseMethodDescriptor "(JJ)J" = some ⟨[.long, .long], some .long⟩ := by decide +kernel
theorem d5_35 : decode prog_45_method_5_code 35 = .ok (.l2i, 1) := by decide +kernel
theorem d5_36 : decode prog_45_method_5_code 36 = .ok (.iconst 1, 1) := by decide +kernel
theorem d5_37 : decode prog_45_method_5_code 37 = .ok (.isub, 1) := by decide +kernel
theorem d5_38 : decode prog_45_method_5_code 38 = .ok (.laload, 1) := by decide +kernel
theorem d5_39 : decode prog_45_method_5_code 39 = .ok (.invokestatic 63, 3) := by decide +kernel
theorem pd_4 : parseMethodDescriptor "(J)Ljava/lang/Long;" = some ⟨[.long], some (.object "java/lang/Long")⟩ := by decide +kernel
theorem d5_42 : decode prog_45_method_5_code 42 = .ok (.areturn, 1) := by decide +kernel
theorem ef_5 (m : MethodId) (x0 : Nat) (x1 : Int32) : entryFrame m #[(.ref x0), (.int x1)] 4 = mkF m 0 #[.val (.ref x0), .val (.int x1), .unset, .unset] [] := by first | (simp [entryFrame, mkF, argsToLocals, Value.category]; done) | rfl
set_option maxRecDepth 65536 in
set_option maxHeartbeats 40000000 in
theorem rmPC (l : Launch) (Z : State) (a0 : Array Value) (hw : ∀ d ∈ tables_1, d.before a0 Z = true) (a1 : Nat) (p2 : Int32) (w1 : Int32) (b2 : Nat) (kk : ClassId) (hs : List (Int32 × Value)) (j3 : Int32) (x3 : Int64) (ca : Nat) (cc : Cell) (h0 : Heap) (n0 : Nat) (Z0 : n0 ≤ h0.size) (E1 : Exa Z h0 a1 "com/example/latch2/latch2/bench/Delays") (Fa : Fld Z h0 a1 "com/example/latch2/latch2/bench/Delays" "samples" "[J" (.ref b2)) (Fi : Fld Z h0 a1 "com/example/latch2/latch2/bench/Delays" "size" "I" (.int w1)) (A2 : Arh Z h0 b2 kk .long (1024 : Int32) hs [] (.long (0 : Int64))) (hw0 : ¬ w1 = (0 : Int32)) (hj3 : pidx p2 w1 = j3) (hin3 : ¬ j3 < 0 ∧ j3 < (1024 : Int32)) (hat3 : getH hs [] (.long (0 : Int64)) j3.toNatClampNeg = .long x3) (S0 : Sta Z Z.heap "java/lang/Long$LongCache" "cache" "[Ljava/lang/Long;" (.ref ca)) (Bx : Bxs Z ca cc "java/lang/Long" "J" (256 : Int32) bxv) (O0 : Old Z n0 h0) :
    Met l (⟨"com/example/latch2/latch2/bench/Delays", "percentile", "(I)Ljava/lang/Long;"⟩ : MethodName) prog_45_method_5_code 4 (some (.object "java/lang/Long")) [] ({ frames := 4, cells := 1, slots := 1, locals := 56 } : Room) Z #[(.ref a1), (.int p2)] h0 (fun v h L => ∃ b, v = some (.ref b) ∧ Fr n0 L ∧ Keep h0 h [] ∧ Exa Z h b "java/lang/Long" ∧ Fld Z h b "java/lang/Long" "value" "J" (.long x3)) := by
  refine of_goal (plainFor_of_name (by first | (simp [plainName, overriddenIn]; done) | decide +kernel)) ?_
  intro p e s m below meth c s₁ C X0 e0
  have C0 := C
  obtain ⟨hx, hZ, hby, hml, hret, hown, hnm⟩ := C
  have hown : s.vm.findClass "com/example/latch2/latch2/bench/Delays" = some m.cls := hown
  have hret : meth.sig.returnType = (some (.object "java/lang/Long")) := hret
  have N0 := Fr.nil n0
  rw [ef_5]
  refine Goal.step (T' := s₁) (g' := (mkF m 1 #[.val (.ref a1), .val (.int p2), .unset, .unset] [(.ref a1)])) ?_ (fun t k => XS.aloadN X0.here hx rfl (hb hby d5_0) rfl rfl k)
  obtain ⟨T1001, X1001, e1001, st1001⟩ := getF X0 hx hZ hown (host := "") (Or.inl (hw _ (List.mem_of_getElem? (i := 17) rfl))) Via.refl e0 Fi (g := (mkF m 1 #[.val (.ref a1), .val (.int p2), .unset, .unset] [(.ref a1)])) rfl rfl (hb hby d5_1)
  refine Goal.step (T' := T1001) (g' := (mkF m 4 #[.val (.ref a1), .val (.int p2), .unset, .unset] [(.int w1)])) ?_ st1001
  refine Goal.step (T' := T1001) (g' := (mkF m 9 #[.val (.ref a1), .val (.int p2), .unset, .unset] [])) ?_ (fun t k => XS.ifYes X1001.here hx rfl (pc0 := 4) (pc' := 9) rfl (hb hby d5_4) rfl ((if0 _ _).trans (feq hw0).2) (by decide) (by decide) k)
  refine Goal.step (T' := T1001) (g' := (mkF m 10 #[.val (.ref a1), .val (.int p2), .unset, .unset] [(.int p2)])) ?_ (fun t k => XS.iloadN X1001.here hx rfl (hb hby d5_9) rfl k)
  refine Goal.step (T' := T1001) (g' := (mkF m 11 #[.val (.ref a1), .val (.int p2), .unset, .unset] [(.long (p2.toInt64))])) ?_ (fun t k => XS.i2l X1001.here hx rfl (hb hby d5_10) rfl k)
  refine Goal.step (T' := T1001) (g' := (mkF m 12 #[.val (.ref a1), .val (.int p2), .unset, .unset] [(.ref a1), (.long (p2.toInt64))])) ?_ (fun t k => XS.aloadN X1001.here hx rfl (hb hby d5_11) rfl rfl k)
  obtain ⟨T1002, X1002, e1002, st1002⟩ := getF X1001 hx hZ hown (host := "") (Or.inl (hw _ (List.mem_of_getElem? (i := 17) rfl))) Via.refl e1001 Fi (g := (mkF m 12 #[.val (.ref a1), .val (.int p2), .unset, .unset] [(.ref a1), (.long (p2.toInt64))])) rfl rfl (hb hby d5_12)
  refine Goal.step (T' := T1002) (g' := (mkF m 15 #[.val (.ref a1), .val (.int p2), .unset, .unset] [(.int w1), (.long (p2.toInt64))])) ?_ st1002
  refine Goal.step (T' := T1002) (g' := (mkF m 16 #[.val (.ref a1), .val (.int p2), .unset, .unset] [(.long (w1.toInt64)), (.long (p2.toInt64))])) ?_ (fun t k => XS.i2l X1002.here hx rfl (hb hby d5_15) rfl k)
  refine Goal.step (T' := T1002) (g' := (mkF m 17 #[.val (.ref a1), .val (.int p2), .unset, .unset] [(.long ((p2.toInt64) * (w1.toInt64)))])) ?_ (fun t k => XS.lmul X1002.here hx rfl (hb hby d5_16) rfl k)
  refine Goal.step (T' := T1002) (g' := (mkF m 20 #[.val (.ref a1), .val (.int p2), .unset, .unset] [(.long (99 : Int64)), (.long ((p2.toInt64) * (w1.toInt64)))])) ?_ (fun t k => X1002.ldc2Long hx hown (mvT hZ (hw _ (List.mem_of_getElem? (i := 29) rfl))) (g := (mkF m 17 #[.val (.ref a1), .val (.int p2), .unset, .unset] [(.long ((p2.toInt64) * (w1.toInt64)))])) rfl (hb hby d5_17) _ k)
  refine Goal.step (T' := T1002) (g' := (mkF m 21 #[.val (.ref a1), .val (.int p2), .unset, .unset] [(.long (((p2.toInt64) * (w1.toInt64)) + (99 : Int64)))])) ?_ (fun t k => XS.ladd X1002.here hx rfl (hb hby d5_20) rfl k)
  refine Goal.step (T' := T1002) (g' := (mkF m 24 #[.val (.ref a1), .val (.int p2), .unset, .unset] [(.long (100 : Int64)), (.long (((p2.toInt64) * (w1.toInt64)) + (99 : Int64)))])) ?_ (fun t k => X1002.ldc2Long hx hown (mvT hZ (hw _ (List.mem_of_getElem? (i := 30) rfl))) (g := (mkF m 21 #[.val (.ref a1), .val (.int p2), .unset, .unset] [(.long (((p2.toInt64) * (w1.toInt64)) + (99 : Int64)))])) rfl (hb hby d5_21) _ k)
  refine Goal.step (T' := T1002) (g' := (mkF m 25 #[.val (.ref a1), .val (.int p2), .unset, .unset] [(.long ((((p2.toInt64) * (w1.toInt64)) + (99 : Int64)) / (100 : Int64)))])) ?_ (fun t k => XS.ldiv X1002.here hx rfl (hb hby d5_24) rfl (by decide) k)
  refine Goal.step (T' := T1002) (g' := (mkF m 26 #[.val (.ref a1), .val (.int p2), .val (.long ((((p2.toInt64) * (w1.toInt64)) + (99 : Int64)) / (100 : Int64))), .second] [])) ?_ (fun t k => XS.lstoreN X1002.here hx rfl (hb hby d5_25) rfl (l' := #[.val (.ref a1), .val (.int p2), .val (.long ((((p2.toInt64) * (w1.toInt64)) + (99 : Int64)) / (100 : Int64))), .second]) rfl k)
  refine Goal.step (T' := T1002) (g' := (mkF m 27 #[.val (.ref a1), .val (.int p2), .val (.long ((((p2.toInt64) * (w1.toInt64)) + (99 : Int64)) / (100 : Int64))), .second] [(.ref a1)])) ?_ (fun t k => XS.aloadN X1002.here hx rfl (hb hby d5_26) rfl rfl k)
  obtain ⟨T1003, X1003, e1003, st1003⟩ := getF X1002 hx hZ hown (host := "") (Or.inl (hw _ (List.mem_of_getElem? (i := 10) rfl))) Via.refl e1002 Fa (g := (mkF m 27 #[.val (.ref a1), .val (.int p2), .val (.long ((((p2.toInt64) * (w1.toInt64)) + (99 : Int64)) / (100 : Int64))), .second] [(.ref a1)])) rfl rfl (hb hby d5_27)
  refine Goal.step (T' := T1003) (g' := (mkF m 30 #[.val (.ref a1), .val (.int p2), .val (.long ((((p2.toInt64) * (w1.toInt64)) + (99 : Int64)) / (100 : Int64))), .second] [(.ref b2)])) ?_ st1003
  refine Goal.step (T' := T1003) (g' := (mkF m 31 #[.val (.ref a1), .val (.int p2), .val (.long ((((p2.toInt64) * (w1.toInt64)) + (99 : Int64)) / (100 : Int64))), .second] [(.long ((((p2.toInt64) * (w1.toInt64)) + (99 : Int64)) / (100 : Int64))), (.ref b2)])) ?_ (fun t k => XS.lloadN X1003.here hx rfl (hb hby d5_30) rfl k)
  refine Goal.step (T' := T1003) (g' := (mkF m 32 #[.val (.ref a1), .val (.int p2), .val (.long ((((p2.toInt64) * (w1.toInt64)) + (99 : Int64)) / (100 : Int64))), .second] [(.long (1 : Int64)), (.long ((((p2.toInt64) * (w1.toInt64)) + (99 : Int64)) / (100 : Int64))), (.ref b2)])) ?_ (fun t k => XS.lconst X1003.here hx rfl (hb hby d5_31) k)
  obtain ⟨v1004, T1004, h1004, L1004, X1004, e1004, hQ1004, st1004⟩ := callStatic X1003 hx hZ hown (hw _ (List.mem_of_getElem? (i := 31) rfl)) (hw _ (List.mem_of_getElem? (i := 32) rfl)) (hw _ (List.mem_of_getElem? (i := 33) rfl)) (hw _ (List.mem_of_getElem? (i := 34) rfl)) (by decide) (rmMX l Z a0 hw ((((p2.toInt64) * (w1.toInt64)) + (99 : Int64)) / (100 : Int64)) (1 : Int64) h0 n0 (by omega) ) e1003 (W := 1) (by decide) (by decide) (by decide) (by decide) (g := (mkF m 32 #[.val (.ref a1), .val (.int p2), .val (.long ((((p2.toInt64) * (w1.toInt64)) + (99 : Int64)) / (100 : Int64))), .second] [(.long (1 : Int64)), (.long ((((p2.toInt64) * (w1.toInt64)) + (99 : Int64)) / (100 : Int64))), (.ref b2)])) rfl (by rw [hml]; rfl) (argsL := [(.long ((((p2.toInt64) * (w1.toInt64)) + (99 : Int64)) / (100 : Int64))), (.long (1 : Int64))]) (rest := [(.ref b2)]) (lenOf pd_3 rfl) rfl (by show 2 * 0 + _ ≤ _; exact Nat.le_of_eq rfl) (hb hby d5_32) rfl
  obtain ⟨rfl, M1004, q1004⟩ := hQ1004
  rw [q1004] at e1004
  have N1004 := Fr.app N0 M1004
  refine Goal.step (T' := T1004) (g' := (mkF m 35 #[.val (.ref a1), .val (.int p2), .val (.long ((((p2.toInt64) * (w1.toInt64)) + (99 : Int64)) / (100 : Int64))), .second] [(.long (mx ((((p2.toInt64) * (w1.toInt64)) + (99 : Int64)) / (100 : Int64)) (1 : Int64))), (.ref b2)])) ?_ st1004
  refine Goal.step (T' := T1004) (g' := (mkF m 36 #[.val (.ref a1), .val (.int p2), .val (.long ((((p2.toInt64) * (w1.toInt64)) + (99 : Int64)) / (100 : Int64))), .second] [(.int ((mx ((((p2.toInt64) * (w1.toInt64)) + (99 : Int64)) / (100 : Int64)) (1 : Int64)).toInt32)), (.ref b2)])) ?_ (fun t k => XS.l2i X1004.here hx rfl (hb hby d5_35) rfl k)
  refine Goal.step (T' := T1004) (g' := (mkF m 37 #[.val (.ref a1), .val (.int p2), .val (.long ((((p2.toInt64) * (w1.toInt64)) + (99 : Int64)) / (100 : Int64))), .second] [(.int (1 : Int32)), (.int ((mx ((((p2.toInt64) * (w1.toInt64)) + (99 : Int64)) / (100 : Int64)) (1 : Int64)).toInt32)), (.ref b2)])) ?_ (fun t k => XS.iconst X1004.here hx rfl (hb hby d5_36) k)
  refine Goal.step (T' := T1004) (g' := (mkF m 38 #[.val (.ref a1), .val (.int p2), .val (.long ((((p2.toInt64) * (w1.toInt64)) + (99 : Int64)) / (100 : Int64))), .second] [(.int (((mx ((((p2.toInt64) * (w1.toInt64)) + (99 : Int64)) / (100 : Int64)) (1 : Int64)).toInt32) - (1 : Int32))), (.ref b2)])) ?_ (fun t k => XS.isub X1004.here hx rfl (hb hby d5_37) rfl k)
  rw [show (((mx ((((p2.toInt64) * (w1.toInt64)) + (99 : Int64)) / (100 : Int64)) (1 : Int64)).toInt32) - (1 : Int32)) = j3 from hj3]
  obtain ⟨cl1005, Ar1005, q1005, S1005, N_1005, H1005, G1005⟩ := (id A2)
  have hin1005 : ¬ (j3 < 0 ∨ cl1005.slots.size ≤ (j3).toNatClampNeg) := inb_of S1005 hin3
  have hat1005 : cl1005.slots[(j3).toNatClampNeg]? = some (.long x3) := atH H1005 hin1005 hat3
  refine Goal.step (T' := T1004) (g' := (mkF m 39 #[.val (.ref a1), .val (.int p2), .val (.long ((((p2.toInt64) * (w1.toInt64)) + (99 : Int64)) / (100 : Int64))), .second] [(.long x3)])) ?_ (fun t k => X1004.laload hx (j := j3) (v := (.long x3)) (by rw [e1004]; exact Ar1005.1) (State.isArrayOf_alike hZ.alike Ar1005.2.1) Ar1005.2.2 hin1005 hat1005 (g := (mkF m 38 #[.val (.ref a1), .val (.int p2), .val (.long ((((p2.toInt64) * (w1.toInt64)) + (99 : Int64)) / (100 : Int64))), .second] [(.int j3), (.ref b2)])) rfl rfl (hb hby d5_38) _ k)
  obtain ⟨v1006, T1006, h1006, L1006, X1006, e1006, hQ1006, st1006⟩ := callStatic X1004 hx hZ hown (hw _ (List.mem_of_getElem? (i := 35) rfl)) (hw _ (List.mem_of_getElem? (i := 36) rfl)) (hw _ (List.mem_of_getElem? (i := 37) rfl)) (hw _ (List.mem_of_getElem? (i := 38) rfl)) (by decide) (rmLV l Z a0 hw x3  ca cc h0 n0 (by omega)  S0 Bx O0) e1004 (W := 0) (by decide) (by decide) (by decide) (by decide) (g := (mkF m 39 #[.val (.ref a1), .val (.int p2), .val (.long ((((p2.toInt64) * (w1.toInt64)) + (99 : Int64)) / (100 : Int64))), .second] [(.long x3)])) rfl (by rw [hml]; rfl) (argsL := [(.long x3)]) (rest := []) (lenOf pd_4 rfl) rfl (by show 2 * 0 + _ ≤ _; exact Nat.le_of_eq rfl) (hb hby d5_39) rfl
  obtain ⟨b1006, rfl, M1006, K1006, Eb1006, Fb1006⟩ := hQ1006
  have N1006 := Fr.app N1004 M1006
  refine Goal.step (T' := T1006) (g' := (mkF m 42 #[.val (.ref a1), .val (.int p2), .val (.long ((((p2.toInt64) * (w1.toInt64)) + (99 : Int64)) / (100 : Int64))), .second] [(.ref b1006)])) ?_ st1006
  have sz1007 : h0.size ≤ h1006.size := K1006.1
  refine Goal.retA X1006 hx hret rfl rfl rfl (hb hby d5_42) ?_
  have k1008 : Keep h0 h1006 [] := ((Keep.refl h0 []).trans K1006 all0)
  refine ⟨?_, by decide, by decide⟩
  rw [e1006]
  exact ⟨b1006, rfl, N1006, k1008, Eb1006, Fb1006⟩
theorem pd_5 : parseMethodDescriptor "()I" = some ⟨[], some .int⟩ := by decide +kernel
theorem pd_6 : parseMethodDescriptor "(I)Ljava/lang/Long;" = some ⟨[.int], some (.object "java/lang/Long")⟩ := by decide +kernel
theorem pd_7 : parseMethodDescriptor "(Ljava/lang/Long;J)Z" = some ⟨[(.object "java/lang/Long"), .long], some .boolean⟩ := by decide +kernel
theorem ef_0 (m : MethodId) (x0 : Int64) (x1 : Int64) (x2 : Int64) : entryFrame m #[(.long x0), (.long x1), (.long x2)] maxLocals = mkF m 0 #[.val (.long x0), .second, .val (.long x1), .second, .val (.long x2), .second, .unset] [] := by first | (simp [entryFrame, mkF, argsToLocals, Value.category, maxLocals]; done) | rfl
set_option maxRecDepth 65536 in
set_option maxHeartbeats 40000000 in
theorem rm0 (l : Launch) (Z : State) (a0 : Array Value) (hw : ∀ d ∈ tables_1, d.before a0 Z = true) (q1 q2 q3 : Int64) (ca : Nat) (cc : Cell) (h0 : Heap) (n0 : Nat) (Z0 : n0 ≤ h0.size) (S0 : Sta Z Z.heap "java/lang/Long$LongCache" "cache" "[Ljava/lang/Long;" (.ref ca)) (Bx : Bxs Z ca cc "java/lang/Long" "J" (256 : Int32) bxv) (O0 : Old Z n0 h0) :
    Met l x code maxLocals ret tables_1 room_1 Z #[(.long q1), (.long q2), (.long q3)] h0 (fun v h L => v = some (.int 1) ∧ Fr n0 L) := by
  refine of_goal (plainFor_of_name (by first | (simp [plainName, overriddenIn]; done) | decide +kernel)) ?_
  intro p e s m below meth c s₁ C X0 e0
  have C0 := C
  obtain ⟨hx, hZ, hby, hml, hret, hown, hnm⟩ := C
  have hown : s.vm.findClass "com/example/latch2/latch2/bench/DelaysAddPinLaw" = some m.cls := hown
  have hret : meth.sig.returnType = (some .boolean) := hret
  have N0 := Fr.nil n0
  rw [ef_0]
  obtain ⟨T1001, h1001, X1001, e1001, E1001, A1001, D1001, -, st1001⟩ := newO X0 hx hZ hown (hw _ (List.mem_of_getElem? (i := 0) rfl)) (hw _ (List.mem_of_getElem? (i := 1) rfl)) (hw _ (List.mem_of_getElem? (i := 2) rfl)) e0 (g := (mkF m 0 #[.val (.long q1), .second, .val (.long q2), .second, .val (.long q3), .second, .unset] [])) rfl (hb hby at_0) (by decide) (by decide)
  obtain ⟨b1001, g1001⟩ : ∃ z, z = h0.size := ⟨_, rfl⟩
  rw [← g1001] at A1001 D1001 st1001
  refine Goal.step (T' := T1001) (g' := (mkF m 3 #[.val (.long q1), .second, .val (.long q2), .second, .val (.long q3), .second, .unset] [(.ref b1001)])) ?_ st1001
  have sz1002 : h0.size ≤ h1001.size := E1001.1
  have lt_b1001 : b1001 < h1001.size := A1001.lt
  refine Goal.step (T' := T1001) (g' := (mkF m 4 #[.val (.long q1), .second, .val (.long q2), .second, .val (.long q3), .second, .unset] [(.ref b1001), (.ref b1001)])) ?_ (fun t k => XS.dup X1001.here hx rfl (hb hby at_3) rfl rfl k)
  obtain ⟨v1003, T1003, h1003, L1003, X1003, e1003, hQ1003, st1003⟩ := callInit X1001 hx hZ hown rfl (hw _ (List.mem_of_getElem? (i := 3) rfl)) (hw _ (List.mem_of_getElem? (i := 4) rfl)) (hw _ (List.mem_of_getElem? (i := 2) rfl)) (hw _ (List.mem_of_getElem? (i := 5) rfl)) (by decide) (rmDI l Z a0 hw b1001 .null (.int (0 : Int32)) h1001 n0 (by omega) A1001 (D1001 (Or.inl (hw _ (List.mem_of_getElem? (i := 11) rfl))) (ty := (.array .long)) (by decide)) (D1001 (Or.inl (hw _ (List.mem_of_getElem? (i := 18) rfl))) (ty := .int) (by decide)) (by omega) (by omega)) e1001 (W := 1) (by decide) (by decide) (by decide) (by decide) (g := (mkF m 4 #[.val (.long q1), .second, .val (.long q2), .second, .val (.long q3), .second, .unset] [(.ref b1001), (.ref b1001)])) rfl (by rw [hml]; rfl) (a := b1001) (argsL := []) (rest := [(.ref b1001)]) (lenOf pd_0 rfl) rfl (by show 2 * 0 + _ ≤ _; exact Nat.le_of_eq rfl) (hb hby at_4) rfl
  obtain ⟨rfl, M1003, K1003, Fi1003, b1003, k1003, Fa1003, A1003, lo1003, hi1003⟩ := hQ1003
  have N1003 := Fr.app N0 M1003
  refine Goal.step (T' := T1003) (g' := (mkF m 7 #[.val (.long q1), .second, .val (.long q2), .second, .val (.long q3), .second, .unset] [(.ref b1001)])) ?_ st1003
  have sz1004 : h1001.size ≤ h1003.size := K1003.1
  refine Goal.step (T' := T1003) (g' := (mkF m 9 #[.val (.long q1), .second, .val (.long q2), .second, .val (.long q3), .second, .val (.ref b1001)] [])) ?_ (fun t k => XS.astore X1003.here hx rfl (hb hby at_7) rfl rfl (l' := #[.val (.long q1), .second, .val (.long q2), .second, .val (.long q3), .second, .val (.ref b1001)]) rfl k)
  refine Goal.step (T' := T1003) (g' := (mkF m 11 #[.val (.long q1), .second, .val (.long q2), .second, .val (.long q3), .second, .val (.ref b1001)] [(.ref b1001)])) ?_ (fun t k => XS.aload X1003.here hx rfl (hb hby at_9) rfl rfl k)
  have f1006 : Exa Z h1003 b1001 "com/example/latch2/latch2/bench/Delays" := (A1001.keep K1003)
  obtain ⟨v1005, T1005, h1005, L1005, X1005, e1005, hQ1005, st1005⟩ := callVirt X1003 hx hZ hown (hw _ (List.mem_of_getElem? (i := 12) rfl)) (hw _ (List.mem_of_getElem? (i := 13) rfl)) (notFace_of_selects (args := #[]) (mvT hZ (hw _ (List.mem_of_getElem? (i := 15) rfl)))) (hw _ (List.mem_of_getElem? (i := 15) rfl)) (hw _ (List.mem_of_getElem? (i := 14) rfl)) (hw _ (List.mem_of_getElem? (i := 2) rfl)) (hw _ (List.mem_of_getElem? (i := 16) rfl)) (by decide) (rmSZ l Z a0 hw b1001 (0 : Int32) h1003 n0 (by omega) Fi1003) e1003 f1006 (W := 0) (by decide) (by decide) (by decide) (by decide) (g := (mkF m 11 #[.val (.long q1), .second, .val (.long q2), .second, .val (.long q3), .second, .val (.ref b1001)] [(.ref b1001)])) rfl (by rw [hml]; rfl) (argsL := []) (rest := []) (lenOf pd_5 rfl) rfl (by show 2 * 0 + _ ≤ _; exact Nat.le_of_eq rfl) (hb hby at_11) rfl
  obtain ⟨rfl, M1005, q1005⟩ := hQ1005
  rw [q1005] at e1005
  have N1005 := Fr.app N1003 M1005
  refine Goal.step (T' := T1005) (g' := (mkF m 14 #[.val (.long q1), .second, .val (.long q2), .second, .val (.long q3), .second, .val (.ref b1001)] [(.int (0 : Int32))])) ?_ st1005
  refine Goal.step (T' := T1005) (g' := (mkF m 19 #[.val (.long q1), .second, .val (.long q2), .second, .val (.long q3), .second, .val (.ref b1001)] [])) ?_ (fun t k => XS.ifYes X1005.here hx rfl (pc0 := 14) (pc' := 19) rfl (hb hby at_14) rfl ((if0 _ _).trans (teq (by decide)).1) (by decide) (by decide) k)
  refine Goal.step (T' := T1005) (g' := (mkF m 21 #[.val (.long q1), .second, .val (.long q2), .second, .val (.long q3), .second, .val (.ref b1001)] [(.ref b1001)])) ?_ (fun t k => XS.aload X1005.here hx rfl (hb hby at_19) rfl rfl k)
  refine Goal.step (T' := T1005) (g' := (mkF m 22 #[.val (.long q1), .second, .val (.long q2), .second, .val (.long q3), .second, .val (.ref b1001)] [(.long q1), (.ref b1001)])) ?_ (fun t k => XS.lloadN X1005.here hx rfl (hb hby at_21) rfl k)
  obtain ⟨v1007, T1007, h1007, L1007, X1007, e1007, hQ1007, st1007⟩ := callVirt X1005 hx hZ hown (hw _ (List.mem_of_getElem? (i := 19) rfl)) (hw _ (List.mem_of_getElem? (i := 20) rfl)) (notFace_of_selects (args := #[]) (mvT hZ (hw _ (List.mem_of_getElem? (i := 22) rfl)))) (hw _ (List.mem_of_getElem? (i := 22) rfl)) (hw _ (List.mem_of_getElem? (i := 21) rfl)) (hw _ (List.mem_of_getElem? (i := 2) rfl)) (hw _ (List.mem_of_getElem? (i := 23) rfl)) (by decide) (rmAD l Z a0 hw b1001 q1 (0 : Int32) b1003 k1003 [] h1003 n0 (by omega) f1006 Fa1003 Fi1003 A1003 (by decide) (by decide) (by omega) (by omega) (by omega)) e1005 f1006 (W := 0) (by decide) (by decide) (by decide) (by decide) (g := (mkF m 22 #[.val (.long q1), .second, .val (.long q2), .second, .val (.long q3), .second, .val (.ref b1001)] [(.long q1), (.ref b1001)])) rfl (by rw [hml]; rfl) (argsL := [(.long q1)]) (rest := []) (lenOf pd_1 rfl) rfl (by show 2 * 0 + _ ≤ _; exact Nat.le_of_eq rfl) (hb hby at_22) rfl
  obtain ⟨rfl, M1007, K1007, Fa1007, Fi1007, A1007⟩ := hQ1007
  have N1007 := Fr.app N1005 M1007
  refine Goal.step (T' := T1007) (g' := (mkF m 25 #[.val (.long q1), .second, .val (.long q2), .second, .val (.long q3), .second, .val (.ref b1001)] [])) ?_ st1007
  have sz1008 : h1003.size ≤ h1007.size := K1007.1
  refine Goal.step (T' := T1007) (g' := (mkF m 27 #[.val (.long q1), .second, .val (.long q2), .second, .val (.long q3), .second, .val (.ref b1001)] [(.ref b1001)])) ?_ (fun t k => XS.aload X1007.here hx rfl (hb hby at_25) rfl rfl k)
  refine Goal.step (T' := T1007) (g' := (mkF m 29 #[.val (.long q1), .second, .val (.long q2), .second, .val (.long q3), .second, .val (.ref b1001)] [(.int (100 : Int32)), (.ref b1001)])) ?_ (fun t k => XS.bipush X1007.here hx rfl (hb hby at_27) k)
  have f1010 : Old Z n0 h1007 := (((O0.ext E1001).keep K1003 (allS (by omega) all0)).keep K1007 (allS (by omega) (allS (by omega) all0)))
  have f1011 : Exa Z h1007 b1001 "com/example/latch2/latch2/bench/Delays" := (f1006.keep K1007)
  obtain ⟨v1009, T1009, h1009, L1009, X1009, e1009, hQ1009, st1009⟩ := callVirt X1007 hx hZ hown (hw _ (List.mem_of_getElem? (i := 24) rfl)) (hw _ (List.mem_of_getElem? (i := 25) rfl)) (notFace_of_selects (args := #[]) (mvT hZ (hw _ (List.mem_of_getElem? (i := 27) rfl)))) (hw _ (List.mem_of_getElem? (i := 27) rfl)) (hw _ (List.mem_of_getElem? (i := 26) rfl)) (hw _ (List.mem_of_getElem? (i := 2) rfl)) (hw _ (List.mem_of_getElem? (i := 28) rfl)) (by decide) (rmPC l Z a0 hw b1001 (100 : Int32) (1 : Int32) b1003 k1003 (((0 : Int32), (.long q1)) :: []) (0 : Int32) q1 ca cc h1007 n0 (by omega) f1011 Fa1007 Fi1007 A1007 (by decide) (by decide) (by decide) rfl S0 Bx f1010) e1007 f1011 (W := 0) (by decide) (by decide) (by decide) (by decide) (g := (mkF m 29 #[.val (.long q1), .second, .val (.long q2), .second, .val (.long q3), .second, .val (.ref b1001)] [(.int (100 : Int32)), (.ref b1001)])) rfl (by rw [hml]; rfl) (argsL := [(.int (100 : Int32))]) (rest := []) (lenOf pd_6 rfl) rfl (by show 2 * 0 + _ ≤ _; exact Nat.le_of_eq rfl) (hb hby at_29) rfl
  obtain ⟨b1009, rfl, M1009, K1009, Eb1009, Fb1009⟩ := hQ1009
  have N1009 := Fr.app N1007 M1009
  refine Goal.step (T' := T1009) (g' := (mkF m 32 #[.val (.long q1), .second, .val (.long q2), .second, .val (.long q3), .second, .val (.ref b1001)] [(.ref b1009)])) ?_ st1009
  have sz1012 : h1007.size ≤ h1009.size := K1009.1
  refine Goal.step (T' := T1009) (g' := (mkF m 33 #[.val (.long q1), .second, .val (.long q2), .second, .val (.long q3), .second, .val (.ref b1001)] [(.long q1), (.ref b1009)])) ?_ (fun t k => XS.lloadN X1009.here hx rfl (hb hby at_32) rfl k)
  obtain ⟨v1013, T1013, h1013, L1013, X1013, e1013, hQ1013, st1013⟩ := callStatic X1009 hx hZ hown (hw _ (List.mem_of_getElem? (i := 43) rfl)) (hw _ (List.mem_of_getElem? (i := 44) rfl)) (hw _ (List.mem_of_getElem? (i := 45) rfl)) (hw _ (List.mem_of_getElem? (i := 46) rfl)) (by decide) (rmIS l Z a0 hw b1009 q1 h1009 n0 (by omega) Eb1009 Fb1009) e1009 (W := 0) (by decide) (by decide) (by decide) (by decide) (g := (mkF m 33 #[.val (.long q1), .second, .val (.long q2), .second, .val (.long q3), .second, .val (.ref b1001)] [(.long q1), (.ref b1009)])) rfl (by rw [hml]; rfl) (argsL := [(.ref b1009), (.long q1)]) (rest := []) (lenOf pd_7 rfl) rfl (by show 2 * 0 + _ ≤ _; exact Nat.le_of_eq rfl) (hb hby at_33) rfl
  obtain ⟨rfl, M1013, q1013⟩ := hQ1013
  rw [q1013] at e1013
  have N1013 := Fr.app N1009 M1013
  refine Goal.step (T' := T1013) (g' := (mkF m 36 #[.val (.long q1), .second, .val (.long q2), .second, .val (.long q3), .second, .val (.ref b1001)] [(.int (1 : Int32))])) ?_ st1013
  refine Goal.step (T' := T1013) (g' := (mkF m 41 #[.val (.long q1), .second, .val (.long q2), .second, .val (.long q3), .second, .val (.ref b1001)] [])) ?_ (fun t k => XS.ifYes X1013.here hx rfl (pc0 := 36) (pc' := 41) rfl (hb hby at_36) rfl ((if0 _ _).trans (feq (by decide)).2) (by decide) (by decide) k)
  refine Goal.step (T' := T1013) (g' := (mkF m 43 #[.val (.long q1), .second, .val (.long q2), .second, .val (.long q3), .second, .val (.ref b1001)] [(.ref b1001)])) ?_ (fun t k => XS.aload X1013.here hx rfl (hb hby at_41) rfl rfl k)
  refine Goal.step (T' := T1013) (g' := (mkF m 44 #[.val (.long q1), .second, .val (.long q2), .second, .val (.long q3), .second, .val (.ref b1001)] [(.long q2), (.ref b1001)])) ?_ (fun t k => XS.lloadN X1013.here hx rfl (hb hby at_43) rfl k)
  have f1015 : Exa Z h1009 b1001 "com/example/latch2/latch2/bench/Delays" := (f1011.keep K1009)
  have f1016 : Fld Z h1009 b1001 "com/example/latch2/latch2/bench/Delays" "samples" "[J" (.ref b1003) := (Fa1007.keep K1009 nin0)
  have f1017 : Fld Z h1009 b1001 "com/example/latch2/latch2/bench/Delays" "size" "I" (.int (1 : Int32)) := (Fi1007.keep K1009 nin0)
  have f1018 : Arh Z h1009 b1003 k1003 .long (1024 : Int32) (((0 : Int32), (.long q1)) :: []) [] (.long (0 : Int64)) := (A1007.keep K1009 nin0)
  obtain ⟨v1014, T1014, h1014, L1014, X1014, e1014, hQ1014, st1014⟩ := callVirt X1013 hx hZ hown (hw _ (List.mem_of_getElem? (i := 19) rfl)) (hw _ (List.mem_of_getElem? (i := 20) rfl)) (notFace_of_selects (args := #[]) (mvT hZ (hw _ (List.mem_of_getElem? (i := 22) rfl)))) (hw _ (List.mem_of_getElem? (i := 22) rfl)) (hw _ (List.mem_of_getElem? (i := 21) rfl)) (hw _ (List.mem_of_getElem? (i := 2) rfl)) (hw _ (List.mem_of_getElem? (i := 23) rfl)) (by decide) (rmAD l Z a0 hw b1001 q2 (1 : Int32) b1003 k1003 (((0 : Int32), (.long q1)) :: []) h1009 n0 (by omega) f1015 f1016 f1017 f1018 (by decide) (by decide) (by omega) (by omega) (by omega)) e1013 f1015 (W := 0) (by decide) (by decide) (by decide) (by decide) (g := (mkF m 44 #[.val (.long q1), .second, .val (.long q2), .second, .val (.long q3), .second, .val (.ref b1001)] [(.long q2), (.ref b1001)])) rfl (by rw [hml]; rfl) (argsL := [(.long q2)]) (rest := []) (lenOf pd_1 rfl) rfl (by show 2 * 0 + _ ≤ _; exact Nat.le_of_eq rfl) (hb hby at_44) rfl
  obtain ⟨rfl, M1014, K1014, Fa1014, Fi1014, A1014⟩ := hQ1014
  have N1014 := Fr.app N1013 M1014
  refine Goal.step (T' := T1014) (g' := (mkF m 47 #[.val (.long q1), .second, .val (.long q2), .second, .val (.long q3), .second, .val (.ref b1001)] [])) ?_ st1014
  have sz1019 : h1009.size ≤ h1014.size := K1014.1
  refine Goal.step (T' := T1014) (g' := (mkF m 49 #[.val (.long q1), .second, .val (.long q2), .second, .val (.long q3), .second, .val (.ref b1001)] [(.ref b1001)])) ?_ (fun t k => XS.aload X1014.here hx rfl (hb hby at_47) rfl rfl k)
  refine Goal.step (T' := T1014) (g' := (mkF m 51 #[.val (.long q1), .second, .val (.long q2), .second, .val (.long q3), .second, .val (.ref b1001)] [(.long q3), (.ref b1001)])) ?_ (fun t k => XS.lload X1014.here hx rfl (hb hby at_49) rfl k)
  have f1021 : Exa Z h1014 b1001 "com/example/latch2/latch2/bench/Delays" := (f1015.keep K1014)
  obtain ⟨v1020, T1020, h1020, L1020, X1020, e1020, hQ1020, st1020⟩ := callVirt X1014 hx hZ hown (hw _ (List.mem_of_getElem? (i := 19) rfl)) (hw _ (List.mem_of_getElem? (i := 20) rfl)) (notFace_of_selects (args := #[]) (mvT hZ (hw _ (List.mem_of_getElem? (i := 22) rfl)))) (hw _ (List.mem_of_getElem? (i := 22) rfl)) (hw _ (List.mem_of_getElem? (i := 21) rfl)) (hw _ (List.mem_of_getElem? (i := 2) rfl)) (hw _ (List.mem_of_getElem? (i := 23) rfl)) (by decide) (rmAD l Z a0 hw b1001 q3 (2 : Int32) b1003 k1003 (((1 : Int32), (.long q2)) :: (((0 : Int32), (.long q1)) :: [])) h1014 n0 (by omega) f1021 Fa1014 Fi1014 A1014 (by decide) (by decide) (by omega) (by omega) (by omega)) e1014 f1021 (W := 0) (by decide) (by decide) (by decide) (by decide) (g := (mkF m 51 #[.val (.long q1), .second, .val (.long q2), .second, .val (.long q3), .second, .val (.ref b1001)] [(.long q3), (.ref b1001)])) rfl (by rw [hml]; rfl) (argsL := [(.long q3)]) (rest := []) (lenOf pd_1 rfl) rfl (by show 2 * 0 + _ ≤ _; exact Nat.le_of_eq rfl) (hb hby at_51) rfl
  obtain ⟨rfl, M1020, K1020, Fa1020, Fi1020, A1020⟩ := hQ1020
  have N1020 := Fr.app N1014 M1020
  refine Goal.step (T' := T1020) (g' := (mkF m 54 #[.val (.long q1), .second, .val (.long q2), .second, .val (.long q3), .second, .val (.ref b1001)] [])) ?_ st1020
  have sz1022 : h1014.size ≤ h1020.size := K1020.1
  refine Goal.step (T' := T1020) (g' := (mkF m 56 #[.val (.long q1), .second, .val (.long q2), .second, .val (.long q3), .second, .val (.ref b1001)] [(.ref b1001)])) ?_ (fun t k => XS.aload X1020.here hx rfl (hb hby at_54) rfl rfl k)
  have f1024 : Exa Z h1020 b1001 "com/example/latch2/latch2/bench/Delays" := (f1021.keep K1020)
  obtain ⟨v1023, T1023, h1023, L1023, X1023, e1023, hQ1023, st1023⟩ := callVirt X1020 hx hZ hown (hw _ (List.mem_of_getElem? (i := 12) rfl)) (hw _ (List.mem_of_getElem? (i := 13) rfl)) (notFace_of_selects (args := #[]) (mvT hZ (hw _ (List.mem_of_getElem? (i := 15) rfl)))) (hw _ (List.mem_of_getElem? (i := 15) rfl)) (hw _ (List.mem_of_getElem? (i := 14) rfl)) (hw _ (List.mem_of_getElem? (i := 2) rfl)) (hw _ (List.mem_of_getElem? (i := 16) rfl)) (by decide) (rmSZ l Z a0 hw b1001 (3 : Int32) h1020 n0 (by omega) Fi1020) e1020 f1024 (W := 0) (by decide) (by decide) (by decide) (by decide) (g := (mkF m 56 #[.val (.long q1), .second, .val (.long q2), .second, .val (.long q3), .second, .val (.ref b1001)] [(.ref b1001)])) rfl (by rw [hml]; rfl) (argsL := []) (rest := []) (lenOf pd_5 rfl) rfl (by show 2 * 0 + _ ≤ _; exact Nat.le_of_eq rfl) (hb hby at_56) rfl
  obtain ⟨rfl, M1023, q1023⟩ := hQ1023
  rw [q1023] at e1023
  have N1023 := Fr.app N1020 M1023
  refine Goal.step (T' := T1023) (g' := (mkF m 59 #[.val (.long q1), .second, .val (.long q2), .second, .val (.long q3), .second, .val (.ref b1001)] [(.int (3 : Int32))])) ?_ st1023
  refine Goal.step (T' := T1023) (g' := (mkF m 60 #[.val (.long q1), .second, .val (.long q2), .second, .val (.long q3), .second, .val (.ref b1001)] [(.int (3 : Int32)), (.int (3 : Int32))])) ?_ (fun t k => XS.iconst X1023.here hx rfl (hb hby at_59) k)
  refine Goal.step (T' := T1023) (g' := (mkF m 65 #[.val (.long q1), .second, .val (.long q2), .second, .val (.long q3), .second, .val (.ref b1001)] [])) ?_ (fun t k => XS.icmpYes X1023.here hx rfl (pc0 := 60) (pc' := 65) rfl (hb hby at_60) rfl (teq (by decide)).1 (by decide) (by decide) k)
  refine Goal.step (T' := T1023) (g' := (mkF m 67 #[.val (.long q1), .second, .val (.long q2), .second, .val (.long q3), .second, .val (.ref b1001)] [(.ref b1001)])) ?_ (fun t k => XS.aload X1023.here hx rfl (hb hby at_65) rfl rfl k)
  refine Goal.step (T' := T1023) (g' := (mkF m 68 #[.val (.long q1), .second, .val (.long q2), .second, .val (.long q3), .second, .val (.ref b1001)] [(.int (1 : Int32)), (.ref b1001)])) ?_ (fun t k => XS.iconst X1023.here hx rfl (hb hby at_67) k)
  have f1026 : Old Z n0 h1020 := (((f1010.keep K1009 all0).keep K1014 (allS (by omega) (allS (by omega) all0))).keep K1020 (allS (by omega) (allS (by omega) all0)))
  obtain ⟨v1025, T1025, h1025, L1025, X1025, e1025, hQ1025, st1025⟩ := callVirt X1023 hx hZ hown (hw _ (List.mem_of_getElem? (i := 24) rfl)) (hw _ (List.mem_of_getElem? (i := 25) rfl)) (notFace_of_selects (args := #[]) (mvT hZ (hw _ (List.mem_of_getElem? (i := 27) rfl)))) (hw _ (List.mem_of_getElem? (i := 27) rfl)) (hw _ (List.mem_of_getElem? (i := 26) rfl)) (hw _ (List.mem_of_getElem? (i := 2) rfl)) (hw _ (List.mem_of_getElem? (i := 28) rfl)) (by decide) (rmPC l Z a0 hw b1001 (1 : Int32) (3 : Int32) b1003 k1003 (((2 : Int32), (.long q3)) :: (((1 : Int32), (.long q2)) :: (((0 : Int32), (.long q1)) :: []))) (0 : Int32) q1 ca cc h1020 n0 (by omega) f1024 Fa1020 Fi1020 A1020 (by decide) (by decide) (by decide) rfl S0 Bx f1026) e1023 f1024 (W := 0) (by decide) (by decide) (by decide) (by decide) (g := (mkF m 68 #[.val (.long q1), .second, .val (.long q2), .second, .val (.long q3), .second, .val (.ref b1001)] [(.int (1 : Int32)), (.ref b1001)])) rfl (by rw [hml]; rfl) (argsL := [(.int (1 : Int32))]) (rest := []) (lenOf pd_6 rfl) rfl (by show 2 * 0 + _ ≤ _; exact Nat.le_of_eq rfl) (hb hby at_68) rfl
  obtain ⟨b1025, rfl, M1025, K1025, Eb1025, Fb1025⟩ := hQ1025
  have N1025 := Fr.app N1023 M1025
  refine Goal.step (T' := T1025) (g' := (mkF m 71 #[.val (.long q1), .second, .val (.long q2), .second, .val (.long q3), .second, .val (.ref b1001)] [(.ref b1025)])) ?_ st1025
  have sz1027 : h1020.size ≤ h1025.size := K1025.1
  refine Goal.step (T' := T1025) (g' := (mkF m 72 #[.val (.long q1), .second, .val (.long q2), .second, .val (.long q3), .second, .val (.ref b1001)] [(.long q1), (.ref b1025)])) ?_ (fun t k => XS.lloadN X1025.here hx rfl (hb hby at_71) rfl k)
  obtain ⟨v1028, T1028, h1028, L1028, X1028, e1028, hQ1028, st1028⟩ := callStatic X1025 hx hZ hown (hw _ (List.mem_of_getElem? (i := 43) rfl)) (hw _ (List.mem_of_getElem? (i := 44) rfl)) (hw _ (List.mem_of_getElem? (i := 45) rfl)) (hw _ (List.mem_of_getElem? (i := 46) rfl)) (by decide) (rmIS l Z a0 hw b1025 q1 h1025 n0 (by omega) Eb1025 Fb1025) e1025 (W := 0) (by decide) (by decide) (by decide) (by decide) (g := (mkF m 72 #[.val (.long q1), .second, .val (.long q2), .second, .val (.long q3), .second, .val (.ref b1001)] [(.long q1), (.ref b1025)])) rfl (by rw [hml]; rfl) (argsL := [(.ref b1025), (.long q1)]) (rest := []) (lenOf pd_7 rfl) rfl (by show 2 * 0 + _ ≤ _; exact Nat.le_of_eq rfl) (hb hby at_72) rfl
  obtain ⟨rfl, M1028, q1028⟩ := hQ1028
  rw [q1028] at e1028
  have N1028 := Fr.app N1025 M1028
  refine Goal.step (T' := T1028) (g' := (mkF m 75 #[.val (.long q1), .second, .val (.long q2), .second, .val (.long q3), .second, .val (.ref b1001)] [(.int (1 : Int32))])) ?_ st1028
  refine Goal.step (T' := T1028) (g' := (mkF m 78 #[.val (.long q1), .second, .val (.long q2), .second, .val (.long q3), .second, .val (.ref b1001)] [])) ?_ (fun t k => XS.ifNo X1028.here hx rfl (hb hby at_75) rfl ((if0 _ _).trans (feq (by decide)).1) k)
  refine Goal.step (T' := T1028) (g' := (mkF m 80 #[.val (.long q1), .second, .val (.long q2), .second, .val (.long q3), .second, .val (.ref b1001)] [(.ref b1001)])) ?_ (fun t k => XS.aload X1028.here hx rfl (hb hby at_78) rfl rfl k)
  refine Goal.step (T' := T1028) (g' := (mkF m 82 #[.val (.long q1), .second, .val (.long q2), .second, .val (.long q3), .second, .val (.ref b1001)] [(.int (50 : Int32)), (.ref b1001)])) ?_ (fun t k => XS.bipush X1028.here hx rfl (hb hby at_80) k)
  have f1030 : Old Z n0 h1025 := (f1026.keep K1025 all0)
  have f1031 : Exa Z h1025 b1001 "com/example/latch2/latch2/bench/Delays" := (f1024.keep K1025)
  have f1032 : Fld Z h1025 b1001 "com/example/latch2/latch2/bench/Delays" "samples" "[J" (.ref b1003) := (Fa1020.keep K1025 nin0)
  have f1033 : Fld Z h1025 b1001 "com/example/latch2/latch2/bench/Delays" "size" "I" (.int (3 : Int32)) := (Fi1020.keep K1025 nin0)
  have f1034 : Arh Z h1025 b1003 k1003 .long (1024 : Int32) (((2 : Int32), (.long q3)) :: (((1 : Int32), (.long q2)) :: (((0 : Int32), (.long q1)) :: []))) [] (.long (0 : Int64)) := (A1020.keep K1025 nin0)
  obtain ⟨v1029, T1029, h1029, L1029, X1029, e1029, hQ1029, st1029⟩ := callVirt X1028 hx hZ hown (hw _ (List.mem_of_getElem? (i := 24) rfl)) (hw _ (List.mem_of_getElem? (i := 25) rfl)) (notFace_of_selects (args := #[]) (mvT hZ (hw _ (List.mem_of_getElem? (i := 27) rfl)))) (hw _ (List.mem_of_getElem? (i := 27) rfl)) (hw _ (List.mem_of_getElem? (i := 26) rfl)) (hw _ (List.mem_of_getElem? (i := 2) rfl)) (hw _ (List.mem_of_getElem? (i := 28) rfl)) (by decide) (rmPC l Z a0 hw b1001 (50 : Int32) (3 : Int32) b1003 k1003 (((2 : Int32), (.long q3)) :: (((1 : Int32), (.long q2)) :: (((0 : Int32), (.long q1)) :: []))) (1 : Int32) q2 ca cc h1025 n0 (by omega) f1031 f1032 f1033 f1034 (by decide) (by decide) (by decide) rfl S0 Bx f1030) e1028 f1031 (W := 0) (by decide) (by decide) (by decide) (by decide) (g := (mkF m 82 #[.val (.long q1), .second, .val (.long q2), .second, .val (.long q3), .second, .val (.ref b1001)] [(.int (50 : Int32)), (.ref b1001)])) rfl (by rw [hml]; rfl) (argsL := [(.int (50 : Int32))]) (rest := []) (lenOf pd_6 rfl) rfl (by show 2 * 0 + _ ≤ _; exact Nat.le_of_eq rfl) (hb hby at_82) rfl
  obtain ⟨b1029, rfl, M1029, K1029, Eb1029, Fb1029⟩ := hQ1029
  have N1029 := Fr.app N1028 M1029
  refine Goal.step (T' := T1029) (g' := (mkF m 85 #[.val (.long q1), .second, .val (.long q2), .second, .val (.long q3), .second, .val (.ref b1001)] [(.ref b1029)])) ?_ st1029
  have sz1035 : h1025.size ≤ h1029.size := K1029.1
  refine Goal.step (T' := T1029) (g' := (mkF m 86 #[.val (.long q1), .second, .val (.long q2), .second, .val (.long q3), .second, .val (.ref b1001)] [(.long q2), (.ref b1029)])) ?_ (fun t k => XS.lloadN X1029.here hx rfl (hb hby at_85) rfl k)
  obtain ⟨v1036, T1036, h1036, L1036, X1036, e1036, hQ1036, st1036⟩ := callStatic X1029 hx hZ hown (hw _ (List.mem_of_getElem? (i := 43) rfl)) (hw _ (List.mem_of_getElem? (i := 44) rfl)) (hw _ (List.mem_of_getElem? (i := 45) rfl)) (hw _ (List.mem_of_getElem? (i := 46) rfl)) (by decide) (rmIS l Z a0 hw b1029 q2 h1029 n0 (by omega) Eb1029 Fb1029) e1029 (W := 0) (by decide) (by decide) (by decide) (by decide) (g := (mkF m 86 #[.val (.long q1), .second, .val (.long q2), .second, .val (.long q3), .second, .val (.ref b1001)] [(.long q2), (.ref b1029)])) rfl (by rw [hml]; rfl) (argsL := [(.ref b1029), (.long q2)]) (rest := []) (lenOf pd_7 rfl) rfl (by show 2 * 0 + _ ≤ _; exact Nat.le_of_eq rfl) (hb hby at_86) rfl
  obtain ⟨rfl, M1036, q1036⟩ := hQ1036
  rw [q1036] at e1036
  have N1036 := Fr.app N1029 M1036
  refine Goal.step (T' := T1036) (g' := (mkF m 89 #[.val (.long q1), .second, .val (.long q2), .second, .val (.long q3), .second, .val (.ref b1001)] [(.int (1 : Int32))])) ?_ st1036
  refine Goal.step (T' := T1036) (g' := (mkF m 92 #[.val (.long q1), .second, .val (.long q2), .second, .val (.long q3), .second, .val (.ref b1001)] [])) ?_ (fun t k => XS.ifNo X1036.here hx rfl (hb hby at_89) rfl ((if0 _ _).trans (feq (by decide)).1) k)
  refine Goal.step (T' := T1036) (g' := (mkF m 94 #[.val (.long q1), .second, .val (.long q2), .second, .val (.long q3), .second, .val (.ref b1001)] [(.ref b1001)])) ?_ (fun t k => XS.aload X1036.here hx rfl (hb hby at_92) rfl rfl k)
  refine Goal.step (T' := T1036) (g' := (mkF m 96 #[.val (.long q1), .second, .val (.long q2), .second, .val (.long q3), .second, .val (.ref b1001)] [(.int (100 : Int32)), (.ref b1001)])) ?_ (fun t k => XS.bipush X1036.here hx rfl (hb hby at_94) k)
  have f1038 : Old Z n0 h1029 := (f1030.keep K1029 all0)
  have f1039 : Exa Z h1029 b1001 "com/example/latch2/latch2/bench/Delays" := (f1031.keep K1029)
  have f1040 : Fld Z h1029 b1001 "com/example/latch2/latch2/bench/Delays" "samples" "[J" (.ref b1003) := (f1032.keep K1029 nin0)
  have f1041 : Fld Z h1029 b1001 "com/example/latch2/latch2/bench/Delays" "size" "I" (.int (3 : Int32)) := (f1033.keep K1029 nin0)
  have f1042 : Arh Z h1029 b1003 k1003 .long (1024 : Int32) (((2 : Int32), (.long q3)) :: (((1 : Int32), (.long q2)) :: (((0 : Int32), (.long q1)) :: []))) [] (.long (0 : Int64)) := (f1034.keep K1029 nin0)
  obtain ⟨v1037, T1037, h1037, L1037, X1037, e1037, hQ1037, st1037⟩ := callVirt X1036 hx hZ hown (hw _ (List.mem_of_getElem? (i := 24) rfl)) (hw _ (List.mem_of_getElem? (i := 25) rfl)) (notFace_of_selects (args := #[]) (mvT hZ (hw _ (List.mem_of_getElem? (i := 27) rfl)))) (hw _ (List.mem_of_getElem? (i := 27) rfl)) (hw _ (List.mem_of_getElem? (i := 26) rfl)) (hw _ (List.mem_of_getElem? (i := 2) rfl)) (hw _ (List.mem_of_getElem? (i := 28) rfl)) (by decide) (rmPC l Z a0 hw b1001 (100 : Int32) (3 : Int32) b1003 k1003 (((2 : Int32), (.long q3)) :: (((1 : Int32), (.long q2)) :: (((0 : Int32), (.long q1)) :: []))) (2 : Int32) q3 ca cc h1029 n0 (by omega) f1039 f1040 f1041 f1042 (by decide) (by decide) (by decide) rfl S0 Bx f1038) e1036 f1039 (W := 0) (by decide) (by decide) (by decide) (by decide) (g := (mkF m 96 #[.val (.long q1), .second, .val (.long q2), .second, .val (.long q3), .second, .val (.ref b1001)] [(.int (100 : Int32)), (.ref b1001)])) rfl (by rw [hml]; rfl) (argsL := [(.int (100 : Int32))]) (rest := []) (lenOf pd_6 rfl) rfl (by show 2 * 0 + _ ≤ _; exact Nat.le_of_eq rfl) (hb hby at_96) rfl
  obtain ⟨b1037, rfl, M1037, K1037, Eb1037, Fb1037⟩ := hQ1037
  have N1037 := Fr.app N1036 M1037
  refine Goal.step (T' := T1037) (g' := (mkF m 99 #[.val (.long q1), .second, .val (.long q2), .second, .val (.long q3), .second, .val (.ref b1001)] [(.ref b1037)])) ?_ st1037
  have sz1043 : h1029.size ≤ h1037.size := K1037.1
  refine Goal.step (T' := T1037) (g' := (mkF m 101 #[.val (.long q1), .second, .val (.long q2), .second, .val (.long q3), .second, .val (.ref b1001)] [(.long q3), (.ref b1037)])) ?_ (fun t k => XS.lload X1037.here hx rfl (hb hby at_99) rfl k)
  obtain ⟨v1044, T1044, h1044, L1044, X1044, e1044, hQ1044, st1044⟩ := callStatic X1037 hx hZ hown (hw _ (List.mem_of_getElem? (i := 43) rfl)) (hw _ (List.mem_of_getElem? (i := 44) rfl)) (hw _ (List.mem_of_getElem? (i := 45) rfl)) (hw _ (List.mem_of_getElem? (i := 46) rfl)) (by decide) (rmIS l Z a0 hw b1037 q3 h1037 n0 (by omega) Eb1037 Fb1037) e1037 (W := 0) (by decide) (by decide) (by decide) (by decide) (g := (mkF m 101 #[.val (.long q1), .second, .val (.long q2), .second, .val (.long q3), .second, .val (.ref b1001)] [(.long q3), (.ref b1037)])) rfl (by rw [hml]; rfl) (argsL := [(.ref b1037), (.long q3)]) (rest := []) (lenOf pd_7 rfl) rfl (by show 2 * 0 + _ ≤ _; exact Nat.le_of_eq rfl) (hb hby at_101) rfl
  obtain ⟨rfl, M1044, q1044⟩ := hQ1044
  rw [q1044] at e1044
  have N1044 := Fr.app N1037 M1044
  refine Goal.step (T' := T1044) (g' := (mkF m 104 #[.val (.long q1), .second, .val (.long q2), .second, .val (.long q3), .second, .val (.ref b1001)] [(.int (1 : Int32))])) ?_ st1044
  refine Goal.step (T' := T1044) (g' := (mkF m 107 #[.val (.long q1), .second, .val (.long q2), .second, .val (.long q3), .second, .val (.ref b1001)] [])) ?_ (fun t k => XS.ifNo X1044.here hx rfl (hb hby at_104) rfl ((if0 _ _).trans (feq (by decide)).1) k)
  refine Goal.step (T' := T1044) (g' := (mkF m 108 #[.val (.long q1), .second, .val (.long q2), .second, .val (.long q3), .second, .val (.ref b1001)] [(.int (1 : Int32))])) ?_ (fun t k => XS.iconst X1044.here hx rfl (hb hby at_107) k)
  refine Goal.step (T' := T1044) (g' := (mkF m 112 #[.val (.long q1), .second, .val (.long q2), .second, .val (.long q3), .second, .val (.ref b1001)] [(.int (1 : Int32))])) ?_ (fun t k => XS.goto X1044.here hx rfl (pc0 := 108) (pc' := 112) rfl (hb hby at_108) (by decide) (by decide) k)
  refine Goal.retN (t := .boolean) X1044 hx hret (by simp) (hb hby at_112) ?_
  exact ⟨⟨rfl, N1044⟩, by decide, by decide⟩
set_option maxRecDepth 65536 in
set_option maxHeartbeats 40000000 in
theorem comes_1 {Post : Tables → Env → Array Value → State → Outcome → State → Prop} (hpost : ∀ tb e args s v u, (limb_1_1.after args s (.returned v) u = true ∧ limb_1_2.after args s (.returned v) u = true ∧ True) → FrameEnd s (.returned v) u (Jvm.fieldLocs frame_1_writes args s ++ Jvm.arrayLocs frame_1_arrays args s ++ Jvm.staticLocs frame_1_statics s) 24 2176 → Post tb e args s (.returned v) u) :
    ArmFor flags0 classFile x code maxLocals ret World_1 tables_1 room_1 Calls_1 rest_1 Pre_1 Post := by
  intro l hfl _ _ p e ha hc hk s m args below hf hA hF happ hP
  obtain ⟨hcalls, hrest, hpre⟩ := hP
  obtain ⟨-, -, -, hnamed, -, -, -, hat⟩ := (Spec.applies_iff hf).mp happ
  obtain ⟨hg, hn⟩ := and_e (Cond.before_iff.mp (show (Jvm.Cond.and given_1 narrow_1).before args s = true from hpre))
  obtain ⟨gc, gr0⟩ := and_e hg
  obtain ⟨ga0, gr1⟩ := and_e gr0
  obtain ⟨ga1, gr2⟩ := and_e gr1
  obtain ⟨w0, w1, w2, rfl⟩ : ∃ w0 w1 w2 : Value, args = #[w0, w1, w2] := by
    have hs : args.size = 3 := by simpa [Cond.value, given_1] using gc
    obtain ⟨L⟩ := args
    match L, hs with
    | [w0, w1, w2], _ => exact ⟨w0, w1, w2, rfl⟩
  have hw := fun d (hd : d ∈ tables_1) => atoms_spec (ws := Jvm.Cond.code x code maxLocals ret :: tables_1) hat d (List.mem_cons_of_mem _ hd)
  have hfit : Fit s := fun {y c} hc i hi => by
    obtain ⟨ha, rfl⟩ := Array.getElem?_eq_some_iff.mp hc
    have q := List.all_eq_true.mp ((Array.all_eq_true_iff_forall_mem.mp hF) _ (Array.getElem_mem ha)) i (List.mem_range.mpr hi)
    simpa [Array.getElem?_eq_getElem hi] using q
  obtain ⟨hsets, hown0⟩ := atoms_of _ (rest_1_c_eq ▸ (show rest_1_c.before _ s = true from hrest))
  have hr0 := Cond.before_iff.mp hown0
  obtain ⟨i0, ei0⟩ := isL_v ga0
  obtain rfl : w0 = (.long i0) := Option.some.inj ei0
  obtain ⟨i1, ei1⟩ := isL_v ga1
  obtain rfl : w1 = (.long i1) := Option.some.inj ei1
  obtain ⟨i2, ei2⟩ := isL_v gr2
  obtain rfl : w2 = (.long i2) := Option.some.inj ei2
  obtain ⟨ca, _, _, _, e1, -⟩ := Cond.exactly_spec (hsets _ (List.mem_of_getElem? (i := 3) rfl))
  have S0 := Sta.start e1 (Or.inl (hsets _ (List.mem_of_getElem? (i := 1) rfl)))
  obtain ⟨cc, Ac⟩ := Arr.start e1 (Cond.before_iff.mp (hsets _ (List.mem_of_getElem? (i := 2) rfl)))
  have l4 := eqv_i (y := 256) rfl (Cond.before_iff.mp (hsets _ (List.mem_of_getElem? (i := 4) rfl)))
  have hlt := own_len e1 (Ac.fin (Vm.Alike.refl _)) l4
  have h256 : cc.slots.size.toInt32 = 256 := by have q := (len_f e1 (Ac.fin (Vm.Alike.refl _)) hlt).symm.trans l4; injection q with q; injection q
  have Bx : Bxs s ca cc "java/lang/Long" "J" (256 : Int32) bxv := Bxs.start (fun _ => e1) Ac hlt h256 (by decide) (Cond.before_iff.mp (hsets _ (List.mem_of_getElem? (i := 5) rfl))) (fun X j nn h => eqv_l (own_sub nn) h)
  obtain ⟨n, o, h1, h2, h3, _, L, rfl, ⟨rfl, N⟩, hq⟩ := rm0 l s _ hw i0 i1 i2 ca cc s.heap s.heap.size (Nat.le_refl _) S0 Bx (Old.start s) p e ha hc hk s m _ below hf ((Spec.applies_iff_loose hf).mp happ).1 ⟨rfl, State.Warmed39.refl s, rfl⟩ trivial
  refine ⟨n, _, h1, h2, h3, hpost _ _ _ _ _ _ ⟨Cond.after_iff.mpr rfl, Cond.after_iff.mpr (eq_i res_at (Term.int_eval (1)) rfl), trivial⟩ ⟨hq.1, hq.2.1, (hq.2.2.sift fun y hy => Or.inr (N y hy)).mono (by decide) (by decide)⟩⟩
theorem main_1_1 : Claimed_1_1 := comes_1 fun _ _ _ _ _ _ h hF => ⟨h.1, hF⟩
theorem main_1_2 : Claimed_1_2 := comes_1 fun _ _ _ _ _ _ h hF => ⟨h.2.1, hF⟩
end Jvm.Pilot.@@N@@
namespace Jvm.Pilot.@@N@@
open Jvm Jvm.ClassFile Sem Op Lib Jvm.Free Jvm.Stand Jvm.Pilot.@@N@@.Jvm.D
/-! MADE BY PROGRAM (witnessworld.py) out of the Statement's table words and the real class files: 19 classes; the members and pool entries that the words name. The judged class is class 1, her method 2. -/
namespace start1
open Jvm.ClassFile
def u (s : String) : CpInfo := .utf8 (stringToUtf16 s)
/-- a pool by its gaps: so many unusable entries, then the entry; so many at the end -/
def gap : Nat → List CpInfo → List CpInfo
  | 0, r => r
  | n + 1, r => .unusable :: gap n r
def poolList (es : List (Nat × CpInfo)) (last : Nat) : List CpInfo := es.foldr (fun e r => gap e.1 (e.2 :: r)) (gap last [])
def pool (es : List (Nat × CpInfo)) (last : Nat) : Array CpInfo := ⟨poolList es last⟩
def fileOf (pool : Array CpInfo) (this : Nat) (attrs : Array Attribute := #[]) (ms : Array MethodInfo := #[]) (fl : Nat := 33) (sup : Nat := 0) (ifs : Array Nat := #[]) (fds : Array FieldInfo := #[]) : ClassFile where
  minorVersion := 0
  majorVersion := 65
  constantPool := pool
  accessFlags := fl
  thisClass := this
  superClass := sup
  interfaces := ifs
  fields := fds
  methods := ms
  attributes := attrs
def plain (name : String) (sup : Option ClassId) : Class where
  name := name
  kind := .ordinary
  loader := none
  accessFlags := 33
  super := sup
  interfaces := #[]
  cf := none
  fields := #[]
  methods := #[]
  instanceTypes := #[]
  staticTypes := #[]
  resolved := #[]
  callSites := []
  init := .initialized
  statics := none
  mirror := none

def pool0 : Array CpInfo := pool [(5, u "<init>"), (0, u "()V"), (1, .class_ 10), (1, u "java/lang/Object")] 113

def k0c0 : Code := { maxStack := 0, maxLocals := 1, code := object_method_1_code, exceptionTable := #[], attributes := #[] }
def k0m0 : Method := { name := "<init>", desc := "()V", sig := { parameters := [], returnType := none }, accessFlags := 1, code := some k0c0 }
/-- java/lang/Object -/
def k0 : Class := { plain "java/lang/Object" none with
  accessFlags := 33
  interfaces := #[]
  cf := some (fileOf pool0 8 #[] #[{ accessFlags := 1, nameIndex := 5, descriptorIndex := 6, attributes := #[] }] 33 0 #[] #[])
  fields := #[]
  methods := #[k0m0]
  instanceTypes := #[]
  staticTypes := #[]
  resolved := Array.replicate 124 none
  statics := none }

def pool1 : Array CpInfo := pool [(2, .class_ 4), (0, .nameAndType 5 6), (0, u "java/lang/Object"), (0, u "<init>"), (0, u "()V"), (0, .methodref 8 9), (0, .class_ 10), (0, .nameAndType 11 12), (0, u "java/lang/Long"), (0, u "longValue"), (0, u "()J"), (0, .class_ 14), (0, u "com/example/latch2/latch2/bench/Delays"), (0, .methodref 13 3), (0, .methodref 13 17), (0, .nameAndType 18 19), (0, u "size"), (0, u "()I"), (0, .methodref 13 21), (0, .nameAndType 22 23), (0, u "add"), (0, u "(J)V"), (0, .methodref 13 25), (0, .nameAndType 26 27), (0, u "percentile"), (0, u "(I)Ljava/lang/Long;"), (0, .methodref 29 30), (0, .class_ 31), (0, .nameAndType 32 33), (0, u "com/example/latch2/latch2/bench/DelaysAddPinLaw"), (0, u "is"), (0, u "(Ljava/lang/Long;J)Z"), (3, u "law"), (0, u "(JJJ)Z")] 2

def k1m0 : Method := { name := "<init>", desc := "()V", sig := { parameters := [], returnType := none }, accessFlags := 1, code := none }
def k1c1 : Code := { maxStack := 4, maxLocals := 3, code := method_2_code, exceptionTable := #[], attributes := #[] }
def k1m1 : Method := { name := "is", desc := "(Ljava/lang/Long;J)Z", sig := { parameters := [(.object "java/lang/Long"), .long], returnType := some .boolean }, accessFlags := 10, code := some k1c1 }
def k1c2 : Code := { maxStack := 3, maxLocals := 7, code := code, exceptionTable := #[], attributes := #[] }
def k1m2 : Method := { name := "law", desc := "(JJJ)Z", sig := { parameters := [.long, .long, .long], returnType := some .boolean }, accessFlags := 9, code := some k1c2 }
/-- com/example/latch2/latch2/bench/DelaysAddPinLaw -/
def k1 : Class := { plain "com/example/latch2/latch2/bench/DelaysAddPinLaw" (some 0) with
  accessFlags := 49
  interfaces := #[]
  cf := some (fileOf pool1 29 #[] #[{ accessFlags := 1, nameIndex := 5, descriptorIndex := 6, attributes := #[] }, { accessFlags := 10, nameIndex := 32, descriptorIndex := 33, attributes := #[] }, { accessFlags := 9, nameIndex := 37, descriptorIndex := 38, attributes := #[] }] 49 2 #[] #[])
  fields := #[]
  methods := #[k1m0, k1m1, k1m2]
  instanceTypes := #[]
  staticTypes := #[]
  resolved := Array.replicate 41 none
  statics := none }

def pool2 : Array CpInfo := pool [(1, .methodref 2 3), (0, .class_ 4), (0, .nameAndType 5 6), (0, u "java/lang/Object"), (0, u "<init>"), (0, u "()V"), (0, .fieldref 8 9), (0, .class_ 10), (0, .nameAndType 11 12), (0, u "com/example/latch2/latch2/bench/Delays"), (0, u "samples"), (0, u "[J"), (0, .fieldref 8 14), (0, .nameAndType 15 16), (0, u "size"), (0, u "I"), (24, .class_ 43), (1, u "java/lang/Math"), (0, u "max"), (11, .long 99), (1, .long 100), (1, .methodref 41 61), (0, .nameAndType 44 62), (0, u "(JJ)J"), (0, .methodref 64 65), (0, .class_ 66), (0, .nameAndType 67 68), (0, u "java/lang/Long"), (0, u "valueOf"), (0, u "(J)Ljava/lang/Long;"), (2, u "add"), (0, u "(J)V"), (1, u "()I"), (4, u "percentile"), (0, u "(I)Ljava/lang/Long;")] 2

def k2c0 : Code := { maxStack := 2, maxLocals := 1, code := prog_45_method_1_code, exceptionTable := #[], attributes := #[] }
def k2m0 : Method := { name := "<init>", desc := "()V", sig := { parameters := [], returnType := none }, accessFlags := 0, code := some k2c0 }
def k2c1 : Code := { maxStack := 4, maxLocals := 3, code := prog_45_method_2_code, exceptionTable := #[], attributes := #[] }
def k2m1 : Method := { name := "add", desc := "(J)V", sig := { parameters := [.long], returnType := none }, accessFlags := 0, code := some k2c1 }
def k2c2 : Code := { maxStack := 1, maxLocals := 1, code := prog_45_method_3_code, exceptionTable := #[], attributes := #[] }
def k2m2 : Method := { name := "size", desc := "()I", sig := { parameters := [], returnType := some .int }, accessFlags := 0, code := some k2c2 }
def k2c3 : Code := { maxStack := 5, maxLocals := 4, code := prog_45_method_5_code, exceptionTable := #[], attributes := #[] }
def k2m3 : Method := { name := "percentile", desc := "(I)Ljava/lang/Long;", sig := { parameters := [.int], returnType := some (.object "java/lang/Long") }, accessFlags := 0, code := some k2c3 }
/-- com/example/latch2/latch2/bench/Delays -/
def k2 : Class := { plain "com/example/latch2/latch2/bench/Delays" (some 0) with
  accessFlags := 32
  interfaces := #[]
  cf := some (fileOf pool2 8 #[] #[{ accessFlags := 0, nameIndex := 5, descriptorIndex := 6, attributes := #[] }, { accessFlags := 0, nameIndex := 71, descriptorIndex := 72, attributes := #[] }, { accessFlags := 0, nameIndex := 15, descriptorIndex := 74, attributes := #[] }, { accessFlags := 0, nameIndex := 79, descriptorIndex := 80, attributes := #[] }] 32 2 #[] #[{ accessFlags := 2, nameIndex := 11, descriptorIndex := 12, attributes := #[] }, { accessFlags := 2, nameIndex := 15, descriptorIndex := 16, attributes := #[] }])
  fields := #[{ name := "samples", type := (.array .long), accessFlags := 2, slot := 0, constantValue := 0 }, { name := "size", type := .int, accessFlags := 2, slot := 1, constantValue := 0 }]
  methods := #[k2m0, k2m1, k2m2, k2m3]
  instanceTypes := #[(.array .long), .int]
  staticTypes := #[]
  resolved := Array.replicate 83 none
  statics := none }

def pool3 : Array CpInfo := pool [(1, .class_ 2), (0, u "java/lang/Math"), (1, .class_ 6), (1, u "java/lang/Object"), (0, u "<init>"), (0, u "()V"), (89, .class_ 100), (1, u "java/lang/Math$RandomNumberGeneratorHolder"), (20, u "(JJ)J"), (50, u "negativeZeroFloatBits"), (0, u "J"), (2, u "negativeZeroDoubleBits"), (21, u "max"), (46, u "$assertionsDisabled"), (0, u "Z"), (91, u "twoToTheDoubleScaleDown"), (0, u "D"), (4, u "twoToTheDoubleScaleUp"), (9, u "E"), (3, u "PI"), (2, u "TAU"), (2, u "DEGREES_TO_RADIANS"), (0, u "RADIANS_TO_DEGREES")] 94

def k3m0 : Method := { name := "<init>", desc := "()V", sig := { parameters := [], returnType := none }, accessFlags := 2, code := none }
def k3c1 : Code := { maxStack := 4, maxLocals := 4, code := jdk_29_method_66_code, exceptionTable := #[], attributes := #[] }
def k3m1 : Method := { name := "max", desc := "(JJ)J", sig := { parameters := [.long, .long], returnType := some .long }, accessFlags := 9, code := some k3c1 }
/-- java/lang/Math -/
def k3 : Class := { plain "java/lang/Math" (some 0) with
  accessFlags := 49
  interfaces := #[]
  cf := some (fileOf pool3 1 #[.nestMembers #[98]] #[{ accessFlags := 2, nameIndex := 7, descriptorIndex := 8, attributes := #[] }, { accessFlags := 9, nameIndex := 198, descriptorIndex := 121, attributes := #[] }] 49 4 #[] #[{ accessFlags := 25, nameIndex := 354, descriptorIndex := 339, attributes := #[] }, { accessFlags := 25, nameIndex := 358, descriptorIndex := 339, attributes := #[] }, { accessFlags := 25, nameIndex := 361, descriptorIndex := 339, attributes := #[] }, { accessFlags := 26, nameIndex := 364, descriptorIndex := 339, attributes := #[] }, { accessFlags := 26, nameIndex := 365, descriptorIndex := 339, attributes := #[] }, { accessFlags := 26, nameIndex := 172, descriptorIndex := 173, attributes := #[] }, { accessFlags := 26, nameIndex := 176, descriptorIndex := 173, attributes := #[] }, { accessFlags := 8, nameIndex := 344, descriptorIndex := 339, attributes := #[] }, { accessFlags := 8, nameIndex := 338, descriptorIndex := 339, attributes := #[] }, { accessFlags := 4120, nameIndex := 245, descriptorIndex := 246, attributes := #[] }])
  fields := #[{ name := "E", type := .double, accessFlags := 25, slot := 0, constantValue := 0 }, { name := "PI", type := .double, accessFlags := 25, slot := 1, constantValue := 0 }, { name := "TAU", type := .double, accessFlags := 25, slot := 2, constantValue := 0 }, { name := "DEGREES_TO_RADIANS", type := .double, accessFlags := 26, slot := 3, constantValue := 0 }, { name := "RADIANS_TO_DEGREES", type := .double, accessFlags := 26, slot := 4, constantValue := 0 }, { name := "negativeZeroFloatBits", type := .long, accessFlags := 26, slot := 5, constantValue := 0 }, { name := "negativeZeroDoubleBits", type := .long, accessFlags := 26, slot := 6, constantValue := 0 }, { name := "twoToTheDoubleScaleUp", type := .double, accessFlags := 8, slot := 7, constantValue := 0 }, { name := "twoToTheDoubleScaleDown", type := .double, accessFlags := 8, slot := 8, constantValue := 0 }, { name := "$assertionsDisabled", type := .boolean, accessFlags := 4120, slot := 9, constantValue := 0 }]
  methods := #[k3m0, k3m1]
  instanceTypes := #[]
  staticTypes := #[.double, .double, .double, .double, .double, .long, .long, .double, .double, .boolean]
  resolved := Array.replicate 460 none
  statics := none }

def pool4 : Array CpInfo := pool [(1, .class_ 2), (0, u "java/io/Serializable"), (0, .class_ 4), (0, u "java/lang/Object")] 2

/-- java/io/Serializable -/
def k4 : Class := { plain "java/io/Serializable" (some 0) with
  accessFlags := 1537
  interfaces := #[]
  cf := some (fileOf pool4 1 #[] #[] 1537 3 #[] #[])
  fields := #[]
  methods := #[]
  instanceTypes := #[]
  staticTypes := #[]
  resolved := Array.replicate 7 none
  statics := none }

def pool5 : Array CpInfo := pool [(1, .methodref 2 3), (0, .class_ 4), (0, .nameAndType 5 6), (0, u "java/lang/Object"), (0, u "<init>"), (0, u "()V"), (1, .class_ 10), (1, u "java/lang/Number"), (2, .class_ 14), (0, u "java/io/Serializable"), (0, u "serialVersionUID"), (0, u "J")] 20

def k5c0 : Code := { maxStack := 1, maxLocals := 1, code := jdk_18_method_1_code, exceptionTable := #[], attributes := #[] }
def k5m0 : Method := { name := "<init>", desc := "()V", sig := { parameters := [], returnType := none }, accessFlags := 1, code := some k5c0 }
/-- java/lang/Number -/
def k5 : Class := { plain "java/lang/Number" (some 0) with
  accessFlags := 1057
  interfaces := #[4]
  cf := some (fileOf pool5 8 #[] #[{ accessFlags := 1, nameIndex := 5, descriptorIndex := 6, attributes := #[] }] 1057 2 #[13] #[{ accessFlags := 26, nameIndex := 15, descriptorIndex := 16, attributes := #[] }])
  fields := #[{ name := "serialVersionUID", type := .long, accessFlags := 26, slot := 0, constantValue := 0 }]
  methods := #[k5m0]
  instanceTypes := #[]
  staticTypes := #[.long]
  resolved := Array.replicate 37 none
  statics := none }

def pool6 : Array CpInfo := pool [(1, .class_ 2), (0, u "java/lang/Comparable"), (0, .class_ 4), (0, u "java/lang/Object")] 7

/-- java/lang/Comparable -/
def k6 : Class := { plain "java/lang/Comparable" (some 0) with
  accessFlags := 1537
  interfaces := #[]
  cf := some (fileOf pool6 1 #[] #[] 1537 3 #[] #[])
  fields := #[]
  methods := #[]
  instanceTypes := #[]
  staticTypes := #[]
  resolved := Array.replicate 12 none
  statics := none }

def pool7 : Array CpInfo := pool [(1, .class_ 2), (0, u "java/lang/constant/Constable"), (0, .class_ 4), (0, u "java/lang/Object")] 6

/-- java/lang/constant/Constable -/
def k7 : Class := { plain "java/lang/constant/Constable" (some 0) with
  accessFlags := 1537
  interfaces := #[]
  cf := some (fileOf pool7 1 #[] #[] 1537 3 #[] #[])
  fields := #[]
  methods := #[]
  instanceTypes := #[]
  staticTypes := #[]
  resolved := Array.replicate 11 none
  statics := none }

def pool8 : Array CpInfo := pool [(1, .class_ 2), (0, u "java/lang/constant/ConstantDesc"), (0, .class_ 4), (0, u "java/lang/Object")] 32

/-- java/lang/constant/ConstantDesc -/
def k8 : Class := { plain "java/lang/constant/ConstantDesc" (some 0) with
  accessFlags := 1537
  interfaces := #[]
  cf := some (fileOf pool8 1 #[] #[] 1537 3 #[] #[])
  fields := #[]
  methods := #[]
  instanceTypes := #[]
  staticTypes := #[]
  resolved := Array.replicate 37 none
  statics := none }

def pool9 : Array CpInfo := pool [(1, .class_ 2), (0, u "java/lang/Long"), (55, .nameAndType 59 60), (0, u "<init>"), (0, u "()V"), (24, u "valueOf"), (143, u "(J)Ljava/lang/Long;"), (0, .long 18446744073709551488), (1, .long 127), (1, .fieldref 235 236), (0, .class_ 237), (0, .nameAndType 238 239), (0, u "java/lang/Long$LongCache"), (0, u "cache"), (0, u "[Ljava/lang/Long;"), (0, .methodref 1 241), (0, .nameAndType 59 242), (0, u "(J)V"), (27, .methodref 271 58), (0, .class_ 272), (0, u "java/lang/Number"), (0, .fieldref 1 274), (0, .nameAndType 275 276), (0, u "value"), (0, u "J"), (5, u "longValue"), (0, u "()J"), (77, u "TYPE"), (0, u "Ljava/lang/Class;"), (0, .class_ 364), (0, u "java/lang/Comparable"), (0, .class_ 366), (0, u "java/lang/constant/Constable"), (0, .class_ 368), (0, u "java/lang/constant/ConstantDesc"), (0, u "MIN_VALUE"), (1, u "MAX_VALUE"), (4, u "SIZE"), (0, u "I"), (1, u "BYTES"), (1, u "serialVersionUID")] 142

def k9c0 : Code := { maxStack := 4, maxLocals := 3, code := jdk_35_method_24_code, exceptionTable := #[], attributes := #[] }
def k9m0 : Method := { name := "valueOf", desc := "(J)Ljava/lang/Long;", sig := { parameters := [.long], returnType := some (.object "java/lang/Long") }, accessFlags := 9, code := some k9c0 }
def k9c1 : Code := { maxStack := 3, maxLocals := 3, code := jdk_35_method_26_code, exceptionTable := #[], attributes := #[] }
def k9m1 : Method := { name := "<init>", desc := "(J)V", sig := { parameters := [.long], returnType := none }, accessFlags := 1, code := some k9c1 }
def k9c2 : Code := { maxStack := 2, maxLocals := 1, code := jdk_35_method_31_code, exceptionTable := #[], attributes := #[] }
def k9m2 : Method := { name := "longValue", desc := "()J", sig := { parameters := [], returnType := some .long }, accessFlags := 1, code := some k9c2 }
/-- java/lang/Long -/
def k9 : Class := { plain "java/lang/Long" (some 5) with
  accessFlags := 49
  interfaces := #[6, 7, 8]
  cf := some (fileOf pool9 1 #[.nestMembers #[235]] #[{ accessFlags := 9, nameIndex := 85, descriptorIndex := 229, attributes := #[] }, { accessFlags := 1, nameIndex := 59, descriptorIndex := 242, attributes := #[] }, { accessFlags := 1, nameIndex := 282, descriptorIndex := 283, attributes := #[] }] 49 271 #[363, 365, 367] #[{ accessFlags := 25, nameIndex := 369, descriptorIndex := 276, attributes := #[] }, { accessFlags := 25, nameIndex := 371, descriptorIndex := 276, attributes := #[] }, { accessFlags := 25, nameIndex := 361, descriptorIndex := 362, attributes := #[] }, { accessFlags := 18, nameIndex := 275, descriptorIndex := 276, attributes := #[] }, { accessFlags := 25, nameIndex := 376, descriptorIndex := 377, attributes := #[] }, { accessFlags := 25, nameIndex := 379, descriptorIndex := 377, attributes := #[] }, { accessFlags := 26, nameIndex := 381, descriptorIndex := 276, attributes := #[] }])
  fields := #[{ name := "MIN_VALUE", type := .long, accessFlags := 25, slot := 0, constantValue := 0 }, { name := "MAX_VALUE", type := .long, accessFlags := 25, slot := 1, constantValue := 0 }, { name := "TYPE", type := (.object "java/lang/Class"), accessFlags := 25, slot := 2, constantValue := 0 }, { name := "value", type := .long, accessFlags := 18, slot := 0, constantValue := 0 }, { name := "SIZE", type := .int, accessFlags := 25, slot := 3, constantValue := 0 }, { name := "BYTES", type := .int, accessFlags := 25, slot := 4, constantValue := 0 }, { name := "serialVersionUID", type := .long, accessFlags := 26, slot := 5, constantValue := 0 }]
  methods := #[k9m0, k9m1, k9m2]
  instanceTypes := #[.long]
  staticTypes := #[.long, .long, (.object "java/lang/Class"), .int, .int, .long]
  resolved := Array.replicate 524 none
  statics := none }

def pool10 : Array CpInfo := pool [(2, .class_ 4), (1, u "java/lang/Object"), (0, u "<init>"), (0, u "()V"), (0, .class_ 8), (0, u "java/lang/Long"), (7, .class_ 18), (1, u "java/lang/Long$LongCache"), (0, u "$assertionsDisabled"), (0, u "Z"), (8, u "archivedCache"), (0, u "[Ljava/lang/Long;"), (7, u "cache")] 24

def k10m0 : Method := { name := "<init>", desc := "()V", sig := { parameters := [], returnType := none }, accessFlags := 2, code := none }
/-- java/lang/Long$LongCache -/
def k10 : Class := { plain "java/lang/Long$LongCache" (some 0) with
  accessFlags := 48
  interfaces := #[]
  cf := some (fileOf pool10 16 #[.nestHost 7] #[{ accessFlags := 2, nameIndex := 5, descriptorIndex := 6, attributes := #[] }] 48 2 #[] #[{ accessFlags := 24, nameIndex := 38, descriptorIndex := 30, attributes := #[] }, { accessFlags := 8, nameIndex := 29, descriptorIndex := 30, attributes := #[] }, { accessFlags := 4120, nameIndex := 19, descriptorIndex := 20, attributes := #[] }])
  fields := #[{ name := "cache", type := (.array (.object "java/lang/Long")), accessFlags := 24, slot := 0, constantValue := 0 }, { name := "archivedCache", type := (.array (.object "java/lang/Long")), accessFlags := 8, slot := 1, constantValue := 0 }, { name := "$assertionsDisabled", type := .boolean, accessFlags := 4120, slot := 2, constantValue := 0 }]
  methods := #[k10m0]
  instanceTypes := #[]
  staticTypes := #[(.array (.object "java/lang/Long")), (.array (.object "java/lang/Long")), .boolean]
  resolved := Array.replicate 63 none
  statics := some 0 }

def pool11 : Array CpInfo := pool [(1, u "java/lang/Cloneable"), (0, .class_ 1), (0, u "java/lang/Object"), (0, .class_ 3)] 3

/-- java/lang/Cloneable -/
def k11 : Class := { plain "java/lang/Cloneable" (some 0) with
  accessFlags := 1537
  interfaces := #[]
  cf := some (fileOf pool11 2 #[] #[] 1537 4 #[] #[])
  fields := #[]
  methods := #[]
  instanceTypes := #[]
  staticTypes := #[]
  resolved := Array.replicate 8 none
  statics := none }

/-- the primitive byte -/
def k12 : Class := { plain "byte" none with kind := .primitive 'B', accessFlags := 0x411 }
/-- [B -/
def k13 : Class := { plain "[B" (some 0) with kind := .array 12 .byte, interfaces := #[11, 4], accessFlags := 1041 }

/-- the primitive int -/
def k14 : Class := { plain "int" none with kind := .primitive 'I', accessFlags := 0x411 }
/-- [I -/
def k15 : Class := { plain "[I" (some 0) with kind := .array 14 .int, interfaces := #[11, 4], accessFlags := 1041 }

/-- the primitive long -/
def k16 : Class := { plain "long" none with kind := .primitive 'J', accessFlags := 0x411 }
/-- [J -/
def k17 : Class := { plain "[J" (some 0) with kind := .array 16 .long, interfaces := #[11, 4], accessFlags := 1041 }

/-- [Ljava/lang/Long; -/
def k18 : Class := { plain "[Ljava/lang/Long;" (some 0) with kind := .array 9 (.object "java/lang/Long"), interfaces := #[11, 4], accessFlags := 1041 }

def heap : Heap := #[{ cls := 10, slots := #[.ref 1, .null, .int 0], vm := .statics 10 },
  { cls := 18, slots := #[.ref 2, .ref 3, .ref 4, .ref 5, .ref 6, .ref 7, .ref 8, .ref 9, .ref 10, .ref 11, .ref 12, .ref 13, .ref 14, .ref 15, .ref 16, .ref 17, .ref 18, .ref 19, .ref 20, .ref 21, .ref 22, .ref 23, .ref 24, .ref 25, .ref 26, .ref 27, .ref 28, .ref 29, .ref 30, .ref 31, .ref 32, .ref 33, .ref 34, .ref 35, .ref 36, .ref 37, .ref 38, .ref 39, .ref 40, .ref 41, .ref 42, .ref 43, .ref 44, .ref 45, .ref 46, .ref 47, .ref 48, .ref 49, .ref 50, .ref 51, .ref 52, .ref 53, .ref 54, .ref 55, .ref 56, .ref 57, .ref 58, .ref 59, .ref 60, .ref 61, .ref 62, .ref 63, .ref 64, .ref 65, .ref 66, .ref 67, .ref 68, .ref 69, .ref 70, .ref 71, .ref 72, .ref 73, .ref 74, .ref 75, .ref 76, .ref 77, .ref 78, .ref 79, .ref 80, .ref 81, .ref 82, .ref 83, .ref 84, .ref 85, .ref 86, .ref 87, .ref 88, .ref 89, .ref 90, .ref 91, .ref 92, .ref 93, .ref 94, .ref 95, .ref 96, .ref 97, .ref 98, .ref 99, .ref 100, .ref 101, .ref 102, .ref 103, .ref 104, .ref 105, .ref 106, .ref 107, .ref 108, .ref 109, .ref 110, .ref 111, .ref 112, .ref 113, .ref 114, .ref 115, .ref 116, .ref 117, .ref 118, .ref 119, .ref 120, .ref 121, .ref 122, .ref 123, .ref 124, .ref 125, .ref 126, .ref 127, .ref 128, .ref 129, .ref 130, .ref 131, .ref 132, .ref 133, .ref 134, .ref 135, .ref 136, .ref 137, .ref 138, .ref 139, .ref 140, .ref 141, .ref 142, .ref 143, .ref 144, .ref 145, .ref 146, .ref 147, .ref 148, .ref 149, .ref 150, .ref 151, .ref 152, .ref 153, .ref 154, .ref 155, .ref 156, .ref 157, .ref 158, .ref 159, .ref 160, .ref 161, .ref 162, .ref 163, .ref 164, .ref 165, .ref 166, .ref 167, .ref 168, .ref 169, .ref 170, .ref 171, .ref 172, .ref 173, .ref 174, .ref 175, .ref 176, .ref 177, .ref 178, .ref 179, .ref 180, .ref 181, .ref 182, .ref 183, .ref 184, .ref 185, .ref 186, .ref 187, .ref 188, .ref 189, .ref 190, .ref 191, .ref 192, .ref 193, .ref 194, .ref 195, .ref 196, .ref 197, .ref 198, .ref 199, .ref 200, .ref 201, .ref 202, .ref 203, .ref 204, .ref 205, .ref 206, .ref 207, .ref 208, .ref 209, .ref 210, .ref 211, .ref 212, .ref 213, .ref 214, .ref 215, .ref 216, .ref 217, .ref 218, .ref 219, .ref 220, .ref 221, .ref 222, .ref 223, .ref 224, .ref 225, .ref 226, .ref 227, .ref 228, .ref 229, .ref 230, .ref 231, .ref 232, .ref 233, .ref 234, .ref 235, .ref 236, .ref 237, .ref 238, .ref 239, .ref 240, .ref 241, .ref 242, .ref 243, .ref 244, .ref 245, .ref 246, .ref 247, .ref 248, .ref 249, .ref 250, .ref 251, .ref 252, .ref 253, .ref 254, .ref 255, .ref 256, .ref 257], vm := .none },
  { cls := 9, slots := #[.long (-128)], vm := .none },
  { cls := 9, slots := #[.long (-127)], vm := .none },
  { cls := 9, slots := #[.long (-126)], vm := .none },
  { cls := 9, slots := #[.long (-125)], vm := .none },
  { cls := 9, slots := #[.long (-124)], vm := .none },
  { cls := 9, slots := #[.long (-123)], vm := .none },
  { cls := 9, slots := #[.long (-122)], vm := .none },
  { cls := 9, slots := #[.long (-121)], vm := .none },
  { cls := 9, slots := #[.long (-120)], vm := .none },
  { cls := 9, slots := #[.long (-119)], vm := .none },
  { cls := 9, slots := #[.long (-118)], vm := .none },
  { cls := 9, slots := #[.long (-117)], vm := .none },
  { cls := 9, slots := #[.long (-116)], vm := .none },
  { cls := 9, slots := #[.long (-115)], vm := .none },
  { cls := 9, slots := #[.long (-114)], vm := .none },
  { cls := 9, slots := #[.long (-113)], vm := .none },
  { cls := 9, slots := #[.long (-112)], vm := .none },
  { cls := 9, slots := #[.long (-111)], vm := .none },
  { cls := 9, slots := #[.long (-110)], vm := .none },
  { cls := 9, slots := #[.long (-109)], vm := .none },
  { cls := 9, slots := #[.long (-108)], vm := .none },
  { cls := 9, slots := #[.long (-107)], vm := .none },
  { cls := 9, slots := #[.long (-106)], vm := .none },
  { cls := 9, slots := #[.long (-105)], vm := .none },
  { cls := 9, slots := #[.long (-104)], vm := .none },
  { cls := 9, slots := #[.long (-103)], vm := .none },
  { cls := 9, slots := #[.long (-102)], vm := .none },
  { cls := 9, slots := #[.long (-101)], vm := .none },
  { cls := 9, slots := #[.long (-100)], vm := .none },
  { cls := 9, slots := #[.long (-99)], vm := .none },
  { cls := 9, slots := #[.long (-98)], vm := .none },
  { cls := 9, slots := #[.long (-97)], vm := .none },
  { cls := 9, slots := #[.long (-96)], vm := .none },
  { cls := 9, slots := #[.long (-95)], vm := .none },
  { cls := 9, slots := #[.long (-94)], vm := .none },
  { cls := 9, slots := #[.long (-93)], vm := .none },
  { cls := 9, slots := #[.long (-92)], vm := .none },
  { cls := 9, slots := #[.long (-91)], vm := .none },
  { cls := 9, slots := #[.long (-90)], vm := .none },
  { cls := 9, slots := #[.long (-89)], vm := .none },
  { cls := 9, slots := #[.long (-88)], vm := .none },
  { cls := 9, slots := #[.long (-87)], vm := .none },
  { cls := 9, slots := #[.long (-86)], vm := .none },
  { cls := 9, slots := #[.long (-85)], vm := .none },
  { cls := 9, slots := #[.long (-84)], vm := .none },
  { cls := 9, slots := #[.long (-83)], vm := .none },
  { cls := 9, slots := #[.long (-82)], vm := .none },
  { cls := 9, slots := #[.long (-81)], vm := .none },
  { cls := 9, slots := #[.long (-80)], vm := .none },
  { cls := 9, slots := #[.long (-79)], vm := .none },
  { cls := 9, slots := #[.long (-78)], vm := .none },
  { cls := 9, slots := #[.long (-77)], vm := .none },
  { cls := 9, slots := #[.long (-76)], vm := .none },
  { cls := 9, slots := #[.long (-75)], vm := .none },
  { cls := 9, slots := #[.long (-74)], vm := .none },
  { cls := 9, slots := #[.long (-73)], vm := .none },
  { cls := 9, slots := #[.long (-72)], vm := .none },
  { cls := 9, slots := #[.long (-71)], vm := .none },
  { cls := 9, slots := #[.long (-70)], vm := .none },
  { cls := 9, slots := #[.long (-69)], vm := .none },
  { cls := 9, slots := #[.long (-68)], vm := .none },
  { cls := 9, slots := #[.long (-67)], vm := .none },
  { cls := 9, slots := #[.long (-66)], vm := .none },
  { cls := 9, slots := #[.long (-65)], vm := .none },
  { cls := 9, slots := #[.long (-64)], vm := .none },
  { cls := 9, slots := #[.long (-63)], vm := .none },
  { cls := 9, slots := #[.long (-62)], vm := .none },
  { cls := 9, slots := #[.long (-61)], vm := .none },
  { cls := 9, slots := #[.long (-60)], vm := .none },
  { cls := 9, slots := #[.long (-59)], vm := .none },
  { cls := 9, slots := #[.long (-58)], vm := .none },
  { cls := 9, slots := #[.long (-57)], vm := .none },
  { cls := 9, slots := #[.long (-56)], vm := .none },
  { cls := 9, slots := #[.long (-55)], vm := .none },
  { cls := 9, slots := #[.long (-54)], vm := .none },
  { cls := 9, slots := #[.long (-53)], vm := .none },
  { cls := 9, slots := #[.long (-52)], vm := .none },
  { cls := 9, slots := #[.long (-51)], vm := .none },
  { cls := 9, slots := #[.long (-50)], vm := .none },
  { cls := 9, slots := #[.long (-49)], vm := .none },
  { cls := 9, slots := #[.long (-48)], vm := .none },
  { cls := 9, slots := #[.long (-47)], vm := .none },
  { cls := 9, slots := #[.long (-46)], vm := .none },
  { cls := 9, slots := #[.long (-45)], vm := .none },
  { cls := 9, slots := #[.long (-44)], vm := .none },
  { cls := 9, slots := #[.long (-43)], vm := .none },
  { cls := 9, slots := #[.long (-42)], vm := .none },
  { cls := 9, slots := #[.long (-41)], vm := .none },
  { cls := 9, slots := #[.long (-40)], vm := .none },
  { cls := 9, slots := #[.long (-39)], vm := .none },
  { cls := 9, slots := #[.long (-38)], vm := .none },
  { cls := 9, slots := #[.long (-37)], vm := .none },
  { cls := 9, slots := #[.long (-36)], vm := .none },
  { cls := 9, slots := #[.long (-35)], vm := .none },
  { cls := 9, slots := #[.long (-34)], vm := .none },
  { cls := 9, slots := #[.long (-33)], vm := .none },
  { cls := 9, slots := #[.long (-32)], vm := .none },
  { cls := 9, slots := #[.long (-31)], vm := .none },
  { cls := 9, slots := #[.long (-30)], vm := .none },
  { cls := 9, slots := #[.long (-29)], vm := .none },
  { cls := 9, slots := #[.long (-28)], vm := .none },
  { cls := 9, slots := #[.long (-27)], vm := .none },
  { cls := 9, slots := #[.long (-26)], vm := .none },
  { cls := 9, slots := #[.long (-25)], vm := .none },
  { cls := 9, slots := #[.long (-24)], vm := .none },
  { cls := 9, slots := #[.long (-23)], vm := .none },
  { cls := 9, slots := #[.long (-22)], vm := .none },
  { cls := 9, slots := #[.long (-21)], vm := .none },
  { cls := 9, slots := #[.long (-20)], vm := .none },
  { cls := 9, slots := #[.long (-19)], vm := .none },
  { cls := 9, slots := #[.long (-18)], vm := .none },
  { cls := 9, slots := #[.long (-17)], vm := .none },
  { cls := 9, slots := #[.long (-16)], vm := .none },
  { cls := 9, slots := #[.long (-15)], vm := .none },
  { cls := 9, slots := #[.long (-14)], vm := .none },
  { cls := 9, slots := #[.long (-13)], vm := .none },
  { cls := 9, slots := #[.long (-12)], vm := .none },
  { cls := 9, slots := #[.long (-11)], vm := .none },
  { cls := 9, slots := #[.long (-10)], vm := .none },
  { cls := 9, slots := #[.long (-9)], vm := .none },
  { cls := 9, slots := #[.long (-8)], vm := .none },
  { cls := 9, slots := #[.long (-7)], vm := .none },
  { cls := 9, slots := #[.long (-6)], vm := .none },
  { cls := 9, slots := #[.long (-5)], vm := .none },
  { cls := 9, slots := #[.long (-4)], vm := .none },
  { cls := 9, slots := #[.long (-3)], vm := .none },
  { cls := 9, slots := #[.long (-2)], vm := .none },
  { cls := 9, slots := #[.long (-1)], vm := .none },
  { cls := 9, slots := #[.long 0], vm := .none },
  { cls := 9, slots := #[.long 1], vm := .none },
  { cls := 9, slots := #[.long 2], vm := .none },
  { cls := 9, slots := #[.long 3], vm := .none },
  { cls := 9, slots := #[.long 4], vm := .none },
  { cls := 9, slots := #[.long 5], vm := .none },
  { cls := 9, slots := #[.long 6], vm := .none },
  { cls := 9, slots := #[.long 7], vm := .none },
  { cls := 9, slots := #[.long 8], vm := .none },
  { cls := 9, slots := #[.long 9], vm := .none },
  { cls := 9, slots := #[.long 10], vm := .none },
  { cls := 9, slots := #[.long 11], vm := .none },
  { cls := 9, slots := #[.long 12], vm := .none },
  { cls := 9, slots := #[.long 13], vm := .none },
  { cls := 9, slots := #[.long 14], vm := .none },
  { cls := 9, slots := #[.long 15], vm := .none },
  { cls := 9, slots := #[.long 16], vm := .none },
  { cls := 9, slots := #[.long 17], vm := .none },
  { cls := 9, slots := #[.long 18], vm := .none },
  { cls := 9, slots := #[.long 19], vm := .none },
  { cls := 9, slots := #[.long 20], vm := .none },
  { cls := 9, slots := #[.long 21], vm := .none },
  { cls := 9, slots := #[.long 22], vm := .none },
  { cls := 9, slots := #[.long 23], vm := .none },
  { cls := 9, slots := #[.long 24], vm := .none },
  { cls := 9, slots := #[.long 25], vm := .none },
  { cls := 9, slots := #[.long 26], vm := .none },
  { cls := 9, slots := #[.long 27], vm := .none },
  { cls := 9, slots := #[.long 28], vm := .none },
  { cls := 9, slots := #[.long 29], vm := .none },
  { cls := 9, slots := #[.long 30], vm := .none },
  { cls := 9, slots := #[.long 31], vm := .none },
  { cls := 9, slots := #[.long 32], vm := .none },
  { cls := 9, slots := #[.long 33], vm := .none },
  { cls := 9, slots := #[.long 34], vm := .none },
  { cls := 9, slots := #[.long 35], vm := .none },
  { cls := 9, slots := #[.long 36], vm := .none },
  { cls := 9, slots := #[.long 37], vm := .none },
  { cls := 9, slots := #[.long 38], vm := .none },
  { cls := 9, slots := #[.long 39], vm := .none },
  { cls := 9, slots := #[.long 40], vm := .none },
  { cls := 9, slots := #[.long 41], vm := .none },
  { cls := 9, slots := #[.long 42], vm := .none },
  { cls := 9, slots := #[.long 43], vm := .none },
  { cls := 9, slots := #[.long 44], vm := .none },
  { cls := 9, slots := #[.long 45], vm := .none },
  { cls := 9, slots := #[.long 46], vm := .none },
  { cls := 9, slots := #[.long 47], vm := .none },
  { cls := 9, slots := #[.long 48], vm := .none },
  { cls := 9, slots := #[.long 49], vm := .none },
  { cls := 9, slots := #[.long 50], vm := .none },
  { cls := 9, slots := #[.long 51], vm := .none },
  { cls := 9, slots := #[.long 52], vm := .none },
  { cls := 9, slots := #[.long 53], vm := .none },
  { cls := 9, slots := #[.long 54], vm := .none },
  { cls := 9, slots := #[.long 55], vm := .none },
  { cls := 9, slots := #[.long 56], vm := .none },
  { cls := 9, slots := #[.long 57], vm := .none },
  { cls := 9, slots := #[.long 58], vm := .none },
  { cls := 9, slots := #[.long 59], vm := .none },
  { cls := 9, slots := #[.long 60], vm := .none },
  { cls := 9, slots := #[.long 61], vm := .none },
  { cls := 9, slots := #[.long 62], vm := .none },
  { cls := 9, slots := #[.long 63], vm := .none },
  { cls := 9, slots := #[.long 64], vm := .none },
  { cls := 9, slots := #[.long 65], vm := .none },
  { cls := 9, slots := #[.long 66], vm := .none },
  { cls := 9, slots := #[.long 67], vm := .none },
  { cls := 9, slots := #[.long 68], vm := .none },
  { cls := 9, slots := #[.long 69], vm := .none },
  { cls := 9, slots := #[.long 70], vm := .none },
  { cls := 9, slots := #[.long 71], vm := .none },
  { cls := 9, slots := #[.long 72], vm := .none },
  { cls := 9, slots := #[.long 73], vm := .none },
  { cls := 9, slots := #[.long 74], vm := .none },
  { cls := 9, slots := #[.long 75], vm := .none },
  { cls := 9, slots := #[.long 76], vm := .none },
  { cls := 9, slots := #[.long 77], vm := .none },
  { cls := 9, slots := #[.long 78], vm := .none },
  { cls := 9, slots := #[.long 79], vm := .none },
  { cls := 9, slots := #[.long 80], vm := .none },
  { cls := 9, slots := #[.long 81], vm := .none },
  { cls := 9, slots := #[.long 82], vm := .none },
  { cls := 9, slots := #[.long 83], vm := .none },
  { cls := 9, slots := #[.long 84], vm := .none },
  { cls := 9, slots := #[.long 85], vm := .none },
  { cls := 9, slots := #[.long 86], vm := .none },
  { cls := 9, slots := #[.long 87], vm := .none },
  { cls := 9, slots := #[.long 88], vm := .none },
  { cls := 9, slots := #[.long 89], vm := .none },
  { cls := 9, slots := #[.long 90], vm := .none },
  { cls := 9, slots := #[.long 91], vm := .none },
  { cls := 9, slots := #[.long 92], vm := .none },
  { cls := 9, slots := #[.long 93], vm := .none },
  { cls := 9, slots := #[.long 94], vm := .none },
  { cls := 9, slots := #[.long 95], vm := .none },
  { cls := 9, slots := #[.long 96], vm := .none },
  { cls := 9, slots := #[.long 97], vm := .none },
  { cls := 9, slots := #[.long 98], vm := .none },
  { cls := 9, slots := #[.long 99], vm := .none },
  { cls := 9, slots := #[.long 100], vm := .none },
  { cls := 9, slots := #[.long 101], vm := .none },
  { cls := 9, slots := #[.long 102], vm := .none },
  { cls := 9, slots := #[.long 103], vm := .none },
  { cls := 9, slots := #[.long 104], vm := .none },
  { cls := 9, slots := #[.long 105], vm := .none },
  { cls := 9, slots := #[.long 106], vm := .none },
  { cls := 9, slots := #[.long 107], vm := .none },
  { cls := 9, slots := #[.long 108], vm := .none },
  { cls := 9, slots := #[.long 109], vm := .none },
  { cls := 9, slots := #[.long 110], vm := .none },
  { cls := 9, slots := #[.long 111], vm := .none },
  { cls := 9, slots := #[.long 112], vm := .none },
  { cls := 9, slots := #[.long 113], vm := .none },
  { cls := 9, slots := #[.long 114], vm := .none },
  { cls := 9, slots := #[.long 115], vm := .none },
  { cls := 9, slots := #[.long 116], vm := .none },
  { cls := 9, slots := #[.long 117], vm := .none },
  { cls := 9, slots := #[.long 118], vm := .none },
  { cls := 9, slots := #[.long 119], vm := .none },
  { cls := 9, slots := #[.long 120], vm := .none },
  { cls := 9, slots := #[.long 121], vm := .none },
  { cls := 9, slots := #[.long 122], vm := .none },
  { cls := 9, slots := #[.long 123], vm := .none },
  { cls := 9, slots := #[.long 124], vm := .none },
  { cls := 9, slots := #[.long 125], vm := .none },
  { cls := 9, slots := #[.long 126], vm := .none },
  { cls := 9, slots := #[.long 127], vm := .none }]
def classes : Array Class := #[k0, k1, k2, k3, k4, k5, k6, k7, k8, k9, k10, k11, k12, k13, k14, k15, k16, k17, k18]
def interned : List (Array UInt16 × Addr) := []
def slotsUsed : Nat := 515
def theMethod : MethodId := ⟨1, 2⟩
def args0 : Array Value := #[.long 5, .long 6, .long 7]
def aboutOver (below : List Frame) : State where
  vm := { classes := classes, interned := interned.toArray }
  heap := heap
  slotsUsed := slotsUsed
  threads := #[{ frames := .invoking theMethod args0 :: below }]
def below0 : List Frame := [.native { method := ⟨0, 0⟩, args := #[] }]
def about1 : State := aboutOver below0
def p0 : Program := .bare "" "" ""
def e0 : Env := launch0.env 0 0 0
theorem w_frames : about1.frames = Frame.invoking theMethod args0 :: below0 := rfl
set_option maxRecDepth 65536 in
theorem w_args : argsFit about1.vm theMethod args0 = true := by decide +kernel
set_option maxRecDepth 65536 in
theorem w_heap : heapFits about1 = true := by decide +kernel
set_option maxRecDepth 65536 in
theorem w_runnable : about1.curStatus? = some .runnable := by decide +kernel
set_option maxRecDepth 65536 in
theorem w_alone : about1.alone = true := by decide +kernel
set_option maxRecDepth 65536 in
theorem w_named : about1.methodNamed? x = some theMethod := by decide +kernel
set_option maxRecDepth 65536 in
theorem w_hears : about1.hears theMethod below0 = true := by decide +kernel
set_option maxRecDepth 65536 in
theorem w_ripe : about1.ripe theMethod args0 below0 = true := by decide +kernel
theorem w_running : about1.status = .running := rfl
set_option maxRecDepth 65536 in
theorem w_room : about1.hasRoom e0.platform room_1 = true :=
  launch0.hasRoom_least _ room_1 (by decide +kernel) (by decide +kernel) (by decide +kernel) (by decide +kernel) (by decide +kernel) (by decide +kernel)
theorem allAtoms_all (ts : List Jvm.Cond) (a : Array Jvm.Value) (st : Jvm.State) : (allAtoms ts).before a st = ts.all (fun c => c.before a st) := by
  induction ts with
  | nil => rfl
  | cons c t ih =>
    show (Jvm.Cond.and c (allAtoms t)).before a st = _
    rw [Jvm.Cond.before_and, ih, List.all_cons]
def words1 : List Jvm.Cond := Jvm.Cond.code x code maxLocals ret :: tables_1
/-- a 'code' word, met by the world's own term for the bytes: nothing is compared byte by byte -/
theorem code_word {y : MethodName} {bytes : ByteArray} {mx : Nat} {rt : Option FieldType} {a : Array Value} {s : State} {m : MethodId} {meth : Method} {c : Code} (h1 : s.methodNamed? y = some m) (h2 : s.vm.method? m = some meth) (h3 : meth.code = some c) (h4 : c.code = bytes)
    (h5 : (c.maxLocals == mx && c.exceptionTable.isEmpty && decide (c.maxStack ≤ mostOperands) && decide (meth.sig.returnType = rt) && !meth.locks && decide (parseMethodDescriptor y.desc = some meth.sig)) = true) : (Jvm.Cond.code y bytes mx rt).before a s = true := by
  simp only [Bool.and_eq_true, beq_iff_eq, Bool.not_eq_true', decide_eq_true_eq] at h5
  obtain ⟨⟨⟨⟨⟨g1, g2⟩, g3⟩, g4⟩, g5⟩, g6⟩ := h5
  simp [Cond.before, Cond.holds, Cond.value, h1, h2, h3, h4, g1, g2, g3, g4, g5, g6]
def isCode : Jvm.Cond → Bool
  | .code _ _ _ _ => true
  | _ => false
theorem all_split {L : List Jvm.Cond} {P : Jvm.Cond → Bool} (h1 : L.all (fun c => isCode c || P c) = true) (h2 : ∀ c ∈ L.filter isCode, P c = true) : L.all P = true := by
  refine List.all_eq_true.mpr fun c hc => ?_
  have h := List.all_eq_true.mp h1 c hc
  rcases Bool.eq_false_or_eq_true (isCode c) with hi | hi
  · exact h2 c (List.mem_filter.mpr ⟨hc, hi⟩)
  · simpa [hi] using h
set_option maxRecDepth 65536 in
theorem w_c0 : (Jvm.Cond.code x code maxLocals ret).before args0 about1 = true := code_word (m := ⟨1, 2⟩) (meth := k1m2) (c := k1c2) (by decide +kernel) rfl rfl rfl (by decide +kernel)
set_option maxRecDepth 65536 in
theorem w_c1 : (Jvm.Cond.code ({ cls := "com/example/latch2/latch2/bench/Delays", name := "<init>", desc := "()V" } : Jvm.MethodName) prog_45_method_1_code (1 : Nat) (Option.none : Option Jvm.ClassFile.FieldType)).before args0 about1 = true := code_word (m := ⟨2, 0⟩) (meth := k2m0) (c := k2c0) (by decide +kernel) rfl rfl rfl (by decide +kernel)
set_option maxRecDepth 65536 in
theorem w_c2 : (Jvm.Cond.code ({ cls := "java/lang/Object", name := "<init>", desc := "()V" } : Jvm.MethodName) object_method_1_code (1 : Nat) (Option.none : Option Jvm.ClassFile.FieldType)).before args0 about1 = true := code_word (m := ⟨0, 0⟩) (meth := k0m0) (c := k0c0) (by decide +kernel) rfl rfl rfl (by decide +kernel)
set_option maxRecDepth 65536 in
theorem w_c3 : (Jvm.Cond.code ({ cls := "com/example/latch2/latch2/bench/Delays", name := "size", desc := "()I" } : Jvm.MethodName) prog_45_method_3_code (1 : Nat) (Option.some Jvm.ClassFile.FieldType.int)).before args0 about1 = true := code_word (m := ⟨2, 2⟩) (meth := k2m2) (c := k2c2) (by decide +kernel) rfl rfl rfl (by decide +kernel)
set_option maxRecDepth 65536 in
theorem w_c4 : (Jvm.Cond.code ({ cls := "com/example/latch2/latch2/bench/Delays", name := "add", desc := "(J)V" } : Jvm.MethodName) prog_45_method_2_code (3 : Nat) (Option.none : Option Jvm.ClassFile.FieldType)).before args0 about1 = true := code_word (m := ⟨2, 1⟩) (meth := k2m1) (c := k2c1) (by decide +kernel) rfl rfl rfl (by decide +kernel)
set_option maxRecDepth 65536 in
theorem w_c5 : (Jvm.Cond.code ({ cls := "com/example/latch2/latch2/bench/Delays", name := "percentile", desc := "(I)Ljava/lang/Long;" } : Jvm.MethodName) prog_45_method_5_code (4 : Nat) (Option.some (Jvm.ClassFile.FieldType.object "java/lang/Long"))).before args0 about1 = true := code_word (m := ⟨2, 3⟩) (meth := k2m3) (c := k2c3) (by decide +kernel) rfl rfl rfl (by decide +kernel)
set_option maxRecDepth 65536 in
theorem w_c6 : (Jvm.Cond.code ({ cls := "java/lang/Math", name := "max", desc := "(JJ)J" } : Jvm.MethodName) jdk_29_method_66_code (4 : Nat) (Option.some Jvm.ClassFile.FieldType.long)).before args0 about1 = true := code_word (m := ⟨3, 1⟩) (meth := k3m1) (c := k3c1) (by decide +kernel) rfl rfl rfl (by decide +kernel)
set_option maxRecDepth 65536 in
theorem w_c7 : (Jvm.Cond.code ({ cls := "java/lang/Long", name := "valueOf", desc := "(J)Ljava/lang/Long;" } : Jvm.MethodName) jdk_35_method_24_code (3 : Nat) (Option.some (Jvm.ClassFile.FieldType.object "java/lang/Long"))).before args0 about1 = true := code_word (m := ⟨9, 0⟩) (meth := k9m0) (c := k9c0) (by decide +kernel) rfl rfl rfl (by decide +kernel)
set_option maxRecDepth 65536 in
theorem w_c8 : (Jvm.Cond.code ({ cls := "com/example/latch2/latch2/bench/DelaysAddPinLaw", name := "is", desc := "(Ljava/lang/Long;J)Z" } : Jvm.MethodName) method_2_code (3 : Nat) (Option.some Jvm.ClassFile.FieldType.boolean)).before args0 about1 = true := code_word (m := ⟨1, 1⟩) (meth := k1m1) (c := k1c1) (by decide +kernel) rfl rfl rfl (by decide +kernel)
set_option maxRecDepth 65536 in
theorem w_c9 : (Jvm.Cond.code ({ cls := "java/lang/Long", name := "longValue", desc := "()J" } : Jvm.MethodName) jdk_35_method_31_code (1 : Nat) (Option.some Jvm.ClassFile.FieldType.long)).before args0 about1 = true := code_word (m := ⟨9, 2⟩) (meth := k9m2) (c := k9c2) (by decide +kernel) rfl rfl rfl (by decide +kernel)
set_option maxRecDepth 65536 in
theorem w_c10 : (Jvm.Cond.code ({ cls := "java/lang/Long", name := "<init>", desc := "(J)V" } : Jvm.MethodName) jdk_35_method_26_code (3 : Nat) (Option.none : Option Jvm.ClassFile.FieldType)).before args0 about1 = true := code_word (m := ⟨9, 1⟩) (meth := k9m1) (c := k9c1) (by decide +kernel) rfl rfl rfl (by decide +kernel)
set_option maxRecDepth 65536 in
theorem w_c11 : (Jvm.Cond.code ({ cls := "java/lang/Number", name := "<init>", desc := "()V" } : Jvm.MethodName) jdk_18_method_1_code (1 : Nat) (Option.none : Option Jvm.ClassFile.FieldType)).before args0 about1 = true := code_word (m := ⟨5, 0⟩) (meth := k5m0) (c := k5c0) (by decide +kernel) rfl rfl rfl (by decide +kernel)
def codes1 : List Jvm.Cond := [Jvm.Cond.code x code maxLocals ret, Jvm.Cond.code ({ cls := "com/example/latch2/latch2/bench/Delays", name := "<init>", desc := "()V" } : Jvm.MethodName) prog_45_method_1_code (1 : Nat) (Option.none : Option Jvm.ClassFile.FieldType), Jvm.Cond.code ({ cls := "java/lang/Object", name := "<init>", desc := "()V" } : Jvm.MethodName) object_method_1_code (1 : Nat) (Option.none : Option Jvm.ClassFile.FieldType), Jvm.Cond.code ({ cls := "com/example/latch2/latch2/bench/Delays", name := "size", desc := "()I" } : Jvm.MethodName) prog_45_method_3_code (1 : Nat) (Option.some Jvm.ClassFile.FieldType.int), Jvm.Cond.code ({ cls := "com/example/latch2/latch2/bench/Delays", name := "add", desc := "(J)V" } : Jvm.MethodName) prog_45_method_2_code (3 : Nat) (Option.none : Option Jvm.ClassFile.FieldType), Jvm.Cond.code ({ cls := "com/example/latch2/latch2/bench/Delays", name := "percentile", desc := "(I)Ljava/lang/Long;" } : Jvm.MethodName) prog_45_method_5_code (4 : Nat) (Option.some (Jvm.ClassFile.FieldType.object "java/lang/Long")), Jvm.Cond.code ({ cls := "java/lang/Math", name := "max", desc := "(JJ)J" } : Jvm.MethodName) jdk_29_method_66_code (4 : Nat) (Option.some Jvm.ClassFile.FieldType.long), Jvm.Cond.code ({ cls := "java/lang/Long", name := "valueOf", desc := "(J)Ljava/lang/Long;" } : Jvm.MethodName) jdk_35_method_24_code (3 : Nat) (Option.some (Jvm.ClassFile.FieldType.object "java/lang/Long")), Jvm.Cond.code ({ cls := "com/example/latch2/latch2/bench/DelaysAddPinLaw", name := "is", desc := "(Ljava/lang/Long;J)Z" } : Jvm.MethodName) method_2_code (3 : Nat) (Option.some Jvm.ClassFile.FieldType.boolean), Jvm.Cond.code ({ cls := "java/lang/Long", name := "longValue", desc := "()J" } : Jvm.MethodName) jdk_35_method_31_code (1 : Nat) (Option.some Jvm.ClassFile.FieldType.long), Jvm.Cond.code ({ cls := "java/lang/Long", name := "<init>", desc := "(J)V" } : Jvm.MethodName) jdk_35_method_26_code (3 : Nat) (Option.none : Option Jvm.ClassFile.FieldType), Jvm.Cond.code ({ cls := "java/lang/Number", name := "<init>", desc := "()V" } : Jvm.MethodName) jdk_18_method_1_code (1 : Nat) (Option.none : Option Jvm.ClassFile.FieldType)]
set_option maxRecDepth 65536 in
theorem codes_eq : words1.filter isCode = codes1 := rfl
theorem w_codes : ∀ c ∈ words1.filter isCode, c.before args0 about1 = true := by
  rw [codes_eq]
  intro c hc
  simp only [codes1, List.mem_cons, List.not_mem_nil, or_false] at hc
  rcases hc with rfl | rfl | rfl | rfl | rfl | rfl | rfl | rfl | rfl | rfl | rfl | rfl
  · exact w_c0
  · exact w_c1
  · exact w_c2
  · exact w_c3
  · exact w_c4
  · exact w_c5
  · exact w_c6
  · exact w_c7
  · exact w_c8
  · exact w_c9
  · exact w_c10
  · exact w_c11
set_option maxRecDepth 65536 in
theorem w_t1 : (words1.take 24).all (fun c => isCode c || c.before args0 about1) = true := by decide +kernel
set_option maxRecDepth 65536 in
theorem w_t2 : ((words1.drop 24).take 24).all (fun c => isCode c || c.before args0 about1) = true := by decide +kernel
set_option maxRecDepth 65536 in
theorem w_t3 : ((words1.drop 24).drop 24).all (fun c => isCode c || c.before args0 about1) = true := by decide +kernel
theorem w_tables : (allAtoms (Jvm.Cond.code x code maxLocals ret :: tables_1)).before args0 about1 = true := by
  rw [allAtoms_all]
  show words1.all (fun c => c.before args0 about1) = true
  refine all_split ?_ w_codes
  rw [← List.take_append_drop 24 words1, List.all_append, w_t1, ← List.take_append_drop 24 (words1.drop 24), List.all_append, w_t2, w_t3]
  rfl
set_option maxRecDepth 65536 in
theorem w_rest : rest_1_c.before args0 about1 = true := by decide +kernel
set_option maxRecDepth 65536 in
theorem w_case : (Jvm.Cond.and given_1 narrow_1).before args0 about1 = true := by decide +kernel
theorem w_applies : (headSpec (Jvm.Cond.code x code maxLocals ret :: tables_1) room_1).applies x e0.platform about1 = true :=
  (Spec.applies_iff w_frames).mpr ⟨w_running, w_runnable, w_alone, w_named, w_hears, w_ripe, w_room, w_tables⟩
theorem atStart : AtStart classFile x code maxLocals ret World_1 tables_1 room_1 Calls_1 rest_1 Pre_1 launch0 p0 e0 about1 theMethod args0 below0 :=
  ⟨lists_1, trivial, launch0.admits_env _ _ _, launch0.least_env, fairChoices_fair.cas, fairChoices_fair.clock, w_frames, w_args, w_heap, w_applies, trivial, w_rest, w_case⟩
end start1
theorem witness_1 : WitnessClaimed_1 := ⟨start1.p0, start1.e0, start1.about1, start1.theMethod, start1.args0, start1.below0, start1.atStart⟩
end Jvm.Pilot.@@N@@
