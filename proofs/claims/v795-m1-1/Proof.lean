import JvmDerived
import JvmDerived.Pilot.@@N@@Statement
import JvmDerived.Pilot.@@N@@Code
set_option linter.unusedVariables false
set_option linter.unusedSimpArgs false
@@BLOCK:NumsL.lean.txt@@
namespace Jvm.Pilot.@@N@@
open Jvm Jvm.ClassFile Sem Op Lib Jvm.Free Jvm.Stand Jvm.LawKit Jvm.RoadKit Bundle Jvm.Pilot.@@N@@.Jvm.D
section Own
variable {p : Program} {l : Launch} {e : Env} {R : Room} {s : State} {m : MethodId} {args : Array Value} {below : List Frame} {meth : Method} {c : Code} {T T' : State} {locs : List Loc} {cells slots : Nat} {g g' : JFrame} {Q : Option Value → Heap → List Loc → Nat → Nat → Prop} {Z : State} {a0 : Array Value} {h : Heap}
/-- from this frame, in this state, the run comes to a return, and what it leaves meets Q -/
def Goal (p : Program) (l : Launch) (e : Env) (R : Room) (s : State) (m : MethodId) (args : Array Value) (below : List Frame) (meth : Method) (c : Code) (Q : Option Value → Heap → List Loc → Nat → Nat → Prop) (T : State) (g : JFrame) : Prop :=
  ∃ v U L k n, Stand p l e R s m args below meth c U L k n ∧ (meth.sig.returnType = none → v = none) ∧ Q v U.heap L k n ∧
    ∀ fs, (∀ (f : JFrame) (acts : List Action), f.method = m → f.locked = none → f.entered = [] → (doReturn e (U.setTop f) acts v).1 = U.setFrames fs) → Steps p.tables e below (T.setTop g) (U.setFrames fs)
theorem Goal.step (h : Goal p l e R s m args below meth c Q T' g') (st : ∀ t, Steps p.tables e below (T'.setTop g') t → Steps p.tables e below (T.setTop g) t) : Goal p l e R s m args below meth c Q T g := by
  obtain ⟨v, U, L, k, n, X, hv, hq, hs⟩ := h
  exact ⟨v, U, L, k, n, X, hv, hq, fun fs hl => st _ (hs fs hl)⟩
theorem Goal.imp {Q' : Option Value → Heap → List Loc → Nat → Nat → Prop} (h : Goal p l e R s m args below meth c Q T g) (q : ∀ v h L k n, Q v h L k n → Q' v h L k n) : Goal p l e R s m args below meth c Q' T g := by
  obtain ⟨v, U, L, k, n, X, hv, hq, hs⟩ := h
  exact ⟨v, U, L, k, n, X, hv, q _ _ _ _ _ hq, hs⟩
theorem Goal.retN (X : Stand p l e R s m args below meth c T locs cells slots) (hx : p.tables.exec = Jvm.exec) {pc : Nat} {Ls : Array Slot} {z : Int32} {t : FieldType} {rest : List Value} (hret : meth.sig.returnType = some t) (ht : t = .boolean ∨ t = .byte ∨ t = .char ∨ t = .short)
    (hd : decode c.code pc = .ok (.ireturn, 1)) (hq : Q (some (.int (nar t z))) T.heap locs cells slots) : Goal p l e R s m args below meth c Q T (mkF m pc Ls (.int z :: rest)) :=
  ⟨_, T, _, _, _, X, fun q => (by rw [hret] at q; cases q), hq, fun fs hl => Jvm.RoadKit.retN X hx hret ht hd hl⟩
theorem Goal.retI (X : Stand p l e R s m args below meth c T locs cells slots) (hx : p.tables.exec = Jvm.exec) {pc : Nat} {Ls : Array Slot} {z : Int32} {rest : List Value} (hret : meth.sig.returnType = some .int)
    (hd : decode c.code pc = .ok (.ireturn, 1)) (hq : Q (some (.int z)) T.heap locs cells slots) : Goal p l e R s m args below meth c Q T (mkF m pc Ls (.int z :: rest)) :=
  ⟨_, T, _, _, _, X, fun q => (by rw [hret] at q; cases q), hq, fun fs hl => retOut X hx hret rfl (Or.inl ⟨rfl, Or.inl rfl, _, rfl⟩) hd hl⟩
theorem Goal.retJ (X : Stand p l e R s m args below meth c T locs cells slots) (hx : p.tables.exec = Jvm.exec) {pc : Nat} {Ls : Array Slot} {z : Int64} {rest : List Value} (hret : meth.sig.returnType = some .long)
    (hd : decode c.code pc = .ok (.lreturn, 1)) (hq : Q (some (.long z)) T.heap locs cells slots) : Goal p l e R s m args below meth c Q T (mkF m pc Ls (.long z :: rest)) :=
  ⟨_, T, _, _, _, X, fun q => (by rw [hret] at q; cases q), hq, fun fs hl => retOut X hx hret rfl (Or.inr (Or.inl ⟨rfl, rfl, _, rfl⟩)) hd hl⟩
theorem Goal.retD (X : Stand p l e R s m args below meth c T locs cells slots) (hx : p.tables.exec = Jvm.exec) {pc : Nat} {Ls : Array Slot} {z : UInt64} {rest : List Value} (hret : meth.sig.returnType = some .double)
    (hd : decode c.code pc = .ok (.dreturn, 1)) (hq : Q (some (.double z)) T.heap locs cells slots) : Goal p l e R s m args below meth c Q T (mkF m pc Ls (.double z :: rest)) :=
  ⟨_, T, _, _, _, X, fun q => (by rw [hret] at q; cases q), hq, fun fs hl => retOut X hx hret rfl (Or.inr (Or.inr (Or.inl ⟨rfl, rfl, _, rfl⟩))) hd hl⟩
theorem Goal.retA (X : Stand p l e R s m args below meth c T locs cells slots) (hx : p.tables.exec = Jvm.exec) {pc : Nat} {Ls : Array Slot} {w : Value} {t : FieldType} {rest : List Value} (hret : meth.sig.returnType = some t) (ht : t.isReference = true) (hn : narrow t w = w) (hw : w.isRef = true)
    (hd : decode c.code pc = .ok (.areturn, 1)) (hq : Q (some w) T.heap locs cells slots) : Goal p l e R s m args below meth c Q T (mkF m pc Ls (w :: rest)) :=
  ⟨_, T, _, _, _, X, fun q => (by rw [hret] at q; cases q), hq, fun fs hl => retOut X hx hret hn (Or.inr (Or.inr (Or.inr (Or.inr ⟨rfl, ht, hw⟩)))) hd hl⟩
theorem Goal.retV (X : Stand p l e R s m args below meth c T locs cells slots) (hx : p.tables.exec = Jvm.exec) {pc : Nat} {Ls : Array Slot} (hret : meth.sig.returnType = none)
    (hd : decode c.code pc = .ok (.return_, 1)) (hq : Q none T.heap locs cells slots) : Goal p l e R s m args below meth c Q T (mkF m pc Ls []) :=
  ⟨_, T, _, _, _, X, fun _ => rfl, hq, fun fs hl => X.returnOut hx hret hd hl⟩
/-- what a walk knows of where it runs -/
def Ctx (p : Program) (s : State) (m : MethodId) (meth : Method) (c : Code) (Z : State) (bytes : ByteArray) (maxL : Nat) (ret : Option FieldType) (own nm : String) : Prop :=
  p.tables.exec = Jvm.exec ∧ Z.Warmed39 s.vm ∧ c.code = bytes ∧ c.maxLocals = maxL ∧ meth.sig.returnType = ret ∧ s.vm.findClass own = some m.cls ∧ meth.name = nm
/-- a body's contract: called with as' at the heap h0, it returns, and what it leaves meets Q -/
def Met (l : Launch) (y : MethodName) (bytes : ByteArray) (maxL : Nat) (ret : Option FieldType) (ws : List Jvm.Cond) (rm : Room) (Z : State) (as' : Array Value) (h0 : Heap) (Q : Option Value → Heap → List Loc → Prop) : Prop :=
  MetFree l y (head1 (Jvm.Cond.code y bytes maxL ret :: ws) rm) (fun a U => a = as' ∧ Z.Warmed39 U.vm ∧ U.heap = h0) (fun _ _ _ _ _ => True) (fun _ U o U' => ∃ v L, o = .returned v ∧ Q v U'.heap L ∧ FrameEnd U o U' L rm.cells rm.slots)
/-- Q within the room -/
def In (rm : Room) (Q : Option Value → Heap → List Loc → Prop) (v : Option Value) (h : Heap) (L : List Loc) (k n : Nat) : Prop := Q v h L ∧ k ≤ rm.cells ∧ n ≤ rm.slots
theorem of_goal {y : MethodName} {bytes : ByteArray} {maxL : Nat} {ret : Option FieldType} {ws : List Jvm.Cond} {rm : Room} {as' : Array Value} {h0 : Heap} {Q : Option Value → Heap → List Loc → Prop} (hpl : plainFor y = true)
    (body : ∀ (p : Program) (e : Env) (s : State) (m : MethodId) (below : List Frame) (meth : Method) (c : Code) (s₁ : State), Ctx p s m meth c Z bytes maxL ret y.cls y.name → Stand p l e rm s m as' below meth c s₁ [] 0 0 → s₁.heap = h0 →
      Goal p l e rm s m as' below meth c (In rm Q) s₁ (entryFrame m as' maxL)) : Met l y bytes maxL ret ws rm Z as' h0 Q := by
  refine MetFree.of_bodySF hpl hisR ?_
  intro p e s m args below meth c s₁ Bd hml0 hP hK
  obtain ⟨rfl, hZ, hh⟩ := hP
  have X0 : Stand p l e rm s m _ below meth c s₁ [] 0 0 := Stand.of_body Bd
  have e0 : s₁.heap = h0 := by rw [← hh, Bd.state]; rfl
  obtain ⟨v, U, L, k, n, X, hv, ⟨hq, hk, hn⟩, hs⟩ := body p e s m below meth c s₁ ⟨Bd.exec, hZ, Bd.bytes, hml0, Bd.returns, findClass_of_methodNamed Bd.named, (name_of_methodNamed Bd.named Bd.method).1⟩ X0 e0
  obtain ⟨fs, hr, hrun, hended, hW, hsame⟩ := X.leave (v := v) hv
  exact ⟨_, _, hs fs hr, hrun, hended, _, _, rfl, hq, ⟨_, rfl⟩, hW, hsame.mono hk hn⟩
variable {own : String} {index maxL : Nat} {y z : MethodName} {bytes : ByteArray} {ret : Option FieldType} {rm : Room} {as' : Array Value} {Qc : Option Value → Heap → List Loc → Prop}
theorem callStatic (X : Stand p l e R s m args below meth c T locs cells slots) (hx : p.tables.exec = Jvm.exec) (hZ : Z.Warmed39 s.vm) (hown : s.vm.findClass own = some m.cls)
    (w1 : (Cond.methodLink own index y).before a0 Z = true) (w2 : (Cond.static y).before a0 Z = true) (w3 : (Cond.initialized y.cls).before a0 Z = true) (w4 : (Cond.code y bytes maxL ret).before a0 Z = true)
    (hy : y.cls ≠ "java/lang/invoke/MethodHandle" ∧ y.cls ≠ "java/lang/invoke/VarHandle") (hM : Met l y bytes maxL ret [] rm Z as' h Qc) (eT : T.heap = h) {W : Nat} (hf : rm.frames + 1 ≤ R.frames) (hl : W + (maxL + 11) + rm.locals ≤ R.locals)
    (hc : cells + rm.cells ≤ R.cells) (hs : slots + rm.slots ≤ R.slots)
    {g : JFrame} (hg : g.method = m) (hsize : g.locals.size = c.maxLocals) {argsL rest : List Value} (hlen : ∀ sig, parseMethodDescriptor y.desc = some sig → argsL.length = sig.parameters.length)
    (hstack : g.stack = argsL.reverse ++ rest) (hW : 2 * g.monitorRoom + (rest.map fun v => v.category).sum ≤ W) (hdg : decode c.code g.pc = .ok (.invokestatic index, 3)) (has : argsL.toArray = as') :
    ∃ v T' h' L, Stand p l e R s m args below meth c T' (locs ++ L) (cells + rm.cells) (slots + rm.slots) ∧ T'.heap = h' ∧ Qc v h' L ∧ ∀ target, Steps p.tables e below (T'.setTop { g with pc := g.pc + 3, stack := v.toList ++ rest }) target → Steps p.tables e below (T.setTop g) target := by
  subst has
  obtain ⟨v, _, ⟨T', L', k', n'⟩, -, X', ⟨Lc, hQ, l1, y1, z1⟩, st⟩ := Jvm.LawKit.callS X hx (y := y) hown (mvT hZ w1) (mvT hZ w2) (mvT hZ w3) (mvT hZ w4) hy (backOf (W := W) hM hZ w4 w3 hf hl) (g := g) hg hsize (argsL := argsL) (rest := rest) hlen hstack hW hdg (fun _ _ => ⟨rfl, eT, hc, hs⟩)
  dsimp only [Pt.U, Pt.locs, Pt.cells, Pt.slots] at X' l1 y1 z1 st hQ
  subst l1 y1 z1
  exact ⟨v, T', _, Lc, X', rfl, hQ, st⟩
theorem callInit (X : Stand p l e R s m args below meth c T locs cells slots) (hx : p.tables.exec = Jvm.exec) (hZ : Z.Warmed39 s.vm) (hown : s.vm.findClass own = some m.cls) (hy1 : y.name = "<init>")
    (w1 : (Cond.methodLink own index y).before a0 Z = true) (w2 : (Cond.instanceMethod y).before a0 Z = true) (w3 : (Cond.initialized y.cls).before a0 Z = true) (w4 : (Cond.code y bytes maxL none).before a0 Z = true)
    (hy : y.cls ≠ "java/lang/invoke/MethodHandle" ∧ y.cls ≠ "java/lang/invoke/VarHandle") (hM : Met l y bytes maxL none [] rm Z as' h Qc) (eT : T.heap = h) {W : Nat} (hf : rm.frames + 1 ≤ R.frames) (hl : W + (maxL + 11) + rm.locals ≤ R.locals)
    (hc : cells + rm.cells ≤ R.cells) (hs : slots + rm.slots ≤ R.slots)
    {g : JFrame} (hg : g.method = m) (hsize : g.locals.size = c.maxLocals) {a : Addr} {argsL rest : List Value} (hlen : ∀ sig, parseMethodDescriptor y.desc = some sig → argsL.length = sig.parameters.length)
    (hstack : g.stack = argsL.reverse ++ .ref a :: rest) (hW : 2 * g.monitorRoom + (rest.map fun v => v.category).sum ≤ W) (hdg : decode c.code g.pc = .ok (.invokespecial index, 3)) (has : (Value.ref a :: argsL).toArray = as') :
    ∃ v T' h' L, Stand p l e R s m args below meth c T' (locs ++ L) (cells + rm.cells) (slots + rm.slots) ∧ T'.heap = h' ∧ Qc v h' L ∧ ∀ target, Steps p.tables e below (T'.setTop { g with pc := g.pc + 3, stack := v.toList ++ rest }) target → Steps p.tables e below (T.setTop g) target := by
  subst has
  obtain ⟨v, _, ⟨T', L', k', n'⟩, -, X', ⟨Lc, hQ, l1, y1, z1⟩, st⟩ := X.specialBack hx (y := y) hy1 hown (mvT hZ w1) (mvT hZ w2) (mvT hZ w4) hy (backOf (W := W) hM hZ w4 w3 hf hl) (g := g) hg hsize (Steps.refl _) (a := a) (argsL := argsL) (rest := rest) hlen hstack hW hdg (fun _ _ => ⟨rfl, eT, hc, hs⟩)
  dsimp only [Pt.U, Pt.locs, Pt.cells, Pt.slots] at X' l1 y1 z1 st hQ
  subst l1 y1 z1
  exact ⟨v, T', _, Lc, X', rfl, hQ, fun t k => st.trans k⟩
theorem callVirt (X : Stand p l e R s m args below meth c T locs cells slots) (hx : p.tables.exec = Jvm.exec) (hZ : Z.Warmed39 s.vm) (hown : s.vm.findClass own = some m.cls) {C : String}
    (w1 : (Cond.methodLink own index y).before a0 Z = true) (w2 : (Cond.declares y).before a0 Z = true) (hnf : NotFace s y) (w5 : (Cond.selects C y z).before a0 Z = true) (w6 : (Cond.instanceMethod z).before a0 Z = true) (w3 : (Cond.initialized z.cls).before a0 Z = true) (w4 : (Cond.code z bytes maxL ret).before a0 Z = true)
    (hy : y.cls ≠ "java/lang/invoke/MethodHandle" ∧ y.cls ≠ "java/lang/invoke/VarHandle") (hM : Met l z bytes maxL ret [] rm Z as' h Qc) (eT : T.heap = h) {a : Addr} (E : Exa Z h a C) {W : Nat} (hf : rm.frames + 1 ≤ R.frames) (hl : W + (maxL + 11) + rm.locals ≤ R.locals)
    (hc : cells + rm.cells ≤ R.cells) (hs : slots + rm.slots ≤ R.slots)
    {g : JFrame} (hg : g.method = m) (hsize : g.locals.size = c.maxLocals) {argsL rest : List Value} (hlen : ∀ sig, parseMethodDescriptor y.desc = some sig → argsL.length = sig.parameters.length)
    (hstack : g.stack = argsL.reverse ++ .ref a :: rest) (hW : 2 * g.monitorRoom + (rest.map fun v => v.category).sum ≤ W) (hdg : decode c.code g.pc = .ok (.invokevirtual index, 3)) (has : (Value.ref a :: argsL).toArray = as') :
    ∃ v T' h' L, Stand p l e R s m args below meth c T' (locs ++ L) (cells + rm.cells) (slots + rm.slots) ∧ T'.heap = h' ∧ Qc v h' L ∧ ∀ target, Steps p.tables e below (T'.setTop { g with pc := g.pc + 3, stack := v.toList ++ rest }) target → Steps p.tables e below (T.setTop g) target := by
  subst has
  obtain ⟨cq, kq, qa, qb, qc⟩ := isOf hZ eT E
  obtain ⟨v, _, ⟨T', L', k', n'⟩, -, X', ⟨Lc, hQ, l1, y1, z1⟩, st⟩ := X.virtualBack hx (y := y) (z := z) hown (mvT hZ w1) (mvT hZ w2) hnf (mvT hZ w5) (mvT hZ w6) hy (backOf (W := W) hM hZ w4 w3 hf hl) qa qc (g := g) hg hsize (Steps.refl _) (argsL := argsL) (rest := rest) hlen hstack hW hdg (fun _ _ => ⟨rfl, eT, hc, hs⟩)
  dsimp only [Pt.U, Pt.locs, Pt.cells, Pt.slots] at X' l1 y1 z1 st hQ
  subst l1 y1 z1
  exact ⟨v, T', _, Lc, X', rfl, hQ, fun t k => st.trans k⟩
theorem nne {x y : Nat} (q : ¬ x = y) : @Ne Addr x y := q
end Own

def isWs (x : Int32) : Prop := x = 32 ∨ x = 9 ∨ x = 13 ∨ x = 10
theorem own_three (x : Int32) : x &&& 3 = 0 ∨ x &&& 3 = 1 ∨ x &&& 3 = 2 ∨ x &&& 3 = 3 := by
  have e : (x &&& 3).toInt = x.toInt % 2 ^ 2 := Jvm.Kit.i32_mask x 3 (k := 2) (by decide) (by decide)
  have h0 : (0 : Int32).toInt = 0 := by decide
  have h1 : (1 : Int32).toInt = 1 := by decide
  have h2 : (2 : Int32).toInt = 2 := by decide
  have h3 : (3 : Int32).toInt = 3 := by decide
  simp only [← Int32.toInt_inj, h0, h1, h2, h3]
  omega
theorem own_at (x : Int32) : (¬ x &&& 3 < 0 ∧ x &&& 3 < 4) ∧ ∃ w : Int32, ([.int (9 : Int32), .int (10 : Int32), .int (13 : Int32), .int (32 : Int32)] : List Value).getD (x &&& 3).toNatClampNeg (.int (0 : Int32)) = .int w ∧ isWs w := by
  rcases own_three x with h | h | h | h <;> rw [h] <;> refine ⟨⟨by decide, by decide⟩, ?_⟩
  · exact ⟨9, rfl, by simp [isWs]⟩
  · exact ⟨10, rfl, by simp [isWs]⟩
  · exact ⟨13, rfl, by simp [isWs]⟩
  · exact ⟨32, rfl, by simp [isWs]⟩
theorem d1_0 : decode prog_54_method_2_code 0 = .ok (.iload_n 0, 1) := by decide +kernel
theorem d1_1 : decode prog_54_method_2_code 1 = .ok (.bipush 32, 2) := by decide +kernel
theorem d1_3 : decode prog_54_method_2_code 3 = .ok (.if_icmp .eq 21, 3) := by decide +kernel
theorem d1_24 : decode prog_54_method_2_code 24 = .ok (.iconst 1, 1) := by decide +kernel
theorem d1_25 : decode prog_54_method_2_code 25 = .ok (.goto 4, 3) := by decide +kernel
theorem d1_29 : decode prog_54_method_2_code 29 = .ok (.ireturn, 1) := by decide +kernel
theorem d1_6 : decode prog_54_method_2_code 6 = .ok (.iload_n 0, 1) := by decide +kernel
theorem d1_7 : decode prog_54_method_2_code 7 = .ok (.bipush 9, 2) := by decide +kernel
theorem d1_9 : decode prog_54_method_2_code 9 = .ok (.if_icmp .eq 15, 3) := by decide +kernel
theorem d1_12 : decode prog_54_method_2_code 12 = .ok (.iload_n 0, 1) := by decide +kernel
theorem d1_13 : decode prog_54_method_2_code 13 = .ok (.bipush 13, 2) := by decide +kernel
theorem d1_15 : decode prog_54_method_2_code 15 = .ok (.if_icmp .eq 9, 3) := by decide +kernel
theorem d1_18 : decode prog_54_method_2_code 18 = .ok (.iload_n 0, 1) := by decide +kernel
theorem d1_19 : decode prog_54_method_2_code 19 = .ok (.bipush 10, 2) := by decide +kernel
theorem d1_21 : decode prog_54_method_2_code 21 = .ok (.if_icmp .ne 7, 3) := by decide +kernel
theorem d1_28 : decode prog_54_method_2_code 28 = .ok (.iconst 0, 1) := by decide +kernel
theorem ef_1 (m : MethodId) (x0 : Int32) : entryFrame m #[(.int x0)] 1 = mkF m 0 #[.val (.int x0)] [] := by first | (simp [entryFrame, mkF, argsToLocals, Value.category]; done) | rfl
set_option maxRecDepth 65536 in
set_option maxHeartbeats 40000000 in
theorem rm1 (l : Launch) (Z : State) (a0 : Array Value) (hw : ∀ d ∈ tables_1, d.before a0 Z = true) (p1 : Int32) (h0 : Heap) (n0 : Nat) (Z0 : n0 ≤ h0.size) :
    Met l (⟨"com/example/gids/gids/ValueText", "isWhitespace", "(I)Z"⟩ : MethodName) prog_54_method_2_code 1 (some .boolean) [] ({ frames := 0, cells := 0, slots := 0, locals := 0 } : Room) Z #[(.int p1)] h0 (fun v h L => (isWs p1 ∧ v = some (.int 1) ∧ Fr n0 L ∧ h = h0) ∨ (¬ isWs p1 ∧ v = some (.int 0) ∧ Fr n0 L ∧ h = h0)) := by
  refine of_goal (plainFor_of_name (by first | (simp [plainName, overriddenIn]; done) | decide +kernel)) ?_
  intro p e s m below meth c s₁ C X0 e0
  have C0 := C
  obtain ⟨hx, hZ, hby, hml, hret, hown, hnm⟩ := C
  have hown : s.vm.findClass "com/example/gids/gids/ValueText" = some m.cls := hown
  have hret : meth.sig.returnType = (some .boolean) := hret
  have N0 := Fr.nil n0
  rw [ef_1]
  refine Goal.step (T' := s₁) (g' := (mkF m 1 #[.val (.int p1)] [(.int p1)])) ?_ (fun t k => XS.iloadN X0.here hx rfl (hb hby d1_0) rfl k)
  refine Goal.step (T' := s₁) (g' := (mkF m 3 #[.val (.int p1)] [(.int (32 : Int32)), (.int p1)])) ?_ (fun t k => XS.bipush X0.here hx rfl (hb hby d1_1) k)
  by_cases c1001 : p1 = (32 : Int32)
  · refine Goal.step (T' := s₁) (g' := (mkF m 24 #[.val (.int p1)] [])) ?_ (fun t k => XS.icmpYes X0.here hx rfl (pc0 := 3) (pc' := 24) rfl (hb hby d1_3) rfl (teq c1001).1 (by decide) (by decide) k)
    refine Goal.step (T' := s₁) (g' := (mkF m 25 #[.val (.int p1)] [(.int (1 : Int32))])) ?_ (fun t k => XS.iconst X0.here hx rfl (hb hby d1_24) k)
    refine Goal.step (T' := s₁) (g' := (mkF m 29 #[.val (.int p1)] [(.int (1 : Int32))])) ?_ (fun t k => XS.goto X0.here hx rfl (pc0 := 25) (pc' := 29) rfl (hb hby d1_25) (by decide) (by decide) k)
    refine Goal.retN (t := .boolean) X0 hx hret (by simp) (hb hby d1_29) ?_
    refine ⟨?_, by decide, by decide⟩
    rw [e0]
    exact Or.inl ⟨by simp [isWs, c1001], rfl, N0, rfl⟩
  · refine Goal.step (T' := s₁) (g' := (mkF m 6 #[.val (.int p1)] [])) ?_ (fun t k => XS.icmpNo X0.here hx rfl (hb hby d1_3) rfl (feq c1001).1 k)
    refine Goal.step (T' := s₁) (g' := (mkF m 7 #[.val (.int p1)] [(.int p1)])) ?_ (fun t k => XS.iloadN X0.here hx rfl (hb hby d1_6) rfl k)
    refine Goal.step (T' := s₁) (g' := (mkF m 9 #[.val (.int p1)] [(.int (9 : Int32)), (.int p1)])) ?_ (fun t k => XS.bipush X0.here hx rfl (hb hby d1_7) k)
    by_cases c1002 : p1 = (9 : Int32)
    · refine Goal.step (T' := s₁) (g' := (mkF m 24 #[.val (.int p1)] [])) ?_ (fun t k => XS.icmpYes X0.here hx rfl (pc0 := 9) (pc' := 24) rfl (hb hby d1_9) rfl (teq c1002).1 (by decide) (by decide) k)
      refine Goal.step (T' := s₁) (g' := (mkF m 25 #[.val (.int p1)] [(.int (1 : Int32))])) ?_ (fun t k => XS.iconst X0.here hx rfl (hb hby d1_24) k)
      refine Goal.step (T' := s₁) (g' := (mkF m 29 #[.val (.int p1)] [(.int (1 : Int32))])) ?_ (fun t k => XS.goto X0.here hx rfl (pc0 := 25) (pc' := 29) rfl (hb hby d1_25) (by decide) (by decide) k)
      refine Goal.retN (t := .boolean) X0 hx hret (by simp) (hb hby d1_29) ?_
      refine ⟨?_, by decide, by decide⟩
      rw [e0]
      exact Or.inl ⟨by simp [isWs, c1001, c1002], rfl, N0, rfl⟩
    · refine Goal.step (T' := s₁) (g' := (mkF m 12 #[.val (.int p1)] [])) ?_ (fun t k => XS.icmpNo X0.here hx rfl (hb hby d1_9) rfl (feq c1002).1 k)
      refine Goal.step (T' := s₁) (g' := (mkF m 13 #[.val (.int p1)] [(.int p1)])) ?_ (fun t k => XS.iloadN X0.here hx rfl (hb hby d1_12) rfl k)
      refine Goal.step (T' := s₁) (g' := (mkF m 15 #[.val (.int p1)] [(.int (13 : Int32)), (.int p1)])) ?_ (fun t k => XS.bipush X0.here hx rfl (hb hby d1_13) k)
      by_cases c1003 : p1 = (13 : Int32)
      · refine Goal.step (T' := s₁) (g' := (mkF m 24 #[.val (.int p1)] [])) ?_ (fun t k => XS.icmpYes X0.here hx rfl (pc0 := 15) (pc' := 24) rfl (hb hby d1_15) rfl (teq c1003).1 (by decide) (by decide) k)
        refine Goal.step (T' := s₁) (g' := (mkF m 25 #[.val (.int p1)] [(.int (1 : Int32))])) ?_ (fun t k => XS.iconst X0.here hx rfl (hb hby d1_24) k)
        refine Goal.step (T' := s₁) (g' := (mkF m 29 #[.val (.int p1)] [(.int (1 : Int32))])) ?_ (fun t k => XS.goto X0.here hx rfl (pc0 := 25) (pc' := 29) rfl (hb hby d1_25) (by decide) (by decide) k)
        refine Goal.retN (t := .boolean) X0 hx hret (by simp) (hb hby d1_29) ?_
        refine ⟨?_, by decide, by decide⟩
        rw [e0]
        exact Or.inl ⟨by simp [isWs, c1001, c1002, c1003], rfl, N0, rfl⟩
      · refine Goal.step (T' := s₁) (g' := (mkF m 18 #[.val (.int p1)] [])) ?_ (fun t k => XS.icmpNo X0.here hx rfl (hb hby d1_15) rfl (feq c1003).1 k)
        refine Goal.step (T' := s₁) (g' := (mkF m 19 #[.val (.int p1)] [(.int p1)])) ?_ (fun t k => XS.iloadN X0.here hx rfl (hb hby d1_18) rfl k)
        refine Goal.step (T' := s₁) (g' := (mkF m 21 #[.val (.int p1)] [(.int (10 : Int32)), (.int p1)])) ?_ (fun t k => XS.bipush X0.here hx rfl (hb hby d1_19) k)
        by_cases c1004 : p1 = (10 : Int32)
        · refine Goal.step (T' := s₁) (g' := (mkF m 24 #[.val (.int p1)] [])) ?_ (fun t k => XS.icmpNo X0.here hx rfl (hb hby d1_21) rfl (teq c1004).2 k)
          refine Goal.step (T' := s₁) (g' := (mkF m 25 #[.val (.int p1)] [(.int (1 : Int32))])) ?_ (fun t k => XS.iconst X0.here hx rfl (hb hby d1_24) k)
          refine Goal.step (T' := s₁) (g' := (mkF m 29 #[.val (.int p1)] [(.int (1 : Int32))])) ?_ (fun t k => XS.goto X0.here hx rfl (pc0 := 25) (pc' := 29) rfl (hb hby d1_25) (by decide) (by decide) k)
          refine Goal.retN (t := .boolean) X0 hx hret (by simp) (hb hby d1_29) ?_
          refine ⟨?_, by decide, by decide⟩
          rw [e0]
          exact Or.inl ⟨by simp [isWs, c1001, c1002, c1003, c1004], rfl, N0, rfl⟩
        · refine Goal.step (T' := s₁) (g' := (mkF m 28 #[.val (.int p1)] [])) ?_ (fun t k => XS.icmpYes X0.here hx rfl (pc0 := 21) (pc' := 28) rfl (hb hby d1_21) rfl (feq c1004).2 (by decide) (by decide) k)
          refine Goal.step (T' := s₁) (g' := (mkF m 29 #[.val (.int p1)] [(.int (0 : Int32))])) ?_ (fun t k => XS.iconst X0.here hx rfl (hb hby d1_28) k)
          refine Goal.retN (t := .boolean) X0 hx hret (by simp) (hb hby d1_29) ?_
          refine ⟨?_, by decide, by decide⟩
          rw [e0]
          exact Or.inr ⟨by simp [isWs, c1001, c1002, c1003, c1004], rfl, N0, rfl⟩
theorem pd_0 : parseMethodDescriptor "(I)Z" = some ⟨[.int], some .boolean⟩ := by decide +kernel
theorem ef_0 (m : MethodId) (x0 : Int32) (x1 : Int32) : entryFrame m #[(.int x0), (.int x1)] maxLocals = mkF m 0 #[.val (.int x0), .val (.int x1), .unset, .unset, .unset, .unset, .unset] [] := by first | (simp [entryFrame, mkF, argsToLocals, Value.category, maxLocals]; done) | rfl
set_option maxRecDepth 65536 in
set_option maxHeartbeats 40000000 in
theorem rm0 (l : Launch) (Z : State) (a0 : Array Value) (hw : ∀ d ∈ tables_1, d.before a0 Z = true) (p1 p2 : Int32) (h0 : Heap) (n0 : Nat) (Z0 : n0 ≤ h0.size) :
    Met l x code maxLocals ret tables_1 room_1 Z #[(.int p1), (.int p2)] h0 (fun v h L => v = some (.int 1) ∧ Fr n0 L) := by
  refine of_goal (plainFor_of_name (by first | (simp [plainName, overriddenIn]; done) | decide +kernel)) ?_
  intro p e s m below meth c s₁ C X0 e0
  have C0 := C
  obtain ⟨hx, hZ, hby, hml, hret, hown, hnm⟩ := C
  have hown : s.vm.findClass "com/example/gids/gids/ValueTextIsWhitespacePinLaw" = some m.cls := hown
  have hret : meth.sig.returnType = (some .boolean) := hret
  have N0 := Fr.nil n0
  rw [ef_0]
  refine Goal.step (T' := s₁) (g' := (mkF m 1 #[.val (.int p1), .val (.int p2), .unset, .unset, .unset, .unset, .unset] [(.int (4 : Int32))])) ?_ (fun t k => XS.iconst X0.here hx rfl (hb hby at_0) k)
  obtain ⟨T1001, h1001, k1001, X1001, e1001, E1001, A1001, st1001⟩ := newP X0 hx hZ (hw _ (List.mem_of_getElem? (i := 0) rfl)) e0 (g := (mkF m 1 #[.val (.int p1), .val (.int p2), .unset, .unset, .unset, .unset, .unset] [(.int (4 : Int32))])) rfl (hb hby at_1) rfl (by decide) (cap := 4) (by decide) (by decide) (by decide) (by decide)
  obtain ⟨b1001, g1001⟩ : ∃ z, z = h0.size := ⟨_, rfl⟩
  rw [← g1001] at A1001 st1001
  refine Goal.step (T' := T1001) (g' := (mkF m 3 #[.val (.int p1), .val (.int p2), .unset, .unset, .unset, .unset, .unset] [(.ref b1001)])) ?_ st1001
  have sz1002 : h0.size ≤ h1001.size := E1001.1
  have lt_b1001 : b1001 < h1001.size := A1001.lt
  have V1001 : Arv Z h1001 b1001 k1001 .int (4 : Int32) [(.int (0 : Int32)), (.int (0 : Int32)), (.int (0 : Int32)), (.int (0 : Int32))] (.int (0 : Int32)) := (Arv.new A1001 (by decide)).pad (pad_rep [] (.int (0 : Int32)) 4)
  refine Goal.step (T' := T1001) (g' := (mkF m 4 #[.val (.int p1), .val (.int p2), .unset, .unset, .unset, .unset, .unset] [(.ref b1001), (.ref b1001)])) ?_ (fun t k => XS.dup X1001.here hx rfl (hb hby at_3) rfl rfl k)
  refine Goal.step (T' := T1001) (g' := (mkF m 5 #[.val (.int p1), .val (.int p2), .unset, .unset, .unset, .unset, .unset] [(.int (0 : Int32)), (.ref b1001), (.ref b1001)])) ?_ (fun t k => XS.iconst X1001.here hx rfl (hb hby at_4) k)
  refine Goal.step (T' := T1001) (g' := (mkF m 7 #[.val (.int p1), .val (.int p2), .unset, .unset, .unset, .unset, .unset] [(.int (9 : Int32)), (.int (0 : Int32)), (.ref b1001), (.ref b1001)])) ?_ (fun t k => XS.bipush X1001.here hx rfl (hb hby at_5) k)
  obtain ⟨cl1003, Ar1003, q1003, S1003, N_1003, H1003, G1003⟩ := (id V1001)
  have hin1003 : ¬ ((0 : Int32) < 0 ∨ cl1003.slots.size ≤ ((0 : Int32)).toNatClampNeg) := inb_of S1003 ⟨by decide, by decide⟩
  obtain ⟨T1003, h1003, X1003, e1003, W1003, st1003⟩ := stI X1001 hx hZ e1001 Ar1003 (j := (0 : Int32)) hin1003 (g := (mkF m 7 #[.val (.int p1), .val (.int p2), .unset, .unset, .unset, .unset, .unset] [(.int (9 : Int32)), (.int (0 : Int32)), (.ref b1001), (.ref b1001)])) rfl rfl (hb hby at_7)
  refine Goal.step (T' := T1003) (g' := (mkF m 8 #[.val (.int p1), .val (.int p2), .unset, .unset, .unset, .unset, .unset] [(.ref b1001)])) ?_ st1003
  have sz1004 : h1001.size ≤ h1003.size := Nat.le_of_eq W1003.size.symm
  have V1003 : Arv Z h1003 b1001 k1001 .int (4 : Int32) [(.int (9 : Int32)), (.int (0 : Int32)), (.int (0 : Int32)), (.int (0 : Int32))] (.int (0 : Int32)) := Arv.set Ar1003 q1003 S1003 N_1003 H1003 G1003 rfl W1003 0 rfl (Nat.le_of_ble_eq_true rfl)
  have N1003 := Fr.snoc X1003 N0 (by omega : n0 ≤ b1001)
  refine Goal.step (T' := T1003) (g' := (mkF m 9 #[.val (.int p1), .val (.int p2), .unset, .unset, .unset, .unset, .unset] [(.ref b1001), (.ref b1001)])) ?_ (fun t k => XS.dup X1003.here hx rfl (hb hby at_8) rfl rfl k)
  refine Goal.step (T' := T1003) (g' := (mkF m 10 #[.val (.int p1), .val (.int p2), .unset, .unset, .unset, .unset, .unset] [(.int (1 : Int32)), (.ref b1001), (.ref b1001)])) ?_ (fun t k => XS.iconst X1003.here hx rfl (hb hby at_9) k)
  refine Goal.step (T' := T1003) (g' := (mkF m 12 #[.val (.int p1), .val (.int p2), .unset, .unset, .unset, .unset, .unset] [(.int (10 : Int32)), (.int (1 : Int32)), (.ref b1001), (.ref b1001)])) ?_ (fun t k => XS.bipush X1003.here hx rfl (hb hby at_10) k)
  obtain ⟨cl1005, Ar1005, q1005, S1005, N_1005, H1005, G1005⟩ := (id V1003)
  have hin1005 : ¬ ((1 : Int32) < 0 ∨ cl1005.slots.size ≤ ((1 : Int32)).toNatClampNeg) := inb_of S1005 ⟨by decide, by decide⟩
  obtain ⟨T1005, h1005, X1005, e1005, W1005, st1005⟩ := stI X1003 hx hZ e1003 Ar1005 (j := (1 : Int32)) hin1005 (g := (mkF m 12 #[.val (.int p1), .val (.int p2), .unset, .unset, .unset, .unset, .unset] [(.int (10 : Int32)), (.int (1 : Int32)), (.ref b1001), (.ref b1001)])) rfl rfl (hb hby at_12)
  refine Goal.step (T' := T1005) (g' := (mkF m 13 #[.val (.int p1), .val (.int p2), .unset, .unset, .unset, .unset, .unset] [(.ref b1001)])) ?_ st1005
  have sz1006 : h1003.size ≤ h1005.size := Nat.le_of_eq W1005.size.symm
  have V1005 : Arv Z h1005 b1001 k1001 .int (4 : Int32) [(.int (9 : Int32)), (.int (10 : Int32)), (.int (0 : Int32)), (.int (0 : Int32))] (.int (0 : Int32)) := Arv.set Ar1005 q1005 S1005 N_1005 H1005 G1005 rfl W1005 1 rfl (Nat.le_of_ble_eq_true rfl)
  have N1005 := Fr.snoc X1005 N1003 (by omega : n0 ≤ b1001)
  refine Goal.step (T' := T1005) (g' := (mkF m 14 #[.val (.int p1), .val (.int p2), .unset, .unset, .unset, .unset, .unset] [(.ref b1001), (.ref b1001)])) ?_ (fun t k => XS.dup X1005.here hx rfl (hb hby at_13) rfl rfl k)
  refine Goal.step (T' := T1005) (g' := (mkF m 15 #[.val (.int p1), .val (.int p2), .unset, .unset, .unset, .unset, .unset] [(.int (2 : Int32)), (.ref b1001), (.ref b1001)])) ?_ (fun t k => XS.iconst X1005.here hx rfl (hb hby at_14) k)
  refine Goal.step (T' := T1005) (g' := (mkF m 17 #[.val (.int p1), .val (.int p2), .unset, .unset, .unset, .unset, .unset] [(.int (13 : Int32)), (.int (2 : Int32)), (.ref b1001), (.ref b1001)])) ?_ (fun t k => XS.bipush X1005.here hx rfl (hb hby at_15) k)
  obtain ⟨cl1007, Ar1007, q1007, S1007, N_1007, H1007, G1007⟩ := (id V1005)
  have hin1007 : ¬ ((2 : Int32) < 0 ∨ cl1007.slots.size ≤ ((2 : Int32)).toNatClampNeg) := inb_of S1007 ⟨by decide, by decide⟩
  obtain ⟨T1007, h1007, X1007, e1007, W1007, st1007⟩ := stI X1005 hx hZ e1005 Ar1007 (j := (2 : Int32)) hin1007 (g := (mkF m 17 #[.val (.int p1), .val (.int p2), .unset, .unset, .unset, .unset, .unset] [(.int (13 : Int32)), (.int (2 : Int32)), (.ref b1001), (.ref b1001)])) rfl rfl (hb hby at_17)
  refine Goal.step (T' := T1007) (g' := (mkF m 18 #[.val (.int p1), .val (.int p2), .unset, .unset, .unset, .unset, .unset] [(.ref b1001)])) ?_ st1007
  have sz1008 : h1005.size ≤ h1007.size := Nat.le_of_eq W1007.size.symm
  have V1007 : Arv Z h1007 b1001 k1001 .int (4 : Int32) [(.int (9 : Int32)), (.int (10 : Int32)), (.int (13 : Int32)), (.int (0 : Int32))] (.int (0 : Int32)) := Arv.set Ar1007 q1007 S1007 N_1007 H1007 G1007 rfl W1007 2 rfl (Nat.le_of_ble_eq_true rfl)
  have N1007 := Fr.snoc X1007 N1005 (by omega : n0 ≤ b1001)
  refine Goal.step (T' := T1007) (g' := (mkF m 19 #[.val (.int p1), .val (.int p2), .unset, .unset, .unset, .unset, .unset] [(.ref b1001), (.ref b1001)])) ?_ (fun t k => XS.dup X1007.here hx rfl (hb hby at_18) rfl rfl k)
  refine Goal.step (T' := T1007) (g' := (mkF m 20 #[.val (.int p1), .val (.int p2), .unset, .unset, .unset, .unset, .unset] [(.int (3 : Int32)), (.ref b1001), (.ref b1001)])) ?_ (fun t k => XS.iconst X1007.here hx rfl (hb hby at_19) k)
  refine Goal.step (T' := T1007) (g' := (mkF m 22 #[.val (.int p1), .val (.int p2), .unset, .unset, .unset, .unset, .unset] [(.int (32 : Int32)), (.int (3 : Int32)), (.ref b1001), (.ref b1001)])) ?_ (fun t k => XS.bipush X1007.here hx rfl (hb hby at_20) k)
  obtain ⟨cl1009, Ar1009, q1009, S1009, N_1009, H1009, G1009⟩ := (id V1007)
  have hin1009 : ¬ ((3 : Int32) < 0 ∨ cl1009.slots.size ≤ ((3 : Int32)).toNatClampNeg) := inb_of S1009 ⟨by decide, by decide⟩
  obtain ⟨T1009, h1009, X1009, e1009, W1009, st1009⟩ := stI X1007 hx hZ e1007 Ar1009 (j := (3 : Int32)) hin1009 (g := (mkF m 22 #[.val (.int p1), .val (.int p2), .unset, .unset, .unset, .unset, .unset] [(.int (32 : Int32)), (.int (3 : Int32)), (.ref b1001), (.ref b1001)])) rfl rfl (hb hby at_22)
  refine Goal.step (T' := T1009) (g' := (mkF m 23 #[.val (.int p1), .val (.int p2), .unset, .unset, .unset, .unset, .unset] [(.ref b1001)])) ?_ st1009
  have sz1010 : h1007.size ≤ h1009.size := Nat.le_of_eq W1009.size.symm
  have V1009 : Arv Z h1009 b1001 k1001 .int (4 : Int32) [(.int (9 : Int32)), (.int (10 : Int32)), (.int (13 : Int32)), (.int (32 : Int32))] (.int (0 : Int32)) := Arv.set Ar1009 q1009 S1009 N_1009 H1009 G1009 rfl W1009 3 rfl (Nat.le_of_ble_eq_true rfl)
  have N1009 := Fr.snoc X1009 N1007 (by omega : n0 ≤ b1001)
  refine Goal.step (T' := T1009) (g' := (mkF m 24 #[.val (.int p1), .val (.int p2), .val (.ref b1001), .unset, .unset, .unset, .unset] [])) ?_ (fun t k => XS.astoreN X1009.here hx rfl (hb hby at_23) rfl rfl (l' := #[.val (.int p1), .val (.int p2), .val (.ref b1001), .unset, .unset, .unset, .unset]) rfl k)
  refine Goal.step (T' := T1009) (g' := (mkF m 25 #[.val (.int p1), .val (.int p2), .val (.ref b1001), .unset, .unset, .unset, .unset] [(.ref b1001)])) ?_ (fun t k => XS.aloadN X1009.here hx rfl (hb hby at_24) rfl rfl k)
  refine Goal.step (T' := T1009) (g' := (mkF m 26 #[.val (.int p1), .val (.int p2), .val (.ref b1001), .unset, .unset, .unset, .unset] [(.int p2), (.ref b1001)])) ?_ (fun t k => XS.iloadN X1009.here hx rfl (hb hby at_25) rfl k)
  refine Goal.step (T' := T1009) (g' := (mkF m 27 #[.val (.int p1), .val (.int p2), .val (.ref b1001), .unset, .unset, .unset, .unset] [(.int (3 : Int32)), (.int p2), (.ref b1001)])) ?_ (fun t k => XS.iconst X1009.here hx rfl (hb hby at_26) k)
  refine Goal.step (T' := T1009) (g' := (mkF m 28 #[.val (.int p1), .val (.int p2), .val (.ref b1001), .unset, .unset, .unset, .unset] [(.int (p2 &&& (3 : Int32))), (.ref b1001)])) ?_ (fun t k => XS.iand X1009.here hx rfl (hb hby at_27) rfl k)
  obtain ⟨hin28, w8, hat28, hw8⟩ := own_at p2
  obtain ⟨cl1011, Ar1011, q1011, S1011, N_1011, H1011, G1011⟩ := (id V1009)
  have hin1011 : ¬ ((p2 &&& (3 : Int32)) < 0 ∨ cl1011.slots.size ≤ ((p2 &&& (3 : Int32))).toNatClampNeg) := inb_of S1011 hin28
  have hat1011 : cl1011.slots[((p2 &&& (3 : Int32))).toNatClampNeg]? = some (.int w8) := Has.at H1011 hin1011 hat28
  refine Goal.step (T' := T1009) (g' := (mkF m 29 #[.val (.int p1), .val (.int p2), .val (.ref b1001), .unset, .unset, .unset, .unset] [(.int w8)])) ?_ (fun t k => X1009.iaload hx (j := (p2 &&& (3 : Int32))) (v := (.int w8)) (by rw [e1009]; exact Ar1011.1) (State.isArrayOf_alike hZ.alike Ar1011.2.1) Ar1011.2.2 hin1011 hat1011 (g := (mkF m 28 #[.val (.int p1), .val (.int p2), .val (.ref b1001), .unset, .unset, .unset, .unset] [(.int (p2 &&& (3 : Int32))), (.ref b1001)])) rfl rfl (hb hby at_28) _ k)
  refine Goal.step (T' := T1009) (g' := (mkF m 30 #[.val (.int p1), .val (.int p2), .val (.ref b1001), .val (.int w8), .unset, .unset, .unset] [])) ?_ (fun t k => XS.istoreN X1009.here hx rfl (hb hby at_29) rfl (l' := #[.val (.int p1), .val (.int p2), .val (.ref b1001), .val (.int w8), .unset, .unset, .unset]) rfl k)
  refine Goal.step (T' := T1009) (g' := (mkF m 31 #[.val (.int p1), .val (.int p2), .val (.ref b1001), .val (.int w8), .unset, .unset, .unset] [(.int p1)])) ?_ (fun t k => XS.iloadN X1009.here hx rfl (hb hby at_30) rfl k)
  refine Goal.step (T' := T1009) (g' := (mkF m 32 #[.val (.int p1), .val (.int p2), .val (.ref b1001), .val (.int w8), .unset, .unset, .unset] [(.ref b1001), (.int p1)])) ?_ (fun t k => XS.aloadN X1009.here hx rfl (hb hby at_31) rfl rfl k)
  refine Goal.step (T' := T1009) (g' := (mkF m 33 #[.val (.int p1), .val (.int p2), .val (.ref b1001), .val (.int w8), .unset, .unset, .unset] [(.int (0 : Int32)), (.ref b1001), (.int p1)])) ?_ (fun t k => XS.iconst X1009.here hx rfl (hb hby at_32) k)
  obtain ⟨cl1012, Ar1012, q1012, S1012, N_1012, H1012, G1012⟩ := (id V1009)
  have hin1012 : ¬ ((0 : Int32) < 0 ∨ cl1012.slots.size ≤ ((0 : Int32)).toNatClampNeg) := inb_of S1012 ⟨by decide, by decide⟩
  have hat1012 : cl1012.slots[((0 : Int32)).toNatClampNeg]? = some (.int (9 : Int32)) := Has.at H1012 hin1012 rfl
  refine Goal.step (T' := T1009) (g' := (mkF m 34 #[.val (.int p1), .val (.int p2), .val (.ref b1001), .val (.int w8), .unset, .unset, .unset] [(.int (9 : Int32)), (.int p1)])) ?_ (fun t k => X1009.iaload hx (j := (0 : Int32)) (v := (.int (9 : Int32))) (by rw [e1009]; exact Ar1012.1) (State.isArrayOf_alike hZ.alike Ar1012.2.1) Ar1012.2.2 hin1012 hat1012 (g := (mkF m 33 #[.val (.int p1), .val (.int p2), .val (.ref b1001), .val (.int w8), .unset, .unset, .unset] [(.int (0 : Int32)), (.ref b1001), (.int p1)])) rfl rfl (hb hby at_33) _ k)
  by_cases c1013 : p1 = (9 : Int32)
  · refine Goal.step (T' := T1009) (g' := (mkF m 58 #[.val (.int p1), .val (.int p2), .val (.ref b1001), .val (.int w8), .unset, .unset, .unset] [])) ?_ (fun t k => XS.icmpYes X1009.here hx rfl (pc0 := 34) (pc' := 58) rfl (hb hby at_34) rfl (teq c1013).1 (by decide) (by decide) k)
    refine Goal.step (T' := T1009) (g' := (mkF m 59 #[.val (.int p1), .val (.int p2), .val (.ref b1001), .val (.int w8), .unset, .unset, .unset] [(.int (1 : Int32))])) ?_ (fun t k => XS.iconst X1009.here hx rfl (hb hby at_58) k)
    refine Goal.step (T' := T1009) (g' := (mkF m 63 #[.val (.int p1), .val (.int p2), .val (.ref b1001), .val (.int w8), .unset, .unset, .unset] [(.int (1 : Int32))])) ?_ (fun t k => XS.goto X1009.here hx rfl (pc0 := 59) (pc' := 63) rfl (hb hby at_59) (by decide) (by decide) k)
    refine Goal.step (T' := T1009) (g' := (mkF m 65 #[.val (.int p1), .val (.int p2), .val (.ref b1001), .val (.int w8), .val (.int (1 : Int32)), .unset, .unset] [])) ?_ (fun t k => XS.istore X1009.here hx rfl (hb hby at_63) rfl (l' := #[.val (.int p1), .val (.int p2), .val (.ref b1001), .val (.int w8), .val (.int (1 : Int32)), .unset, .unset]) rfl k)
    refine Goal.step (T' := T1009) (g' := (mkF m 66 #[.val (.int p1), .val (.int p2), .val (.ref b1001), .val (.int w8), .val (.int (1 : Int32)), .unset, .unset] [(.int w8)])) ?_ (fun t k => XS.iloadN X1009.here hx rfl (hb hby at_65) rfl k)
    obtain ⟨v1014, T1014, h1014, L1014, X1014, e1014, hQ1014, st1014⟩ := callStatic X1009 hx hZ hown (hw _ (List.mem_of_getElem? (i := 1) rfl)) (hw _ (List.mem_of_getElem? (i := 2) rfl)) (hw _ (List.mem_of_getElem? (i := 3) rfl)) (hw _ (List.mem_of_getElem? (i := 4) rfl)) (by decide) (rm1 l Z a0 hw w8 h1009 n0 (by omega) ) e1009 (W := 0) (by decide) (by decide) (by decide) (by decide) (g := (mkF m 66 #[.val (.int p1), .val (.int p2), .val (.ref b1001), .val (.int w8), .val (.int (1 : Int32)), .unset, .unset] [(.int w8)])) rfl (by rw [hml]; rfl) (argsL := [(.int w8)]) (rest := []) (lenOf pd_0 rfl) rfl (by show 2 * 0 + _ ≤ _; exact Nat.le_of_eq rfl) (hb hby at_66) rfl
    have hP1014 : ¬ ¬ isWs w8 := fun q => q hw8
    obtain ⟨rfl, M1014, q1014⟩ := hQ1014.elim (fun x => x.2) (fun x => absurd x.1 hP1014)
    rw [q1014] at e1014
    have N1014 := Fr.app N1009 M1014
    refine Goal.step (T' := T1014) (g' := (mkF m 69 #[.val (.int p1), .val (.int p2), .val (.ref b1001), .val (.int w8), .val (.int (1 : Int32)), .unset, .unset] [(.int (1 : Int32))])) ?_ st1014
    refine Goal.step (T' := T1014) (g' := (mkF m 71 #[.val (.int p1), .val (.int p2), .val (.ref b1001), .val (.int w8), .val (.int (1 : Int32)), .val (.int (1 : Int32)), .unset] [])) ?_ (fun t k => XS.istore X1014.here hx rfl (hb hby at_69) rfl (l' := #[.val (.int p1), .val (.int p2), .val (.ref b1001), .val (.int w8), .val (.int (1 : Int32)), .val (.int (1 : Int32)), .unset]) rfl k)
    refine Goal.step (T' := T1014) (g' := (mkF m 72 #[.val (.int p1), .val (.int p2), .val (.ref b1001), .val (.int w8), .val (.int (1 : Int32)), .val (.int (1 : Int32)), .unset] [(.int p1)])) ?_ (fun t k => XS.iloadN X1014.here hx rfl (hb hby at_71) rfl k)
    obtain ⟨v1015, T1015, h1015, L1015, X1015, e1015, hQ1015, st1015⟩ := callStatic X1014 hx hZ hown (hw _ (List.mem_of_getElem? (i := 1) rfl)) (hw _ (List.mem_of_getElem? (i := 2) rfl)) (hw _ (List.mem_of_getElem? (i := 3) rfl)) (hw _ (List.mem_of_getElem? (i := 4) rfl)) (by decide) (rm1 l Z a0 hw p1 h1009 n0 (by omega) ) e1014 (W := 0) (by decide) (by decide) (by decide) (by decide) (g := (mkF m 72 #[.val (.int p1), .val (.int p2), .val (.ref b1001), .val (.int w8), .val (.int (1 : Int32)), .val (.int (1 : Int32)), .unset] [(.int p1)])) rfl (by rw [hml]; rfl) (argsL := [(.int p1)]) (rest := []) (lenOf pd_0 rfl) rfl (by show 2 * 0 + _ ≤ _; exact Nat.le_of_eq rfl) (hb hby at_72) rfl
    have hP1015 : ¬ ¬ isWs p1 := by simp [isWs, c1013]
    obtain ⟨rfl, M1015, q1015⟩ := hQ1015.elim (fun x => x.2) (fun x => absurd x.1 hP1015)
    rw [q1015] at e1015
    have N1015 := Fr.app N1014 M1015
    refine Goal.step (T' := T1015) (g' := (mkF m 75 #[.val (.int p1), .val (.int p2), .val (.ref b1001), .val (.int w8), .val (.int (1 : Int32)), .val (.int (1 : Int32)), .unset] [(.int (1 : Int32))])) ?_ st1015
    refine Goal.step (T' := T1015) (g' := (mkF m 77 #[.val (.int p1), .val (.int p2), .val (.ref b1001), .val (.int w8), .val (.int (1 : Int32)), .val (.int (1 : Int32)), .unset] [(.int (1 : Int32)), (.int (1 : Int32))])) ?_ (fun t k => XS.iload X1015.here hx rfl (hb hby at_75) rfl k)
    refine Goal.step (T' := T1015) (g' := (mkF m 80 #[.val (.int p1), .val (.int p2), .val (.ref b1001), .val (.int w8), .val (.int (1 : Int32)), .val (.int (1 : Int32)), .unset] [])) ?_ (fun t k => XS.icmpNo X1015.here hx rfl (hb hby at_77) rfl (teq (by decide)).2 k)
    refine Goal.step (T' := T1015) (g' := (mkF m 81 #[.val (.int p1), .val (.int p2), .val (.ref b1001), .val (.int w8), .val (.int (1 : Int32)), .val (.int (1 : Int32)), .unset] [(.int (1 : Int32))])) ?_ (fun t k => XS.iconst X1015.here hx rfl (hb hby at_80) k)
    refine Goal.step (T' := T1015) (g' := (mkF m 85 #[.val (.int p1), .val (.int p2), .val (.ref b1001), .val (.int w8), .val (.int (1 : Int32)), .val (.int (1 : Int32)), .unset] [(.int (1 : Int32))])) ?_ (fun t k => XS.goto X1015.here hx rfl (pc0 := 81) (pc' := 85) rfl (hb hby at_81) (by decide) (by decide) k)
    refine Goal.step (T' := T1015) (g' := (mkF m 87 #[.val (.int p1), .val (.int p2), .val (.ref b1001), .val (.int w8), .val (.int (1 : Int32)), .val (.int (1 : Int32)), .val (.int (1 : Int32))] [])) ?_ (fun t k => XS.istore X1015.here hx rfl (hb hby at_85) rfl (l' := #[.val (.int p1), .val (.int p2), .val (.ref b1001), .val (.int w8), .val (.int (1 : Int32)), .val (.int (1 : Int32)), .val (.int (1 : Int32))]) rfl k)
    refine Goal.step (T' := T1015) (g' := (mkF m 89 #[.val (.int p1), .val (.int p2), .val (.ref b1001), .val (.int w8), .val (.int (1 : Int32)), .val (.int (1 : Int32)), .val (.int (1 : Int32))] [(.int (1 : Int32))])) ?_ (fun t k => XS.iload X1015.here hx rfl (hb hby at_87) rfl k)
    refine Goal.step (T' := T1015) (g' := (mkF m 92 #[.val (.int p1), .val (.int p2), .val (.ref b1001), .val (.int w8), .val (.int (1 : Int32)), .val (.int (1 : Int32)), .val (.int (1 : Int32))] [])) ?_ (fun t k => XS.ifNo X1015.here hx rfl (hb hby at_89) rfl ((if0 _ _).trans (feq (by decide)).1) k)
    refine Goal.step (T' := T1015) (g' := (mkF m 94 #[.val (.int p1), .val (.int p2), .val (.ref b1001), .val (.int w8), .val (.int (1 : Int32)), .val (.int (1 : Int32)), .val (.int (1 : Int32))] [(.int (1 : Int32))])) ?_ (fun t k => XS.iload X1015.here hx rfl (hb hby at_92) rfl k)
    refine Goal.step (T' := T1015) (g' := (mkF m 97 #[.val (.int p1), .val (.int p2), .val (.ref b1001), .val (.int w8), .val (.int (1 : Int32)), .val (.int (1 : Int32)), .val (.int (1 : Int32))] [])) ?_ (fun t k => XS.ifNo X1015.here hx rfl (hb hby at_94) rfl ((if0 _ _).trans (feq (by decide)).1) k)
    refine Goal.step (T' := T1015) (g' := (mkF m 98 #[.val (.int p1), .val (.int p2), .val (.ref b1001), .val (.int w8), .val (.int (1 : Int32)), .val (.int (1 : Int32)), .val (.int (1 : Int32))] [(.int (1 : Int32))])) ?_ (fun t k => XS.iconst X1015.here hx rfl (hb hby at_97) k)
    refine Goal.step (T' := T1015) (g' := (mkF m 102 #[.val (.int p1), .val (.int p2), .val (.ref b1001), .val (.int w8), .val (.int (1 : Int32)), .val (.int (1 : Int32)), .val (.int (1 : Int32))] [(.int (1 : Int32))])) ?_ (fun t k => XS.goto X1015.here hx rfl (pc0 := 98) (pc' := 102) rfl (hb hby at_98) (by decide) (by decide) k)
    refine Goal.retN (t := .boolean) X1015 hx hret (by simp) (hb hby at_102) ?_
    exact ⟨⟨rfl, N1015⟩, by decide, by decide⟩
  · refine Goal.step (T' := T1009) (g' := (mkF m 37 #[.val (.int p1), .val (.int p2), .val (.ref b1001), .val (.int w8), .unset, .unset, .unset] [])) ?_ (fun t k => XS.icmpNo X1009.here hx rfl (hb hby at_34) rfl (feq c1013).1 k)
    refine Goal.step (T' := T1009) (g' := (mkF m 38 #[.val (.int p1), .val (.int p2), .val (.ref b1001), .val (.int w8), .unset, .unset, .unset] [(.int p1)])) ?_ (fun t k => XS.iloadN X1009.here hx rfl (hb hby at_37) rfl k)
    refine Goal.step (T' := T1009) (g' := (mkF m 39 #[.val (.int p1), .val (.int p2), .val (.ref b1001), .val (.int w8), .unset, .unset, .unset] [(.ref b1001), (.int p1)])) ?_ (fun t k => XS.aloadN X1009.here hx rfl (hb hby at_38) rfl rfl k)
    refine Goal.step (T' := T1009) (g' := (mkF m 40 #[.val (.int p1), .val (.int p2), .val (.ref b1001), .val (.int w8), .unset, .unset, .unset] [(.int (1 : Int32)), (.ref b1001), (.int p1)])) ?_ (fun t k => XS.iconst X1009.here hx rfl (hb hby at_39) k)
    obtain ⟨cl1016, Ar1016, q1016, S1016, N_1016, H1016, G1016⟩ := (id V1009)
    have hin1016 : ¬ ((1 : Int32) < 0 ∨ cl1016.slots.size ≤ ((1 : Int32)).toNatClampNeg) := inb_of S1016 ⟨by decide, by decide⟩
    have hat1016 : cl1016.slots[((1 : Int32)).toNatClampNeg]? = some (.int (10 : Int32)) := Has.at H1016 hin1016 rfl
    refine Goal.step (T' := T1009) (g' := (mkF m 41 #[.val (.int p1), .val (.int p2), .val (.ref b1001), .val (.int w8), .unset, .unset, .unset] [(.int (10 : Int32)), (.int p1)])) ?_ (fun t k => X1009.iaload hx (j := (1 : Int32)) (v := (.int (10 : Int32))) (by rw [e1009]; exact Ar1016.1) (State.isArrayOf_alike hZ.alike Ar1016.2.1) Ar1016.2.2 hin1016 hat1016 (g := (mkF m 40 #[.val (.int p1), .val (.int p2), .val (.ref b1001), .val (.int w8), .unset, .unset, .unset] [(.int (1 : Int32)), (.ref b1001), (.int p1)])) rfl rfl (hb hby at_40) _ k)
    by_cases c1017 : p1 = (10 : Int32)
    · refine Goal.step (T' := T1009) (g' := (mkF m 58 #[.val (.int p1), .val (.int p2), .val (.ref b1001), .val (.int w8), .unset, .unset, .unset] [])) ?_ (fun t k => XS.icmpYes X1009.here hx rfl (pc0 := 41) (pc' := 58) rfl (hb hby at_41) rfl (teq c1017).1 (by decide) (by decide) k)
      refine Goal.step (T' := T1009) (g' := (mkF m 59 #[.val (.int p1), .val (.int p2), .val (.ref b1001), .val (.int w8), .unset, .unset, .unset] [(.int (1 : Int32))])) ?_ (fun t k => XS.iconst X1009.here hx rfl (hb hby at_58) k)
      refine Goal.step (T' := T1009) (g' := (mkF m 63 #[.val (.int p1), .val (.int p2), .val (.ref b1001), .val (.int w8), .unset, .unset, .unset] [(.int (1 : Int32))])) ?_ (fun t k => XS.goto X1009.here hx rfl (pc0 := 59) (pc' := 63) rfl (hb hby at_59) (by decide) (by decide) k)
      refine Goal.step (T' := T1009) (g' := (mkF m 65 #[.val (.int p1), .val (.int p2), .val (.ref b1001), .val (.int w8), .val (.int (1 : Int32)), .unset, .unset] [])) ?_ (fun t k => XS.istore X1009.here hx rfl (hb hby at_63) rfl (l' := #[.val (.int p1), .val (.int p2), .val (.ref b1001), .val (.int w8), .val (.int (1 : Int32)), .unset, .unset]) rfl k)
      refine Goal.step (T' := T1009) (g' := (mkF m 66 #[.val (.int p1), .val (.int p2), .val (.ref b1001), .val (.int w8), .val (.int (1 : Int32)), .unset, .unset] [(.int w8)])) ?_ (fun t k => XS.iloadN X1009.here hx rfl (hb hby at_65) rfl k)
      obtain ⟨v1018, T1018, h1018, L1018, X1018, e1018, hQ1018, st1018⟩ := callStatic X1009 hx hZ hown (hw _ (List.mem_of_getElem? (i := 1) rfl)) (hw _ (List.mem_of_getElem? (i := 2) rfl)) (hw _ (List.mem_of_getElem? (i := 3) rfl)) (hw _ (List.mem_of_getElem? (i := 4) rfl)) (by decide) (rm1 l Z a0 hw w8 h1009 n0 (by omega) ) e1009 (W := 0) (by decide) (by decide) (by decide) (by decide) (g := (mkF m 66 #[.val (.int p1), .val (.int p2), .val (.ref b1001), .val (.int w8), .val (.int (1 : Int32)), .unset, .unset] [(.int w8)])) rfl (by rw [hml]; rfl) (argsL := [(.int w8)]) (rest := []) (lenOf pd_0 rfl) rfl (by show 2 * 0 + _ ≤ _; exact Nat.le_of_eq rfl) (hb hby at_66) rfl
      have hP1018 : ¬ ¬ isWs w8 := fun q => q hw8
      obtain ⟨rfl, M1018, q1018⟩ := hQ1018.elim (fun x => x.2) (fun x => absurd x.1 hP1018)
      rw [q1018] at e1018
      have N1018 := Fr.app N1009 M1018
      refine Goal.step (T' := T1018) (g' := (mkF m 69 #[.val (.int p1), .val (.int p2), .val (.ref b1001), .val (.int w8), .val (.int (1 : Int32)), .unset, .unset] [(.int (1 : Int32))])) ?_ st1018
      refine Goal.step (T' := T1018) (g' := (mkF m 71 #[.val (.int p1), .val (.int p2), .val (.ref b1001), .val (.int w8), .val (.int (1 : Int32)), .val (.int (1 : Int32)), .unset] [])) ?_ (fun t k => XS.istore X1018.here hx rfl (hb hby at_69) rfl (l' := #[.val (.int p1), .val (.int p2), .val (.ref b1001), .val (.int w8), .val (.int (1 : Int32)), .val (.int (1 : Int32)), .unset]) rfl k)
      refine Goal.step (T' := T1018) (g' := (mkF m 72 #[.val (.int p1), .val (.int p2), .val (.ref b1001), .val (.int w8), .val (.int (1 : Int32)), .val (.int (1 : Int32)), .unset] [(.int p1)])) ?_ (fun t k => XS.iloadN X1018.here hx rfl (hb hby at_71) rfl k)
      obtain ⟨v1019, T1019, h1019, L1019, X1019, e1019, hQ1019, st1019⟩ := callStatic X1018 hx hZ hown (hw _ (List.mem_of_getElem? (i := 1) rfl)) (hw _ (List.mem_of_getElem? (i := 2) rfl)) (hw _ (List.mem_of_getElem? (i := 3) rfl)) (hw _ (List.mem_of_getElem? (i := 4) rfl)) (by decide) (rm1 l Z a0 hw p1 h1009 n0 (by omega) ) e1018 (W := 0) (by decide) (by decide) (by decide) (by decide) (g := (mkF m 72 #[.val (.int p1), .val (.int p2), .val (.ref b1001), .val (.int w8), .val (.int (1 : Int32)), .val (.int (1 : Int32)), .unset] [(.int p1)])) rfl (by rw [hml]; rfl) (argsL := [(.int p1)]) (rest := []) (lenOf pd_0 rfl) rfl (by show 2 * 0 + _ ≤ _; exact Nat.le_of_eq rfl) (hb hby at_72) rfl
      have hP1019 : ¬ ¬ isWs p1 := by simp [isWs, c1013, c1017]
      obtain ⟨rfl, M1019, q1019⟩ := hQ1019.elim (fun x => x.2) (fun x => absurd x.1 hP1019)
      rw [q1019] at e1019
      have N1019 := Fr.app N1018 M1019
      refine Goal.step (T' := T1019) (g' := (mkF m 75 #[.val (.int p1), .val (.int p2), .val (.ref b1001), .val (.int w8), .val (.int (1 : Int32)), .val (.int (1 : Int32)), .unset] [(.int (1 : Int32))])) ?_ st1019
      refine Goal.step (T' := T1019) (g' := (mkF m 77 #[.val (.int p1), .val (.int p2), .val (.ref b1001), .val (.int w8), .val (.int (1 : Int32)), .val (.int (1 : Int32)), .unset] [(.int (1 : Int32)), (.int (1 : Int32))])) ?_ (fun t k => XS.iload X1019.here hx rfl (hb hby at_75) rfl k)
      refine Goal.step (T' := T1019) (g' := (mkF m 80 #[.val (.int p1), .val (.int p2), .val (.ref b1001), .val (.int w8), .val (.int (1 : Int32)), .val (.int (1 : Int32)), .unset] [])) ?_ (fun t k => XS.icmpNo X1019.here hx rfl (hb hby at_77) rfl (teq (by decide)).2 k)
      refine Goal.step (T' := T1019) (g' := (mkF m 81 #[.val (.int p1), .val (.int p2), .val (.ref b1001), .val (.int w8), .val (.int (1 : Int32)), .val (.int (1 : Int32)), .unset] [(.int (1 : Int32))])) ?_ (fun t k => XS.iconst X1019.here hx rfl (hb hby at_80) k)
      refine Goal.step (T' := T1019) (g' := (mkF m 85 #[.val (.int p1), .val (.int p2), .val (.ref b1001), .val (.int w8), .val (.int (1 : Int32)), .val (.int (1 : Int32)), .unset] [(.int (1 : Int32))])) ?_ (fun t k => XS.goto X1019.here hx rfl (pc0 := 81) (pc' := 85) rfl (hb hby at_81) (by decide) (by decide) k)
      refine Goal.step (T' := T1019) (g' := (mkF m 87 #[.val (.int p1), .val (.int p2), .val (.ref b1001), .val (.int w8), .val (.int (1 : Int32)), .val (.int (1 : Int32)), .val (.int (1 : Int32))] [])) ?_ (fun t k => XS.istore X1019.here hx rfl (hb hby at_85) rfl (l' := #[.val (.int p1), .val (.int p2), .val (.ref b1001), .val (.int w8), .val (.int (1 : Int32)), .val (.int (1 : Int32)), .val (.int (1 : Int32))]) rfl k)
      refine Goal.step (T' := T1019) (g' := (mkF m 89 #[.val (.int p1), .val (.int p2), .val (.ref b1001), .val (.int w8), .val (.int (1 : Int32)), .val (.int (1 : Int32)), .val (.int (1 : Int32))] [(.int (1 : Int32))])) ?_ (fun t k => XS.iload X1019.here hx rfl (hb hby at_87) rfl k)
      refine Goal.step (T' := T1019) (g' := (mkF m 92 #[.val (.int p1), .val (.int p2), .val (.ref b1001), .val (.int w8), .val (.int (1 : Int32)), .val (.int (1 : Int32)), .val (.int (1 : Int32))] [])) ?_ (fun t k => XS.ifNo X1019.here hx rfl (hb hby at_89) rfl ((if0 _ _).trans (feq (by decide)).1) k)
      refine Goal.step (T' := T1019) (g' := (mkF m 94 #[.val (.int p1), .val (.int p2), .val (.ref b1001), .val (.int w8), .val (.int (1 : Int32)), .val (.int (1 : Int32)), .val (.int (1 : Int32))] [(.int (1 : Int32))])) ?_ (fun t k => XS.iload X1019.here hx rfl (hb hby at_92) rfl k)
      refine Goal.step (T' := T1019) (g' := (mkF m 97 #[.val (.int p1), .val (.int p2), .val (.ref b1001), .val (.int w8), .val (.int (1 : Int32)), .val (.int (1 : Int32)), .val (.int (1 : Int32))] [])) ?_ (fun t k => XS.ifNo X1019.here hx rfl (hb hby at_94) rfl ((if0 _ _).trans (feq (by decide)).1) k)
      refine Goal.step (T' := T1019) (g' := (mkF m 98 #[.val (.int p1), .val (.int p2), .val (.ref b1001), .val (.int w8), .val (.int (1 : Int32)), .val (.int (1 : Int32)), .val (.int (1 : Int32))] [(.int (1 : Int32))])) ?_ (fun t k => XS.iconst X1019.here hx rfl (hb hby at_97) k)
      refine Goal.step (T' := T1019) (g' := (mkF m 102 #[.val (.int p1), .val (.int p2), .val (.ref b1001), .val (.int w8), .val (.int (1 : Int32)), .val (.int (1 : Int32)), .val (.int (1 : Int32))] [(.int (1 : Int32))])) ?_ (fun t k => XS.goto X1019.here hx rfl (pc0 := 98) (pc' := 102) rfl (hb hby at_98) (by decide) (by decide) k)
      refine Goal.retN (t := .boolean) X1019 hx hret (by simp) (hb hby at_102) ?_
      exact ⟨⟨rfl, N1019⟩, by decide, by decide⟩
    · refine Goal.step (T' := T1009) (g' := (mkF m 44 #[.val (.int p1), .val (.int p2), .val (.ref b1001), .val (.int w8), .unset, .unset, .unset] [])) ?_ (fun t k => XS.icmpNo X1009.here hx rfl (hb hby at_41) rfl (feq c1017).1 k)
      refine Goal.step (T' := T1009) (g' := (mkF m 45 #[.val (.int p1), .val (.int p2), .val (.ref b1001), .val (.int w8), .unset, .unset, .unset] [(.int p1)])) ?_ (fun t k => XS.iloadN X1009.here hx rfl (hb hby at_44) rfl k)
      refine Goal.step (T' := T1009) (g' := (mkF m 46 #[.val (.int p1), .val (.int p2), .val (.ref b1001), .val (.int w8), .unset, .unset, .unset] [(.ref b1001), (.int p1)])) ?_ (fun t k => XS.aloadN X1009.here hx rfl (hb hby at_45) rfl rfl k)
      refine Goal.step (T' := T1009) (g' := (mkF m 47 #[.val (.int p1), .val (.int p2), .val (.ref b1001), .val (.int w8), .unset, .unset, .unset] [(.int (2 : Int32)), (.ref b1001), (.int p1)])) ?_ (fun t k => XS.iconst X1009.here hx rfl (hb hby at_46) k)
      obtain ⟨cl1020, Ar1020, q1020, S1020, N_1020, H1020, G1020⟩ := (id V1009)
      have hin1020 : ¬ ((2 : Int32) < 0 ∨ cl1020.slots.size ≤ ((2 : Int32)).toNatClampNeg) := inb_of S1020 ⟨by decide, by decide⟩
      have hat1020 : cl1020.slots[((2 : Int32)).toNatClampNeg]? = some (.int (13 : Int32)) := Has.at H1020 hin1020 rfl
      refine Goal.step (T' := T1009) (g' := (mkF m 48 #[.val (.int p1), .val (.int p2), .val (.ref b1001), .val (.int w8), .unset, .unset, .unset] [(.int (13 : Int32)), (.int p1)])) ?_ (fun t k => X1009.iaload hx (j := (2 : Int32)) (v := (.int (13 : Int32))) (by rw [e1009]; exact Ar1020.1) (State.isArrayOf_alike hZ.alike Ar1020.2.1) Ar1020.2.2 hin1020 hat1020 (g := (mkF m 47 #[.val (.int p1), .val (.int p2), .val (.ref b1001), .val (.int w8), .unset, .unset, .unset] [(.int (2 : Int32)), (.ref b1001), (.int p1)])) rfl rfl (hb hby at_47) _ k)
      by_cases c1021 : p1 = (13 : Int32)
      · refine Goal.step (T' := T1009) (g' := (mkF m 58 #[.val (.int p1), .val (.int p2), .val (.ref b1001), .val (.int w8), .unset, .unset, .unset] [])) ?_ (fun t k => XS.icmpYes X1009.here hx rfl (pc0 := 48) (pc' := 58) rfl (hb hby at_48) rfl (teq c1021).1 (by decide) (by decide) k)
        refine Goal.step (T' := T1009) (g' := (mkF m 59 #[.val (.int p1), .val (.int p2), .val (.ref b1001), .val (.int w8), .unset, .unset, .unset] [(.int (1 : Int32))])) ?_ (fun t k => XS.iconst X1009.here hx rfl (hb hby at_58) k)
        refine Goal.step (T' := T1009) (g' := (mkF m 63 #[.val (.int p1), .val (.int p2), .val (.ref b1001), .val (.int w8), .unset, .unset, .unset] [(.int (1 : Int32))])) ?_ (fun t k => XS.goto X1009.here hx rfl (pc0 := 59) (pc' := 63) rfl (hb hby at_59) (by decide) (by decide) k)
        refine Goal.step (T' := T1009) (g' := (mkF m 65 #[.val (.int p1), .val (.int p2), .val (.ref b1001), .val (.int w8), .val (.int (1 : Int32)), .unset, .unset] [])) ?_ (fun t k => XS.istore X1009.here hx rfl (hb hby at_63) rfl (l' := #[.val (.int p1), .val (.int p2), .val (.ref b1001), .val (.int w8), .val (.int (1 : Int32)), .unset, .unset]) rfl k)
        refine Goal.step (T' := T1009) (g' := (mkF m 66 #[.val (.int p1), .val (.int p2), .val (.ref b1001), .val (.int w8), .val (.int (1 : Int32)), .unset, .unset] [(.int w8)])) ?_ (fun t k => XS.iloadN X1009.here hx rfl (hb hby at_65) rfl k)
        obtain ⟨v1022, T1022, h1022, L1022, X1022, e1022, hQ1022, st1022⟩ := callStatic X1009 hx hZ hown (hw _ (List.mem_of_getElem? (i := 1) rfl)) (hw _ (List.mem_of_getElem? (i := 2) rfl)) (hw _ (List.mem_of_getElem? (i := 3) rfl)) (hw _ (List.mem_of_getElem? (i := 4) rfl)) (by decide) (rm1 l Z a0 hw w8 h1009 n0 (by omega) ) e1009 (W := 0) (by decide) (by decide) (by decide) (by decide) (g := (mkF m 66 #[.val (.int p1), .val (.int p2), .val (.ref b1001), .val (.int w8), .val (.int (1 : Int32)), .unset, .unset] [(.int w8)])) rfl (by rw [hml]; rfl) (argsL := [(.int w8)]) (rest := []) (lenOf pd_0 rfl) rfl (by show 2 * 0 + _ ≤ _; exact Nat.le_of_eq rfl) (hb hby at_66) rfl
        have hP1022 : ¬ ¬ isWs w8 := fun q => q hw8
        obtain ⟨rfl, M1022, q1022⟩ := hQ1022.elim (fun x => x.2) (fun x => absurd x.1 hP1022)
        rw [q1022] at e1022
        have N1022 := Fr.app N1009 M1022
        refine Goal.step (T' := T1022) (g' := (mkF m 69 #[.val (.int p1), .val (.int p2), .val (.ref b1001), .val (.int w8), .val (.int (1 : Int32)), .unset, .unset] [(.int (1 : Int32))])) ?_ st1022
        refine Goal.step (T' := T1022) (g' := (mkF m 71 #[.val (.int p1), .val (.int p2), .val (.ref b1001), .val (.int w8), .val (.int (1 : Int32)), .val (.int (1 : Int32)), .unset] [])) ?_ (fun t k => XS.istore X1022.here hx rfl (hb hby at_69) rfl (l' := #[.val (.int p1), .val (.int p2), .val (.ref b1001), .val (.int w8), .val (.int (1 : Int32)), .val (.int (1 : Int32)), .unset]) rfl k)
        refine Goal.step (T' := T1022) (g' := (mkF m 72 #[.val (.int p1), .val (.int p2), .val (.ref b1001), .val (.int w8), .val (.int (1 : Int32)), .val (.int (1 : Int32)), .unset] [(.int p1)])) ?_ (fun t k => XS.iloadN X1022.here hx rfl (hb hby at_71) rfl k)
        obtain ⟨v1023, T1023, h1023, L1023, X1023, e1023, hQ1023, st1023⟩ := callStatic X1022 hx hZ hown (hw _ (List.mem_of_getElem? (i := 1) rfl)) (hw _ (List.mem_of_getElem? (i := 2) rfl)) (hw _ (List.mem_of_getElem? (i := 3) rfl)) (hw _ (List.mem_of_getElem? (i := 4) rfl)) (by decide) (rm1 l Z a0 hw p1 h1009 n0 (by omega) ) e1022 (W := 0) (by decide) (by decide) (by decide) (by decide) (g := (mkF m 72 #[.val (.int p1), .val (.int p2), .val (.ref b1001), .val (.int w8), .val (.int (1 : Int32)), .val (.int (1 : Int32)), .unset] [(.int p1)])) rfl (by rw [hml]; rfl) (argsL := [(.int p1)]) (rest := []) (lenOf pd_0 rfl) rfl (by show 2 * 0 + _ ≤ _; exact Nat.le_of_eq rfl) (hb hby at_72) rfl
        have hP1023 : ¬ ¬ isWs p1 := by simp [isWs, c1013, c1017, c1021]
        obtain ⟨rfl, M1023, q1023⟩ := hQ1023.elim (fun x => x.2) (fun x => absurd x.1 hP1023)
        rw [q1023] at e1023
        have N1023 := Fr.app N1022 M1023
        refine Goal.step (T' := T1023) (g' := (mkF m 75 #[.val (.int p1), .val (.int p2), .val (.ref b1001), .val (.int w8), .val (.int (1 : Int32)), .val (.int (1 : Int32)), .unset] [(.int (1 : Int32))])) ?_ st1023
        refine Goal.step (T' := T1023) (g' := (mkF m 77 #[.val (.int p1), .val (.int p2), .val (.ref b1001), .val (.int w8), .val (.int (1 : Int32)), .val (.int (1 : Int32)), .unset] [(.int (1 : Int32)), (.int (1 : Int32))])) ?_ (fun t k => XS.iload X1023.here hx rfl (hb hby at_75) rfl k)
        refine Goal.step (T' := T1023) (g' := (mkF m 80 #[.val (.int p1), .val (.int p2), .val (.ref b1001), .val (.int w8), .val (.int (1 : Int32)), .val (.int (1 : Int32)), .unset] [])) ?_ (fun t k => XS.icmpNo X1023.here hx rfl (hb hby at_77) rfl (teq (by decide)).2 k)
        refine Goal.step (T' := T1023) (g' := (mkF m 81 #[.val (.int p1), .val (.int p2), .val (.ref b1001), .val (.int w8), .val (.int (1 : Int32)), .val (.int (1 : Int32)), .unset] [(.int (1 : Int32))])) ?_ (fun t k => XS.iconst X1023.here hx rfl (hb hby at_80) k)
        refine Goal.step (T' := T1023) (g' := (mkF m 85 #[.val (.int p1), .val (.int p2), .val (.ref b1001), .val (.int w8), .val (.int (1 : Int32)), .val (.int (1 : Int32)), .unset] [(.int (1 : Int32))])) ?_ (fun t k => XS.goto X1023.here hx rfl (pc0 := 81) (pc' := 85) rfl (hb hby at_81) (by decide) (by decide) k)
        refine Goal.step (T' := T1023) (g' := (mkF m 87 #[.val (.int p1), .val (.int p2), .val (.ref b1001), .val (.int w8), .val (.int (1 : Int32)), .val (.int (1 : Int32)), .val (.int (1 : Int32))] [])) ?_ (fun t k => XS.istore X1023.here hx rfl (hb hby at_85) rfl (l' := #[.val (.int p1), .val (.int p2), .val (.ref b1001), .val (.int w8), .val (.int (1 : Int32)), .val (.int (1 : Int32)), .val (.int (1 : Int32))]) rfl k)
        refine Goal.step (T' := T1023) (g' := (mkF m 89 #[.val (.int p1), .val (.int p2), .val (.ref b1001), .val (.int w8), .val (.int (1 : Int32)), .val (.int (1 : Int32)), .val (.int (1 : Int32))] [(.int (1 : Int32))])) ?_ (fun t k => XS.iload X1023.here hx rfl (hb hby at_87) rfl k)
        refine Goal.step (T' := T1023) (g' := (mkF m 92 #[.val (.int p1), .val (.int p2), .val (.ref b1001), .val (.int w8), .val (.int (1 : Int32)), .val (.int (1 : Int32)), .val (.int (1 : Int32))] [])) ?_ (fun t k => XS.ifNo X1023.here hx rfl (hb hby at_89) rfl ((if0 _ _).trans (feq (by decide)).1) k)
        refine Goal.step (T' := T1023) (g' := (mkF m 94 #[.val (.int p1), .val (.int p2), .val (.ref b1001), .val (.int w8), .val (.int (1 : Int32)), .val (.int (1 : Int32)), .val (.int (1 : Int32))] [(.int (1 : Int32))])) ?_ (fun t k => XS.iload X1023.here hx rfl (hb hby at_92) rfl k)
        refine Goal.step (T' := T1023) (g' := (mkF m 97 #[.val (.int p1), .val (.int p2), .val (.ref b1001), .val (.int w8), .val (.int (1 : Int32)), .val (.int (1 : Int32)), .val (.int (1 : Int32))] [])) ?_ (fun t k => XS.ifNo X1023.here hx rfl (hb hby at_94) rfl ((if0 _ _).trans (feq (by decide)).1) k)
        refine Goal.step (T' := T1023) (g' := (mkF m 98 #[.val (.int p1), .val (.int p2), .val (.ref b1001), .val (.int w8), .val (.int (1 : Int32)), .val (.int (1 : Int32)), .val (.int (1 : Int32))] [(.int (1 : Int32))])) ?_ (fun t k => XS.iconst X1023.here hx rfl (hb hby at_97) k)
        refine Goal.step (T' := T1023) (g' := (mkF m 102 #[.val (.int p1), .val (.int p2), .val (.ref b1001), .val (.int w8), .val (.int (1 : Int32)), .val (.int (1 : Int32)), .val (.int (1 : Int32))] [(.int (1 : Int32))])) ?_ (fun t k => XS.goto X1023.here hx rfl (pc0 := 98) (pc' := 102) rfl (hb hby at_98) (by decide) (by decide) k)
        refine Goal.retN (t := .boolean) X1023 hx hret (by simp) (hb hby at_102) ?_
        exact ⟨⟨rfl, N1023⟩, by decide, by decide⟩
      · refine Goal.step (T' := T1009) (g' := (mkF m 51 #[.val (.int p1), .val (.int p2), .val (.ref b1001), .val (.int w8), .unset, .unset, .unset] [])) ?_ (fun t k => XS.icmpNo X1009.here hx rfl (hb hby at_48) rfl (feq c1021).1 k)
        refine Goal.step (T' := T1009) (g' := (mkF m 52 #[.val (.int p1), .val (.int p2), .val (.ref b1001), .val (.int w8), .unset, .unset, .unset] [(.int p1)])) ?_ (fun t k => XS.iloadN X1009.here hx rfl (hb hby at_51) rfl k)
        refine Goal.step (T' := T1009) (g' := (mkF m 53 #[.val (.int p1), .val (.int p2), .val (.ref b1001), .val (.int w8), .unset, .unset, .unset] [(.ref b1001), (.int p1)])) ?_ (fun t k => XS.aloadN X1009.here hx rfl (hb hby at_52) rfl rfl k)
        refine Goal.step (T' := T1009) (g' := (mkF m 54 #[.val (.int p1), .val (.int p2), .val (.ref b1001), .val (.int w8), .unset, .unset, .unset] [(.int (3 : Int32)), (.ref b1001), (.int p1)])) ?_ (fun t k => XS.iconst X1009.here hx rfl (hb hby at_53) k)
        obtain ⟨cl1024, Ar1024, q1024, S1024, N_1024, H1024, G1024⟩ := (id V1009)
        have hin1024 : ¬ ((3 : Int32) < 0 ∨ cl1024.slots.size ≤ ((3 : Int32)).toNatClampNeg) := inb_of S1024 ⟨by decide, by decide⟩
        have hat1024 : cl1024.slots[((3 : Int32)).toNatClampNeg]? = some (.int (32 : Int32)) := Has.at H1024 hin1024 rfl
        refine Goal.step (T' := T1009) (g' := (mkF m 55 #[.val (.int p1), .val (.int p2), .val (.ref b1001), .val (.int w8), .unset, .unset, .unset] [(.int (32 : Int32)), (.int p1)])) ?_ (fun t k => X1009.iaload hx (j := (3 : Int32)) (v := (.int (32 : Int32))) (by rw [e1009]; exact Ar1024.1) (State.isArrayOf_alike hZ.alike Ar1024.2.1) Ar1024.2.2 hin1024 hat1024 (g := (mkF m 54 #[.val (.int p1), .val (.int p2), .val (.ref b1001), .val (.int w8), .unset, .unset, .unset] [(.int (3 : Int32)), (.ref b1001), (.int p1)])) rfl rfl (hb hby at_54) _ k)
        by_cases c1025 : p1 = (32 : Int32)
        · refine Goal.step (T' := T1009) (g' := (mkF m 58 #[.val (.int p1), .val (.int p2), .val (.ref b1001), .val (.int w8), .unset, .unset, .unset] [])) ?_ (fun t k => XS.icmpNo X1009.here hx rfl (hb hby at_55) rfl (teq c1025).2 k)
          refine Goal.step (T' := T1009) (g' := (mkF m 59 #[.val (.int p1), .val (.int p2), .val (.ref b1001), .val (.int w8), .unset, .unset, .unset] [(.int (1 : Int32))])) ?_ (fun t k => XS.iconst X1009.here hx rfl (hb hby at_58) k)
          refine Goal.step (T' := T1009) (g' := (mkF m 63 #[.val (.int p1), .val (.int p2), .val (.ref b1001), .val (.int w8), .unset, .unset, .unset] [(.int (1 : Int32))])) ?_ (fun t k => XS.goto X1009.here hx rfl (pc0 := 59) (pc' := 63) rfl (hb hby at_59) (by decide) (by decide) k)
          refine Goal.step (T' := T1009) (g' := (mkF m 65 #[.val (.int p1), .val (.int p2), .val (.ref b1001), .val (.int w8), .val (.int (1 : Int32)), .unset, .unset] [])) ?_ (fun t k => XS.istore X1009.here hx rfl (hb hby at_63) rfl (l' := #[.val (.int p1), .val (.int p2), .val (.ref b1001), .val (.int w8), .val (.int (1 : Int32)), .unset, .unset]) rfl k)
          refine Goal.step (T' := T1009) (g' := (mkF m 66 #[.val (.int p1), .val (.int p2), .val (.ref b1001), .val (.int w8), .val (.int (1 : Int32)), .unset, .unset] [(.int w8)])) ?_ (fun t k => XS.iloadN X1009.here hx rfl (hb hby at_65) rfl k)
          obtain ⟨v1026, T1026, h1026, L1026, X1026, e1026, hQ1026, st1026⟩ := callStatic X1009 hx hZ hown (hw _ (List.mem_of_getElem? (i := 1) rfl)) (hw _ (List.mem_of_getElem? (i := 2) rfl)) (hw _ (List.mem_of_getElem? (i := 3) rfl)) (hw _ (List.mem_of_getElem? (i := 4) rfl)) (by decide) (rm1 l Z a0 hw w8 h1009 n0 (by omega) ) e1009 (W := 0) (by decide) (by decide) (by decide) (by decide) (g := (mkF m 66 #[.val (.int p1), .val (.int p2), .val (.ref b1001), .val (.int w8), .val (.int (1 : Int32)), .unset, .unset] [(.int w8)])) rfl (by rw [hml]; rfl) (argsL := [(.int w8)]) (rest := []) (lenOf pd_0 rfl) rfl (by show 2 * 0 + _ ≤ _; exact Nat.le_of_eq rfl) (hb hby at_66) rfl
          have hP1026 : ¬ ¬ isWs w8 := fun q => q hw8
          obtain ⟨rfl, M1026, q1026⟩ := hQ1026.elim (fun x => x.2) (fun x => absurd x.1 hP1026)
          rw [q1026] at e1026
          have N1026 := Fr.app N1009 M1026
          refine Goal.step (T' := T1026) (g' := (mkF m 69 #[.val (.int p1), .val (.int p2), .val (.ref b1001), .val (.int w8), .val (.int (1 : Int32)), .unset, .unset] [(.int (1 : Int32))])) ?_ st1026
          refine Goal.step (T' := T1026) (g' := (mkF m 71 #[.val (.int p1), .val (.int p2), .val (.ref b1001), .val (.int w8), .val (.int (1 : Int32)), .val (.int (1 : Int32)), .unset] [])) ?_ (fun t k => XS.istore X1026.here hx rfl (hb hby at_69) rfl (l' := #[.val (.int p1), .val (.int p2), .val (.ref b1001), .val (.int w8), .val (.int (1 : Int32)), .val (.int (1 : Int32)), .unset]) rfl k)
          refine Goal.step (T' := T1026) (g' := (mkF m 72 #[.val (.int p1), .val (.int p2), .val (.ref b1001), .val (.int w8), .val (.int (1 : Int32)), .val (.int (1 : Int32)), .unset] [(.int p1)])) ?_ (fun t k => XS.iloadN X1026.here hx rfl (hb hby at_71) rfl k)
          obtain ⟨v1027, T1027, h1027, L1027, X1027, e1027, hQ1027, st1027⟩ := callStatic X1026 hx hZ hown (hw _ (List.mem_of_getElem? (i := 1) rfl)) (hw _ (List.mem_of_getElem? (i := 2) rfl)) (hw _ (List.mem_of_getElem? (i := 3) rfl)) (hw _ (List.mem_of_getElem? (i := 4) rfl)) (by decide) (rm1 l Z a0 hw p1 h1009 n0 (by omega) ) e1026 (W := 0) (by decide) (by decide) (by decide) (by decide) (g := (mkF m 72 #[.val (.int p1), .val (.int p2), .val (.ref b1001), .val (.int w8), .val (.int (1 : Int32)), .val (.int (1 : Int32)), .unset] [(.int p1)])) rfl (by rw [hml]; rfl) (argsL := [(.int p1)]) (rest := []) (lenOf pd_0 rfl) rfl (by show 2 * 0 + _ ≤ _; exact Nat.le_of_eq rfl) (hb hby at_72) rfl
          have hP1027 : ¬ ¬ isWs p1 := by simp [isWs, c1013, c1017, c1021, c1025]
          obtain ⟨rfl, M1027, q1027⟩ := hQ1027.elim (fun x => x.2) (fun x => absurd x.1 hP1027)
          rw [q1027] at e1027
          have N1027 := Fr.app N1026 M1027
          refine Goal.step (T' := T1027) (g' := (mkF m 75 #[.val (.int p1), .val (.int p2), .val (.ref b1001), .val (.int w8), .val (.int (1 : Int32)), .val (.int (1 : Int32)), .unset] [(.int (1 : Int32))])) ?_ st1027
          refine Goal.step (T' := T1027) (g' := (mkF m 77 #[.val (.int p1), .val (.int p2), .val (.ref b1001), .val (.int w8), .val (.int (1 : Int32)), .val (.int (1 : Int32)), .unset] [(.int (1 : Int32)), (.int (1 : Int32))])) ?_ (fun t k => XS.iload X1027.here hx rfl (hb hby at_75) rfl k)
          refine Goal.step (T' := T1027) (g' := (mkF m 80 #[.val (.int p1), .val (.int p2), .val (.ref b1001), .val (.int w8), .val (.int (1 : Int32)), .val (.int (1 : Int32)), .unset] [])) ?_ (fun t k => XS.icmpNo X1027.here hx rfl (hb hby at_77) rfl (teq (by decide)).2 k)
          refine Goal.step (T' := T1027) (g' := (mkF m 81 #[.val (.int p1), .val (.int p2), .val (.ref b1001), .val (.int w8), .val (.int (1 : Int32)), .val (.int (1 : Int32)), .unset] [(.int (1 : Int32))])) ?_ (fun t k => XS.iconst X1027.here hx rfl (hb hby at_80) k)
          refine Goal.step (T' := T1027) (g' := (mkF m 85 #[.val (.int p1), .val (.int p2), .val (.ref b1001), .val (.int w8), .val (.int (1 : Int32)), .val (.int (1 : Int32)), .unset] [(.int (1 : Int32))])) ?_ (fun t k => XS.goto X1027.here hx rfl (pc0 := 81) (pc' := 85) rfl (hb hby at_81) (by decide) (by decide) k)
          refine Goal.step (T' := T1027) (g' := (mkF m 87 #[.val (.int p1), .val (.int p2), .val (.ref b1001), .val (.int w8), .val (.int (1 : Int32)), .val (.int (1 : Int32)), .val (.int (1 : Int32))] [])) ?_ (fun t k => XS.istore X1027.here hx rfl (hb hby at_85) rfl (l' := #[.val (.int p1), .val (.int p2), .val (.ref b1001), .val (.int w8), .val (.int (1 : Int32)), .val (.int (1 : Int32)), .val (.int (1 : Int32))]) rfl k)
          refine Goal.step (T' := T1027) (g' := (mkF m 89 #[.val (.int p1), .val (.int p2), .val (.ref b1001), .val (.int w8), .val (.int (1 : Int32)), .val (.int (1 : Int32)), .val (.int (1 : Int32))] [(.int (1 : Int32))])) ?_ (fun t k => XS.iload X1027.here hx rfl (hb hby at_87) rfl k)
          refine Goal.step (T' := T1027) (g' := (mkF m 92 #[.val (.int p1), .val (.int p2), .val (.ref b1001), .val (.int w8), .val (.int (1 : Int32)), .val (.int (1 : Int32)), .val (.int (1 : Int32))] [])) ?_ (fun t k => XS.ifNo X1027.here hx rfl (hb hby at_89) rfl ((if0 _ _).trans (feq (by decide)).1) k)
          refine Goal.step (T' := T1027) (g' := (mkF m 94 #[.val (.int p1), .val (.int p2), .val (.ref b1001), .val (.int w8), .val (.int (1 : Int32)), .val (.int (1 : Int32)), .val (.int (1 : Int32))] [(.int (1 : Int32))])) ?_ (fun t k => XS.iload X1027.here hx rfl (hb hby at_92) rfl k)
          refine Goal.step (T' := T1027) (g' := (mkF m 97 #[.val (.int p1), .val (.int p2), .val (.ref b1001), .val (.int w8), .val (.int (1 : Int32)), .val (.int (1 : Int32)), .val (.int (1 : Int32))] [])) ?_ (fun t k => XS.ifNo X1027.here hx rfl (hb hby at_94) rfl ((if0 _ _).trans (feq (by decide)).1) k)
          refine Goal.step (T' := T1027) (g' := (mkF m 98 #[.val (.int p1), .val (.int p2), .val (.ref b1001), .val (.int w8), .val (.int (1 : Int32)), .val (.int (1 : Int32)), .val (.int (1 : Int32))] [(.int (1 : Int32))])) ?_ (fun t k => XS.iconst X1027.here hx rfl (hb hby at_97) k)
          refine Goal.step (T' := T1027) (g' := (mkF m 102 #[.val (.int p1), .val (.int p2), .val (.ref b1001), .val (.int w8), .val (.int (1 : Int32)), .val (.int (1 : Int32)), .val (.int (1 : Int32))] [(.int (1 : Int32))])) ?_ (fun t k => XS.goto X1027.here hx rfl (pc0 := 98) (pc' := 102) rfl (hb hby at_98) (by decide) (by decide) k)
          refine Goal.retN (t := .boolean) X1027 hx hret (by simp) (hb hby at_102) ?_
          exact ⟨⟨rfl, N1027⟩, by decide, by decide⟩
        · refine Goal.step (T' := T1009) (g' := (mkF m 62 #[.val (.int p1), .val (.int p2), .val (.ref b1001), .val (.int w8), .unset, .unset, .unset] [])) ?_ (fun t k => XS.icmpYes X1009.here hx rfl (pc0 := 55) (pc' := 62) rfl (hb hby at_55) rfl (feq c1025).2 (by decide) (by decide) k)
          refine Goal.step (T' := T1009) (g' := (mkF m 63 #[.val (.int p1), .val (.int p2), .val (.ref b1001), .val (.int w8), .unset, .unset, .unset] [(.int (0 : Int32))])) ?_ (fun t k => XS.iconst X1009.here hx rfl (hb hby at_62) k)
          refine Goal.step (T' := T1009) (g' := (mkF m 65 #[.val (.int p1), .val (.int p2), .val (.ref b1001), .val (.int w8), .val (.int (0 : Int32)), .unset, .unset] [])) ?_ (fun t k => XS.istore X1009.here hx rfl (hb hby at_63) rfl (l' := #[.val (.int p1), .val (.int p2), .val (.ref b1001), .val (.int w8), .val (.int (0 : Int32)), .unset, .unset]) rfl k)
          refine Goal.step (T' := T1009) (g' := (mkF m 66 #[.val (.int p1), .val (.int p2), .val (.ref b1001), .val (.int w8), .val (.int (0 : Int32)), .unset, .unset] [(.int w8)])) ?_ (fun t k => XS.iloadN X1009.here hx rfl (hb hby at_65) rfl k)
          obtain ⟨v1028, T1028, h1028, L1028, X1028, e1028, hQ1028, st1028⟩ := callStatic X1009 hx hZ hown (hw _ (List.mem_of_getElem? (i := 1) rfl)) (hw _ (List.mem_of_getElem? (i := 2) rfl)) (hw _ (List.mem_of_getElem? (i := 3) rfl)) (hw _ (List.mem_of_getElem? (i := 4) rfl)) (by decide) (rm1 l Z a0 hw w8 h1009 n0 (by omega) ) e1009 (W := 0) (by decide) (by decide) (by decide) (by decide) (g := (mkF m 66 #[.val (.int p1), .val (.int p2), .val (.ref b1001), .val (.int w8), .val (.int (0 : Int32)), .unset, .unset] [(.int w8)])) rfl (by rw [hml]; rfl) (argsL := [(.int w8)]) (rest := []) (lenOf pd_0 rfl) rfl (by show 2 * 0 + _ ≤ _; exact Nat.le_of_eq rfl) (hb hby at_66) rfl
          have hP1028 : ¬ ¬ isWs w8 := fun q => q hw8
          obtain ⟨rfl, M1028, q1028⟩ := hQ1028.elim (fun x => x.2) (fun x => absurd x.1 hP1028)
          rw [q1028] at e1028
          have N1028 := Fr.app N1009 M1028
          refine Goal.step (T' := T1028) (g' := (mkF m 69 #[.val (.int p1), .val (.int p2), .val (.ref b1001), .val (.int w8), .val (.int (0 : Int32)), .unset, .unset] [(.int (1 : Int32))])) ?_ st1028
          refine Goal.step (T' := T1028) (g' := (mkF m 71 #[.val (.int p1), .val (.int p2), .val (.ref b1001), .val (.int w8), .val (.int (0 : Int32)), .val (.int (1 : Int32)), .unset] [])) ?_ (fun t k => XS.istore X1028.here hx rfl (hb hby at_69) rfl (l' := #[.val (.int p1), .val (.int p2), .val (.ref b1001), .val (.int w8), .val (.int (0 : Int32)), .val (.int (1 : Int32)), .unset]) rfl k)
          refine Goal.step (T' := T1028) (g' := (mkF m 72 #[.val (.int p1), .val (.int p2), .val (.ref b1001), .val (.int w8), .val (.int (0 : Int32)), .val (.int (1 : Int32)), .unset] [(.int p1)])) ?_ (fun t k => XS.iloadN X1028.here hx rfl (hb hby at_71) rfl k)
          obtain ⟨v1029, T1029, h1029, L1029, X1029, e1029, hQ1029, st1029⟩ := callStatic X1028 hx hZ hown (hw _ (List.mem_of_getElem? (i := 1) rfl)) (hw _ (List.mem_of_getElem? (i := 2) rfl)) (hw _ (List.mem_of_getElem? (i := 3) rfl)) (hw _ (List.mem_of_getElem? (i := 4) rfl)) (by decide) (rm1 l Z a0 hw p1 h1009 n0 (by omega) ) e1028 (W := 0) (by decide) (by decide) (by decide) (by decide) (g := (mkF m 72 #[.val (.int p1), .val (.int p2), .val (.ref b1001), .val (.int w8), .val (.int (0 : Int32)), .val (.int (1 : Int32)), .unset] [(.int p1)])) rfl (by rw [hml]; rfl) (argsL := [(.int p1)]) (rest := []) (lenOf pd_0 rfl) rfl (by show 2 * 0 + _ ≤ _; exact Nat.le_of_eq rfl) (hb hby at_72) rfl
          have hP1029 : ¬ isWs p1 := by simp [isWs, c1013, c1017, c1021, c1025]
          obtain ⟨rfl, M1029, q1029⟩ := hQ1029.elim (fun x => absurd x.1 hP1029) (fun x => x.2)
          rw [q1029] at e1029
          have N1029 := Fr.app N1028 M1029
          refine Goal.step (T' := T1029) (g' := (mkF m 75 #[.val (.int p1), .val (.int p2), .val (.ref b1001), .val (.int w8), .val (.int (0 : Int32)), .val (.int (1 : Int32)), .unset] [(.int (0 : Int32))])) ?_ st1029
          refine Goal.step (T' := T1029) (g' := (mkF m 77 #[.val (.int p1), .val (.int p2), .val (.ref b1001), .val (.int w8), .val (.int (0 : Int32)), .val (.int (1 : Int32)), .unset] [(.int (0 : Int32)), (.int (0 : Int32))])) ?_ (fun t k => XS.iload X1029.here hx rfl (hb hby at_75) rfl k)
          refine Goal.step (T' := T1029) (g' := (mkF m 80 #[.val (.int p1), .val (.int p2), .val (.ref b1001), .val (.int w8), .val (.int (0 : Int32)), .val (.int (1 : Int32)), .unset] [])) ?_ (fun t k => XS.icmpNo X1029.here hx rfl (hb hby at_77) rfl (teq (by decide)).2 k)
          refine Goal.step (T' := T1029) (g' := (mkF m 81 #[.val (.int p1), .val (.int p2), .val (.ref b1001), .val (.int w8), .val (.int (0 : Int32)), .val (.int (1 : Int32)), .unset] [(.int (1 : Int32))])) ?_ (fun t k => XS.iconst X1029.here hx rfl (hb hby at_80) k)
          refine Goal.step (T' := T1029) (g' := (mkF m 85 #[.val (.int p1), .val (.int p2), .val (.ref b1001), .val (.int w8), .val (.int (0 : Int32)), .val (.int (1 : Int32)), .unset] [(.int (1 : Int32))])) ?_ (fun t k => XS.goto X1029.here hx rfl (pc0 := 81) (pc' := 85) rfl (hb hby at_81) (by decide) (by decide) k)
          refine Goal.step (T' := T1029) (g' := (mkF m 87 #[.val (.int p1), .val (.int p2), .val (.ref b1001), .val (.int w8), .val (.int (0 : Int32)), .val (.int (1 : Int32)), .val (.int (1 : Int32))] [])) ?_ (fun t k => XS.istore X1029.here hx rfl (hb hby at_85) rfl (l' := #[.val (.int p1), .val (.int p2), .val (.ref b1001), .val (.int w8), .val (.int (0 : Int32)), .val (.int (1 : Int32)), .val (.int (1 : Int32))]) rfl k)
          refine Goal.step (T' := T1029) (g' := (mkF m 89 #[.val (.int p1), .val (.int p2), .val (.ref b1001), .val (.int w8), .val (.int (0 : Int32)), .val (.int (1 : Int32)), .val (.int (1 : Int32))] [(.int (1 : Int32))])) ?_ (fun t k => XS.iload X1029.here hx rfl (hb hby at_87) rfl k)
          refine Goal.step (T' := T1029) (g' := (mkF m 92 #[.val (.int p1), .val (.int p2), .val (.ref b1001), .val (.int w8), .val (.int (0 : Int32)), .val (.int (1 : Int32)), .val (.int (1 : Int32))] [])) ?_ (fun t k => XS.ifNo X1029.here hx rfl (hb hby at_89) rfl ((if0 _ _).trans (feq (by decide)).1) k)
          refine Goal.step (T' := T1029) (g' := (mkF m 94 #[.val (.int p1), .val (.int p2), .val (.ref b1001), .val (.int w8), .val (.int (0 : Int32)), .val (.int (1 : Int32)), .val (.int (1 : Int32))] [(.int (1 : Int32))])) ?_ (fun t k => XS.iload X1029.here hx rfl (hb hby at_92) rfl k)
          refine Goal.step (T' := T1029) (g' := (mkF m 97 #[.val (.int p1), .val (.int p2), .val (.ref b1001), .val (.int w8), .val (.int (0 : Int32)), .val (.int (1 : Int32)), .val (.int (1 : Int32))] [])) ?_ (fun t k => XS.ifNo X1029.here hx rfl (hb hby at_94) rfl ((if0 _ _).trans (feq (by decide)).1) k)
          refine Goal.step (T' := T1029) (g' := (mkF m 98 #[.val (.int p1), .val (.int p2), .val (.ref b1001), .val (.int w8), .val (.int (0 : Int32)), .val (.int (1 : Int32)), .val (.int (1 : Int32))] [(.int (1 : Int32))])) ?_ (fun t k => XS.iconst X1029.here hx rfl (hb hby at_97) k)
          refine Goal.step (T' := T1029) (g' := (mkF m 102 #[.val (.int p1), .val (.int p2), .val (.ref b1001), .val (.int w8), .val (.int (0 : Int32)), .val (.int (1 : Int32)), .val (.int (1 : Int32))] [(.int (1 : Int32))])) ?_ (fun t k => XS.goto X1029.here hx rfl (pc0 := 98) (pc' := 102) rfl (hb hby at_98) (by decide) (by decide) k)
          refine Goal.retN (t := .boolean) X1029 hx hret (by simp) (hb hby at_102) ?_
          exact ⟨⟨rfl, N1029⟩, by decide, by decide⟩
set_option maxRecDepth 65536 in
set_option maxHeartbeats 40000000 in
theorem comes_1 {Post : Tables → Env → Array Value → State → Outcome → State → Prop} (hpost : ∀ tb e args s v u, (limb_1_1.after args s (.returned v) u = true ∧ limb_1_2.after args s (.returned v) u = true ∧ True) → FrameEnd s (.returned v) u (Jvm.fieldLocs frame_1_writes args s ++ Jvm.arrayLocs frame_1_arrays args s ++ Jvm.staticLocs frame_1_statics s) 16 128 → Post tb e args s (.returned v) u) :
    ArmFor flags0 classFile x code maxLocals ret World_1 tables_1 room_1 Calls_1 rest_1 Pre_1 Post := by
  intro l hfl _ _ p e ha hc hk s m args below hf hA hF happ hP
  obtain ⟨hcalls, hrest, hpre⟩ := hP
  obtain ⟨-, -, -, hnamed, -, -, -, hat⟩ := (Spec.applies_iff hf).mp happ
  obtain ⟨hg, hn⟩ := and_e (Cond.before_iff.mp (show (Jvm.Cond.and given_1 narrow_1).before args s = true from hpre))
  obtain ⟨gc, gr0⟩ := and_e hg
  obtain ⟨ga0, gr1⟩ := and_e gr0
  obtain ⟨w0, w1, rfl⟩ : ∃ w0 w1 : Value, args = #[w0, w1] := by
    have hs : args.size = 2 := by simpa [Cond.value, given_1] using gc
    obtain ⟨L⟩ := args
    match L, hs with
    | [w0, w1], _ => exact ⟨w0, w1, rfl⟩
  have hw := fun d (hd : d ∈ tables_1) => atoms_spec (ws := Jvm.Cond.code x code maxLocals ret :: tables_1) hat d (List.mem_cons_of_mem _ hd)
  have hfit : Fit s := fun {y c} hc i hi => by
    obtain ⟨ha, rfl⟩ := Array.getElem?_eq_some_iff.mp hc
    have q := List.all_eq_true.mp ((Array.all_eq_true_iff_forall_mem.mp hF) _ (Array.getElem_mem ha)) i (List.mem_range.mpr hi)
    simpa [Array.getElem?_eq_getElem hi] using q
  obtain ⟨i0, ei0⟩ := is_v ga0
  obtain rfl : w0 = (.int i0) := Option.some.inj ei0
  obtain ⟨i1, ei1⟩ := is_v gr1
  obtain rfl : w1 = (.int i1) := Option.some.inj ei1
  obtain ⟨n, o, h1, h2, h3, _, L, rfl, ⟨rfl, N⟩, hq⟩ := rm0 l s _ hw i0 i1  s.heap s.heap.size (Nat.le_refl _)  p e ha hc hk s m _ below hf ((Spec.applies_iff_loose hf).mp happ).1 ⟨rfl, State.Warmed39.refl s, rfl⟩ trivial
  refine ⟨n, _, h1, h2, h3, hpost _ _ _ _ _ _ ⟨Cond.after_iff.mpr rfl, Cond.after_iff.mpr (eq_i res_at (Term.int_eval (1)) rfl), trivial⟩ ⟨hq.1, hq.2.1, (hq.2.2.sift fun y hy => Or.inr (N y hy)).mono (by decide) (by decide)⟩⟩
theorem main_1_1 : Claimed_1_1 := comes_1 fun _ _ _ _ _ _ h hF => ⟨h.1, hF⟩
theorem main_1_2 : Claimed_1_2 := comes_1 fun _ _ _ _ _ _ h hF => ⟨h.2.1, hF⟩
end Jvm.Pilot.@@N@@
namespace Jvm.Pilot.@@N@@
open Jvm Jvm.ClassFile Sem Op Lib Jvm.Free Jvm.Stand Jvm.Pilot.@@N@@.Jvm.D
/-! MADE BY PROGRAM (witnessworld.py) out of the Statement's table words and the real class files: 9 classes; the members and pool entries that the words name. The judged class is class 1, her method 1. -/
namespace start1
open Jvm.ClassFile
def u (s : String) : CpInfo := .utf8 (stringToUtf16 s)
/-- a pool by its gaps: so many unusable entries, then the entry; so many at the end -/
def gap : Nat → List CpInfo → List CpInfo
  | 0, r => r
  | n + 1, r => .unusable :: gap n r
def poolList (es : List (Nat × CpInfo)) (last : Nat) : List CpInfo := es.foldr (fun e r => gap e.1 (e.2 :: r)) (gap last [])
def pool (es : List (Nat × CpInfo)) (last : Nat) : Array CpInfo := ⟨poolList es last⟩
def fileOf (pool : Array CpInfo) (this : Nat) (attrs : Array Attribute := #[]) (ms : Array MethodInfo := #[]) (fl : Nat := 33) (sup : Nat := 0) (ifs : Array Nat := #[]) (fds : Array FieldInfo := #[]) : ClassFile where
  minorVersion := 0
  majorVersion := 65
  constantPool := pool
  accessFlags := fl
  thisClass := this
  superClass := sup
  interfaces := ifs
  fields := fds
  methods := ms
  attributes := attrs
def plain (name : String) (sup : Option ClassId) : Class where
  name := name
  kind := .ordinary
  loader := none
  accessFlags := 33
  super := sup
  interfaces := #[]
  cf := none
  fields := #[]
  methods := #[]
  instanceTypes := #[]
  staticTypes := #[]
  resolved := #[]
  callSites := []
  init := .initialized
  statics := none
  mirror := none

def pool0 : Array CpInfo := pool [(5, u "<init>"), (0, u "()V"), (1, .class_ 10), (1, u "java/lang/Object")] 113

def k0m0 : Method := { name := "<init>", desc := "()V", sig := { parameters := [], returnType := none }, accessFlags := 1, code := none }
/-- java/lang/Object -/
def k0 : Class := { plain "java/lang/Object" none with
  accessFlags := 33
  interfaces := #[]
  cf := some (fileOf pool0 8 #[] #[{ accessFlags := 1, nameIndex := 5, descriptorIndex := 6, attributes := #[] }] 33 0 #[] #[])
  fields := #[]
  methods := #[k0m0]
  instanceTypes := #[]
  staticTypes := #[]
  resolved := Array.replicate 124 none
  statics := none }

def pool1 : Array CpInfo := pool [(2, .class_ 4), (1, u "java/lang/Object"), (0, u "<init>"), (0, u "()V"), (0, .methodref 8 9), (0, .class_ 10), (0, .nameAndType 11 12), (0, u "com/example/gids/gids/ValueText"), (0, u "isWhitespace"), (0, u "(I)Z"), (0, .class_ 14), (0, u "com/example/gids/gids/ValueTextIsWhitespacePinLaw"), (2, u "law"), (0, u "(II)Z")] 5

def k1m0 : Method := { name := "<init>", desc := "()V", sig := { parameters := [], returnType := none }, accessFlags := 2, code := none }
def k1c1 : Code := { maxStack := 4, maxLocals := 7, code := code, exceptionTable := #[], attributes := #[] }
def k1m1 : Method := { name := "law", desc := "(II)Z", sig := { parameters := [.int, .int], returnType := some .boolean }, accessFlags := 9, code := some k1c1 }
/-- com/example/gids/gids/ValueTextIsWhitespacePinLaw -/
def k1 : Class := { plain "com/example/gids/gids/ValueTextIsWhitespacePinLaw" (some 0) with
  accessFlags := 49
  interfaces := #[]
  cf := some (fileOf pool1 13 #[] #[{ accessFlags := 2, nameIndex := 5, descriptorIndex := 6, attributes := #[] }, { accessFlags := 9, nameIndex := 17, descriptorIndex := 18, attributes := #[] }] 49 2 #[] #[])
  fields := #[]
  methods := #[k1m0, k1m1]
  instanceTypes := #[]
  staticTypes := #[]
  resolved := Array.replicate 24 none
  statics := none }

def pool2 : Array CpInfo := pool [(4, .class_ 6), (1, u "java/lang/Object"), (0, u "<init>"), (0, u "()V"), (3, .class_ 14), (1, u "com/example/gids/gids/ValueText"), (0, u "single"), (0, u "Ljava/lang/String;"), (2, u "cut"), (0, u "Z"), (2, u "joined"), (0, u "Ljava/lang/StringBuilder;"), (11, u "isWhitespace"), (0, u "(I)Z"), (40, u "MAX_CHARS"), (0, u "I")] 9

def k2m0 : Method := { name := "<init>", desc := "()V", sig := { parameters := [], returnType := none }, accessFlags := 0, code := none }
def k2c1 : Code := { maxStack := 2, maxLocals := 1, code := prog_54_method_2_code, exceptionTable := #[], attributes := #[] }
def k2m1 : Method := { name := "isWhitespace", desc := "(I)Z", sig := { parameters := [.int], returnType := some .boolean }, accessFlags := 8, code := some k2c1 }
/-- com/example/gids/gids/ValueText -/
def k2 : Class := { plain "com/example/gids/gids/ValueText" (some 0) with
  accessFlags := 48
  interfaces := #[]
  cf := some (fileOf pool2 12 #[] #[{ accessFlags := 0, nameIndex := 7, descriptorIndex := 8, attributes := #[] }, { accessFlags := 8, nameIndex := 36, descriptorIndex := 37, attributes := #[] }] 48 4 #[] #[{ accessFlags := 24, nameIndex := 78, descriptorIndex := 79, attributes := #[] }, { accessFlags := 2, nameIndex := 15, descriptorIndex := 16, attributes := #[] }, { accessFlags := 2, nameIndex := 23, descriptorIndex := 24, attributes := #[] }, { accessFlags := 2, nameIndex := 19, descriptorIndex := 20, attributes := #[] }])
  fields := #[{ name := "MAX_CHARS", type := .int, accessFlags := 24, slot := 0, constantValue := 0 }, { name := "single", type := (.object "java/lang/String"), accessFlags := 2, slot := 0, constantValue := 0 }, { name := "joined", type := (.object "java/lang/StringBuilder"), accessFlags := 2, slot := 1, constantValue := 0 }, { name := "cut", type := .boolean, accessFlags := 2, slot := 2, constantValue := 0 }]
  methods := #[k2m0, k2m1]
  instanceTypes := #[(.object "java/lang/String"), (.object "java/lang/StringBuilder"), .boolean]
  staticTypes := #[.int]
  resolved := Array.replicate 89 none
  statics := none }

def pool3 : Array CpInfo := pool [(1, u "java/lang/Cloneable"), (0, .class_ 1), (0, u "java/lang/Object"), (0, .class_ 3)] 3

/-- java/lang/Cloneable -/
def k3 : Class := { plain "java/lang/Cloneable" (some 0) with
  accessFlags := 1537
  interfaces := #[]
  cf := some (fileOf pool3 2 #[] #[] 1537 4 #[] #[])
  fields := #[]
  methods := #[]
  instanceTypes := #[]
  staticTypes := #[]
  resolved := Array.replicate 8 none
  statics := none }

def pool4 : Array CpInfo := pool [(1, u "java/io/Serializable"), (0, .class_ 1), (0, u "java/lang/Object"), (0, .class_ 3)] 3

/-- java/io/Serializable -/
def k4 : Class := { plain "java/io/Serializable" (some 0) with
  accessFlags := 1537
  interfaces := #[]
  cf := some (fileOf pool4 2 #[] #[] 1537 4 #[] #[])
  fields := #[]
  methods := #[]
  instanceTypes := #[]
  staticTypes := #[]
  resolved := Array.replicate 8 none
  statics := none }

/-- the primitive byte -/
def k5 : Class := { plain "byte" none with kind := .primitive 'B', accessFlags := 0x411 }
/-- [B -/
def k6 : Class := { plain "[B" (some 0) with kind := .array 5 .byte, interfaces := #[3, 4], accessFlags := 1041 }

/-- the primitive int -/
def k7 : Class := { plain "int" none with kind := .primitive 'I', accessFlags := 0x411 }
/-- [I -/
def k8 : Class := { plain "[I" (some 0) with kind := .array 7 .int, interfaces := #[3, 4], accessFlags := 1041 }

def heap : Heap := #[]
def classes : Array Class := #[k0, k1, k2, k3, k4, k5, k6, k7, k8]
def interned : List (Array UInt16 × Addr) := []
def slotsUsed : Nat := 0
def theMethod : MethodId := ⟨1, 1⟩
def args0 : Array Value := #[.int 5, .int 6]
def aboutOver (below : List Frame) : State where
  vm := { classes := classes, interned := interned.toArray }
  heap := heap
  slotsUsed := slotsUsed
  threads := #[{ frames := .invoking theMethod args0 :: below }]
def below0 : List Frame := [.native { method := ⟨0, 0⟩, args := #[] }]
def about1 : State := aboutOver below0
def p0 : Program := .bare "" "" ""
def e0 : Env := launch0.env 0 0 0
theorem w_frames : about1.frames = Frame.invoking theMethod args0 :: below0 := rfl
set_option maxRecDepth 65536 in
theorem w_args : argsFit about1.vm theMethod args0 = true := by decide +kernel
set_option maxRecDepth 65536 in
theorem w_heap : heapFits about1 = true := by decide +kernel
set_option maxRecDepth 65536 in
theorem w_runnable : about1.curStatus? = some .runnable := by decide +kernel
set_option maxRecDepth 65536 in
theorem w_alone : about1.alone = true := by decide +kernel
set_option maxRecDepth 65536 in
theorem w_named : about1.methodNamed? x = some theMethod := by decide +kernel
set_option maxRecDepth 65536 in
theorem w_hears : about1.hears theMethod below0 = true := by decide +kernel
set_option maxRecDepth 65536 in
theorem w_ripe : about1.ripe theMethod args0 below0 = true := by decide +kernel
theorem w_running : about1.status = .running := rfl
set_option maxRecDepth 65536 in
theorem w_room : about1.hasRoom e0.platform room_1 = true :=
  launch0.hasRoom_least _ room_1 (by decide +kernel) (by decide +kernel) (by decide +kernel) (by decide +kernel) (by decide +kernel) (by decide +kernel)
theorem allAtoms_all (ts : List Jvm.Cond) (a : Array Jvm.Value) (st : Jvm.State) : (allAtoms ts).before a st = ts.all (fun c => c.before a st) := by
  induction ts with
  | nil => rfl
  | cons c t ih =>
    show (Jvm.Cond.and c (allAtoms t)).before a st = _
    rw [Jvm.Cond.before_and, ih, List.all_cons]
def words1 : List Jvm.Cond := Jvm.Cond.code x code maxLocals ret :: tables_1
/-- a 'code' word, met by the world's own term for the bytes: nothing is compared byte by byte -/
theorem code_word {y : MethodName} {bytes : ByteArray} {mx : Nat} {rt : Option FieldType} {a : Array Value} {s : State} {m : MethodId} {meth : Method} {c : Code} (h1 : s.methodNamed? y = some m) (h2 : s.vm.method? m = some meth) (h3 : meth.code = some c) (h4 : c.code = bytes)
    (h5 : (c.maxLocals == mx && c.exceptionTable.isEmpty && decide (c.maxStack ≤ mostOperands) && decide (meth.sig.returnType = rt) && !meth.locks && decide (parseMethodDescriptor y.desc = some meth.sig)) = true) : (Jvm.Cond.code y bytes mx rt).before a s = true := by
  simp only [Bool.and_eq_true, beq_iff_eq, Bool.not_eq_true', decide_eq_true_eq] at h5
  obtain ⟨⟨⟨⟨⟨g1, g2⟩, g3⟩, g4⟩, g5⟩, g6⟩ := h5
  simp [Cond.before, Cond.holds, Cond.value, h1, h2, h3, h4, g1, g2, g3, g4, g5, g6]
def isCode : Jvm.Cond → Bool
  | .code _ _ _ _ => true
  | _ => false
theorem all_split {L : List Jvm.Cond} {P : Jvm.Cond → Bool} (h1 : L.all (fun c => isCode c || P c) = true) (h2 : ∀ c ∈ L.filter isCode, P c = true) : L.all P = true := by
  refine List.all_eq_true.mpr fun c hc => ?_
  have h := List.all_eq_true.mp h1 c hc
  rcases Bool.eq_false_or_eq_true (isCode c) with hi | hi
  · exact h2 c (List.mem_filter.mpr ⟨hc, hi⟩)
  · simpa [hi] using h
set_option maxRecDepth 65536 in
theorem w_c0 : (Jvm.Cond.code x code maxLocals ret).before args0 about1 = true := code_word (m := ⟨1, 1⟩) (meth := k1m1) (c := k1c1) (by decide +kernel) rfl rfl rfl (by decide +kernel)
set_option maxRecDepth 65536 in
theorem w_c1 : (Jvm.Cond.code ({ cls := "com/example/gids/gids/ValueText", name := "isWhitespace", desc := "(I)Z" } : Jvm.MethodName) prog_54_method_2_code (1 : Nat) (Option.some Jvm.ClassFile.FieldType.boolean)).before args0 about1 = true := code_word (m := ⟨2, 1⟩) (meth := k2m1) (c := k2c1) (by decide +kernel) rfl rfl rfl (by decide +kernel)
def codes1 : List Jvm.Cond := [Jvm.Cond.code x code maxLocals ret, Jvm.Cond.code ({ cls := "com/example/gids/gids/ValueText", name := "isWhitespace", desc := "(I)Z" } : Jvm.MethodName) prog_54_method_2_code (1 : Nat) (Option.some Jvm.ClassFile.FieldType.boolean)]
set_option maxRecDepth 65536 in
theorem codes_eq : words1.filter isCode = codes1 := rfl
theorem w_codes : ∀ c ∈ words1.filter isCode, c.before args0 about1 = true := by
  rw [codes_eq]
  intro c hc
  simp only [codes1, List.mem_cons, List.not_mem_nil, or_false] at hc
  rcases hc with rfl | rfl
  · exact w_c0
  · exact w_c1
set_option maxRecDepth 65536 in
theorem w_t1 : words1.all (fun c => isCode c || c.before args0 about1) = true := by decide +kernel
theorem w_tables : (allAtoms (Jvm.Cond.code x code maxLocals ret :: tables_1)).before args0 about1 = true := by
  rw [allAtoms_all]
  show words1.all (fun c => c.before args0 about1) = true
  refine all_split ?_ w_codes
  rw [w_t1]
set_option maxRecDepth 65536 in
theorem w_case : (Jvm.Cond.and given_1 narrow_1).before args0 about1 = true := by decide +kernel
theorem w_applies : (headSpec (Jvm.Cond.code x code maxLocals ret :: tables_1) room_1).applies x e0.platform about1 = true :=
  (Spec.applies_iff w_frames).mpr ⟨w_running, w_runnable, w_alone, w_named, w_hears, w_ripe, w_room, w_tables⟩
theorem atStart : AtStart classFile x code maxLocals ret World_1 tables_1 room_1 Calls_1 rest_1 Pre_1 launch0 p0 e0 about1 theMethod args0 below0 :=
  ⟨lists_1, trivial, launch0.admits_env _ _ _, launch0.least_env, fairChoices_fair.cas, fairChoices_fair.clock, w_frames, w_args, w_heap, w_applies, trivial, trivial, w_case⟩
end start1
theorem witness_1 : WitnessClaimed_1 := ⟨start1.p0, start1.e0, start1.about1, start1.theMethod, start1.args0, start1.below0, start1.atStart⟩
end Jvm.Pilot.@@N@@
