import JvmDerived
import JvmDerived.Pilot.@@N@@Statement
import JvmDerived.Pilot.@@N@@Code
set_option linter.unusedVariables false
set_option linter.unusedSimpArgs false
@@BLOCK:NumsL.lean.txt@@
namespace Jvm.Pilot.@@N@@
open Jvm Jvm.ClassFile Sem Op Lib Jvm.Free Jvm.Stand Jvm.LawKit Jvm.RoadKit Bundle Jvm.Pilot.@@N@@.Jvm.D
section Own
variable {p : Program} {l : Launch} {e : Env} {R : Room} {s : State} {m : MethodId} {args : Array Value} {below : List Frame} {meth : Method} {c : Code} {T T' : State} {locs : List Loc} {cells slots : Nat} {g g' : JFrame} {Q : Option Value → Heap → List Loc → Nat → Nat → Prop} {Z : State} {a0 : Array Value} {h : Heap}
/-- from this frame, in this state, the run comes to a return, and what it leaves meets Q -/
def Goal (p : Program) (l : Launch) (e : Env) (R : Room) (s : State) (m : MethodId) (args : Array Value) (below : List Frame) (meth : Method) (c : Code) (Q : Option Value → Heap → List Loc → Nat → Nat → Prop) (T : State) (g : JFrame) : Prop :=
  ∃ v U L k n, Stand p l e R s m args below meth c U L k n ∧ (meth.sig.returnType = none → v = none) ∧ Q v U.heap L k n ∧
    ∀ fs, (∀ (f : JFrame) (acts : List Action), f.method = m → f.locked = none → f.entered = [] → (doReturn e (U.setTop f) acts v).1 = U.setFrames fs) → Steps p.tables e below (T.setTop g) (U.setFrames fs)
theorem Goal.step (h : Goal p l e R s m args below meth c Q T' g') (st : ∀ t, Steps p.tables e below (T'.setTop g') t → Steps p.tables e below (T.setTop g) t) : Goal p l e R s m args below meth c Q T g := by
  obtain ⟨v, U, L, k, n, X, hv, hq, hs⟩ := h
  exact ⟨v, U, L, k, n, X, hv, hq, fun fs hl => st _ (hs fs hl)⟩
theorem Goal.imp {Q' : Option Value → Heap → List Loc → Nat → Nat → Prop} (h : Goal p l e R s m args below meth c Q T g) (q : ∀ v h L k n, Q v h L k n → Q' v h L k n) : Goal p l e R s m args below meth c Q' T g := by
  obtain ⟨v, U, L, k, n, X, hv, hq, hs⟩ := h
  exact ⟨v, U, L, k, n, X, hv, q _ _ _ _ _ hq, hs⟩
theorem Goal.retN (X : Stand p l e R s m args below meth c T locs cells slots) (hx : p.tables.exec = Jvm.exec) {pc : Nat} {Ls : Array Slot} {z : Int32} {t : FieldType} {rest : List Value} (hret : meth.sig.returnType = some t) (ht : t = .boolean ∨ t = .byte ∨ t = .char ∨ t = .short)
    (hd : decode c.code pc = .ok (.ireturn, 1)) (hq : Q (some (.int (nar t z))) T.heap locs cells slots) : Goal p l e R s m args below meth c Q T (mkF m pc Ls (.int z :: rest)) :=
  ⟨_, T, _, _, _, X, fun q => (by rw [hret] at q; cases q), hq, fun fs hl => Jvm.RoadKit.retN X hx hret ht hd hl⟩
theorem Goal.retI (X : Stand p l e R s m args below meth c T locs cells slots) (hx : p.tables.exec = Jvm.exec) {pc : Nat} {Ls : Array Slot} {z : Int32} {rest : List Value} (hret : meth.sig.returnType = some .int)
    (hd : decode c.code pc = .ok (.ireturn, 1)) (hq : Q (some (.int z)) T.heap locs cells slots) : Goal p l e R s m args below meth c Q T (mkF m pc Ls (.int z :: rest)) :=
  ⟨_, T, _, _, _, X, fun q => (by rw [hret] at q; cases q), hq, fun fs hl => retOut X hx hret rfl (Or.inl ⟨rfl, Or.inl rfl, _, rfl⟩) hd hl⟩
theorem Goal.retJ (X : Stand p l e R s m args below meth c T locs cells slots) (hx : p.tables.exec = Jvm.exec) {pc : Nat} {Ls : Array Slot} {z : Int64} {rest : List Value} (hret : meth.sig.returnType = some .long)
    (hd : decode c.code pc = .ok (.lreturn, 1)) (hq : Q (some (.long z)) T.heap locs cells slots) : Goal p l e R s m args below meth c Q T (mkF m pc Ls (.long z :: rest)) :=
  ⟨_, T, _, _, _, X, fun q => (by rw [hret] at q; cases q), hq, fun fs hl => retOut X hx hret rfl (Or.inr (Or.inl ⟨rfl, rfl, _, rfl⟩)) hd hl⟩
theorem Goal.retD (X : Stand p l e R s m args below meth c T locs cells slots) (hx : p.tables.exec = Jvm.exec) {pc : Nat} {Ls : Array Slot} {z : UInt64} {rest : List Value} (hret : meth.sig.returnType = some .double)
    (hd : decode c.code pc = .ok (.dreturn, 1)) (hq : Q (some (.double z)) T.heap locs cells slots) : Goal p l e R s m args below meth c Q T (mkF m pc Ls (.double z :: rest)) :=
  ⟨_, T, _, _, _, X, fun q => (by rw [hret] at q; cases q), hq, fun fs hl => retOut X hx hret rfl (Or.inr (Or.inr (Or.inl ⟨rfl, rfl, _, rfl⟩))) hd hl⟩
theorem Goal.retA (X : Stand p l e R s m args below meth c T locs cells slots) (hx : p.tables.exec = Jvm.exec) {pc : Nat} {Ls : Array Slot} {w : Value} {t : FieldType} {rest : List Value} (hret : meth.sig.returnType = some t) (ht : t.isReference = true) (hn : narrow t w = w) (hw : w.isRef = true)
    (hd : decode c.code pc = .ok (.areturn, 1)) (hq : Q (some w) T.heap locs cells slots) : Goal p l e R s m args below meth c Q T (mkF m pc Ls (w :: rest)) :=
  ⟨_, T, _, _, _, X, fun q => (by rw [hret] at q; cases q), hq, fun fs hl => retOut X hx hret hn (Or.inr (Or.inr (Or.inr (Or.inr ⟨rfl, ht, hw⟩)))) hd hl⟩
theorem Goal.retV (X : Stand p l e R s m args below meth c T locs cells slots) (hx : p.tables.exec = Jvm.exec) {pc : Nat} {Ls : Array Slot} (hret : meth.sig.returnType = none)
    (hd : decode c.code pc = .ok (.return_, 1)) (hq : Q none T.heap locs cells slots) : Goal p l e R s m args below meth c Q T (mkF m pc Ls []) :=
  ⟨_, T, _, _, _, X, fun _ => rfl, hq, fun fs hl => X.returnOut hx hret hd hl⟩
/-- what a walk knows of where it runs -/
def Ctx (p : Program) (s : State) (m : MethodId) (meth : Method) (c : Code) (Z : State) (bytes : ByteArray) (maxL : Nat) (ret : Option FieldType) (own nm : String) : Prop :=
  p.tables.exec = Jvm.exec ∧ Z.Warmed39 s.vm ∧ c.code = bytes ∧ c.maxLocals = maxL ∧ meth.sig.returnType = ret ∧ s.vm.findClass own = some m.cls ∧ meth.name = nm
/-- a body's contract: called with as' at the heap h0, it returns, and what it leaves meets Q -/
def Met (l : Launch) (y : MethodName) (bytes : ByteArray) (maxL : Nat) (ret : Option FieldType) (ws : List Jvm.Cond) (rm : Room) (Z : State) (as' : Array Value) (h0 : Heap) (Q : Option Value → Heap → List Loc → Prop) : Prop :=
  MetFree l y (head1 (Jvm.Cond.code y bytes maxL ret :: ws) rm) (fun a U => a = as' ∧ Z.Warmed39 U.vm ∧ U.heap = h0) (fun _ _ _ _ _ => True) (fun _ U o U' => ∃ v L, o = .returned v ∧ Q v U'.heap L ∧ FrameEnd U o U' L rm.cells rm.slots)
/-- Q within the room -/
def In (rm : Room) (Q : Option Value → Heap → List Loc → Prop) (v : Option Value) (h : Heap) (L : List Loc) (k n : Nat) : Prop := Q v h L ∧ k ≤ rm.cells ∧ n ≤ rm.slots
theorem of_goal {y : MethodName} {bytes : ByteArray} {maxL : Nat} {ret : Option FieldType} {ws : List Jvm.Cond} {rm : Room} {as' : Array Value} {h0 : Heap} {Q : Option Value → Heap → List Loc → Prop} (hpl : plainFor y = true)
    (body : ∀ (p : Program) (e : Env) (s : State) (m : MethodId) (below : List Frame) (meth : Method) (c : Code) (s₁ : State), Ctx p s m meth c Z bytes maxL ret y.cls y.name → Stand p l e rm s m as' below meth c s₁ [] 0 0 → s₁.heap = h0 →
      Goal p l e rm s m as' below meth c (In rm Q) s₁ (entryFrame m as' maxL)) : Met l y bytes maxL ret ws rm Z as' h0 Q := by
  refine MetFree.of_bodySF hpl hisR ?_
  intro p e s m args below meth c s₁ Bd hml0 hP hK
  obtain ⟨rfl, hZ, hh⟩ := hP
  have X0 : Stand p l e rm s m _ below meth c s₁ [] 0 0 := Stand.of_body Bd
  have e0 : s₁.heap = h0 := by rw [← hh, Bd.state]; rfl
  obtain ⟨v, U, L, k, n, X, hv, ⟨hq, hk, hn⟩, hs⟩ := body p e s m below meth c s₁ ⟨Bd.exec, hZ, Bd.bytes, hml0, Bd.returns, findClass_of_methodNamed Bd.named, (name_of_methodNamed Bd.named Bd.method).1⟩ X0 e0
  obtain ⟨fs, hr, hrun, hended, hW, hsame⟩ := X.leave (v := v) hv
  exact ⟨_, _, hs fs hr, hrun, hended, _, _, rfl, hq, ⟨_, rfl⟩, hW, hsame.mono hk hn⟩
variable {own : String} {index maxL : Nat} {y z : MethodName} {bytes : ByteArray} {ret : Option FieldType} {rm : Room} {as' : Array Value} {Qc : Option Value → Heap → List Loc → Prop}
theorem callStatic (X : Stand p l e R s m args below meth c T locs cells slots) (hx : p.tables.exec = Jvm.exec) (hZ : Z.Warmed39 s.vm) (hown : s.vm.findClass own = some m.cls)
    (w1 : (Cond.methodLink own index y).before a0 Z = true) (w2 : (Cond.static y).before a0 Z = true) (w3 : (Cond.initialized y.cls).before a0 Z = true) (w4 : (Cond.code y bytes maxL ret).before a0 Z = true)
    (hy : y.cls ≠ "java/lang/invoke/MethodHandle" ∧ y.cls ≠ "java/lang/invoke/VarHandle") (hM : Met l y bytes maxL ret [] rm Z as' h Qc) (eT : T.heap = h) {W : Nat} (hf : rm.frames + 1 ≤ R.frames) (hl : W + (maxL + 11) + rm.locals ≤ R.locals)
    (hc : cells + rm.cells ≤ R.cells) (hs : slots + rm.slots ≤ R.slots)
    {g : JFrame} (hg : g.method = m) (hsize : g.locals.size = c.maxLocals) {argsL rest : List Value} (hlen : ∀ sig, parseMethodDescriptor y.desc = some sig → argsL.length = sig.parameters.length)
    (hstack : g.stack = argsL.reverse ++ rest) (hW : 2 * g.monitorRoom + (rest.map fun v => v.category).sum ≤ W) (hdg : decode c.code g.pc = .ok (.invokestatic index, 3)) (has : argsL.toArray = as') :
    ∃ v T' h' L, Stand p l e R s m args below meth c T' (locs ++ L) (cells + rm.cells) (slots + rm.slots) ∧ T'.heap = h' ∧ Qc v h' L ∧ ∀ target, Steps p.tables e below (T'.setTop { g with pc := g.pc + 3, stack := v.toList ++ rest }) target → Steps p.tables e below (T.setTop g) target := by
  subst has
  obtain ⟨v, _, ⟨T', L', k', n'⟩, -, X', ⟨Lc, hQ, l1, y1, z1⟩, st⟩ := Jvm.LawKit.callS X hx (y := y) hown (mvT hZ w1) (mvT hZ w2) (mvT hZ w3) (mvT hZ w4) hy (backOf (W := W) hM hZ w4 w3 hf hl) (g := g) hg hsize (argsL := argsL) (rest := rest) hlen hstack hW hdg (fun _ _ => ⟨rfl, eT, hc, hs⟩)
  dsimp only [Pt.U, Pt.locs, Pt.cells, Pt.slots] at X' l1 y1 z1 st hQ
  subst l1 y1 z1
  exact ⟨v, T', _, Lc, X', rfl, hQ, st⟩
theorem callInit (X : Stand p l e R s m args below meth c T locs cells slots) (hx : p.tables.exec = Jvm.exec) (hZ : Z.Warmed39 s.vm) (hown : s.vm.findClass own = some m.cls) (hy1 : y.name = "<init>")
    (w1 : (Cond.methodLink own index y).before a0 Z = true) (w2 : (Cond.instanceMethod y).before a0 Z = true) (w3 : (Cond.initialized y.cls).before a0 Z = true) (w4 : (Cond.code y bytes maxL none).before a0 Z = true)
    (hy : y.cls ≠ "java/lang/invoke/MethodHandle" ∧ y.cls ≠ "java/lang/invoke/VarHandle") (hM : Met l y bytes maxL none [] rm Z as' h Qc) (eT : T.heap = h) {W : Nat} (hf : rm.frames + 1 ≤ R.frames) (hl : W + (maxL + 11) + rm.locals ≤ R.locals)
    (hc : cells + rm.cells ≤ R.cells) (hs : slots + rm.slots ≤ R.slots)
    {g : JFrame} (hg : g.method = m) (hsize : g.locals.size = c.maxLocals) {a : Addr} {argsL rest : List Value} (hlen : ∀ sig, parseMethodDescriptor y.desc = some sig → argsL.length = sig.parameters.length)
    (hstack : g.stack = argsL.reverse ++ .ref a :: rest) (hW : 2 * g.monitorRoom + (rest.map fun v => v.category).sum ≤ W) (hdg : decode c.code g.pc = .ok (.invokespecial index, 3)) (has : (Value.ref a :: argsL).toArray = as') :
    ∃ v T' h' L, Stand p l e R s m args below meth c T' (locs ++ L) (cells + rm.cells) (slots + rm.slots) ∧ T'.heap = h' ∧ Qc v h' L ∧ ∀ target, Steps p.tables e below (T'.setTop { g with pc := g.pc + 3, stack := v.toList ++ rest }) target → Steps p.tables e below (T.setTop g) target := by
  subst has
  obtain ⟨v, _, ⟨T', L', k', n'⟩, -, X', ⟨Lc, hQ, l1, y1, z1⟩, st⟩ := X.specialBack hx (y := y) hy1 hown (mvT hZ w1) (mvT hZ w2) (mvT hZ w4) hy (backOf (W := W) hM hZ w4 w3 hf hl) (g := g) hg hsize (Steps.refl _) (a := a) (argsL := argsL) (rest := rest) hlen hstack hW hdg (fun _ _ => ⟨rfl, eT, hc, hs⟩)
  dsimp only [Pt.U, Pt.locs, Pt.cells, Pt.slots] at X' l1 y1 z1 st hQ
  subst l1 y1 z1
  exact ⟨v, T', _, Lc, X', rfl, hQ, fun t k => st.trans k⟩
theorem callVirt (X : Stand p l e R s m args below meth c T locs cells slots) (hx : p.tables.exec = Jvm.exec) (hZ : Z.Warmed39 s.vm) (hown : s.vm.findClass own = some m.cls) {C : String}
    (w1 : (Cond.methodLink own index y).before a0 Z = true) (w2 : (Cond.declares y).before a0 Z = true) (hnf : NotFace s y) (w5 : (Cond.selects C y z).before a0 Z = true) (w6 : (Cond.instanceMethod z).before a0 Z = true) (w3 : (Cond.initialized z.cls).before a0 Z = true) (w4 : (Cond.code z bytes maxL ret).before a0 Z = true)
    (hy : y.cls ≠ "java/lang/invoke/MethodHandle" ∧ y.cls ≠ "java/lang/invoke/VarHandle") (hM : Met l z bytes maxL ret [] rm Z as' h Qc) (eT : T.heap = h) {a : Addr} (E : Exa Z h a C) {W : Nat} (hf : rm.frames + 1 ≤ R.frames) (hl : W + (maxL + 11) + rm.locals ≤ R.locals)
    (hc : cells + rm.cells ≤ R.cells) (hs : slots + rm.slots ≤ R.slots)
    {g : JFrame} (hg : g.method = m) (hsize : g.locals.size = c.maxLocals) {argsL rest : List Value} (hlen : ∀ sig, parseMethodDescriptor y.desc = some sig → argsL.length = sig.parameters.length)
    (hstack : g.stack = argsL.reverse ++ .ref a :: rest) (hW : 2 * g.monitorRoom + (rest.map fun v => v.category).sum ≤ W) (hdg : decode c.code g.pc = .ok (.invokevirtual index, 3)) (has : (Value.ref a :: argsL).toArray = as') :
    ∃ v T' h' L, Stand p l e R s m args below meth c T' (locs ++ L) (cells + rm.cells) (slots + rm.slots) ∧ T'.heap = h' ∧ Qc v h' L ∧ ∀ target, Steps p.tables e below (T'.setTop { g with pc := g.pc + 3, stack := v.toList ++ rest }) target → Steps p.tables e below (T.setTop g) target := by
  subst has
  obtain ⟨cq, kq, qa, qb, qc⟩ := isOf hZ eT E
  obtain ⟨v, _, ⟨T', L', k', n'⟩, -, X', ⟨Lc, hQ, l1, y1, z1⟩, st⟩ := X.virtualBack hx (y := y) (z := z) hown (mvT hZ w1) (mvT hZ w2) hnf (mvT hZ w5) (mvT hZ w6) hy (backOf (W := W) hM hZ w4 w3 hf hl) qa qc (g := g) hg hsize (Steps.refl _) (argsL := argsL) (rest := rest) hlen hstack hW hdg (fun _ _ => ⟨rfl, eT, hc, hs⟩)
  dsimp only [Pt.U, Pt.locs, Pt.cells, Pt.slots] at X' l1 y1 z1 st hQ
  subst l1 y1 z1
  exact ⟨v, T', _, Lc, X', rfl, hQ, fun t k => st.trans k⟩
theorem nne {x y : Nat} (q : ¬ x = y) : @Ne Addr x y := q
end Own
namespace OwnF
open Jvm.FP.Core
/-- a whole number from 0 to 2^53, as a double -/
theorem own_val {n : Int64} (h0 : 0 ≤ n.toInt) (h1 : n.toInt.toNat ≤ 2 ^ 53) : ∃ c q, Jvm.FP.Core.fits b64 (.fin false c q) ∧ n.toInt.toNat * 2 ^ (0 - q).toNat = c * 1 * 2 ^ (q - 0).toNat ∧ val64 (l2d n) = .fin false c q := by
  obtain ⟨c, q, hf, hv⟩ := natFit good_b64 wide_b64 false (n := n.toInt.toNat) h1
  refine ⟨c, q, hf, hv, ?_⟩
  rw [val64_l2d]
  show roundRatio b64 (decide (n.toInt < 0)) n.toInt.natAbs 1 0 = _
  rw [show decide (n.toInt < 0) = false from decide_eq_false (by omega), show n.toInt.natAbs = n.toInt.toNat by omega]
  exact roundRatio_exact good_b64 (by decide) hf hv
theorem own_div {m n : Int64} (hm : 0 ≤ m.toInt) (hm1 : m.toInt.toNat ≤ 2 ^ 53) (hn : 0 < n.toInt) (hn1 : n.toInt.toNat ≤ 2 ^ 53) : val64 (ddiv (l2d m) (l2d n)) = roundRatio b64 false m.toInt.toNat n.toInt.toNat 0 := by
  obtain ⟨c, q, hf, hv, e1⟩ := own_val hm hm1
  obtain ⟨d, r, hg, hw, e2⟩ := own_val (n := n) (by omega) hn1
  rw [val64_ddiv, e1, e2]
  have hd : d ≠ 0 := by
    intro hd
    simp only [hd, Nat.zero_mul] at hw
    have := Nat.two_pow_pos (0 - r).toNat
    have := Nat.mul_eq_zero.mp hw
    omega
  show (if d = 0 then (if c = 0 then Datum.nan else .inf (false != false)) else roundRatio b64 (false != false) c d (q - r)) = _
  rw [if_neg hd, show (false != false) = false from rfl]
  refine roundRatio_congr (by omega) (by omega) ?_
  -- c * n * 2^(q - r) = m * d * 2^(r - q)
  generalize m.toInt.toNat = M at *
  generalize hN : n.toInt.toNat = N at *
  rw [Nat.mul_one] at hv hw
  -- M * 2^(-q)+ = c * 2^q+, N * 2^(-r)+ = d * 2^r+
  have p1 := Nat.two_pow_pos (0 - q).toNat
  have p2 := Nat.two_pow_pos (0 - r).toNat
  have key : c * N * 2 ^ (q - r - 0).toNat * (2 ^ (0 - q).toNat * 2 ^ (0 - r).toNat * 2 ^ ((q - 0).toNat + (r - 0).toNat)) = M * d * 2 ^ (0 - (q - r)).toNat * (2 ^ (0 - q).toNat * 2 ^ (0 - r).toNat * 2 ^ ((q - 0).toNat + (r - 0).toNat)) := by
    have l : c * N * 2 ^ (q - r - 0).toNat * (2 ^ (0 - q).toNat * 2 ^ (0 - r).toNat * 2 ^ ((q - 0).toNat + (r - 0).toNat)) = (c * 2 ^ (q - 0).toNat) * (N * 2 ^ (0 - r).toNat) * (2 ^ (q - r - 0).toNat * 2 ^ (0 - q).toNat * 2 ^ (r - 0).toNat) := by
      rw [Nat.pow_add]; ac_rfl
    have rr : M * d * 2 ^ (0 - (q - r)).toNat * (2 ^ (0 - q).toNat * 2 ^ (0 - r).toNat * 2 ^ ((q - 0).toNat + (r - 0).toNat)) = (M * 2 ^ (0 - q).toNat) * (d * 2 ^ (r - 0).toNat) * (2 ^ (0 - (q - r)).toNat * 2 ^ (0 - r).toNat * 2 ^ (q - 0).toNat) := by
      rw [Nat.pow_add]; ac_rfl
    rw [l, rr, hv, ← hw]
    congr 1
    rw [← Nat.pow_add, ← Nat.pow_add, ← Nat.pow_add, ← Nat.pow_add]
    congr 1
    omega
  exact Nat.eq_of_mul_eq_mul_right (Nat.mul_pos (Nat.mul_pos p1 p2) (Nat.two_pow_pos _)) key
/-- the half of a ratio that lies well within the normal numbers is its rounding, halved -/
theorem own_half {A B : Nat} (hB : 0 < B) (hA : A ≤ 2 ^ 60) (hB1 : B ≤ 2 ^ 60) : round b64 (exactProduct (roundRatio b64 false A B 0) (.fin false (2 ^ 52) (-53))) = roundRatio b64 false A B (-1) := by
  by_cases h0 : A = 0
  · subst h0
    simp only [roundRatio, if_true, exactProduct]
    rfl
  have hA0 : 0 < A := by omega
  have hlead : -61 ≤ leading A B ∧ leading A B ≤ 61 := by
    have h1 : A.log2 ≤ 60 := by
      have := Nat.log2_self_le (n := A) (by omega)
      refine Nat.le_of_not_lt fun q => ?_
      have : 2 ^ 61 ≤ 2 ^ A.log2 := Nat.pow_le_pow_right (by decide) (by omega)
      omega
    have h2 : B.log2 ≤ 60 := by
      have := Nat.log2_self_le (n := B) (by omega)
      refine Nat.le_of_not_lt fun q => ?_
      have : 2 ^ 61 ≤ 2 ^ B.log2 := Nat.pow_le_pow_right (by decide) (by omega)
      omega
    unfold leading
    simp only
    split <;> omega
  have hqm : b64.qmin = -1074 := by decide
  have hqM : b64.qmax = 971 := by decide
  have hp : (b64.p : Int) = 53 := rfl
  have q0 : quantum b64 A B 0 = leading A B - 52 := by unfold quantum; rw [hqm, hp]; omega
  have q1 : quantum b64 A B (-1) = leading A B - 53 := by unfold quantum; rw [hqm, hp]; omega
  have hle := nearest_units_le (f := b64) hA0 hB 0
  have hge : b64.tails ≤ nearest (unitsNum A 0 (quantum b64 A B 0)) (unitsDen B 0 (quantum b64 A B 0)) := by
    rcases quantum_not_below (f := b64) hA0 hB 0 with h2 | h2
    · rw [q0, hqm] at h2; omega
    · refine nearest_ge (unitsDen_pos hB ..) ?_
      rw [show (b64.p : Int) - 1 = ((52 : Nat) : Int) from rfl, ← units_below] at h2
      exact Nat.le_of_not_lt h2
  have e0 : roundRatio b64 false A B 0 = settle b64 false (nearest (unitsNum A 0 (leading A B - 52)) (unitsDen B 0 (leading A B - 52))) (leading A B - 52) := by
    unfold roundRatio; rw [if_neg h0, q0]; rfl
  have e1 : roundRatio b64 false A B (-1) = settle b64 false (nearest (unitsNum A 0 (leading A B - 52)) (unitsDen B 0 (leading A B - 52))) (leading A B - 53) := by
    unfold roundRatio; rw [if_neg h0, q1]
    unfold roundAt unitsNum unitsDen
    rw [show (-1 - (leading A B - 53)).toNat = (0 - (leading A B - 52)).toNat by omega, show (leading A B - 53 - -1).toNat = (leading A B - 52 - 0).toNat by omega]
  rw [q0] at hle hge
  rw [e0, e1]
  generalize nearest (unitsNum A 0 (leading A B - 52)) (unitsDen B 0 (leading A B - 52)) = c at *
  generalize leading A B = k at *
  have ht : b64.tails = 2 ^ 52 := rfl
  have h53 : 2 ^ b64.p = 2 ^ 53 := rfl
  have step : ∀ (c : Nat) (q : Int), b64.tails ≤ c → c < 2 ^ b64.p → -1000 ≤ q → q ≤ 900 → round b64 (exactProduct (.fin false c q) (.fin false (2 ^ 52) (-53))) = .fin false c (q - 1) := by
    intro c q h1 h2 h3 h4
    show roundRatio b64 (false != false) (c * 2 ^ 52) 1 (q + -53) = _
    refine roundRatio_exact good_b64 (by decide) ⟨h2, by omega, by omega, .inr h1⟩ ?_
    rw [show (q + -53 - (q - 1)).toNat = 0 by omega, show (q - 1 - (q + -53)).toNat = 52 by omega]
    simp
  unfold settle bound
  by_cases hc : c < 2 ^ b64.p
  · rw [if_pos hc, if_pos hc, if_pos (by omega), if_pos (by omega), step c _ hge hc (by omega) (by omega), show k - 52 - 1 = k - 53 by omega]
  · rw [if_neg hc, if_neg hc, if_pos (by omega), if_pos (by omega), step b64.tails _ (Nat.le_refl _) (by decide) (by omega) (by omega), show k - 52 + 1 - 1 = k - 53 + 1 by omega]
theorem own_nn (s : Bool) (A B : Nat) (e : Int) : roundRatio b64 s A B e ≠ .nan := by
  unfold roundRatio roundAt settle bound
  repeat' split
  all_goals simp
theorem own_ge (A B : Nat) (e : Int) : order (roundRatio b64 false A B e) (.fin false 0 b64.qmin) = some .gt ∨ order (roundRatio b64 false A B e) (.fin false 0 b64.qmin) = some .eq := by
  have fin : ∀ (c : Nat) (q : Int), order (.fin false c q) (.fin false 0 b64.qmin) = some .gt ∨ order (.fin false c q) (.fin false 0 b64.qmin) = some .eq := by
    intro c q
    have h : order (.fin false c q) (.fin false 0 b64.qmin) = some (compare ((inUnits c q (min q b64.qmin) : Nat) : Int) ((0 : Nat) : Int)) := by
      show some (compare (signed false (inUnits c q (min q b64.qmin))) (signed false (inUnits 0 b64.qmin (min q b64.qmin)))) = _
      rw [show inUnits 0 b64.qmin (min q b64.qmin) = 0 from Nat.zero_mul _]
      rfl
    rw [h, Option.some_inj, Option.some_inj, compare_gt_iff, compare_eq_iff]
    omega
  unfold roundRatio roundAt settle bound
  repeat' split
  all_goals first | exact fin _ _ | exact .inl rfl
theorem own_two : (4611686018427387904 : UInt64) = l2d 2 := by decide +kernel
theorem own_dist {m n : Int64} (hm : 0 ≤ m.toInt) (hm1 : m.toInt ≤ 2 ^ 32) (hn : 0 < n.toInt) (hn1 : n.toInt ≤ 2 ^ 31) :
    ddiv (l2d m) (dmul 4611686018427387904 (l2d n)) = dmul (ddiv (l2d m) (l2d n)) 4602678819172646912 := by
  have k2 : (2 : Int64).toInt = 2 := by decide
  have e2 : (2 * n).toInt = 2 * n.toInt := by rw [Int64.toInt_mul, k2, Int.bmod_def]; omega
  have d2 : dmul 4611686018427387904 (l2d n) = l2d (2 * n) := by
    rw [own_two]
    exact dmul_l2d (by unfold Small53; rw [k2]; omega) (by unfold Small53; omega) (by decide) (fun q => by rw [q] at hn; revert hn; decide) (by rw [k2]; omega) (by rw [k2]; omega)
  rw [d2]
  have a1 := own_div (m := m) (n := 2 * n) hm (by omega) (by omega) (by omega)
  have a2 := own_div (m := m) (n := n) hm (by omega) hn (by omega)
  refine val64_inj (by rw [a1]; exact own_nn _ _ _ _) ?_
  rw [a1, val64_dmul, a2, show val64 4602678819172646912 = .fin false (2 ^ 52) (-53) by decide +kernel, own_half (by omega) (by omega) (by omega)]
  refine roundRatio_congr (by omega) (by omega) ?_
  rw [show (2 * n).toInt.toNat = 2 * n.toInt.toNat by omega]
  show m.toInt.toNat * n.toInt.toNat * 2 ^ 1 = m.toInt.toNat * (2 * n.toInt.toNat) * 2 ^ 0
  rw [Nat.pow_one, Nat.pow_zero, Nat.mul_one, Nat.mul_assoc, Nat.mul_comm n.toInt.toNat 2]
theorem own_pos {m n : Int64} (hm : 0 ≤ m.toInt) (hm1 : m.toInt ≤ 2 ^ 32) (hn : 0 < n.toInt) (hn1 : n.toInt ≤ 2 ^ 31) :
    (dcmp (ddiv (l2d m) (l2d n)) 0 = some .gt ∨ dcmp (ddiv (l2d m) (l2d n)) 0 = some .eq) ∧ val64 (ddiv (l2d m) (l2d n)) ≠ .nan := by
  have a2 := own_div (m := m) (n := n) hm (by omega) hn (by omega)
  refine ⟨?_, by rw [a2]; exact own_nn _ _ _ _⟩
  have : ∀ x, dcmp x 0 = order (val64 x) (.fin false 0 b64.qmin) := fun x => by rw [← val64_zero]; rfl
  rw [this, a2]
  exact own_ge ..
end OwnF

open Jvm.Free.Fl in
theorem own_noNaN {x : UInt64} (h : Jvm.FP.Core.val64 x ≠ .nan) : NoNaN64 x := noNaN64_no.mpr (Bool.eq_false_iff.mpr fun q => h ((Jvm.FP.Core.dIsNaN_iff x).mp q))
def dist (n a b : Int32) : UInt64 := if n = 0 then (if b = 0 then FP.dconst0 else FP.dconst1) else FP.ddiv (FP.i2d (a + b)) (FP.dmul (4611686018427387904 : UInt64) (FP.i2d n))
def okN (n : Int32) : Prop := 0 ≤ n.toInt ∧ n.toInt < 1073741824
theorem own_n (x : Int32) : okN (x &&& 1073741823) := by
  have e : (x &&& 1073741823).toInt = x.toInt % 2 ^ 30 := Jvm.Kit.i32_mask x 1073741823 (k := 30) (by decide) (by decide)
  unfold okN; omega
theorem own_n0 : okN 0 := by unfold okN; decide
theorem own_a (x n : Int32) (hn : okN n) : (n.toInt64 + 1) ≠ 0 ∧ okN (((x.toInt64 &&& 2147483647) - ((x.toInt64 &&& 2147483647) / (n.toInt64 + 1)) * (n.toInt64 + 1)).toInt32) := by
  have k1 : (1 : Int64).toInt = 1 := by decide
  have e0 := Jvm.Kit.i64_of_i32 n
  have e1 : (n.toInt64 + 1).toInt = n.toInt + 1 := by rw [Jvm.Kit.i64_add (by rw [k1]; unfold okN at hn; omega) (by rw [k1]; unfold okN at hn; omega), k1, e0]
  have e2 : (x.toInt64 &&& 2147483647).toInt = x.toInt64.toInt % 2 ^ 31 := Jvm.Kit.i64_mask _ 2147483647 (k := 31) (by decide) (by decide)
  have e3 := Jvm.Kit.i64_rem_nonneg (x := x.toInt64 &&& 2147483647) (y := n.toInt64 + 1) (by omega)
  have b1 := Int.emod_nonneg (x.toInt64 &&& 2147483647).toInt (b := (n.toInt64 + 1).toInt) (by unfold okN at hn; omega)
  have b2 := Int.emod_lt_of_pos (x.toInt64 &&& 2147483647).toInt (b := (n.toInt64 + 1).toInt) (by unfold okN at hn; omega)
  rw [← e3] at b1 b2
  unfold okN at hn
  refine ⟨fun q => by rw [q] at e1; have : (0 : Int64).toInt = 0 := by decide
                      omega, ?_⟩
  unfold okN
  rw [Jvm.Kit.i32_of_i64 (by omega) (by omega)]
  omega
theorem own_i2d (x : Int32) : FP.i2d x = FP.l2d x.toInt64 := i2d_w x
theorem own_sum (a b : Int32) (ha : okN a) (hb : okN b) : (a + b).toInt64 = a.toInt64 + b.toInt64 := by
  unfold okN at ha hb
  apply Int64.toInt_inj.mp
  rw [Jvm.Kit.i64_of_i32, Jvm.Kit.i32_add (by omega) (by omega), Jvm.Kit.i64_add, Jvm.Kit.i64_of_i32, Jvm.Kit.i64_of_i32] <;> (rw [Jvm.Kit.i64_of_i32, Jvm.Kit.i64_of_i32]; omega)
theorem own_mb (a b : Int32) (ha : okN a) (hb : okN b) : 0 ≤ (a.toInt64 + b.toInt64).toInt ∧ (a.toInt64 + b.toInt64).toInt ≤ 2 ^ 32 := by
  rw [← own_sum a b ha hb, Jvm.Kit.i64_of_i32, Jvm.Kit.i32_add] <;> (unfold okN at ha hb; omega)
theorem own_nb (n : Int32) (hn : okN n) (h0 : ¬ n = 0) : 0 < n.toInt64.toInt ∧ n.toInt64.toInt ≤ 2 ^ 31 := by
  rw [Jvm.Kit.i64_of_i32]
  unfold okN at hn
  have : n.toInt ≠ 0 := fun q => h0 (Int32.toInt_inj.mp q)
  omega
theorem own_two_n (n : Int32) (hn : okN n) (h0 : ¬ n = 0) : FP.dmul (4611686018427387904 : UInt64) (FP.i2d n) = FP.l2d (2 * n.toInt64) ∧ (2 * n.toInt64).toInt = 2 * n.toInt := by
  have hb := own_nb n hn h0
  have k2 : (2 : Int64).toInt = 2 := by decide
  have e0 := Jvm.Kit.i64_of_i32 n
  refine ⟨?_, by rw [Jvm.Kit.i64_mul, k2, e0] <;> (rw [k2]; omega)⟩
  rw [own_i2d, OwnF.own_two]
  exact Jvm.FP.Core.dmul_l2d (by unfold Jvm.FP.Core.Small53; rw [k2]; omega) (by unfold Jvm.FP.Core.Small53; omega) (by decide) (fun q => by rw [q] at hb; exact absurd hb.1 (by decide)) (by rw [k2]; omega) (by rw [k2]; omega)
theorem own_dist0 (n a b : Int32) (hn : okN n) (ha : okN a) (hb : okN b) (h0 : ¬ n = 0) : FP.ddiv (FP.i2d (a + b)) (FP.dmul (4611686018427387904 : UInt64) (FP.i2d n)) = FP.dmul (FP.ddiv (FP.l2d (a.toInt64 + b.toInt64)) (FP.i2d n)) (4602678819172646912 : UInt64) := by
  have hm := own_mb a b ha hb
  have hn' := own_nb n hn h0
  rw [own_i2d, own_i2d, own_sum a b ha hb]
  exact OwnF.own_dist hm.1 hm.2 hn'.1 hn'.2
theorem own_vals (n a b : Int32) (hn : okN n) (ha : okN a) (hb : okN b) (h0 : ¬ n = 0) :
    Jvm.Free.Fl.NoNaN64 (FP.dmul (4611686018427387904 : UInt64) (FP.i2d n)) ∧ Jvm.Free.Fl.NoNaN64 (FP.ddiv (FP.i2d (a + b)) (FP.dmul (4611686018427387904 : UInt64) (FP.i2d n))) ∧ Jvm.Free.Fl.NoNaN64 (FP.ddiv (FP.l2d (a.toInt64 + b.toInt64)) (FP.i2d n)) ∧
      (FP.dcmp (FP.ddiv (FP.i2d (a + b)) (FP.dmul (4611686018427387904 : UInt64) (FP.i2d n))) 0 = some .gt ∨ FP.dcmp (FP.ddiv (FP.i2d (a + b)) (FP.dmul (4611686018427387904 : UInt64) (FP.i2d n))) 0 = some .eq) := by
  have hm := own_mb a b ha hb
  have hn' := own_nb n hn h0
  obtain ⟨t1, t2⟩ := own_two_n n hn h0
  have e0 := Jvm.Kit.i64_of_i32 n
  have p2 := OwnF.own_pos (m := a.toInt64 + b.toInt64) (n := 2 * n.toInt64) hm.1 hm.2 (by omega) (by rw [t2]; unfold okN at hn; omega)
  have p1 := OwnF.own_pos (m := a.toInt64 + b.toInt64) (n := n.toInt64) hm.1 hm.2 hn'.1 hn'.2
  refine ⟨?_, ?_, ?_, ?_⟩
  · rw [t1]; exact (Jvm.Free.Fl.l2d_fin _).noNaN
  · rw [t1, own_i2d (a + b), own_sum a b ha hb]; exact own_noNaN p2.2
  · rw [own_i2d n]; exact own_noNaN p1.2
  · rw [t1, own_i2d (a + b), own_sum a b ha hb]; exact p2.1
theorem own_cmp_ge {x : UInt64} (h : FP.dcmp x 0 = some .gt ∨ FP.dcmp x 0 = some .eq) : ¬ cmpValue (FP.dcmp x FP.dconst0) .l < 0 := by
  rcases h with h | h
  · rw [show FP.dconst0 = 0 from rfl, h]; decide
  · rw [show FP.dconst0 = 0 from rfl, h]; decide
theorem d2_0 : decode jdk_30_method_1_code 0 = .ok (.aload_n 0, 1) := by decide +kernel
theorem d2_1 : decode jdk_30_method_1_code 1 = .ok (.invokespecial 1, 3) := by decide +kernel
theorem d2_4 : decode jdk_30_method_1_code 4 = .ok (.return_, 1) := by decide +kernel
theorem ef_2 (m : MethodId) (x0 : Nat) : entryFrame m #[(.ref x0)] 1 = mkF m 0 #[.val (.ref x0)] [] := by first | (simp [entryFrame, mkF, argsToLocals, Value.category]; done) | rfl
set_option maxRecDepth 65536 in
set_option maxHeartbeats 40000000 in
theorem rmRec (l : Launch) (Z : State) (a0 : Array Value) (hw : ∀ d ∈ tables_1, d.before a0 Z = true) (a1 : Nat) (h0 : Heap) (n0 : Nat) (Z0 : n0 ≤ h0.size) :
    Met l (⟨"java/lang/Record", "<init>", "()V"⟩ : MethodName) jdk_30_method_1_code 1 none [] ({ frames := 1, cells := 0, slots := 0, locals := 12 } : Room) Z #[(.ref a1)] h0 (fun v h L => v = none ∧ Fr n0 L ∧ h = h0) := by
  refine of_goal (plainFor_of_name (by first | (simp [plainName, overriddenIn]; done) | decide +kernel)) ?_
  intro p e s m below meth c s₁ C X0 e0
  have C0 := C
  obtain ⟨hx, hZ, hby, hml, hret, hown, hnm⟩ := C
  have hown : s.vm.findClass "java/lang/Record" = some m.cls := hown
  have hret : meth.sig.returnType = none := hret
  have N0 := Fr.nil n0
  rw [ef_2]
  refine Goal.step (T' := s₁) (g' := (mkF m 1 #[.val (.ref a1)] [(.ref a1)])) ?_ (fun t k => XS.aloadN X0.here hx rfl (hb hby d2_0) rfl rfl k)
  obtain ⟨T1001, X1001, e1001, st1001⟩ := initO X0 hx hZ hown (hw _ (List.mem_of_getElem? (i := 13) rfl)) (hw _ (List.mem_of_getElem? (i := 14) rfl)) (hw _ (List.mem_of_getElem? (i := 15) rfl)) e0 (g := (mkF m 1 #[.val (.ref a1)] [(.ref a1)])) rfl (by rw [hml]; rfl) rfl (hb hby d2_1) (by decide) (W := 0) (by show 2 * 0 + _ ≤ _; exact Nat.le_of_eq rfl) (by decide)
  refine Goal.step (T' := T1001) (g' := (mkF m 4 #[.val (.ref a1)] [])) ?_ st1001
  refine Goal.retV X1001 hx hret (hb hby d2_4) ?_
  refine ⟨?_, by decide, by decide⟩
  rw [e1001]
  exact ⟨rfl, N0, rfl⟩
theorem d1_0 : decode prog_4_method_1_code 0 = .ok (.aload_n 0, 1) := by decide +kernel
theorem d1_1 : decode prog_4_method_1_code 1 = .ok (.invokespecial 1, 3) := by decide +kernel
theorem pd_0 : parseMethodDescriptor "()V" = some ⟨[], none⟩ := by decide +kernel
theorem d1_4 : decode prog_4_method_1_code 4 = .ok (.aload_n 0, 1) := by decide +kernel
theorem d1_5 : decode prog_4_method_1_code 5 = .ok (.iload_n 1, 1) := by decide +kernel
theorem d1_6 : decode prog_4_method_1_code 6 = .ok (.putfield 7, 3) := by decide +kernel
theorem d1_9 : decode prog_4_method_1_code 9 = .ok (.aload_n 0, 1) := by decide +kernel
theorem d1_10 : decode prog_4_method_1_code 10 = .ok (.iload_n 2, 1) := by decide +kernel
theorem d1_11 : decode prog_4_method_1_code 11 = .ok (.putfield 13, 3) := by decide +kernel
theorem d1_14 : decode prog_4_method_1_code 14 = .ok (.aload_n 0, 1) := by decide +kernel
theorem d1_15 : decode prog_4_method_1_code 15 = .ok (.iload_n 3, 1) := by decide +kernel
theorem d1_16 : decode prog_4_method_1_code 16 = .ok (.putfield 16, 3) := by decide +kernel
theorem d1_19 : decode prog_4_method_1_code 19 = .ok (.return_, 1) := by decide +kernel
theorem ef_1 (m : MethodId) (x0 : Nat) (x1 : Int32) (x2 : Int32) (x3 : Int32) : entryFrame m #[(.ref x0), (.int x1), (.int x2), (.int x3)] 4 = mkF m 0 #[.val (.ref x0), .val (.int x1), .val (.int x2), .val (.int x3)] [] := by first | (simp [entryFrame, mkF, argsToLocals, Value.category]; done) | rfl
set_option maxRecDepth 65536 in
set_option maxHeartbeats 40000000 in
theorem rmCI (l : Launch) (Z : State) (a0 : Array Value) (hw : ∀ d ∈ tables_1, d.before a0 Z = true) (a1 : Nat) (p2 p3 p4 : Int32) (u0 u1 u2 : Value) (h0 : Heap) (n0 : Nat) (Z0 : n0 ≤ h0.size) (E1 : Exa Z h0 a1 "com/example/reticula/reticula/ClusterComparison") (F0 : Fld Z h0 a1 "com/example/reticula/reticula/ClusterComparison" "inFirst" "I" u0) (F1 : Fld Z h0 a1 "com/example/reticula/reticula/ClusterComparison" "onlyInFirst" "I" u1) (F2 : Fld Z h0 a1 "com/example/reticula/reticula/ClusterComparison" "onlyInSecond" "I" u2) (g1 : n0 ≤ a1) :
    Met l (⟨"com/example/reticula/reticula/ClusterComparison", "<init>", "(III)V"⟩ : MethodName) prog_4_method_1_code 4 none [] ({ frames := 2, cells := 0, slots := 0, locals := 24 } : Room) Z #[(.ref a1), (.int p2), (.int p3), (.int p4)] h0 (fun v h L => v = none ∧ Fr n0 L ∧ Keep h0 h [a1] ∧ Fld Z h a1 "com/example/reticula/reticula/ClusterComparison" "inFirst" "I" (.int p2) ∧ Fld Z h a1 "com/example/reticula/reticula/ClusterComparison" "onlyInFirst" "I" (.int p3) ∧ Fld Z h a1 "com/example/reticula/reticula/ClusterComparison" "onlyInSecond" "I" (.int p4)) := by
  refine of_goal (plainFor_of_name (by first | (simp [plainName, overriddenIn]; done) | decide +kernel)) ?_
  intro p e s m below meth c s₁ C X0 e0
  have C0 := C
  obtain ⟨hx, hZ, hby, hml, hret, hown, hnm⟩ := C
  have hown : s.vm.findClass "com/example/reticula/reticula/ClusterComparison" = some m.cls := hown
  have hret : meth.sig.returnType = none := hret
  have N0 := Fr.nil n0
  rw [ef_1]
  refine Goal.step (T' := s₁) (g' := (mkF m 1 #[.val (.ref a1), .val (.int p2), .val (.int p3), .val (.int p4)] [(.ref a1)])) ?_ (fun t k => XS.aloadN X0.here hx rfl (hb hby d1_0) rfl rfl k)
  obtain ⟨v1001, T1001, h1001, L1001, X1001, e1001, hQ1001, st1001⟩ := callInit X0 hx hZ hown rfl (hw _ (List.mem_of_getElem? (i := 8) rfl)) (hw _ (List.mem_of_getElem? (i := 9) rfl)) (hw _ (List.mem_of_getElem? (i := 11) rfl)) (hw _ (List.mem_of_getElem? (i := 12) rfl)) (by decide) (rmRec l Z a0 hw a1 h0 n0 (by omega) ) e0 (W := 0) (by decide) (by decide) (by decide) (by decide) (g := (mkF m 1 #[.val (.ref a1), .val (.int p2), .val (.int p3), .val (.int p4)] [(.ref a1)])) rfl (by rw [hml]; rfl) (a := a1) (argsL := []) (rest := []) (lenOf pd_0 rfl) rfl (by show 2 * 0 + _ ≤ _; exact Nat.le_of_eq rfl) (hb hby d1_1) rfl
  obtain ⟨rfl, M1001, q1001⟩ := hQ1001
  rw [q1001] at e1001
  have N1001 := Fr.app N0 M1001
  refine Goal.step (T' := T1001) (g' := (mkF m 4 #[.val (.ref a1), .val (.int p2), .val (.int p3), .val (.int p4)] [])) ?_ st1001
  refine Goal.step (T' := T1001) (g' := (mkF m 5 #[.val (.ref a1), .val (.int p2), .val (.int p3), .val (.int p4)] [(.ref a1)])) ?_ (fun t k => XS.aloadN X1001.here hx rfl (hb hby d1_4) rfl rfl k)
  refine Goal.step (T' := T1001) (g' := (mkF m 6 #[.val (.ref a1), .val (.int p2), .val (.int p3), .val (.int p4)] [(.int p2), (.ref a1)])) ?_ (fun t k => XS.iloadN X1001.here hx rfl (hb hby d1_5) rfl k)
  obtain ⟨T1002, h1002, X1002, e1002, W1002, st1002⟩ := putF X1001 hx hZ hown (host := "") (Or.inl (hw _ (List.mem_of_getElem? (i := 16) rfl))) Via.refl e1001 F0 E1 (Or.inr ⟨(hw _ (List.mem_of_getElem? (i := 17) rfl)), rfl, hnm⟩) (hw _ (List.mem_of_getElem? (i := 3) rfl)) (ty := .int) (by decide) rfl rfl (g := (mkF m 6 #[.val (.ref a1), .val (.int p2), .val (.int p3), .val (.int p4)] [(.int p2), (.ref a1)])) rfl rfl (hb hby d1_6)
  refine Goal.step (T' := T1002) (g' := (mkF m 9 #[.val (.ref a1), .val (.int p2), .val (.int p3), .val (.int p4)] [])) ?_ st1002
  have sz1003 : h0.size ≤ h1002.size := Nat.le_of_eq W1002.size.symm
  have F1002 := Fld.same W1002 F0
  have N1002 := Fr.snoc X1002 N1001 (by omega : n0 ≤ a1)
  refine Goal.step (T' := T1002) (g' := (mkF m 10 #[.val (.ref a1), .val (.int p2), .val (.int p3), .val (.int p4)] [(.ref a1)])) ?_ (fun t k => XS.aloadN X1002.here hx rfl (hb hby d1_9) rfl rfl k)
  refine Goal.step (T' := T1002) (g' := (mkF m 11 #[.val (.ref a1), .val (.int p2), .val (.int p3), .val (.int p4)] [(.int p3), (.ref a1)])) ?_ (fun t k => XS.iloadN X1002.here hx rfl (hb hby d1_10) rfl k)
  have f1004 : Fld Z h1002 a1 "com/example/reticula/reticula/ClusterComparison" "onlyInFirst" "I" u1 := (Fld.other W1002 F1 (Or.inr (slot_ne (Or.inr (hw _ (List.mem_of_getElem? (i := 19) rfl))) (Or.inr (hw _ (List.mem_of_getElem? (i := 17) rfl))) (by decide) (t := .int) (t' := .int) (by decide) (by decide))))
  have f1005 : Exa Z h1002 a1 "com/example/reticula/reticula/ClusterComparison" := (Exa.wr W1002 E1)
  obtain ⟨T1006, h1006, X1006, e1006, W1006, st1006⟩ := putF X1002 hx hZ hown (host := "") (Or.inl (hw _ (List.mem_of_getElem? (i := 18) rfl))) Via.refl e1002 f1004 f1005 (Or.inr ⟨(hw _ (List.mem_of_getElem? (i := 19) rfl)), rfl, hnm⟩) (hw _ (List.mem_of_getElem? (i := 3) rfl)) (ty := .int) (by decide) rfl rfl (g := (mkF m 11 #[.val (.ref a1), .val (.int p2), .val (.int p3), .val (.int p4)] [(.int p3), (.ref a1)])) rfl rfl (hb hby d1_11)
  refine Goal.step (T' := T1006) (g' := (mkF m 14 #[.val (.ref a1), .val (.int p2), .val (.int p3), .val (.int p4)] [])) ?_ st1006
  have sz1007 : h1002.size ≤ h1006.size := Nat.le_of_eq W1006.size.symm
  have F1006 := Fld.same W1006 f1004
  have N1006 := Fr.snoc X1006 N1002 (by omega : n0 ≤ a1)
  refine Goal.step (T' := T1006) (g' := (mkF m 15 #[.val (.ref a1), .val (.int p2), .val (.int p3), .val (.int p4)] [(.ref a1)])) ?_ (fun t k => XS.aloadN X1006.here hx rfl (hb hby d1_14) rfl rfl k)
  refine Goal.step (T' := T1006) (g' := (mkF m 16 #[.val (.ref a1), .val (.int p2), .val (.int p3), .val (.int p4)] [(.int p4), (.ref a1)])) ?_ (fun t k => XS.iloadN X1006.here hx rfl (hb hby d1_15) rfl k)
  have f1008 : Fld Z h1006 a1 "com/example/reticula/reticula/ClusterComparison" "onlyInSecond" "I" u2 := (Fld.other W1006 (Fld.other W1002 F2 (Or.inr (slot_ne (Or.inr (hw _ (List.mem_of_getElem? (i := 21) rfl))) (Or.inr (hw _ (List.mem_of_getElem? (i := 17) rfl))) (by decide) (t := .int) (t' := .int) (by decide) (by decide)))) (Or.inr (slot_ne (Or.inr (hw _ (List.mem_of_getElem? (i := 21) rfl))) (Or.inr (hw _ (List.mem_of_getElem? (i := 19) rfl))) (by decide) (t := .int) (t' := .int) (by decide) (by decide))))
  have f1009 : Exa Z h1006 a1 "com/example/reticula/reticula/ClusterComparison" := (Exa.wr W1006 f1005)
  obtain ⟨T1010, h1010, X1010, e1010, W1010, st1010⟩ := putF X1006 hx hZ hown (host := "") (Or.inl (hw _ (List.mem_of_getElem? (i := 20) rfl))) Via.refl e1006 f1008 f1009 (Or.inr ⟨(hw _ (List.mem_of_getElem? (i := 21) rfl)), rfl, hnm⟩) (hw _ (List.mem_of_getElem? (i := 3) rfl)) (ty := .int) (by decide) rfl rfl (g := (mkF m 16 #[.val (.ref a1), .val (.int p2), .val (.int p3), .val (.int p4)] [(.int p4), (.ref a1)])) rfl rfl (hb hby d1_16)
  refine Goal.step (T' := T1010) (g' := (mkF m 19 #[.val (.ref a1), .val (.int p2), .val (.int p3), .val (.int p4)] [])) ?_ st1010
  have sz1011 : h1006.size ≤ h1010.size := Nat.le_of_eq W1010.size.symm
  have F1010 := Fld.same W1010 f1008
  have N1010 := Fr.snoc X1010 N1006 (by omega : n0 ≤ a1)
  refine Goal.retV X1010 hx hret (hb hby d1_19) ?_
  have k1012 : Keep h0 h1010 [a1] := ((((Keep.refl h0 [a1]).wr W1002 (Or.inl (by simp))).wr W1006 (Or.inl (by simp))).wr W1010 (Or.inl (by simp)))
  have f1013 : Fld Z h1010 a1 "com/example/reticula/reticula/ClusterComparison" "inFirst" "I" (.int p2) := (Fld.other W1010 (Fld.other W1006 F1002 (Or.inr (slot_ne (Or.inr (hw _ (List.mem_of_getElem? (i := 17) rfl))) (Or.inr (hw _ (List.mem_of_getElem? (i := 19) rfl))) (by decide) (t := .int) (t' := .int) (by decide) (by decide)))) (Or.inr (slot_ne (Or.inr (hw _ (List.mem_of_getElem? (i := 17) rfl))) (Or.inr (hw _ (List.mem_of_getElem? (i := 21) rfl))) (by decide) (t := .int) (t' := .int) (by decide) (by decide))))
  have f1014 : Fld Z h1010 a1 "com/example/reticula/reticula/ClusterComparison" "onlyInFirst" "I" (.int p3) := (Fld.other W1010 F1006 (Or.inr (slot_ne (Or.inr (hw _ (List.mem_of_getElem? (i := 19) rfl))) (Or.inr (hw _ (List.mem_of_getElem? (i := 21) rfl))) (by decide) (t := .int) (t' := .int) (by decide) (by decide))))
  refine ⟨?_, by decide, by decide⟩
  rw [e1010]
  exact ⟨rfl, N1010, k1012, f1013, f1014, F1010⟩
theorem d4_0 : decode prog_4_method_4_code 0 = .ok (.aload_n 0, 1) := by decide +kernel
theorem d4_1 : decode prog_4_method_4_code 1 = .ok (.getfield 7, 3) := by decide +kernel
theorem d4_4 : decode prog_4_method_4_code 4 = .ok (.ifCond .ne 16, 3) := by decide +kernel
theorem d4_7 : decode prog_4_method_4_code 7 = .ok (.aload_n 0, 1) := by decide +kernel
theorem d4_8 : decode prog_4_method_4_code 8 = .ok (.getfield 16, 3) := by decide +kernel
theorem d4_11 : decode prog_4_method_4_code 11 = .ok (.ifCond .ne 7, 3) := by decide +kernel
theorem d4_14 : decode prog_4_method_4_code 14 = .ok (.dconst 0, 1) := by decide +kernel
theorem d4_15 : decode prog_4_method_4_code 15 = .ok (.goto 4, 3) := by decide +kernel
theorem d4_19 : decode prog_4_method_4_code 19 = .ok (.dreturn, 1) := by decide +kernel
theorem d4_18 : decode prog_4_method_4_code 18 = .ok (.dconst 1, 1) := by decide +kernel
theorem d4_20 : decode prog_4_method_4_code 20 = .ok (.aload_n 0, 1) := by decide +kernel
theorem d4_21 : decode prog_4_method_4_code 21 = .ok (.getfield 13, 3) := by decide +kernel
theorem d4_24 : decode prog_4_method_4_code 24 = .ok (.aload_n 0, 1) := by decide +kernel
theorem d4_25 : decode prog_4_method_4_code 25 = .ok (.getfield 16, 3) := by decide +kernel
theorem d4_28 : decode prog_4_method_4_code 28 = .ok (.iadd, 1) := by decide +kernel
theorem d4_29 : decode prog_4_method_4_code 29 = .ok (.i2d, 1) := by decide +kernel
theorem d4_30 : decode prog_4_method_4_code 30 = .ok (.ldc2_w 141, 3) := by decide +kernel
theorem d4_33 : decode prog_4_method_4_code 33 = .ok (.aload_n 0, 1) := by decide +kernel
theorem d4_34 : decode prog_4_method_4_code 34 = .ok (.getfield 7, 3) := by decide +kernel
theorem d4_37 : decode prog_4_method_4_code 37 = .ok (.i2d, 1) := by decide +kernel
theorem d4_38 : decode prog_4_method_4_code 38 = .ok (.dmul, 1) := by decide +kernel
theorem d4_39 : decode prog_4_method_4_code 39 = .ok (.ddiv, 1) := by decide +kernel
theorem d4_40 : decode prog_4_method_4_code 40 = .ok (.dreturn, 1) := by decide +kernel
theorem ef_4 (m : MethodId) (x0 : Nat) : entryFrame m #[(.ref x0)] 1 = mkF m 0 #[.val (.ref x0)] [] := by first | (simp [entryFrame, mkF, argsToLocals, Value.category]; done) | rfl
set_option maxRecDepth 65536 in
set_option maxHeartbeats 40000000 in
theorem rmDS (l : Launch) (Z : State) (a0 : Array Value) (hw : ∀ d ∈ tables_1, d.before a0 Z = true) (a1 : Nat) (n a b : Int32) (h0 : Heap) (n0 : Nat) (Z0 : n0 ≤ h0.size) (Fn : Fld Z h0 a1 "com/example/reticula/reticula/ClusterComparison" "inFirst" "I" (.int n)) (Fa : Fld Z h0 a1 "com/example/reticula/reticula/ClusterComparison" "onlyInFirst" "I" (.int a)) (Fb : Fld Z h0 a1 "com/example/reticula/reticula/ClusterComparison" "onlyInSecond" "I" (.int b)) (hv : ¬ n = 0 → Jvm.Free.Fl.NoNaN64 (FP.dmul (4611686018427387904 : UInt64) (FP.i2d n)) ∧ Jvm.Free.Fl.NoNaN64 (FP.ddiv (FP.i2d (a + b)) (FP.dmul (4611686018427387904 : UInt64) (FP.i2d n))) ∧ True) :
    Met l (⟨"com/example/reticula/reticula/ClusterComparison", "distance", "()D"⟩ : MethodName) prog_4_method_4_code 1 (some .double) [] ({ frames := 0, cells := 0, slots := 0, locals := 0 } : Room) Z #[(.ref a1)] h0 (fun v h L => v = some (.double (dist n a b)) ∧ Fr n0 L ∧ h = h0) := by
  refine of_goal (plainFor_of_name (by first | (simp [plainName, overriddenIn]; done) | decide +kernel)) ?_
  intro p e s m below meth c s₁ C X0 e0
  have C0 := C
  obtain ⟨hx, hZ, hby, hml, hret, hown, hnm⟩ := C
  have hown : s.vm.findClass "com/example/reticula/reticula/ClusterComparison" = some m.cls := hown
  have hret : meth.sig.returnType = (some .double) := hret
  have N0 := Fr.nil n0
  rw [ef_4]
  refine Goal.step (T' := s₁) (g' := (mkF m 1 #[.val (.ref a1)] [(.ref a1)])) ?_ (fun t k => XS.aloadN X0.here hx rfl (hb hby d4_0) rfl rfl k)
  obtain ⟨T1001, X1001, e1001, st1001⟩ := getF X0 hx hZ hown (host := "") (Or.inl (hw _ (List.mem_of_getElem? (i := 16) rfl))) Via.refl e0 Fn (g := (mkF m 1 #[.val (.ref a1)] [(.ref a1)])) rfl rfl (hb hby d4_1)
  refine Goal.step (T' := T1001) (g' := (mkF m 4 #[.val (.ref a1)] [(.int n)])) ?_ st1001
  by_cases c1002 : n = (0 : Int32)
  · refine Goal.step (T' := T1001) (g' := (mkF m 7 #[.val (.ref a1)] [])) ?_ (fun t k => XS.ifNo X1001.here hx rfl (hb hby d4_4) rfl ((if0 _ _).trans (teq c1002).2) k)
    refine Goal.step (T' := T1001) (g' := (mkF m 8 #[.val (.ref a1)] [(.ref a1)])) ?_ (fun t k => XS.aloadN X1001.here hx rfl (hb hby d4_7) rfl rfl k)
    obtain ⟨T1003, X1003, e1003, st1003⟩ := getF X1001 hx hZ hown (host := "") (Or.inl (hw _ (List.mem_of_getElem? (i := 20) rfl))) Via.refl e1001 Fb (g := (mkF m 8 #[.val (.ref a1)] [(.ref a1)])) rfl rfl (hb hby d4_8)
    refine Goal.step (T' := T1003) (g' := (mkF m 11 #[.val (.ref a1)] [(.int b)])) ?_ st1003
    by_cases c1004 : b = (0 : Int32)
    · refine Goal.step (T' := T1003) (g' := (mkF m 14 #[.val (.ref a1)] [])) ?_ (fun t k => XS.ifNo X1003.here hx rfl (hb hby d4_11) rfl ((if0 _ _).trans (teq c1004).2) k)
      refine Goal.step (T' := T1003) (g' := (mkF m 15 #[.val (.ref a1)] [(.double FP.dconst0)])) ?_ (fun t k => XS.dconst0 X1003.here hx rfl (hb hby d4_14) rfl k)
      refine Goal.step (T' := T1003) (g' := (mkF m 19 #[.val (.ref a1)] [(.double FP.dconst0)])) ?_ (fun t k => XS.goto X1003.here hx rfl (pc0 := 15) (pc' := 19) rfl (hb hby d4_15) (by decide) (by decide) k)
      refine Goal.retD X1003 hx hret (hb hby d4_19) ?_
      refine ⟨?_, by decide, by decide⟩
      rw [e1003]
      exact ⟨by rw [dist, if_pos c1002, if_pos c1004], N0, rfl⟩
    · refine Goal.step (T' := T1003) (g' := (mkF m 18 #[.val (.ref a1)] [])) ?_ (fun t k => XS.ifYes X1003.here hx rfl (pc0 := 11) (pc' := 18) rfl (hb hby d4_11) rfl ((if0 _ _).trans (feq c1004).2) (by decide) (by decide) k)
      refine Goal.step (T' := T1003) (g' := (mkF m 19 #[.val (.ref a1)] [(.double FP.dconst1)])) ?_ (fun t k => XS.dconst1 X1003.here hx rfl (hb hby d4_18) rfl k)
      refine Goal.retD X1003 hx hret (hb hby d4_19) ?_
      refine ⟨?_, by decide, by decide⟩
      rw [e1003]
      exact ⟨by rw [dist, if_pos c1002, if_neg c1004], N0, rfl⟩
  · refine Goal.step (T' := T1001) (g' := (mkF m 20 #[.val (.ref a1)] [])) ?_ (fun t k => XS.ifYes X1001.here hx rfl (pc0 := 4) (pc' := 20) rfl (hb hby d4_4) rfl ((if0 _ _).trans (feq c1002).2) (by decide) (by decide) k)
    refine Goal.step (T' := T1001) (g' := (mkF m 21 #[.val (.ref a1)] [(.ref a1)])) ?_ (fun t k => XS.aloadN X1001.here hx rfl (hb hby d4_20) rfl rfl k)
    obtain ⟨T1005, X1005, e1005, st1005⟩ := getF X1001 hx hZ hown (host := "") (Or.inl (hw _ (List.mem_of_getElem? (i := 18) rfl))) Via.refl e1001 Fa (g := (mkF m 21 #[.val (.ref a1)] [(.ref a1)])) rfl rfl (hb hby d4_21)
    refine Goal.step (T' := T1005) (g' := (mkF m 24 #[.val (.ref a1)] [(.int a)])) ?_ st1005
    refine Goal.step (T' := T1005) (g' := (mkF m 25 #[.val (.ref a1)] [(.ref a1), (.int a)])) ?_ (fun t k => XS.aloadN X1005.here hx rfl (hb hby d4_24) rfl rfl k)
    obtain ⟨T1006, X1006, e1006, st1006⟩ := getF X1005 hx hZ hown (host := "") (Or.inl (hw _ (List.mem_of_getElem? (i := 20) rfl))) Via.refl e1005 Fb (g := (mkF m 25 #[.val (.ref a1)] [(.ref a1), (.int a)])) rfl rfl (hb hby d4_25)
    refine Goal.step (T' := T1006) (g' := (mkF m 28 #[.val (.ref a1)] [(.int b), (.int a)])) ?_ st1006
    refine Goal.step (T' := T1006) (g' := (mkF m 29 #[.val (.ref a1)] [(.int (a + b))])) ?_ (fun t k => XS.iadd X1006.here hx rfl (hb hby d4_28) rfl k)
    refine Goal.step (T' := T1006) (g' := (mkF m 30 #[.val (.ref a1)] [(.double (FP.i2d (a + b)))])) ?_ (fun t k => XS.i2dS X1006.here hx rfl (hb hby d4_29) rfl rfl k)
    refine Goal.step (T' := T1006) (g' := (mkF m 33 #[.val (.ref a1)] [(.double (4611686018427387904 : UInt64)), (.double (FP.i2d (a + b)))])) ?_ (fun t k => X1006.ldc2DoubleC hx hown (mvT hZ (hw _ (List.mem_of_getElem? (i := 27) rfl))) (g := (mkF m 30 #[.val (.ref a1)] [(.double (FP.i2d (a + b)))])) rfl (hb hby d4_30) _ k)
    refine Goal.step (T' := T1006) (g' := (mkF m 34 #[.val (.ref a1)] [(.ref a1), (.double (4611686018427387904 : UInt64)), (.double (FP.i2d (a + b)))])) ?_ (fun t k => XS.aloadN X1006.here hx rfl (hb hby d4_33) rfl rfl k)
    obtain ⟨T1007, X1007, e1007, st1007⟩ := getF X1006 hx hZ hown (host := "") (Or.inl (hw _ (List.mem_of_getElem? (i := 16) rfl))) Via.refl e1006 Fn (g := (mkF m 34 #[.val (.ref a1)] [(.ref a1), (.double (4611686018427387904 : UInt64)), (.double (FP.i2d (a + b)))])) rfl rfl (hb hby d4_34)
    refine Goal.step (T' := T1007) (g' := (mkF m 37 #[.val (.ref a1)] [(.int n), (.double (4611686018427387904 : UInt64)), (.double (FP.i2d (a + b)))])) ?_ st1007
    refine Goal.step (T' := T1007) (g' := (mkF m 38 #[.val (.ref a1)] [(.double (FP.i2d n)), (.double (4611686018427387904 : UInt64)), (.double (FP.i2d (a + b)))])) ?_ (fun t k => XS.i2dS X1007.here hx rfl (hb hby d4_37) rfl rfl k)
    refine Goal.step (T' := T1007) (g' := (mkF m 39 #[.val (.ref a1)] [(.double (FP.dmul (4611686018427387904 : UInt64) (FP.i2d n))), (.double (FP.i2d (a + b)))])) ?_ (fun t k => XS.dmulS X1007.here hx rfl (hb hby d4_38) rfl (hv c1002).1 rfl k)
    refine Goal.step (T' := T1007) (g' := (mkF m 40 #[.val (.ref a1)] [(.double (FP.ddiv (FP.i2d (a + b)) (FP.dmul (4611686018427387904 : UInt64) (FP.i2d n))))])) ?_ (fun t k => XS.ddivS X1007.here hx rfl (hb hby d4_39) rfl (hv c1002).2.1 rfl k)
    refine Goal.retD X1007 hx hret (hb hby d4_40) ?_
    refine ⟨?_, by decide, by decide⟩
    rw [e1007]
    exact ⟨by rw [dist, if_neg c1002], N0, rfl⟩
theorem pd_1 : parseMethodDescriptor "(III)V" = some ⟨[.int, .int, .int], none⟩ := by decide +kernel
theorem pd_2 : parseMethodDescriptor "()D" = some ⟨[], some .double⟩ := by decide +kernel
set_option maxRecDepth 65536 in
set_option maxHeartbeats 40000000 in
theorem seg47 {p : Program} {l : Launch} {e : Env} {s : State} {m : MethodId} {args : Array Value} {below : List Frame} {meth : Method} {c : Code} {Z : State} {a0 : Array Value} {T0 : State} {locs : List Loc} (hw : ∀ d ∈ tables_1, d.before a0 Z = true) (C0 : Ctx p s m meth c Z code maxLocals ret x.cls x.name) (p1 p2 p3 p4 n4 a5 b6 : Int32) (h0 : Heap) (n0 : Nat) (Z0 : n0 ≤ h0.size) (X0 : Stand p l e room_1 s m args below meth c T0 locs 0 0) (e0 : T0.heap = h0) (N0 : Fr n0 locs) (hn : okN n4) (ha : okN a5) (hb6 : okN b6) :
    Goal p l e room_1 s m args below meth c (In room_1 (fun v h L => v = some (.int 1) ∧ Fr n0 L)) T0 (mkF m 47 #[.val (.int p1), .val (.int p2), .val (.int p3), .val (.int p4), .val (.int n4), .val (.int a5), .val (.int b6), .unset, .unset, .unset, .unset, .unset, .unset, .unset] []) := by
  have C := C0
  obtain ⟨hx, hZ, hby, hml, hret, hown, hnm⟩ := C
  have hown : s.vm.findClass "com/example/reticula/reticula/ClusterComparisonDistancePinLaw" = some m.cls := hown
  have hret : meth.sig.returnType = (some .boolean) := hret
  obtain ⟨T1001, h1001, X1001, e1001, E1001, A1001, D1001, -, st1001⟩ := newO X0 hx hZ hown (hw _ (List.mem_of_getElem? (i := 2) rfl)) (hw _ (List.mem_of_getElem? (i := 3) rfl)) (hw _ (List.mem_of_getElem? (i := 4) rfl)) e0 (g := (mkF m 47 #[.val (.int p1), .val (.int p2), .val (.int p3), .val (.int p4), .val (.int n4), .val (.int a5), .val (.int b6), .unset, .unset, .unset, .unset, .unset, .unset, .unset] [])) rfl (hb hby at_47) (by decide) (by decide)
  obtain ⟨b1001, g1001⟩ : ∃ z, z = h0.size := ⟨_, rfl⟩
  rw [← g1001] at A1001 D1001 st1001
  refine Goal.step (T' := T1001) (g' := (mkF m 50 #[.val (.int p1), .val (.int p2), .val (.int p3), .val (.int p4), .val (.int n4), .val (.int a5), .val (.int b6), .unset, .unset, .unset, .unset, .unset, .unset, .unset] [(.ref b1001)])) ?_ st1001
  have sz1002 : h0.size ≤ h1001.size := E1001.1
  have lt_b1001 : b1001 < h1001.size := A1001.lt
  refine Goal.step (T' := T1001) (g' := (mkF m 51 #[.val (.int p1), .val (.int p2), .val (.int p3), .val (.int p4), .val (.int n4), .val (.int a5), .val (.int b6), .unset, .unset, .unset, .unset, .unset, .unset, .unset] [(.ref b1001), (.ref b1001)])) ?_ (fun t k => XS.dup X1001.here hx rfl (hb hby at_50) rfl rfl k)
  refine Goal.step (T' := T1001) (g' := (mkF m 53 #[.val (.int p1), .val (.int p2), .val (.int p3), .val (.int p4), .val (.int n4), .val (.int a5), .val (.int b6), .unset, .unset, .unset, .unset, .unset, .unset, .unset] [(.int n4), (.ref b1001), (.ref b1001)])) ?_ (fun t k => XS.iload X1001.here hx rfl (hb hby at_51) rfl k)
  refine Goal.step (T' := T1001) (g' := (mkF m 55 #[.val (.int p1), .val (.int p2), .val (.int p3), .val (.int p4), .val (.int n4), .val (.int a5), .val (.int b6), .unset, .unset, .unset, .unset, .unset, .unset, .unset] [(.int a5), (.int n4), (.ref b1001), (.ref b1001)])) ?_ (fun t k => XS.iload X1001.here hx rfl (hb hby at_53) rfl k)
  refine Goal.step (T' := T1001) (g' := (mkF m 57 #[.val (.int p1), .val (.int p2), .val (.int p3), .val (.int p4), .val (.int n4), .val (.int a5), .val (.int b6), .unset, .unset, .unset, .unset, .unset, .unset, .unset] [(.int b6), (.int a5), (.int n4), (.ref b1001), (.ref b1001)])) ?_ (fun t k => XS.iload X1001.here hx rfl (hb hby at_55) rfl k)
  obtain ⟨v1003, T1003, h1003, L1003, X1003, e1003, hQ1003, st1003⟩ := callInit X1001 hx hZ hown rfl (hw _ (List.mem_of_getElem? (i := 5) rfl)) (hw _ (List.mem_of_getElem? (i := 6) rfl)) (hw _ (List.mem_of_getElem? (i := 4) rfl)) (hw _ (List.mem_of_getElem? (i := 7) rfl)) (by decide) (rmCI l Z a0 hw b1001 n4 a5 b6 (.int (0 : Int32)) (.int (0 : Int32)) (.int (0 : Int32)) h1001 n0 (by omega) A1001 (D1001 (Or.inr (hw _ (List.mem_of_getElem? (i := 17) rfl))) (ty := .int) (by decide)) (D1001 (Or.inr (hw _ (List.mem_of_getElem? (i := 19) rfl))) (ty := .int) (by decide)) (D1001 (Or.inr (hw _ (List.mem_of_getElem? (i := 21) rfl))) (ty := .int) (by decide)) (by omega)) e1001 (W := 1) (by decide) (by decide) (by decide) (by decide) (g := (mkF m 57 #[.val (.int p1), .val (.int p2), .val (.int p3), .val (.int p4), .val (.int n4), .val (.int a5), .val (.int b6), .unset, .unset, .unset, .unset, .unset, .unset, .unset] [(.int b6), (.int a5), (.int n4), (.ref b1001), (.ref b1001)])) rfl (by rw [hml]; rfl) (a := b1001) (argsL := [(.int n4), (.int a5), (.int b6)]) (rest := [(.ref b1001)]) (lenOf pd_1 rfl) rfl (by show 2 * 0 + _ ≤ _; exact Nat.le_of_eq rfl) (hb hby at_57) rfl
  obtain ⟨rfl, M1003, K1003, F0_1003, F1_1003, F2_1003⟩ := hQ1003
  have N1003 := Fr.app N0 M1003
  refine Goal.step (T' := T1003) (g' := (mkF m 60 #[.val (.int p1), .val (.int p2), .val (.int p3), .val (.int p4), .val (.int n4), .val (.int a5), .val (.int b6), .unset, .unset, .unset, .unset, .unset, .unset, .unset] [(.ref b1001)])) ?_ st1003
  have sz1004 : h1001.size ≤ h1003.size := K1003.1
  refine Goal.step (T' := T1003) (g' := (mkF m 62 #[.val (.int p1), .val (.int p2), .val (.int p3), .val (.int p4), .val (.int n4), .val (.int a5), .val (.int b6), .val (.ref b1001), .unset, .unset, .unset, .unset, .unset, .unset] [])) ?_ (fun t k => XS.astore X1003.here hx rfl (hb hby at_60) rfl rfl (l' := #[.val (.int p1), .val (.int p2), .val (.int p3), .val (.int p4), .val (.int n4), .val (.int a5), .val (.int b6), .val (.ref b1001), .unset, .unset, .unset, .unset, .unset, .unset]) rfl k)
  refine Goal.step (T' := T1003) (g' := (mkF m 64 #[.val (.int p1), .val (.int p2), .val (.int p3), .val (.int p4), .val (.int n4), .val (.int a5), .val (.int b6), .val (.ref b1001), .unset, .unset, .unset, .unset, .unset, .unset] [(.ref b1001)])) ?_ (fun t k => XS.aload X1003.here hx rfl (hb hby at_62) rfl rfl k)
  have f1006 : Exa Z h1003 b1001 "com/example/reticula/reticula/ClusterComparison" := (A1001.keep K1003)
  obtain ⟨v1005, T1005, h1005, L1005, X1005, e1005, hQ1005, st1005⟩ := callVirt X1003 hx hZ hown (hw _ (List.mem_of_getElem? (i := 22) rfl)) (hw _ (List.mem_of_getElem? (i := 23) rfl)) (notFace_of_selects (args := #[]) (mvT hZ (hw _ (List.mem_of_getElem? (i := 25) rfl)))) (hw _ (List.mem_of_getElem? (i := 25) rfl)) (hw _ (List.mem_of_getElem? (i := 24) rfl)) (hw _ (List.mem_of_getElem? (i := 4) rfl)) (hw _ (List.mem_of_getElem? (i := 26) rfl)) (by decide) (rmDS l Z a0 hw b1001 n4 a5 b6 h1003 n0 (by omega) F0_1003 F1_1003 F2_1003 (fun q => ⟨(own_vals n4 a5 b6 hn ha hb6 q).1, (own_vals n4 a5 b6 hn ha hb6 q).2.1, trivial⟩)) e1003 f1006 (W := 0) (by decide) (by decide) (by decide) (by decide) (g := (mkF m 64 #[.val (.int p1), .val (.int p2), .val (.int p3), .val (.int p4), .val (.int n4), .val (.int a5), .val (.int b6), .val (.ref b1001), .unset, .unset, .unset, .unset, .unset, .unset] [(.ref b1001)])) rfl (by rw [hml]; rfl) (argsL := []) (rest := []) (lenOf pd_2 rfl) rfl (by show 2 * 0 + _ ≤ _; exact Nat.le_of_eq rfl) (hb hby at_64) rfl
  obtain ⟨rfl, M1005, q1005⟩ := hQ1005
  rw [q1005] at e1005
  have N1005 := Fr.app N1003 M1005
  refine Goal.step (T' := T1005) (g' := (mkF m 67 #[.val (.int p1), .val (.int p2), .val (.int p3), .val (.int p4), .val (.int n4), .val (.int a5), .val (.int b6), .val (.ref b1001), .unset, .unset, .unset, .unset, .unset, .unset] [(.double (dist n4 a5 b6))])) ?_ st1005
  refine Goal.step (T' := T1005) (g' := (mkF m 69 #[.val (.int p1), .val (.int p2), .val (.int p3), .val (.int p4), .val (.int n4), .val (.int a5), .val (.int b6), .val (.ref b1001), .val (.double (dist n4 a5 b6)), .second, .unset, .unset, .unset, .unset] [])) ?_ (fun t k => XS.dstore X1005.here hx rfl (hb hby at_67) rfl (l' := #[.val (.int p1), .val (.int p2), .val (.int p3), .val (.int p4), .val (.int n4), .val (.int a5), .val (.int b6), .val (.ref b1001), .val (.double (dist n4 a5 b6)), .second, .unset, .unset, .unset, .unset]) rfl k)
  by_cases hn0 : n4 = (0 : Int32)
  · refine Goal.step (T' := T1005) (g' := (mkF m 71 #[.val (.int p1), .val (.int p2), .val (.int p3), .val (.int p4), .val (.int n4), .val (.int a5), .val (.int b6), .val (.ref b1001), .val (.double (dist n4 a5 b6)), .second, .unset, .unset, .unset, .unset] [(.int n4)])) ?_ (fun t k => XS.iload X1005.here hx rfl (hb hby at_69) rfl k)
    refine Goal.step (T' := T1005) (g' := (mkF m 74 #[.val (.int p1), .val (.int p2), .val (.int p3), .val (.int p4), .val (.int n4), .val (.int a5), .val (.int b6), .val (.ref b1001), .val (.double (dist n4 a5 b6)), .second, .unset, .unset, .unset, .unset] [])) ?_ (fun t k => XS.ifNo X1005.here hx rfl (hb hby at_71) rfl ((if0 _ _).trans (teq hn0).2) k)
    refine Goal.step (T' := T1005) (g' := (mkF m 76 #[.val (.int p1), .val (.int p2), .val (.int p3), .val (.int p4), .val (.int n4), .val (.int a5), .val (.int b6), .val (.ref b1001), .val (.double (dist n4 a5 b6)), .second, .unset, .unset, .unset, .unset] [(.int b6)])) ?_ (fun t k => XS.iload X1005.here hx rfl (hb hby at_74) rfl k)
    by_cases c1007 : b6 = (0 : Int32)
    · refine Goal.step (T' := T1005) (g' := (mkF m 79 #[.val (.int p1), .val (.int p2), .val (.int p3), .val (.int p4), .val (.int n4), .val (.int a5), .val (.int b6), .val (.ref b1001), .val (.double (dist n4 a5 b6)), .second, .unset, .unset, .unset, .unset] [])) ?_ (fun t k => XS.ifNo X1005.here hx rfl (hb hby at_76) rfl ((if0 _ _).trans (teq c1007).2) k)
      refine Goal.step (T' := T1005) (g' := (mkF m 80 #[.val (.int p1), .val (.int p2), .val (.int p3), .val (.int p4), .val (.int n4), .val (.int a5), .val (.int b6), .val (.ref b1001), .val (.double (dist n4 a5 b6)), .second, .unset, .unset, .unset, .unset] [(.double FP.dconst0)])) ?_ (fun t k => XS.dconst0 X1005.here hx rfl (hb hby at_79) rfl k)
      refine Goal.step (T' := T1005) (g' := (mkF m 82 #[.val (.int p1), .val (.int p2), .val (.int p3), .val (.int p4), .val (.int n4), .val (.int a5), .val (.int b6), .val (.ref b1001), .val (.double (dist n4 a5 b6)), .second, .val (.double FP.dconst0), .second, .unset, .unset] [])) ?_ (fun t k => XS.dstore X1005.here hx rfl (hb hby at_80) rfl (l' := #[.val (.int p1), .val (.int p2), .val (.int p3), .val (.int p4), .val (.int n4), .val (.int a5), .val (.int b6), .val (.ref b1001), .val (.double (dist n4 a5 b6)), .second, .val (.double FP.dconst0), .second, .unset, .unset]) rfl k)
      refine Goal.step (T' := T1005) (g' := (mkF m 113 #[.val (.int p1), .val (.int p2), .val (.int p3), .val (.int p4), .val (.int n4), .val (.int a5), .val (.int b6), .val (.ref b1001), .val (.double (dist n4 a5 b6)), .second, .val (.double FP.dconst0), .second, .unset, .unset] [])) ?_ (fun t k => XS.goto X1005.here hx rfl (pc0 := 82) (pc' := 113) rfl (hb hby at_82) (by decide) (by decide) k)
      refine Goal.step (T' := T1005) (g' := (mkF m 115 #[.val (.int p1), .val (.int p2), .val (.int p3), .val (.int p4), .val (.int n4), .val (.int a5), .val (.int b6), .val (.ref b1001), .val (.double (dist n4 a5 b6)), .second, .val (.double FP.dconst0), .second, .unset, .unset] [(.double (dist n4 a5 b6))])) ?_ (fun t k => XS.dload X1005.here hx rfl (hb hby at_113) rfl k)
      refine Goal.step (T' := T1005) (g' := (mkF m 117 #[.val (.int p1), .val (.int p2), .val (.int p3), .val (.int p4), .val (.int n4), .val (.int a5), .val (.int b6), .val (.ref b1001), .val (.double (dist n4 a5 b6)), .second, .val (.double FP.dconst0), .second, .unset, .unset] [(.double FP.dconst0), (.double (dist n4 a5 b6))])) ?_ (fun t k => XS.dload X1005.here hx rfl (hb hby at_115) rfl k)
      refine Goal.step (T' := T1005) (g' := (mkF m 118 #[.val (.int p1), .val (.int p2), .val (.int p3), .val (.int p4), .val (.int n4), .val (.int a5), .val (.int b6), .val (.ref b1001), .val (.double (dist n4 a5 b6)), .second, .val (.double FP.dconst0), .second, .unset, .unset] [(.int (0 : Int32))])) ?_ (fun t k => XS.dcmpS X1005.here hx rfl (hb hby at_117) rfl (by rw [dist, if_pos hn0, if_pos c1007]; decide +kernel) k)
      refine Goal.step (T' := T1005) (g' := (mkF m 121 #[.val (.int p1), .val (.int p2), .val (.int p3), .val (.int p4), .val (.int n4), .val (.int a5), .val (.int b6), .val (.ref b1001), .val (.double (dist n4 a5 b6)), .second, .val (.double FP.dconst0), .second, .unset, .unset] [])) ?_ (fun t k => XS.ifNo X1005.here hx rfl (hb hby at_118) rfl ((if0 _ _).trans (teq (by decide)).2) k)
      refine Goal.step (T' := T1005) (g' := (mkF m 123 #[.val (.int p1), .val (.int p2), .val (.int p3), .val (.int p4), .val (.int n4), .val (.int a5), .val (.int b6), .val (.ref b1001), .val (.double (dist n4 a5 b6)), .second, .val (.double FP.dconst0), .second, .unset, .unset] [(.double (dist n4 a5 b6))])) ?_ (fun t k => XS.dload X1005.here hx rfl (hb hby at_121) rfl k)
      refine Goal.step (T' := T1005) (g' := (mkF m 124 #[.val (.int p1), .val (.int p2), .val (.int p3), .val (.int p4), .val (.int n4), .val (.int a5), .val (.int b6), .val (.ref b1001), .val (.double (dist n4 a5 b6)), .second, .val (.double FP.dconst0), .second, .unset, .unset] [(.double FP.dconst0), (.double (dist n4 a5 b6))])) ?_ (fun t k => XS.dconst0 X1005.here hx rfl (hb hby at_123) rfl k)
      refine Goal.step (T' := T1005) (g' := (mkF m 125 #[.val (.int p1), .val (.int p2), .val (.int p3), .val (.int p4), .val (.int n4), .val (.int a5), .val (.int b6), .val (.ref b1001), .val (.double (dist n4 a5 b6)), .second, .val (.double FP.dconst0), .second, .unset, .unset] [(.int (0 : Int32))])) ?_ (fun t k => XS.dcmpS X1005.here hx rfl (hb hby at_124) rfl (by rw [dist, if_pos hn0, if_pos c1007]; decide +kernel) k)
      refine Goal.step (T' := T1005) (g' := (mkF m 128 #[.val (.int p1), .val (.int p2), .val (.int p3), .val (.int p4), .val (.int n4), .val (.int a5), .val (.int b6), .val (.ref b1001), .val (.double (dist n4 a5 b6)), .second, .val (.double FP.dconst0), .second, .unset, .unset] [])) ?_ (fun t k => XS.ifNo X1005.here hx rfl (hb hby at_125) rfl ((if0 _ _).trans (flt (by decide)).1) k)
      refine Goal.step (T' := T1005) (g' := (mkF m 129 #[.val (.int p1), .val (.int p2), .val (.int p3), .val (.int p4), .val (.int n4), .val (.int a5), .val (.int b6), .val (.ref b1001), .val (.double (dist n4 a5 b6)), .second, .val (.double FP.dconst0), .second, .unset, .unset] [(.int (1 : Int32))])) ?_ (fun t k => XS.iconst X1005.here hx rfl (hb hby at_128) k)
      refine Goal.step (T' := T1005) (g' := (mkF m 133 #[.val (.int p1), .val (.int p2), .val (.int p3), .val (.int p4), .val (.int n4), .val (.int a5), .val (.int b6), .val (.ref b1001), .val (.double (dist n4 a5 b6)), .second, .val (.double FP.dconst0), .second, .unset, .unset] [(.int (1 : Int32))])) ?_ (fun t k => XS.goto X1005.here hx rfl (pc0 := 129) (pc' := 133) rfl (hb hby at_129) (by decide) (by decide) k)
      refine Goal.retN (t := .boolean) X1005 hx hret (by simp) (hb hby at_133) ?_
      exact ⟨⟨rfl, N1005⟩, by decide, by decide⟩
    · refine Goal.step (T' := T1005) (g' := (mkF m 85 #[.val (.int p1), .val (.int p2), .val (.int p3), .val (.int p4), .val (.int n4), .val (.int a5), .val (.int b6), .val (.ref b1001), .val (.double (dist n4 a5 b6)), .second, .unset, .unset, .unset, .unset] [])) ?_ (fun t k => XS.ifYes X1005.here hx rfl (pc0 := 76) (pc' := 85) rfl (hb hby at_76) rfl ((if0 _ _).trans (feq c1007).2) (by decide) (by decide) k)
      refine Goal.step (T' := T1005) (g' := (mkF m 86 #[.val (.int p1), .val (.int p2), .val (.int p3), .val (.int p4), .val (.int n4), .val (.int a5), .val (.int b6), .val (.ref b1001), .val (.double (dist n4 a5 b6)), .second, .unset, .unset, .unset, .unset] [(.double FP.dconst1)])) ?_ (fun t k => XS.dconst1 X1005.here hx rfl (hb hby at_85) rfl k)
      refine Goal.step (T' := T1005) (g' := (mkF m 88 #[.val (.int p1), .val (.int p2), .val (.int p3), .val (.int p4), .val (.int n4), .val (.int a5), .val (.int b6), .val (.ref b1001), .val (.double (dist n4 a5 b6)), .second, .val (.double FP.dconst1), .second, .unset, .unset] [])) ?_ (fun t k => XS.dstore X1005.here hx rfl (hb hby at_86) rfl (l' := #[.val (.int p1), .val (.int p2), .val (.int p3), .val (.int p4), .val (.int n4), .val (.int a5), .val (.int b6), .val (.ref b1001), .val (.double (dist n4 a5 b6)), .second, .val (.double FP.dconst1), .second, .unset, .unset]) rfl k)
      refine Goal.step (T' := T1005) (g' := (mkF m 113 #[.val (.int p1), .val (.int p2), .val (.int p3), .val (.int p4), .val (.int n4), .val (.int a5), .val (.int b6), .val (.ref b1001), .val (.double (dist n4 a5 b6)), .second, .val (.double FP.dconst1), .second, .unset, .unset] [])) ?_ (fun t k => XS.goto X1005.here hx rfl (pc0 := 88) (pc' := 113) rfl (hb hby at_88) (by decide) (by decide) k)
      refine Goal.step (T' := T1005) (g' := (mkF m 115 #[.val (.int p1), .val (.int p2), .val (.int p3), .val (.int p4), .val (.int n4), .val (.int a5), .val (.int b6), .val (.ref b1001), .val (.double (dist n4 a5 b6)), .second, .val (.double FP.dconst1), .second, .unset, .unset] [(.double (dist n4 a5 b6))])) ?_ (fun t k => XS.dload X1005.here hx rfl (hb hby at_113) rfl k)
      refine Goal.step (T' := T1005) (g' := (mkF m 117 #[.val (.int p1), .val (.int p2), .val (.int p3), .val (.int p4), .val (.int n4), .val (.int a5), .val (.int b6), .val (.ref b1001), .val (.double (dist n4 a5 b6)), .second, .val (.double FP.dconst1), .second, .unset, .unset] [(.double FP.dconst1), (.double (dist n4 a5 b6))])) ?_ (fun t k => XS.dload X1005.here hx rfl (hb hby at_115) rfl k)
      refine Goal.step (T' := T1005) (g' := (mkF m 118 #[.val (.int p1), .val (.int p2), .val (.int p3), .val (.int p4), .val (.int n4), .val (.int a5), .val (.int b6), .val (.ref b1001), .val (.double (dist n4 a5 b6)), .second, .val (.double FP.dconst1), .second, .unset, .unset] [(.int (0 : Int32))])) ?_ (fun t k => XS.dcmpS X1005.here hx rfl (hb hby at_117) rfl (by rw [dist, if_pos hn0, if_neg c1007]; decide +kernel) k)
      refine Goal.step (T' := T1005) (g' := (mkF m 121 #[.val (.int p1), .val (.int p2), .val (.int p3), .val (.int p4), .val (.int n4), .val (.int a5), .val (.int b6), .val (.ref b1001), .val (.double (dist n4 a5 b6)), .second, .val (.double FP.dconst1), .second, .unset, .unset] [])) ?_ (fun t k => XS.ifNo X1005.here hx rfl (hb hby at_118) rfl ((if0 _ _).trans (teq (by decide)).2) k)
      refine Goal.step (T' := T1005) (g' := (mkF m 123 #[.val (.int p1), .val (.int p2), .val (.int p3), .val (.int p4), .val (.int n4), .val (.int a5), .val (.int b6), .val (.ref b1001), .val (.double (dist n4 a5 b6)), .second, .val (.double FP.dconst1), .second, .unset, .unset] [(.double (dist n4 a5 b6))])) ?_ (fun t k => XS.dload X1005.here hx rfl (hb hby at_121) rfl k)
      refine Goal.step (T' := T1005) (g' := (mkF m 124 #[.val (.int p1), .val (.int p2), .val (.int p3), .val (.int p4), .val (.int n4), .val (.int a5), .val (.int b6), .val (.ref b1001), .val (.double (dist n4 a5 b6)), .second, .val (.double FP.dconst1), .second, .unset, .unset] [(.double FP.dconst0), (.double (dist n4 a5 b6))])) ?_ (fun t k => XS.dconst0 X1005.here hx rfl (hb hby at_123) rfl k)
      refine Goal.step (T' := T1005) (g' := (mkF m 125 #[.val (.int p1), .val (.int p2), .val (.int p3), .val (.int p4), .val (.int n4), .val (.int a5), .val (.int b6), .val (.ref b1001), .val (.double (dist n4 a5 b6)), .second, .val (.double FP.dconst1), .second, .unset, .unset] [(.int (1 : Int32))])) ?_ (fun t k => XS.dcmpS X1005.here hx rfl (hb hby at_124) rfl (by rw [dist, if_pos hn0, if_neg c1007]; decide +kernel) k)
      refine Goal.step (T' := T1005) (g' := (mkF m 128 #[.val (.int p1), .val (.int p2), .val (.int p3), .val (.int p4), .val (.int n4), .val (.int a5), .val (.int b6), .val (.ref b1001), .val (.double (dist n4 a5 b6)), .second, .val (.double FP.dconst1), .second, .unset, .unset] [])) ?_ (fun t k => XS.ifNo X1005.here hx rfl (hb hby at_125) rfl ((if0 _ _).trans (flt (by decide)).1) k)
      refine Goal.step (T' := T1005) (g' := (mkF m 129 #[.val (.int p1), .val (.int p2), .val (.int p3), .val (.int p4), .val (.int n4), .val (.int a5), .val (.int b6), .val (.ref b1001), .val (.double (dist n4 a5 b6)), .second, .val (.double FP.dconst1), .second, .unset, .unset] [(.int (1 : Int32))])) ?_ (fun t k => XS.iconst X1005.here hx rfl (hb hby at_128) k)
      refine Goal.step (T' := T1005) (g' := (mkF m 133 #[.val (.int p1), .val (.int p2), .val (.int p3), .val (.int p4), .val (.int n4), .val (.int a5), .val (.int b6), .val (.ref b1001), .val (.double (dist n4 a5 b6)), .second, .val (.double FP.dconst1), .second, .unset, .unset] [(.int (1 : Int32))])) ?_ (fun t k => XS.goto X1005.here hx rfl (pc0 := 129) (pc' := 133) rfl (hb hby at_129) (by decide) (by decide) k)
      refine Goal.retN (t := .boolean) X1005 hx hret (by simp) (hb hby at_133) ?_
      exact ⟨⟨rfl, N1005⟩, by decide, by decide⟩
  · refine Goal.step (T' := T1005) (g' := (mkF m 71 #[.val (.int p1), .val (.int p2), .val (.int p3), .val (.int p4), .val (.int n4), .val (.int a5), .val (.int b6), .val (.ref b1001), .val (.double (dist n4 a5 b6)), .second, .unset, .unset, .unset, .unset] [(.int n4)])) ?_ (fun t k => XS.iload X1005.here hx rfl (hb hby at_69) rfl k)
    refine Goal.step (T' := T1005) (g' := (mkF m 91 #[.val (.int p1), .val (.int p2), .val (.int p3), .val (.int p4), .val (.int n4), .val (.int a5), .val (.int b6), .val (.ref b1001), .val (.double (dist n4 a5 b6)), .second, .unset, .unset, .unset, .unset] [])) ?_ (fun t k => XS.ifYes X1005.here hx rfl (pc0 := 71) (pc' := 91) rfl (hb hby at_71) rfl ((if0 _ _).trans (feq hn0).2) (by decide) (by decide) k)
    refine Goal.step (T' := T1005) (g' := (mkF m 93 #[.val (.int p1), .val (.int p2), .val (.int p3), .val (.int p4), .val (.int n4), .val (.int a5), .val (.int b6), .val (.ref b1001), .val (.double (dist n4 a5 b6)), .second, .unset, .unset, .unset, .unset] [(.int a5)])) ?_ (fun t k => XS.iload X1005.here hx rfl (hb hby at_91) rfl k)
    refine Goal.step (T' := T1005) (g' := (mkF m 94 #[.val (.int p1), .val (.int p2), .val (.int p3), .val (.int p4), .val (.int n4), .val (.int a5), .val (.int b6), .val (.ref b1001), .val (.double (dist n4 a5 b6)), .second, .unset, .unset, .unset, .unset] [(.long (a5.toInt64))])) ?_ (fun t k => XS.i2l X1005.here hx rfl (hb hby at_93) rfl k)
    refine Goal.step (T' := T1005) (g' := (mkF m 96 #[.val (.int p1), .val (.int p2), .val (.int p3), .val (.int p4), .val (.int n4), .val (.int a5), .val (.int b6), .val (.ref b1001), .val (.double (dist n4 a5 b6)), .second, .unset, .unset, .unset, .unset] [(.int b6), (.long (a5.toInt64))])) ?_ (fun t k => XS.iload X1005.here hx rfl (hb hby at_94) rfl k)
    refine Goal.step (T' := T1005) (g' := (mkF m 97 #[.val (.int p1), .val (.int p2), .val (.int p3), .val (.int p4), .val (.int n4), .val (.int a5), .val (.int b6), .val (.ref b1001), .val (.double (dist n4 a5 b6)), .second, .unset, .unset, .unset, .unset] [(.long (b6.toInt64)), (.long (a5.toInt64))])) ?_ (fun t k => XS.i2l X1005.here hx rfl (hb hby at_96) rfl k)
    refine Goal.step (T' := T1005) (g' := (mkF m 98 #[.val (.int p1), .val (.int p2), .val (.int p3), .val (.int p4), .val (.int n4), .val (.int a5), .val (.int b6), .val (.ref b1001), .val (.double (dist n4 a5 b6)), .second, .unset, .unset, .unset, .unset] [(.long ((a5.toInt64) + (b6.toInt64)))])) ?_ (fun t k => XS.ladd X1005.here hx rfl (hb hby at_97) rfl k)
    refine Goal.step (T' := T1005) (g' := (mkF m 100 #[.val (.int p1), .val (.int p2), .val (.int p3), .val (.int p4), .val (.int n4), .val (.int a5), .val (.int b6), .val (.ref b1001), .val (.double (dist n4 a5 b6)), .second, .unset, .unset, .val (.long ((a5.toInt64) + (b6.toInt64))), .second] [])) ?_ (fun t k => XS.lstore X1005.here hx rfl (hb hby at_98) rfl (l' := #[.val (.int p1), .val (.int p2), .val (.int p3), .val (.int p4), .val (.int n4), .val (.int a5), .val (.int b6), .val (.ref b1001), .val (.double (dist n4 a5 b6)), .second, .unset, .unset, .val (.long ((a5.toInt64) + (b6.toInt64))), .second]) rfl k)
    refine Goal.step (T' := T1005) (g' := (mkF m 102 #[.val (.int p1), .val (.int p2), .val (.int p3), .val (.int p4), .val (.int n4), .val (.int a5), .val (.int b6), .val (.ref b1001), .val (.double (dist n4 a5 b6)), .second, .unset, .unset, .val (.long ((a5.toInt64) + (b6.toInt64))), .second] [(.long ((a5.toInt64) + (b6.toInt64)))])) ?_ (fun t k => XS.lload X1005.here hx rfl (hb hby at_100) rfl k)
    refine Goal.step (T' := T1005) (g' := (mkF m 103 #[.val (.int p1), .val (.int p2), .val (.int p3), .val (.int p4), .val (.int n4), .val (.int a5), .val (.int b6), .val (.ref b1001), .val (.double (dist n4 a5 b6)), .second, .unset, .unset, .val (.long ((a5.toInt64) + (b6.toInt64))), .second] [(.double (FP.l2d ((a5.toInt64) + (b6.toInt64))))])) ?_ (fun t k => XS.l2dS X1005.here hx rfl (hb hby at_102) rfl rfl k)
    refine Goal.step (T' := T1005) (g' := (mkF m 105 #[.val (.int p1), .val (.int p2), .val (.int p3), .val (.int p4), .val (.int n4), .val (.int a5), .val (.int b6), .val (.ref b1001), .val (.double (dist n4 a5 b6)), .second, .unset, .unset, .val (.long ((a5.toInt64) + (b6.toInt64))), .second] [(.int n4), (.double (FP.l2d ((a5.toInt64) + (b6.toInt64))))])) ?_ (fun t k => XS.iload X1005.here hx rfl (hb hby at_103) rfl k)
    refine Goal.step (T' := T1005) (g' := (mkF m 106 #[.val (.int p1), .val (.int p2), .val (.int p3), .val (.int p4), .val (.int n4), .val (.int a5), .val (.int b6), .val (.ref b1001), .val (.double (dist n4 a5 b6)), .second, .unset, .unset, .val (.long ((a5.toInt64) + (b6.toInt64))), .second] [(.double (FP.i2d n4)), (.double (FP.l2d ((a5.toInt64) + (b6.toInt64))))])) ?_ (fun t k => XS.i2dS X1005.here hx rfl (hb hby at_105) rfl rfl k)
    refine Goal.step (T' := T1005) (g' := (mkF m 107 #[.val (.int p1), .val (.int p2), .val (.int p3), .val (.int p4), .val (.int n4), .val (.int a5), .val (.int b6), .val (.ref b1001), .val (.double (dist n4 a5 b6)), .second, .unset, .unset, .val (.long ((a5.toInt64) + (b6.toInt64))), .second] [(.double (FP.ddiv (FP.l2d ((a5.toInt64) + (b6.toInt64))) (FP.i2d n4)))])) ?_ (fun t k => XS.ddivS X1005.here hx rfl (hb hby at_106) rfl (own_vals n4 a5 b6 hn ha hb6 hn0).2.2.1 rfl k)
    refine Goal.step (T' := T1005) (g' := (mkF m 110 #[.val (.int p1), .val (.int p2), .val (.int p3), .val (.int p4), .val (.int n4), .val (.int a5), .val (.int b6), .val (.ref b1001), .val (.double (dist n4 a5 b6)), .second, .unset, .unset, .val (.long ((a5.toInt64) + (b6.toInt64))), .second] [(.double (4602678819172646912 : UInt64)), (.double (FP.ddiv (FP.l2d ((a5.toInt64) + (b6.toInt64))) (FP.i2d n4)))])) ?_ (fun t k => X1005.ldc2DoubleC hx hown (mvT hZ (hw _ (List.mem_of_getElem? (i := 28) rfl))) (g := (mkF m 107 #[.val (.int p1), .val (.int p2), .val (.int p3), .val (.int p4), .val (.int n4), .val (.int a5), .val (.int b6), .val (.ref b1001), .val (.double (dist n4 a5 b6)), .second, .unset, .unset, .val (.long ((a5.toInt64) + (b6.toInt64))), .second] [(.double (FP.ddiv (FP.l2d ((a5.toInt64) + (b6.toInt64))) (FP.i2d n4)))])) rfl (hb hby at_107) _ k)
    refine Goal.step (T' := T1005) (g' := (mkF m 111 #[.val (.int p1), .val (.int p2), .val (.int p3), .val (.int p4), .val (.int n4), .val (.int a5), .val (.int b6), .val (.ref b1001), .val (.double (dist n4 a5 b6)), .second, .unset, .unset, .val (.long ((a5.toInt64) + (b6.toInt64))), .second] [(.double (FP.dmul (FP.ddiv (FP.l2d ((a5.toInt64) + (b6.toInt64))) (FP.i2d n4)) (4602678819172646912 : UInt64)))])) ?_ (fun t k => XS.dmulS X1005.here hx rfl (hb hby at_110) rfl (by rw [← own_dist0 n4 a5 b6 hn ha hb6 hn0]; exact (own_vals n4 a5 b6 hn ha hb6 hn0).2.1) rfl k)
    refine Goal.step (T' := T1005) (g' := (mkF m 113 #[.val (.int p1), .val (.int p2), .val (.int p3), .val (.int p4), .val (.int n4), .val (.int a5), .val (.int b6), .val (.ref b1001), .val (.double (dist n4 a5 b6)), .second, .val (.double (FP.dmul (FP.ddiv (FP.l2d ((a5.toInt64) + (b6.toInt64))) (FP.i2d n4)) (4602678819172646912 : UInt64))), .second, .val (.long ((a5.toInt64) + (b6.toInt64))), .second] [])) ?_ (fun t k => XS.dstore X1005.here hx rfl (hb hby at_111) rfl (l' := #[.val (.int p1), .val (.int p2), .val (.int p3), .val (.int p4), .val (.int n4), .val (.int a5), .val (.int b6), .val (.ref b1001), .val (.double (dist n4 a5 b6)), .second, .val (.double (FP.dmul (FP.ddiv (FP.l2d ((a5.toInt64) + (b6.toInt64))) (FP.i2d n4)) (4602678819172646912 : UInt64))), .second, .val (.long ((a5.toInt64) + (b6.toInt64))), .second]) rfl k)
    refine Goal.step (T' := T1005) (g' := (mkF m 115 #[.val (.int p1), .val (.int p2), .val (.int p3), .val (.int p4), .val (.int n4), .val (.int a5), .val (.int b6), .val (.ref b1001), .val (.double (dist n4 a5 b6)), .second, .val (.double (FP.dmul (FP.ddiv (FP.l2d ((a5.toInt64) + (b6.toInt64))) (FP.i2d n4)) (4602678819172646912 : UInt64))), .second, .val (.long ((a5.toInt64) + (b6.toInt64))), .second] [(.double (dist n4 a5 b6))])) ?_ (fun t k => XS.dload X1005.here hx rfl (hb hby at_113) rfl k)
    refine Goal.step (T' := T1005) (g' := (mkF m 117 #[.val (.int p1), .val (.int p2), .val (.int p3), .val (.int p4), .val (.int n4), .val (.int a5), .val (.int b6), .val (.ref b1001), .val (.double (dist n4 a5 b6)), .second, .val (.double (FP.dmul (FP.ddiv (FP.l2d ((a5.toInt64) + (b6.toInt64))) (FP.i2d n4)) (4602678819172646912 : UInt64))), .second, .val (.long ((a5.toInt64) + (b6.toInt64))), .second] [(.double (FP.dmul (FP.ddiv (FP.l2d ((a5.toInt64) + (b6.toInt64))) (FP.i2d n4)) (4602678819172646912 : UInt64))), (.double (dist n4 a5 b6))])) ?_ (fun t k => XS.dload X1005.here hx rfl (hb hby at_115) rfl k)
    refine Goal.step (T' := T1005) (g' := (mkF m 118 #[.val (.int p1), .val (.int p2), .val (.int p3), .val (.int p4), .val (.int n4), .val (.int a5), .val (.int b6), .val (.ref b1001), .val (.double (dist n4 a5 b6)), .second, .val (.double (FP.dmul (FP.ddiv (FP.l2d ((a5.toInt64) + (b6.toInt64))) (FP.i2d n4)) (4602678819172646912 : UInt64))), .second, .val (.long ((a5.toInt64) + (b6.toInt64))), .second] [(.int (0 : Int32))])) ?_ (fun t k => XS.dcmpS X1005.here hx rfl (hb hby at_117) rfl (by rw [dist, if_neg hn0, ← own_dist0 n4 a5 b6 hn ha hb6 hn0]; exact dcmpV_self (own_vals n4 a5 b6 hn ha hb6 hn0).2.1 _) k)
    refine Goal.step (T' := T1005) (g' := (mkF m 121 #[.val (.int p1), .val (.int p2), .val (.int p3), .val (.int p4), .val (.int n4), .val (.int a5), .val (.int b6), .val (.ref b1001), .val (.double (dist n4 a5 b6)), .second, .val (.double (FP.dmul (FP.ddiv (FP.l2d ((a5.toInt64) + (b6.toInt64))) (FP.i2d n4)) (4602678819172646912 : UInt64))), .second, .val (.long ((a5.toInt64) + (b6.toInt64))), .second] [])) ?_ (fun t k => XS.ifNo X1005.here hx rfl (hb hby at_118) rfl ((if0 _ _).trans (teq (by decide)).2) k)
    refine Goal.step (T' := T1005) (g' := (mkF m 123 #[.val (.int p1), .val (.int p2), .val (.int p3), .val (.int p4), .val (.int n4), .val (.int a5), .val (.int b6), .val (.ref b1001), .val (.double (dist n4 a5 b6)), .second, .val (.double (FP.dmul (FP.ddiv (FP.l2d ((a5.toInt64) + (b6.toInt64))) (FP.i2d n4)) (4602678819172646912 : UInt64))), .second, .val (.long ((a5.toInt64) + (b6.toInt64))), .second] [(.double (dist n4 a5 b6))])) ?_ (fun t k => XS.dload X1005.here hx rfl (hb hby at_121) rfl k)
    refine Goal.step (T' := T1005) (g' := (mkF m 124 #[.val (.int p1), .val (.int p2), .val (.int p3), .val (.int p4), .val (.int n4), .val (.int a5), .val (.int b6), .val (.ref b1001), .val (.double (dist n4 a5 b6)), .second, .val (.double (FP.dmul (FP.ddiv (FP.l2d ((a5.toInt64) + (b6.toInt64))) (FP.i2d n4)) (4602678819172646912 : UInt64))), .second, .val (.long ((a5.toInt64) + (b6.toInt64))), .second] [(.double FP.dconst0), (.double (dist n4 a5 b6))])) ?_ (fun t k => XS.dconst0 X1005.here hx rfl (hb hby at_123) rfl k)
    obtain ⟨z9, hz9⟩ : ∃ z, cmpValue (FP.dcmp (dist n4 a5 b6) FP.dconst0) .l = z := ⟨_, rfl⟩
    have hp9 : ¬ z9 < (0 : Int32) := by rw [← hz9, dist, if_neg hn0]; exact own_cmp_ge (own_vals n4 a5 b6 hn ha hb6 hn0).2.2.2
    refine Goal.step (T' := T1005) (g' := (mkF m 125 #[.val (.int p1), .val (.int p2), .val (.int p3), .val (.int p4), .val (.int n4), .val (.int a5), .val (.int b6), .val (.ref b1001), .val (.double (dist n4 a5 b6)), .second, .val (.double (FP.dmul (FP.ddiv (FP.l2d ((a5.toInt64) + (b6.toInt64))) (FP.i2d n4)) (4602678819172646912 : UInt64))), .second, .val (.long ((a5.toInt64) + (b6.toInt64))), .second] [(.int z9)])) ?_ (fun t k => XS.dcmpS X1005.here hx rfl (hb hby at_124) rfl hz9 k)
    refine Goal.step (T' := T1005) (g' := (mkF m 128 #[.val (.int p1), .val (.int p2), .val (.int p3), .val (.int p4), .val (.int n4), .val (.int a5), .val (.int b6), .val (.ref b1001), .val (.double (dist n4 a5 b6)), .second, .val (.double (FP.dmul (FP.ddiv (FP.l2d ((a5.toInt64) + (b6.toInt64))) (FP.i2d n4)) (4602678819172646912 : UInt64))), .second, .val (.long ((a5.toInt64) + (b6.toInt64))), .second] [])) ?_ (fun t k => XS.ifNo X1005.here hx rfl (hb hby at_125) rfl ((if0 _ _).trans (flt hp9).1) k)
    refine Goal.step (T' := T1005) (g' := (mkF m 129 #[.val (.int p1), .val (.int p2), .val (.int p3), .val (.int p4), .val (.int n4), .val (.int a5), .val (.int b6), .val (.ref b1001), .val (.double (dist n4 a5 b6)), .second, .val (.double (FP.dmul (FP.ddiv (FP.l2d ((a5.toInt64) + (b6.toInt64))) (FP.i2d n4)) (4602678819172646912 : UInt64))), .second, .val (.long ((a5.toInt64) + (b6.toInt64))), .second] [(.int (1 : Int32))])) ?_ (fun t k => XS.iconst X1005.here hx rfl (hb hby at_128) k)
    refine Goal.step (T' := T1005) (g' := (mkF m 133 #[.val (.int p1), .val (.int p2), .val (.int p3), .val (.int p4), .val (.int n4), .val (.int a5), .val (.int b6), .val (.ref b1001), .val (.double (dist n4 a5 b6)), .second, .val (.double (FP.dmul (FP.ddiv (FP.l2d ((a5.toInt64) + (b6.toInt64))) (FP.i2d n4)) (4602678819172646912 : UInt64))), .second, .val (.long ((a5.toInt64) + (b6.toInt64))), .second] [(.int (1 : Int32))])) ?_ (fun t k => XS.goto X1005.here hx rfl (pc0 := 129) (pc' := 133) rfl (hb hby at_129) (by decide) (by decide) k)
    refine Goal.retN (t := .boolean) X1005 hx hret (by simp) (hb hby at_133) ?_
    exact ⟨⟨rfl, N1005⟩, by decide, by decide⟩
set_option maxRecDepth 65536 in
set_option maxHeartbeats 40000000 in
theorem seg16 {p : Program} {l : Launch} {e : Env} {s : State} {m : MethodId} {args : Array Value} {below : List Frame} {meth : Method} {c : Code} {Z : State} {a0 : Array Value} {T0 : State} {locs : List Loc} (hw : ∀ d ∈ tables_1, d.before a0 Z = true) (C0 : Ctx p s m meth c Z code maxLocals ret x.cls x.name) (p1 p2 p3 p4 n4 : Int32) (h0 : Heap) (n0 : Nat) (Z0 : n0 ≤ h0.size) (X0 : Stand p l e room_1 s m args below meth c T0 locs 0 0) (e0 : T0.heap = h0) (N0 : Fr n0 locs) (hn : okN n4) :
    Goal p l e room_1 s m args below meth c (In room_1 (fun v h L => v = some (.int 1) ∧ Fr n0 L)) T0 (mkF m 16 #[.val (.int p1), .val (.int p2), .val (.int p3), .val (.int p4), .val (.int n4), .unset, .unset, .unset, .unset, .unset, .unset, .unset, .unset, .unset] []) := by
  have C := C0
  obtain ⟨hx, hZ, hby, hml, hret, hown, hnm⟩ := C
  have hown : s.vm.findClass "com/example/reticula/reticula/ClusterComparisonDistancePinLaw" = some m.cls := hown
  have hret : meth.sig.returnType = (some .boolean) := hret
  refine Goal.step (T' := T0) (g' := (mkF m 17 #[.val (.int p1), .val (.int p2), .val (.int p3), .val (.int p4), .val (.int n4), .unset, .unset, .unset, .unset, .unset, .unset, .unset, .unset, .unset] [(.int p3)])) ?_ (fun t k => XS.iloadN X0.here hx rfl (hb hby at_16) rfl k)
  refine Goal.step (T' := T0) (g' := (mkF m 18 #[.val (.int p1), .val (.int p2), .val (.int p3), .val (.int p4), .val (.int n4), .unset, .unset, .unset, .unset, .unset, .unset, .unset, .unset, .unset] [(.long (p3.toInt64))])) ?_ (fun t k => XS.i2l X0.here hx rfl (hb hby at_17) rfl k)
  refine Goal.step (T' := T0) (g' := (mkF m 21 #[.val (.int p1), .val (.int p2), .val (.int p3), .val (.int p4), .val (.int n4), .unset, .unset, .unset, .unset, .unset, .unset, .unset, .unset, .unset] [(.long (2147483647 : Int64)), (.long (p3.toInt64))])) ?_ (fun t k => X0.ldc2Long hx hown (mvT hZ (hw _ (List.mem_of_getElem? (i := 0) rfl))) (g := (mkF m 18 #[.val (.int p1), .val (.int p2), .val (.int p3), .val (.int p4), .val (.int n4), .unset, .unset, .unset, .unset, .unset, .unset, .unset, .unset, .unset] [(.long (p3.toInt64))])) rfl (hb hby at_18) _ k)
  refine Goal.step (T' := T0) (g' := (mkF m 22 #[.val (.int p1), .val (.int p2), .val (.int p3), .val (.int p4), .val (.int n4), .unset, .unset, .unset, .unset, .unset, .unset, .unset, .unset, .unset] [(.long ((p3.toInt64) &&& (2147483647 : Int64)))])) ?_ (fun t k => XS.land X0.here hx rfl (hb hby at_21) rfl k)
  refine Goal.step (T' := T0) (g' := (mkF m 24 #[.val (.int p1), .val (.int p2), .val (.int p3), .val (.int p4), .val (.int n4), .unset, .unset, .unset, .unset, .unset, .unset, .unset, .unset, .unset] [(.int n4), (.long ((p3.toInt64) &&& (2147483647 : Int64)))])) ?_ (fun t k => XS.iload X0.here hx rfl (hb hby at_22) rfl k)
  refine Goal.step (T' := T0) (g' := (mkF m 25 #[.val (.int p1), .val (.int p2), .val (.int p3), .val (.int p4), .val (.int n4), .unset, .unset, .unset, .unset, .unset, .unset, .unset, .unset, .unset] [(.long (n4.toInt64)), (.long ((p3.toInt64) &&& (2147483647 : Int64)))])) ?_ (fun t k => XS.i2l X0.here hx rfl (hb hby at_24) rfl k)
  refine Goal.step (T' := T0) (g' := (mkF m 26 #[.val (.int p1), .val (.int p2), .val (.int p3), .val (.int p4), .val (.int n4), .unset, .unset, .unset, .unset, .unset, .unset, .unset, .unset, .unset] [(.long (1 : Int64)), (.long (n4.toInt64)), (.long ((p3.toInt64) &&& (2147483647 : Int64)))])) ?_ (fun t k => XS.lconst X0.here hx rfl (hb hby at_25) k)
  refine Goal.step (T' := T0) (g' := (mkF m 27 #[.val (.int p1), .val (.int p2), .val (.int p3), .val (.int p4), .val (.int n4), .unset, .unset, .unset, .unset, .unset, .unset, .unset, .unset, .unset] [(.long ((n4.toInt64) + (1 : Int64))), (.long ((p3.toInt64) &&& (2147483647 : Int64)))])) ?_ (fun t k => XS.ladd X0.here hx rfl (hb hby at_26) rfl k)
  refine Goal.step (T' := T0) (g' := (mkF m 28 #[.val (.int p1), .val (.int p2), .val (.int p3), .val (.int p4), .val (.int n4), .unset, .unset, .unset, .unset, .unset, .unset, .unset, .unset, .unset] [(.long (((p3.toInt64) &&& (2147483647 : Int64)) - (((p3.toInt64) &&& (2147483647 : Int64)) / ((n4.toInt64) + (1 : Int64))) * ((n4.toInt64) + (1 : Int64))))])) ?_ (fun t k => XS.lrem X0.here hx rfl (hb hby at_27) rfl (own_a p3 n4 hn).1 k)
  refine Goal.step (T' := T0) (g' := (mkF m 29 #[.val (.int p1), .val (.int p2), .val (.int p3), .val (.int p4), .val (.int n4), .unset, .unset, .unset, .unset, .unset, .unset, .unset, .unset, .unset] [(.int ((((p3.toInt64) &&& (2147483647 : Int64)) - (((p3.toInt64) &&& (2147483647 : Int64)) / ((n4.toInt64) + (1 : Int64))) * ((n4.toInt64) + (1 : Int64))).toInt32))])) ?_ (fun t k => XS.l2i X0.here hx rfl (hb hby at_28) rfl k)
  obtain ⟨a5, ha5⟩ : ∃ z, z = ((((p3.toInt64) &&& (2147483647 : Int64)) - (((p3.toInt64) &&& (2147483647 : Int64)) / ((n4.toInt64) + (1 : Int64))) * ((n4.toInt64) + (1 : Int64))).toInt32) := ⟨_, rfl⟩
  rw [← ha5]
  have ha : okN a5 := by rw [ha5]; exact (own_a p3 n4 hn).2
  refine Goal.step (T' := T0) (g' := (mkF m 31 #[.val (.int p1), .val (.int p2), .val (.int p3), .val (.int p4), .val (.int n4), .val (.int a5), .unset, .unset, .unset, .unset, .unset, .unset, .unset, .unset] [])) ?_ (fun t k => XS.istore X0.here hx rfl (hb hby at_29) rfl (l' := #[.val (.int p1), .val (.int p2), .val (.int p3), .val (.int p4), .val (.int n4), .val (.int a5), .unset, .unset, .unset, .unset, .unset, .unset, .unset, .unset]) rfl k)
  refine Goal.step (T' := T0) (g' := (mkF m 32 #[.val (.int p1), .val (.int p2), .val (.int p3), .val (.int p4), .val (.int n4), .val (.int a5), .unset, .unset, .unset, .unset, .unset, .unset, .unset, .unset] [(.int p1)])) ?_ (fun t k => XS.iloadN X0.here hx rfl (hb hby at_31) rfl k)
  refine Goal.step (T' := T0) (g' := (mkF m 33 #[.val (.int p1), .val (.int p2), .val (.int p3), .val (.int p4), .val (.int n4), .val (.int a5), .unset, .unset, .unset, .unset, .unset, .unset, .unset, .unset] [(.int (4 : Int32)), (.int p1)])) ?_ (fun t k => XS.iconst X0.here hx rfl (hb hby at_32) k)
  refine Goal.step (T' := T0) (g' := (mkF m 34 #[.val (.int p1), .val (.int p2), .val (.int p3), .val (.int p4), .val (.int n4), .val (.int a5), .unset, .unset, .unset, .unset, .unset, .unset, .unset, .unset] [(.int (p1 &&& (4 : Int32)))])) ?_ (fun t k => XS.iand X0.here hx rfl (hb hby at_33) rfl k)
  by_cases c1001 : (p1 &&& (4 : Int32)) = (0 : Int32)
  · refine Goal.step (T' := T0) (g' := (mkF m 41 #[.val (.int p1), .val (.int p2), .val (.int p3), .val (.int p4), .val (.int n4), .val (.int a5), .unset, .unset, .unset, .unset, .unset, .unset, .unset, .unset] [])) ?_ (fun t k => XS.ifYes X0.here hx rfl (pc0 := 34) (pc' := 41) rfl (hb hby at_34) rfl ((if0 _ _).trans (teq c1001).1) (by decide) (by decide) k)
    refine Goal.step (T' := T0) (g' := (mkF m 42 #[.val (.int p1), .val (.int p2), .val (.int p3), .val (.int p4), .val (.int n4), .val (.int a5), .unset, .unset, .unset, .unset, .unset, .unset, .unset, .unset] [(.int p4)])) ?_ (fun t k => XS.iloadN X0.here hx rfl (hb hby at_41) rfl k)
    refine Goal.step (T' := T0) (g' := (mkF m 44 #[.val (.int p1), .val (.int p2), .val (.int p3), .val (.int p4), .val (.int n4), .val (.int a5), .unset, .unset, .unset, .unset, .unset, .unset, .unset, .unset] [(.int (1073741823 : Int32)), (.int p4)])) ?_ (fun t k => X0.ldcInt hx hown (mvT hZ (hw _ (List.mem_of_getElem? (i := 1) rfl))) (g := (mkF m 42 #[.val (.int p1), .val (.int p2), .val (.int p3), .val (.int p4), .val (.int n4), .val (.int a5), .unset, .unset, .unset, .unset, .unset, .unset, .unset, .unset] [(.int p4)])) rfl (hb hby at_42) _ k)
    refine Goal.step (T' := T0) (g' := (mkF m 45 #[.val (.int p1), .val (.int p2), .val (.int p3), .val (.int p4), .val (.int n4), .val (.int a5), .unset, .unset, .unset, .unset, .unset, .unset, .unset, .unset] [(.int (p4 &&& (1073741823 : Int32)))])) ?_ (fun t k => XS.iand X0.here hx rfl (hb hby at_44) rfl k)
    refine Goal.step (T' := T0) (g' := (mkF m 47 #[.val (.int p1), .val (.int p2), .val (.int p3), .val (.int p4), .val (.int n4), .val (.int a5), .val (.int (p4 &&& (1073741823 : Int32))), .unset, .unset, .unset, .unset, .unset, .unset, .unset] [])) ?_ (fun t k => XS.istore X0.here hx rfl (hb hby at_45) rfl (l' := #[.val (.int p1), .val (.int p2), .val (.int p3), .val (.int p4), .val (.int n4), .val (.int a5), .val (.int (p4 &&& (1073741823 : Int32))), .unset, .unset, .unset, .unset, .unset, .unset, .unset]) rfl k)
    exact seg47 hw C0 p1 p2 p3 p4 n4 a5 (p4 &&& (1073741823 : Int32)) h0 n0 (by omega) X0 e0 N0 hn ha (own_n p4)
  · refine Goal.step (T' := T0) (g' := (mkF m 37 #[.val (.int p1), .val (.int p2), .val (.int p3), .val (.int p4), .val (.int n4), .val (.int a5), .unset, .unset, .unset, .unset, .unset, .unset, .unset, .unset] [])) ?_ (fun t k => XS.ifNo X0.here hx rfl (hb hby at_34) rfl ((if0 _ _).trans (feq c1001).1) k)
    refine Goal.step (T' := T0) (g' := (mkF m 38 #[.val (.int p1), .val (.int p2), .val (.int p3), .val (.int p4), .val (.int n4), .val (.int a5), .unset, .unset, .unset, .unset, .unset, .unset, .unset, .unset] [(.int (0 : Int32))])) ?_ (fun t k => XS.iconst X0.here hx rfl (hb hby at_37) k)
    refine Goal.step (T' := T0) (g' := (mkF m 45 #[.val (.int p1), .val (.int p2), .val (.int p3), .val (.int p4), .val (.int n4), .val (.int a5), .unset, .unset, .unset, .unset, .unset, .unset, .unset, .unset] [(.int (0 : Int32))])) ?_ (fun t k => XS.goto X0.here hx rfl (pc0 := 38) (pc' := 45) rfl (hb hby at_38) (by decide) (by decide) k)
    refine Goal.step (T' := T0) (g' := (mkF m 47 #[.val (.int p1), .val (.int p2), .val (.int p3), .val (.int p4), .val (.int n4), .val (.int a5), .val (.int (0 : Int32)), .unset, .unset, .unset, .unset, .unset, .unset, .unset] [])) ?_ (fun t k => XS.istore X0.here hx rfl (hb hby at_45) rfl (l' := #[.val (.int p1), .val (.int p2), .val (.int p3), .val (.int p4), .val (.int n4), .val (.int a5), .val (.int (0 : Int32)), .unset, .unset, .unset, .unset, .unset, .unset, .unset]) rfl k)
    exact seg47 hw C0 p1 p2 p3 p4 n4 a5 (0 : Int32) h0 n0 (by omega) X0 e0 N0 hn ha own_n0
theorem ef_0 (m : MethodId) (x0 : Int32) (x1 : Int32) (x2 : Int32) (x3 : Int32) : entryFrame m #[(.int x0), (.int x1), (.int x2), (.int x3)] maxLocals = mkF m 0 #[.val (.int x0), .val (.int x1), .val (.int x2), .val (.int x3), .unset, .unset, .unset, .unset, .unset, .unset, .unset, .unset, .unset, .unset] [] := by first | (simp [entryFrame, mkF, argsToLocals, Value.category, maxLocals]; done) | rfl
set_option maxRecDepth 65536 in
set_option maxHeartbeats 40000000 in
theorem rm0 (l : Launch) (Z : State) (a0 : Array Value) (hw : ∀ d ∈ tables_1, d.before a0 Z = true) (p1 p2 p3 p4 : Int32) (h0 : Heap) (n0 : Nat) (Z0 : n0 ≤ h0.size) :
    Met l x code maxLocals ret tables_1 room_1 Z #[(.int p1), (.int p2), (.int p3), (.int p4)] h0 (fun v h L => v = some (.int 1) ∧ Fr n0 L) := by
  refine of_goal (plainFor_of_name (by first | (simp [plainName, overriddenIn]; done) | decide +kernel)) ?_
  intro p e s m below meth c s₁ C X0 e0
  have C0 := C
  obtain ⟨hx, hZ, hby, hml, hret, hown, hnm⟩ := C
  have hown : s.vm.findClass "com/example/reticula/reticula/ClusterComparisonDistancePinLaw" = some m.cls := hown
  have hret : meth.sig.returnType = (some .boolean) := hret
  have N0 := Fr.nil n0
  rw [ef_0]
  refine Goal.step (T' := s₁) (g' := (mkF m 1 #[.val (.int p1), .val (.int p2), .val (.int p3), .val (.int p4), .unset, .unset, .unset, .unset, .unset, .unset, .unset, .unset, .unset, .unset] [(.int p1)])) ?_ (fun t k => XS.iloadN X0.here hx rfl (hb hby at_0) rfl k)
  refine Goal.step (T' := s₁) (g' := (mkF m 2 #[.val (.int p1), .val (.int p2), .val (.int p3), .val (.int p4), .unset, .unset, .unset, .unset, .unset, .unset, .unset, .unset, .unset, .unset] [(.int (3 : Int32)), (.int p1)])) ?_ (fun t k => XS.iconst X0.here hx rfl (hb hby at_1) k)
  refine Goal.step (T' := s₁) (g' := (mkF m 3 #[.val (.int p1), .val (.int p2), .val (.int p3), .val (.int p4), .unset, .unset, .unset, .unset, .unset, .unset, .unset, .unset, .unset, .unset] [(.int (p1 &&& (3 : Int32)))])) ?_ (fun t k => XS.iand X0.here hx rfl (hb hby at_2) rfl k)
  by_cases c1001 : (p1 &&& (3 : Int32)) = (0 : Int32)
  · refine Goal.step (T' := s₁) (g' := (mkF m 6 #[.val (.int p1), .val (.int p2), .val (.int p3), .val (.int p4), .unset, .unset, .unset, .unset, .unset, .unset, .unset, .unset, .unset, .unset] [])) ?_ (fun t k => XS.ifNo X0.here hx rfl (hb hby at_3) rfl ((if0 _ _).trans (teq c1001).2) k)
    refine Goal.step (T' := s₁) (g' := (mkF m 7 #[.val (.int p1), .val (.int p2), .val (.int p3), .val (.int p4), .unset, .unset, .unset, .unset, .unset, .unset, .unset, .unset, .unset, .unset] [(.int (0 : Int32))])) ?_ (fun t k => XS.iconst X0.here hx rfl (hb hby at_6) k)
    refine Goal.step (T' := s₁) (g' := (mkF m 14 #[.val (.int p1), .val (.int p2), .val (.int p3), .val (.int p4), .unset, .unset, .unset, .unset, .unset, .unset, .unset, .unset, .unset, .unset] [(.int (0 : Int32))])) ?_ (fun t k => XS.goto X0.here hx rfl (pc0 := 7) (pc' := 14) rfl (hb hby at_7) (by decide) (by decide) k)
    refine Goal.step (T' := s₁) (g' := (mkF m 16 #[.val (.int p1), .val (.int p2), .val (.int p3), .val (.int p4), .val (.int (0 : Int32)), .unset, .unset, .unset, .unset, .unset, .unset, .unset, .unset, .unset] [])) ?_ (fun t k => XS.istore X0.here hx rfl (hb hby at_14) rfl (l' := #[.val (.int p1), .val (.int p2), .val (.int p3), .val (.int p4), .val (.int (0 : Int32)), .unset, .unset, .unset, .unset, .unset, .unset, .unset, .unset, .unset]) rfl k)
    exact seg16 hw C0 p1 p2 p3 p4 (0 : Int32) h0 n0 (by omega) X0 e0 N0 own_n0
  · refine Goal.step (T' := s₁) (g' := (mkF m 10 #[.val (.int p1), .val (.int p2), .val (.int p3), .val (.int p4), .unset, .unset, .unset, .unset, .unset, .unset, .unset, .unset, .unset, .unset] [])) ?_ (fun t k => XS.ifYes X0.here hx rfl (pc0 := 3) (pc' := 10) rfl (hb hby at_3) rfl ((if0 _ _).trans (feq c1001).2) (by decide) (by decide) k)
    refine Goal.step (T' := s₁) (g' := (mkF m 11 #[.val (.int p1), .val (.int p2), .val (.int p3), .val (.int p4), .unset, .unset, .unset, .unset, .unset, .unset, .unset, .unset, .unset, .unset] [(.int p2)])) ?_ (fun t k => XS.iloadN X0.here hx rfl (hb hby at_10) rfl k)
    refine Goal.step (T' := s₁) (g' := (mkF m 13 #[.val (.int p1), .val (.int p2), .val (.int p3), .val (.int p4), .unset, .unset, .unset, .unset, .unset, .unset, .unset, .unset, .unset, .unset] [(.int (1073741823 : Int32)), (.int p2)])) ?_ (fun t k => X0.ldcInt hx hown (mvT hZ (hw _ (List.mem_of_getElem? (i := 1) rfl))) (g := (mkF m 11 #[.val (.int p1), .val (.int p2), .val (.int p3), .val (.int p4), .unset, .unset, .unset, .unset, .unset, .unset, .unset, .unset, .unset, .unset] [(.int p2)])) rfl (hb hby at_11) _ k)
    refine Goal.step (T' := s₁) (g' := (mkF m 14 #[.val (.int p1), .val (.int p2), .val (.int p3), .val (.int p4), .unset, .unset, .unset, .unset, .unset, .unset, .unset, .unset, .unset, .unset] [(.int (p2 &&& (1073741823 : Int32)))])) ?_ (fun t k => XS.iand X0.here hx rfl (hb hby at_13) rfl k)
    refine Goal.step (T' := s₁) (g' := (mkF m 16 #[.val (.int p1), .val (.int p2), .val (.int p3), .val (.int p4), .val (.int (p2 &&& (1073741823 : Int32))), .unset, .unset, .unset, .unset, .unset, .unset, .unset, .unset, .unset] [])) ?_ (fun t k => XS.istore X0.here hx rfl (hb hby at_14) rfl (l' := #[.val (.int p1), .val (.int p2), .val (.int p3), .val (.int p4), .val (.int (p2 &&& (1073741823 : Int32))), .unset, .unset, .unset, .unset, .unset, .unset, .unset, .unset, .unset]) rfl k)
    exact seg16 hw C0 p1 p2 p3 p4 (p2 &&& (1073741823 : Int32)) h0 n0 (by omega) X0 e0 N0 (own_n p2)
set_option maxRecDepth 65536 in
set_option maxHeartbeats 40000000 in
theorem comes_1 {Post : Tables → Env → Array Value → State → Outcome → State → Prop} (hpost : ∀ tb e args s v u, (limb_1_1.after args s (.returned v) u = true ∧ limb_1_2.after args s (.returned v) u = true ∧ True) → FrameEnd s (.returned v) u (Jvm.fieldLocs frame_1_writes args s ++ Jvm.arrayLocs frame_1_arrays args s ++ Jvm.staticLocs frame_1_statics s) 16 128 → Post tb e args s (.returned v) u) :
    ArmFor flags0 classFile x code maxLocals ret World_1 tables_1 room_1 Calls_1 rest_1 Pre_1 Post := by
  intro l hfl _ _ p e ha hc hk s m args below hf hA hF happ hP
  obtain ⟨hcalls, hrest, hpre⟩ := hP
  obtain ⟨-, -, -, hnamed, -, -, -, hat⟩ := (Spec.applies_iff hf).mp happ
  obtain ⟨hg, hn⟩ := and_e (Cond.before_iff.mp (show (Jvm.Cond.and given_1 narrow_1).before args s = true from hpre))
  obtain ⟨gc, gr0⟩ := and_e hg
  obtain ⟨ga0, gr1⟩ := and_e gr0
  obtain ⟨ga1, gr2⟩ := and_e gr1
  obtain ⟨ga2, gr3⟩ := and_e gr2
  obtain ⟨w0, w1, w2, w3, rfl⟩ : ∃ w0 w1 w2 w3 : Value, args = #[w0, w1, w2, w3] := by
    have hs : args.size = 4 := by simpa [Cond.value, given_1] using gc
    obtain ⟨L⟩ := args
    match L, hs with
    | [w0, w1, w2, w3], _ => exact ⟨w0, w1, w2, w3, rfl⟩
  have hw := fun d (hd : d ∈ tables_1) => atoms_spec (ws := Jvm.Cond.code x code maxLocals ret :: tables_1) hat d (List.mem_cons_of_mem _ hd)
  have hfit : Fit s := fun {y c} hc i hi => by
    obtain ⟨ha, rfl⟩ := Array.getElem?_eq_some_iff.mp hc
    have q := List.all_eq_true.mp ((Array.all_eq_true_iff_forall_mem.mp hF) _ (Array.getElem_mem ha)) i (List.mem_range.mpr hi)
    simpa [Array.getElem?_eq_getElem hi] using q
  obtain ⟨i0, ei0⟩ := is_v ga0
  obtain rfl : w0 = (.int i0) := Option.some.inj ei0
  obtain ⟨i1, ei1⟩ := is_v ga1
  obtain rfl : w1 = (.int i1) := Option.some.inj ei1
  obtain ⟨i2, ei2⟩ := is_v ga2
  obtain rfl : w2 = (.int i2) := Option.some.inj ei2
  obtain ⟨i3, ei3⟩ := is_v gr3
  obtain rfl : w3 = (.int i3) := Option.some.inj ei3
  obtain ⟨n, o, h1, h2, h3, _, L, rfl, ⟨rfl, N⟩, hq⟩ := rm0 l s _ hw i0 i1 i2 i3  s.heap s.heap.size (Nat.le_refl _)  p e ha hc hk s m _ below hf ((Spec.applies_iff_loose hf).mp happ).1 ⟨rfl, State.Warmed39.refl s, rfl⟩ trivial
  refine ⟨n, _, h1, h2, h3, hpost _ _ _ _ _ _ ⟨Cond.after_iff.mpr rfl, Cond.after_iff.mpr (eq_i res_at (Term.int_eval (1)) rfl), trivial⟩ ⟨hq.1, hq.2.1, (hq.2.2.sift fun y hy => Or.inr (N y hy)).mono (by decide) (by decide)⟩⟩
theorem main_1_1 : Claimed_1_1 := comes_1 fun _ _ _ _ _ _ h hF => ⟨h.1, hF⟩
theorem main_1_2 : Claimed_1_2 := comes_1 fun _ _ _ _ _ _ h hF => ⟨h.2.1, hF⟩
end Jvm.Pilot.@@N@@
namespace Jvm.Pilot.@@N@@
open Jvm Jvm.ClassFile Sem Op Lib Jvm.Free Jvm.Stand Jvm.Pilot.@@N@@.Jvm.D
/-! MADE BY PROGRAM (witnessworld.py) out of the Statement's table words and the real class files: 10 classes; the members and pool entries that the words name. The judged class is class 1, her method 1. -/
namespace start1
open Jvm.ClassFile
def u (s : String) : CpInfo := .utf8 (stringToUtf16 s)
/-- a pool by its gaps: so many unusable entries, then the entry; so many at the end -/
def gap : Nat → List CpInfo → List CpInfo
  | 0, r => r
  | n + 1, r => .unusable :: gap n r
def poolList (es : List (Nat × CpInfo)) (last : Nat) : List CpInfo := es.foldr (fun e r => gap e.1 (e.2 :: r)) (gap last [])
def pool (es : List (Nat × CpInfo)) (last : Nat) : Array CpInfo := ⟨poolList es last⟩
def fileOf (pool : Array CpInfo) (this : Nat) (attrs : Array Attribute := #[]) (ms : Array MethodInfo := #[]) (fl : Nat := 33) (sup : Nat := 0) (ifs : Array Nat := #[]) (fds : Array FieldInfo := #[]) : ClassFile where
  minorVersion := 0
  majorVersion := 65
  constantPool := pool
  accessFlags := fl
  thisClass := this
  superClass := sup
  interfaces := ifs
  fields := fds
  methods := ms
  attributes := attrs
def plain (name : String) (sup : Option ClassId) : Class where
  name := name
  kind := .ordinary
  loader := none
  accessFlags := 33
  super := sup
  interfaces := #[]
  cf := none
  fields := #[]
  methods := #[]
  instanceTypes := #[]
  staticTypes := #[]
  resolved := #[]
  callSites := []
  init := .initialized
  statics := none
  mirror := none

def pool0 : Array CpInfo := pool [(5, u "<init>"), (0, u "()V"), (1, .class_ 10), (1, u "java/lang/Object")] 113

def k0c0 : Code := { maxStack := 0, maxLocals := 1, code := object_method_1_code, exceptionTable := #[], attributes := #[] }
def k0m0 : Method := { name := "<init>", desc := "()V", sig := { parameters := [], returnType := none }, accessFlags := 1, code := some k0c0 }
/-- java/lang/Object -/
def k0 : Class := { plain "java/lang/Object" none with
  accessFlags := 33
  interfaces := #[]
  cf := some (fileOf pool0 8 #[] #[{ accessFlags := 1, nameIndex := 5, descriptorIndex := 6, attributes := #[] }] 33 0 #[] #[])
  fields := #[]
  methods := #[k0m0]
  instanceTypes := #[]
  staticTypes := #[]
  resolved := Array.replicate 124 none
  statics := none }

def pool1 : Array CpInfo := pool [(2, .class_ 4), (1, u "java/lang/Object"), (0, u "<init>"), (0, u "()V"), (0, .integer 1073741823), (0, .long 2147483647), (1, .class_ 11), (0, u "com/example/reticula/reticula/ClusterComparison"), (0, .methodref 10 13), (0, .nameAndType 5 14), (0, u "(III)V"), (0, .methodref 10 16), (0, .nameAndType 17 18), (0, u "distance"), (0, u "()D"), (0, .double 4602678819172646912), (1, .class_ 22), (0, u "com/example/reticula/reticula/ClusterComparisonDistancePinLaw"), (2, u "law"), (0, u "(IIII)Z")] 3

def k1m0 : Method := { name := "<init>", desc := "()V", sig := { parameters := [], returnType := none }, accessFlags := 1, code := none }
def k1c1 : Code := { maxStack := 6, maxLocals := 14, code := code, exceptionTable := #[], attributes := #[] }
def k1m1 : Method := { name := "law", desc := "(IIII)Z", sig := { parameters := [.int, .int, .int, .int], returnType := some .boolean }, accessFlags := 9, code := some k1c1 }
/-- com/example/reticula/reticula/ClusterComparisonDistancePinLaw -/
def k1 : Class := { plain "com/example/reticula/reticula/ClusterComparisonDistancePinLaw" (some 0) with
  accessFlags := 49
  interfaces := #[]
  cf := some (fileOf pool1 21 #[] #[{ accessFlags := 1, nameIndex := 5, descriptorIndex := 6, attributes := #[] }, { accessFlags := 9, nameIndex := 25, descriptorIndex := 26, attributes := #[] }] 49 2 #[] #[])
  fields := #[]
  methods := #[k1m0, k1m1]
  instanceTypes := #[]
  staticTypes := #[]
  resolved := Array.replicate 30 none
  statics := none }

def pool2 : Array CpInfo := pool [(1, .methodref 2 3), (0, .class_ 4), (0, .nameAndType 5 6), (0, u "java/lang/Object"), (0, u "<init>"), (0, u "()V"), (0, .class_ 8), (0, u "java/lang/Record")] 13

def k2c0 : Code := { maxStack := 1, maxLocals := 1, code := jdk_30_method_1_code, exceptionTable := #[], attributes := #[] }
def k2m0 : Method := { name := "<init>", desc := "()V", sig := { parameters := [], returnType := none }, accessFlags := 4, code := some k2c0 }
/-- java/lang/Record -/
def k2 : Class := { plain "java/lang/Record" (some 0) with
  accessFlags := 1057
  interfaces := #[]
  cf := some (fileOf pool2 7 #[] #[{ accessFlags := 4, nameIndex := 5, descriptorIndex := 6, attributes := #[] }] 1057 2 #[] #[])
  fields := #[]
  methods := #[k2m0]
  instanceTypes := #[]
  staticTypes := #[]
  resolved := Array.replicate 22 none
  statics := none }

def pool3 : Array CpInfo := pool [(1, .methodref 2 3), (0, .class_ 4), (0, .nameAndType 5 6), (0, u "java/lang/Record"), (0, u "<init>"), (0, u "()V"), (0, .fieldref 8 9), (0, .class_ 10), (0, .nameAndType 11 12), (0, u "com/example/reticula/reticula/ClusterComparison"), (0, u "inFirst"), (0, u "I"), (0, .fieldref 8 14), (0, .nameAndType 15 12), (0, u "onlyInFirst"), (0, .fieldref 8 17), (0, .nameAndType 18 12), (0, u "onlyInSecond"), (74, u "(III)V"), (47, .double 4611686018427387904), (24, u "distance"), (0, u "()D")] 24

def k3c0 : Code := { maxStack := 2, maxLocals := 4, code := prog_4_method_1_code, exceptionTable := #[], attributes := #[] }
def k3m0 : Method := { name := "<init>", desc := "(III)V", sig := { parameters := [.int, .int, .int], returnType := none }, accessFlags := 0, code := some k3c0 }
def k3c1 : Code := { maxStack := 6, maxLocals := 1, code := prog_4_method_4_code, exceptionTable := #[], attributes := #[] }
def k3m1 : Method := { name := "distance", desc := "()D", sig := { parameters := [], returnType := some .double }, accessFlags := 0, code := some k3c1 }
/-- com/example/reticula/reticula/ClusterComparison -/
def k3 : Class := { plain "com/example/reticula/reticula/ClusterComparison" (some 2) with
  accessFlags := 48
  interfaces := #[]
  cf := some (fileOf pool3 8 #[] #[{ accessFlags := 0, nameIndex := 5, descriptorIndex := 93, attributes := #[] }, { accessFlags := 0, nameIndex := 166, descriptorIndex := 167, attributes := #[] }] 48 2 #[] #[{ accessFlags := 18, nameIndex := 11, descriptorIndex := 12, attributes := #[] }, { accessFlags := 18, nameIndex := 15, descriptorIndex := 12, attributes := #[] }, { accessFlags := 18, nameIndex := 18, descriptorIndex := 12, attributes := #[] }])
  fields := #[{ name := "inFirst", type := .int, accessFlags := 18, slot := 0, constantValue := 0 }, { name := "onlyInFirst", type := .int, accessFlags := 18, slot := 1, constantValue := 0 }, { name := "onlyInSecond", type := .int, accessFlags := 18, slot := 2, constantValue := 0 }]
  methods := #[k3m0, k3m1]
  instanceTypes := #[.int, .int, .int]
  staticTypes := #[]
  resolved := Array.replicate 192 none
  statics := none }

def pool4 : Array CpInfo := pool [(1, u "java/lang/Cloneable"), (0, .class_ 1), (0, u "java/lang/Object"), (0, .class_ 3)] 3

/-- java/lang/Cloneable -/
def k4 : Class := { plain "java/lang/Cloneable" (some 0) with
  accessFlags := 1537
  interfaces := #[]
  cf := some (fileOf pool4 2 #[] #[] 1537 4 #[] #[])
  fields := #[]
  methods := #[]
  instanceTypes := #[]
  staticTypes := #[]
  resolved := Array.replicate 8 none
  statics := none }

def pool5 : Array CpInfo := pool [(1, u "java/io/Serializable"), (0, .class_ 1), (0, u "java/lang/Object"), (0, .class_ 3)] 3

/-- java/io/Serializable -/
def k5 : Class := { plain "java/io/Serializable" (some 0) with
  accessFlags := 1537
  interfaces := #[]
  cf := some (fileOf pool5 2 #[] #[] 1537 4 #[] #[])
  fields := #[]
  methods := #[]
  instanceTypes := #[]
  staticTypes := #[]
  resolved := Array.replicate 8 none
  statics := none }

/-- the primitive byte -/
def k6 : Class := { plain "byte" none with kind := .primitive 'B', accessFlags := 0x411 }
/-- [B -/
def k7 : Class := { plain "[B" (some 0) with kind := .array 6 .byte, interfaces := #[4, 5], accessFlags := 1041 }

/-- the primitive int -/
def k8 : Class := { plain "int" none with kind := .primitive 'I', accessFlags := 0x411 }
/-- [I -/
def k9 : Class := { plain "[I" (some 0) with kind := .array 8 .int, interfaces := #[4, 5], accessFlags := 1041 }

def heap : Heap := #[]
def classes : Array Class := #[k0, k1, k2, k3, k4, k5, k6, k7, k8, k9]
def interned : List (Array UInt16 × Addr) := []
def slotsUsed : Nat := 0
def theMethod : MethodId := ⟨1, 1⟩
def args0 : Array Value := #[.int 5, .int 6, .int 7, .int 8]
def aboutOver (below : List Frame) : State where
  vm := { classes := classes, interned := interned.toArray }
  heap := heap
  slotsUsed := slotsUsed
  threads := #[{ frames := .invoking theMethod args0 :: below }]
def below0 : List Frame := [.native { method := ⟨0, 0⟩, args := #[] }]
def about1 : State := aboutOver below0
def p0 : Program := .bare "" "" ""
def e0 : Env := launch0.env 0 0 0
theorem w_frames : about1.frames = Frame.invoking theMethod args0 :: below0 := rfl
set_option maxRecDepth 65536 in
theorem w_args : argsFit about1.vm theMethod args0 = true := by decide +kernel
set_option maxRecDepth 65536 in
theorem w_heap : heapFits about1 = true := by decide +kernel
set_option maxRecDepth 65536 in
theorem w_runnable : about1.curStatus? = some .runnable := by decide +kernel
set_option maxRecDepth 65536 in
theorem w_alone : about1.alone = true := by decide +kernel
set_option maxRecDepth 65536 in
theorem w_named : about1.methodNamed? x = some theMethod := by decide +kernel
set_option maxRecDepth 65536 in
theorem w_hears : about1.hears theMethod below0 = true := by decide +kernel
set_option maxRecDepth 65536 in
theorem w_ripe : about1.ripe theMethod args0 below0 = true := by decide +kernel
theorem w_running : about1.status = .running := rfl
set_option maxRecDepth 65536 in
theorem w_room : about1.hasRoom e0.platform room_1 = true :=
  launch0.hasRoom_least _ room_1 (by decide +kernel) (by decide +kernel) (by decide +kernel) (by decide +kernel) (by decide +kernel) (by decide +kernel)
theorem allAtoms_all (ts : List Jvm.Cond) (a : Array Jvm.Value) (st : Jvm.State) : (allAtoms ts).before a st = ts.all (fun c => c.before a st) := by
  induction ts with
  | nil => rfl
  | cons c t ih =>
    show (Jvm.Cond.and c (allAtoms t)).before a st = _
    rw [Jvm.Cond.before_and, ih, List.all_cons]
def words1 : List Jvm.Cond := Jvm.Cond.code x code maxLocals ret :: tables_1
/-- a 'code' word, met by the world's own term for the bytes: nothing is compared byte by byte -/
theorem code_word {y : MethodName} {bytes : ByteArray} {mx : Nat} {rt : Option FieldType} {a : Array Value} {s : State} {m : MethodId} {meth : Method} {c : Code} (h1 : s.methodNamed? y = some m) (h2 : s.vm.method? m = some meth) (h3 : meth.code = some c) (h4 : c.code = bytes)
    (h5 : (c.maxLocals == mx && c.exceptionTable.isEmpty && decide (c.maxStack ≤ mostOperands) && decide (meth.sig.returnType = rt) && !meth.locks && decide (parseMethodDescriptor y.desc = some meth.sig)) = true) : (Jvm.Cond.code y bytes mx rt).before a s = true := by
  simp only [Bool.and_eq_true, beq_iff_eq, Bool.not_eq_true', decide_eq_true_eq] at h5
  obtain ⟨⟨⟨⟨⟨g1, g2⟩, g3⟩, g4⟩, g5⟩, g6⟩ := h5
  simp [Cond.before, Cond.holds, Cond.value, h1, h2, h3, h4, g1, g2, g3, g4, g5, g6]
def isCode : Jvm.Cond → Bool
  | .code _ _ _ _ => true
  | _ => false
theorem all_split {L : List Jvm.Cond} {P : Jvm.Cond → Bool} (h1 : L.all (fun c => isCode c || P c) = true) (h2 : ∀ c ∈ L.filter isCode, P c = true) : L.all P = true := by
  refine List.all_eq_true.mpr fun c hc => ?_
  have h := List.all_eq_true.mp h1 c hc
  rcases Bool.eq_false_or_eq_true (isCode c) with hi | hi
  · exact h2 c (List.mem_filter.mpr ⟨hc, hi⟩)
  · simpa [hi] using h
set_option maxRecDepth 65536 in
theorem w_c0 : (Jvm.Cond.code x code maxLocals ret).before args0 about1 = true := code_word (m := ⟨1, 1⟩) (meth := k1m1) (c := k1c1) (by decide +kernel) rfl rfl rfl (by decide +kernel)
set_option maxRecDepth 65536 in
theorem w_c1 : (Jvm.Cond.code ({ cls := "com/example/reticula/reticula/ClusterComparison", name := "<init>", desc := "(III)V" } : Jvm.MethodName) prog_4_method_1_code (4 : Nat) (Option.none : Option Jvm.ClassFile.FieldType)).before args0 about1 = true := code_word (m := ⟨3, 0⟩) (meth := k3m0) (c := k3c0) (by decide +kernel) rfl rfl rfl (by decide +kernel)
set_option maxRecDepth 65536 in
theorem w_c2 : (Jvm.Cond.code ({ cls := "java/lang/Record", name := "<init>", desc := "()V" } : Jvm.MethodName) jdk_30_method_1_code (1 : Nat) (Option.none : Option Jvm.ClassFile.FieldType)).before args0 about1 = true := code_word (m := ⟨2, 0⟩) (meth := k2m0) (c := k2c0) (by decide +kernel) rfl rfl rfl (by decide +kernel)
set_option maxRecDepth 65536 in
theorem w_c3 : (Jvm.Cond.code ({ cls := "java/lang/Object", name := "<init>", desc := "()V" } : Jvm.MethodName) object_method_1_code (1 : Nat) (Option.none : Option Jvm.ClassFile.FieldType)).before args0 about1 = true := code_word (m := ⟨0, 0⟩) (meth := k0m0) (c := k0c0) (by decide +kernel) rfl rfl rfl (by decide +kernel)
set_option maxRecDepth 65536 in
theorem w_c4 : (Jvm.Cond.code ({ cls := "com/example/reticula/reticula/ClusterComparison", name := "distance", desc := "()D" } : Jvm.MethodName) prog_4_method_4_code (1 : Nat) (Option.some Jvm.ClassFile.FieldType.double)).before args0 about1 = true := code_word (m := ⟨3, 1⟩) (meth := k3m1) (c := k3c1) (by decide +kernel) rfl rfl rfl (by decide +kernel)
def codes1 : List Jvm.Cond := [Jvm.Cond.code x code maxLocals ret, Jvm.Cond.code ({ cls := "com/example/reticula/reticula/ClusterComparison", name := "<init>", desc := "(III)V" } : Jvm.MethodName) prog_4_method_1_code (4 : Nat) (Option.none : Option Jvm.ClassFile.FieldType), Jvm.Cond.code ({ cls := "java/lang/Record", name := "<init>", desc := "()V" } : Jvm.MethodName) jdk_30_method_1_code (1 : Nat) (Option.none : Option Jvm.ClassFile.FieldType), Jvm.Cond.code ({ cls := "java/lang/Object", name := "<init>", desc := "()V" } : Jvm.MethodName) object_method_1_code (1 : Nat) (Option.none : Option Jvm.ClassFile.FieldType), Jvm.Cond.code ({ cls := "com/example/reticula/reticula/ClusterComparison", name := "distance", desc := "()D" } : Jvm.MethodName) prog_4_method_4_code (1 : Nat) (Option.some Jvm.ClassFile.FieldType.double)]
set_option maxRecDepth 65536 in
theorem codes_eq : words1.filter isCode = codes1 := rfl
theorem w_codes : ∀ c ∈ words1.filter isCode, c.before args0 about1 = true := by
  rw [codes_eq]
  intro c hc
  simp only [codes1, List.mem_cons, List.not_mem_nil, or_false] at hc
  rcases hc with rfl | rfl | rfl | rfl | rfl
  · exact w_c0
  · exact w_c1
  · exact w_c2
  · exact w_c3
  · exact w_c4
set_option maxRecDepth 65536 in
theorem w_t1 : (words1.take 24).all (fun c => isCode c || c.before args0 about1) = true := by decide +kernel
set_option maxRecDepth 65536 in
theorem w_t2 : (words1.drop 24).all (fun c => isCode c || c.before args0 about1) = true := by decide +kernel
theorem w_tables : (allAtoms (Jvm.Cond.code x code maxLocals ret :: tables_1)).before args0 about1 = true := by
  rw [allAtoms_all]
  show words1.all (fun c => c.before args0 about1) = true
  refine all_split ?_ w_codes
  rw [← List.take_append_drop 24 words1, List.all_append, w_t1, w_t2]
  rfl
set_option maxRecDepth 65536 in
theorem w_case : (Jvm.Cond.and given_1 narrow_1).before args0 about1 = true := by decide +kernel
theorem w_applies : (headSpec (Jvm.Cond.code x code maxLocals ret :: tables_1) room_1).applies x e0.platform about1 = true :=
  (Spec.applies_iff w_frames).mpr ⟨w_running, w_runnable, w_alone, w_named, w_hears, w_ripe, w_room, w_tables⟩
theorem atStart : AtStart classFile x code maxLocals ret World_1 tables_1 room_1 Calls_1 rest_1 Pre_1 launch0 p0 e0 about1 theMethod args0 below0 :=
  ⟨lists_1, trivial, launch0.admits_env _ _ _, launch0.least_env, fairChoices_fair.cas, fairChoices_fair.clock, w_frames, w_args, w_heap, w_applies, trivial, trivial, w_case⟩
end start1
theorem witness_1 : WitnessClaimed_1 := ⟨start1.p0, start1.e0, start1.about1, start1.theMethod, start1.args0, start1.below0, start1.atStart⟩
end Jvm.Pilot.@@N@@
