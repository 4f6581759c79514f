import JvmDerived
import JvmDerived.Pilot.@@N@@Statement
import JvmDerived.Pilot.@@N@@Code
set_option linter.unusedVariables false
set_option linter.unusedSimpArgs false
@@BLOCK:NumsL.lean.txt@@
namespace Jvm.Pilot.@@N@@
open Jvm Jvm.ClassFile Sem Op Lib Jvm.Free Jvm.Stand Jvm.LawKit Jvm.RoadKit Bundle Jvm.Pilot.@@N@@.Jvm.D
section Own
variable {p : Program} {l : Launch} {e : Env} {R : Room} {s : State} {m : MethodId} {args : Array Value} {below : List Frame} {meth : Method} {c : Code} {T T' : State} {locs : List Loc} {cells slots : Nat} {g g' : JFrame} {Q : Option Value → Heap → List Loc → Nat → Nat → Prop} {Z : State} {a0 : Array Value} {h : Heap}
/-- from this frame, in this state, the run comes to a return, and what it leaves meets Q -/
def Goal (p : Program) (l : Launch) (e : Env) (R : Room) (s : State) (m : MethodId) (args : Array Value) (below : List Frame) (meth : Method) (c : Code) (Q : Option Value → Heap → List Loc → Nat → Nat → Prop) (T : State) (g : JFrame) : Prop :=
  ∃ v U L k n, Stand p l e R s m args below meth c U L k n ∧ (meth.sig.returnType = none → v = none) ∧ Q v U.heap L k n ∧
    ∀ fs, (∀ (f : JFrame) (acts : List Action), f.method = m → f.locked = none → f.entered = [] → (doReturn e (U.setTop f) acts v).1 = U.setFrames fs) → Steps p.tables e below (T.setTop g) (U.setFrames fs)
theorem Goal.step (h : Goal p l e R s m args below meth c Q T' g') (st : ∀ t, Steps p.tables e below (T'.setTop g') t → Steps p.tables e below (T.setTop g) t) : Goal p l e R s m args below meth c Q T g := by
  obtain ⟨v, U, L, k, n, X, hv, hq, hs⟩ := h
  exact ⟨v, U, L, k, n, X, hv, hq, fun fs hl => st _ (hs fs hl)⟩
theorem Goal.imp {Q' : Option Value → Heap → List Loc → Nat → Nat → Prop} (h : Goal p l e R s m args below meth c Q T g) (q : ∀ v h L k n, Q v h L k n → Q' v h L k n) : Goal p l e R s m args below meth c Q' T g := by
  obtain ⟨v, U, L, k, n, X, hv, hq, hs⟩ := h
  exact ⟨v, U, L, k, n, X, hv, q _ _ _ _ _ hq, hs⟩
theorem Goal.retN (X : Stand p l e R s m args below meth c T locs cells slots) (hx : p.tables.exec = Jvm.exec) {pc : Nat} {Ls : Array Slot} {z : Int32} {t : FieldType} {rest : List Value} (hret : meth.sig.returnType = some t) (ht : t = .boolean ∨ t = .byte ∨ t = .char ∨ t = .short)
    (hd : decode c.code pc = .ok (.ireturn, 1)) (hq : Q (some (.int (nar t z))) T.heap locs cells slots) : Goal p l e R s m args below meth c Q T (mkF m pc Ls (.int z :: rest)) :=
  ⟨_, T, _, _, _, X, fun q => (by rw [hret] at q; cases q), hq, fun fs hl => Jvm.RoadKit.retN X hx hret ht hd hl⟩
theorem Goal.retI (X : Stand p l e R s m args below meth c T locs cells slots) (hx : p.tables.exec = Jvm.exec) {pc : Nat} {Ls : Array Slot} {z : Int32} {rest : List Value} (hret : meth.sig.returnType = some .int)
    (hd : decode c.code pc = .ok (.ireturn, 1)) (hq : Q (some (.int z)) T.heap locs cells slots) : Goal p l e R s m args below meth c Q T (mkF m pc Ls (.int z :: rest)) :=
  ⟨_, T, _, _, _, X, fun q => (by rw [hret] at q; cases q), hq, fun fs hl => retOut X hx hret rfl (Or.inl ⟨rfl, Or.inl rfl, _, rfl⟩) hd hl⟩
theorem Goal.retJ (X : Stand p l e R s m args below meth c T locs cells slots) (hx : p.tables.exec = Jvm.exec) {pc : Nat} {Ls : Array Slot} {z : Int64} {rest : List Value} (hret : meth.sig.returnType = some .long)
    (hd : decode c.code pc = .ok (.lreturn, 1)) (hq : Q (some (.long z)) T.heap locs cells slots) : Goal p l e R s m args below meth c Q T (mkF m pc Ls (.long z :: rest)) :=
  ⟨_, T, _, _, _, X, fun q => (by rw [hret] at q; cases q), hq, fun fs hl => retOut X hx hret rfl (Or.inr (Or.inl ⟨rfl, rfl, _, rfl⟩)) hd hl⟩
theorem Goal.retD (X : Stand p l e R s m args below meth c T locs cells slots) (hx : p.tables.exec = Jvm.exec) {pc : Nat} {Ls : Array Slot} {z : UInt64} {rest : List Value} (hret : meth.sig.returnType = some .double)
    (hd : decode c.code pc = .ok (.dreturn, 1)) (hq : Q (some (.double z)) T.heap locs cells slots) : Goal p l e R s m args below meth c Q T (mkF m pc Ls (.double z :: rest)) :=
  ⟨_, T, _, _, _, X, fun q => (by rw [hret] at q; cases q), hq, fun fs hl => retOut X hx hret rfl (Or.inr (Or.inr (Or.inl ⟨rfl, rfl, _, rfl⟩))) hd hl⟩
theorem Goal.retA (X : Stand p l e R s m args below meth c T locs cells slots) (hx : p.tables.exec = Jvm.exec) {pc : Nat} {Ls : Array Slot} {w : Value} {t : FieldType} {rest : List Value} (hret : meth.sig.returnType = some t) (ht : t.isReference = true) (hn : narrow t w = w) (hw : w.isRef = true)
    (hd : decode c.code pc = .ok (.areturn, 1)) (hq : Q (some w) T.heap locs cells slots) : Goal p l e R s m args below meth c Q T (mkF m pc Ls (w :: rest)) :=
  ⟨_, T, _, _, _, X, fun q => (by rw [hret] at q; cases q), hq, fun fs hl => retOut X hx hret hn (Or.inr (Or.inr (Or.inr (Or.inr ⟨rfl, ht, hw⟩)))) hd hl⟩
theorem Goal.retV (X : Stand p l e R s m args below meth c T locs cells slots) (hx : p.tables.exec = Jvm.exec) {pc : Nat} {Ls : Array Slot} (hret : meth.sig.returnType = none)
    (hd : decode c.code pc = .ok (.return_, 1)) (hq : Q none T.heap locs cells slots) : Goal p l e R s m args below meth c Q T (mkF m pc Ls []) :=
  ⟨_, T, _, _, _, X, fun _ => rfl, hq, fun fs hl => X.returnOut hx hret hd hl⟩
/-- what a walk knows of where it runs -/
def Ctx (p : Program) (s : State) (m : MethodId) (meth : Method) (c : Code) (Z : State) (bytes : ByteArray) (maxL : Nat) (ret : Option FieldType) (own nm : String) : Prop :=
  p.tables.exec = Jvm.exec ∧ Z.Warmed39 s.vm ∧ c.code = bytes ∧ c.maxLocals = maxL ∧ meth.sig.returnType = ret ∧ s.vm.findClass own = some m.cls ∧ meth.name = nm
/-- a body's contract: called with as' at the heap h0, it returns, and what it leaves meets Q -/
def Met (l : Launch) (y : MethodName) (bytes : ByteArray) (maxL : Nat) (ret : Option FieldType) (ws : List Jvm.Cond) (rm : Room) (Z : State) (as' : Array Value) (h0 : Heap) (Q : Option Value → Heap → List Loc → Prop) : Prop :=
  MetFree l y (head1 (Jvm.Cond.code y bytes maxL ret :: ws) rm) (fun a U => a = as' ∧ Z.Warmed39 U.vm ∧ U.heap = h0) (fun _ _ _ _ _ => True) (fun _ U o U' => ∃ v L, o = .returned v ∧ Q v U'.heap L ∧ FrameEnd U o U' L rm.cells rm.slots)
/-- Q within the room -/
def In (rm : Room) (Q : Option Value → Heap → List Loc → Prop) (v : Option Value) (h : Heap) (L : List Loc) (k n : Nat) : Prop := Q v h L ∧ k ≤ rm.cells ∧ n ≤ rm.slots
theorem of_goal {y : MethodName} {bytes : ByteArray} {maxL : Nat} {ret : Option FieldType} {ws : List Jvm.Cond} {rm : Room} {as' : Array Value} {h0 : Heap} {Q : Option Value → Heap → List Loc → Prop} (hpl : plainFor y = true)
    (body : ∀ (p : Program) (e : Env) (s : State) (m : MethodId) (below : List Frame) (meth : Method) (c : Code) (s₁ : State), Ctx p s m meth c Z bytes maxL ret y.cls y.name → Stand p l e rm s m as' below meth c s₁ [] 0 0 → s₁.heap = h0 →
      Goal p l e rm s m as' below meth c (In rm Q) s₁ (entryFrame m as' maxL)) : Met l y bytes maxL ret ws rm Z as' h0 Q := by
  refine MetFree.of_bodySF hpl hisR ?_
  intro p e s m args below meth c s₁ Bd hml0 hP hK
  obtain ⟨rfl, hZ, hh⟩ := hP
  have X0 : Stand p l e rm s m _ below meth c s₁ [] 0 0 := Stand.of_body Bd
  have e0 : s₁.heap = h0 := by rw [← hh, Bd.state]; rfl
  obtain ⟨v, U, L, k, n, X, hv, ⟨hq, hk, hn⟩, hs⟩ := body p e s m below meth c s₁ ⟨Bd.exec, hZ, Bd.bytes, hml0, Bd.returns, findClass_of_methodNamed Bd.named, (name_of_methodNamed Bd.named Bd.method).1⟩ X0 e0
  obtain ⟨fs, hr, hrun, hended, hW, hsame⟩ := X.leave (v := v) hv
  exact ⟨_, _, hs fs hr, hrun, hended, _, _, rfl, hq, ⟨_, rfl⟩, hW, hsame.mono hk hn⟩
variable {own : String} {index maxL : Nat} {y z : MethodName} {bytes : ByteArray} {ret : Option FieldType} {rm : Room} {as' : Array Value} {Qc : Option Value → Heap → List Loc → Prop}
theorem callStatic (X : Stand p l e R s m args below meth c T locs cells slots) (hx : p.tables.exec = Jvm.exec) (hZ : Z.Warmed39 s.vm) (hown : s.vm.findClass own = some m.cls)
    (w1 : (Cond.methodLink own index y).before a0 Z = true) (w2 : (Cond.static y).before a0 Z = true) (w3 : (Cond.initialized y.cls).before a0 Z = true) (w4 : (Cond.code y bytes maxL ret).before a0 Z = true)
    (hy : y.cls ≠ "java/lang/invoke/MethodHandle" ∧ y.cls ≠ "java/lang/invoke/VarHandle") (hM : Met l y bytes maxL ret [] rm Z as' h Qc) (eT : T.heap = h) {W : Nat} (hf : rm.frames + 1 ≤ R.frames) (hl : W + (maxL + 11) + rm.locals ≤ R.locals)
    (hc : cells + rm.cells ≤ R.cells) (hs : slots + rm.slots ≤ R.slots)
    {g : JFrame} (hg : g.method = m) (hsize : g.locals.size = c.maxLocals) {argsL rest : List Value} (hlen : ∀ sig, parseMethodDescriptor y.desc = some sig → argsL.length = sig.parameters.length)
    (hstack : g.stack = argsL.reverse ++ rest) (hW : 2 * g.monitorRoom + (rest.map fun v => v.category).sum ≤ W) (hdg : decode c.code g.pc = .ok (.invokestatic index, 3)) (has : argsL.toArray = as') :
    ∃ v T' h' L, Stand p l e R s m args below meth c T' (locs ++ L) (cells + rm.cells) (slots + rm.slots) ∧ T'.heap = h' ∧ Qc v h' L ∧ ∀ target, Steps p.tables e below (T'.setTop { g with pc := g.pc + 3, stack := v.toList ++ rest }) target → Steps p.tables e below (T.setTop g) target := by
  subst has
  obtain ⟨v, _, ⟨T', L', k', n'⟩, -, X', ⟨Lc, hQ, l1, y1, z1⟩, st⟩ := Jvm.LawKit.callS X hx (y := y) hown (mvT hZ w1) (mvT hZ w2) (mvT hZ w3) (mvT hZ w4) hy (backOf (W := W) hM hZ w4 w3 hf hl) (g := g) hg hsize (argsL := argsL) (rest := rest) hlen hstack hW hdg (fun _ _ => ⟨rfl, eT, hc, hs⟩)
  dsimp only [Pt.U, Pt.locs, Pt.cells, Pt.slots] at X' l1 y1 z1 st hQ
  subst l1 y1 z1
  exact ⟨v, T', _, Lc, X', rfl, hQ, st⟩
theorem callInit (X : Stand p l e R s m args below meth c T locs cells slots) (hx : p.tables.exec = Jvm.exec) (hZ : Z.Warmed39 s.vm) (hown : s.vm.findClass own = some m.cls) (hy1 : y.name = "<init>")
    (w1 : (Cond.methodLink own index y).before a0 Z = true) (w2 : (Cond.instanceMethod y).before a0 Z = true) (w3 : (Cond.initialized y.cls).before a0 Z = true) (w4 : (Cond.code y bytes maxL none).before a0 Z = true)
    (hy : y.cls ≠ "java/lang/invoke/MethodHandle" ∧ y.cls ≠ "java/lang/invoke/VarHandle") (hM : Met l y bytes maxL none [] rm Z as' h Qc) (eT : T.heap = h) {W : Nat} (hf : rm.frames + 1 ≤ R.frames) (hl : W + (maxL + 11) + rm.locals ≤ R.locals)
    (hc : cells + rm.cells ≤ R.cells) (hs : slots + rm.slots ≤ R.slots)
    {g : JFrame} (hg : g.method = m) (hsize : g.locals.size = c.maxLocals) {a : Addr} {argsL rest : List Value} (hlen : ∀ sig, parseMethodDescriptor y.desc = some sig → argsL.length = sig.parameters.length)
    (hstack : g.stack = argsL.reverse ++ .ref a :: rest) (hW : 2 * g.monitorRoom + (rest.map fun v => v.category).sum ≤ W) (hdg : decode c.code g.pc = .ok (.invokespecial index, 3)) (has : (Value.ref a :: argsL).toArray = as') :
    ∃ v T' h' L, Stand p l e R s m args below meth c T' (locs ++ L) (cells + rm.cells) (slots + rm.slots) ∧ T'.heap = h' ∧ Qc v h' L ∧ ∀ target, Steps p.tables e below (T'.setTop { g with pc := g.pc + 3, stack := v.toList ++ rest }) target → Steps p.tables e below (T.setTop g) target := by
  subst has
  obtain ⟨v, _, ⟨T', L', k', n'⟩, -, X', ⟨Lc, hQ, l1, y1, z1⟩, st⟩ := X.specialBack hx (y := y) hy1 hown (mvT hZ w1) (mvT hZ w2) (mvT hZ w4) hy (backOf (W := W) hM hZ w4 w3 hf hl) (g := g) hg hsize (Steps.refl _) (a := a) (argsL := argsL) (rest := rest) hlen hstack hW hdg (fun _ _ => ⟨rfl, eT, hc, hs⟩)
  dsimp only [Pt.U, Pt.locs, Pt.cells, Pt.slots] at X' l1 y1 z1 st hQ
  subst l1 y1 z1
  exact ⟨v, T', _, Lc, X', rfl, hQ, fun t k => st.trans k⟩
theorem callVirt (X : Stand p l e R s m args below meth c T locs cells slots) (hx : p.tables.exec = Jvm.exec) (hZ : Z.Warmed39 s.vm) (hown : s.vm.findClass own = some m.cls) {C : String}
    (w1 : (Cond.methodLink own index y).before a0 Z = true) (w2 : (Cond.declares y).before a0 Z = true) (hnf : NotFace s y) (w5 : (Cond.selects C y z).before a0 Z = true) (w6 : (Cond.instanceMethod z).before a0 Z = true) (w3 : (Cond.initialized z.cls).before a0 Z = true) (w4 : (Cond.code z bytes maxL ret).before a0 Z = true)
    (hy : y.cls ≠ "java/lang/invoke/MethodHandle" ∧ y.cls ≠ "java/lang/invoke/VarHandle") (hM : Met l z bytes maxL ret [] rm Z as' h Qc) (eT : T.heap = h) {a : Addr} (E : Exa Z h a C) {W : Nat} (hf : rm.frames + 1 ≤ R.frames) (hl : W + (maxL + 11) + rm.locals ≤ R.locals)
    (hc : cells + rm.cells ≤ R.cells) (hs : slots + rm.slots ≤ R.slots)
    {g : JFrame} (hg : g.method = m) (hsize : g.locals.size = c.maxLocals) {argsL rest : List Value} (hlen : ∀ sig, parseMethodDescriptor y.desc = some sig → argsL.length = sig.parameters.length)
    (hstack : g.stack = argsL.reverse ++ .ref a :: rest) (hW : 2 * g.monitorRoom + (rest.map fun v => v.category).sum ≤ W) (hdg : decode c.code g.pc = .ok (.invokevirtual index, 3)) (has : (Value.ref a :: argsL).toArray = as') :
    ∃ v T' h' L, Stand p l e R s m args below meth c T' (locs ++ L) (cells + rm.cells) (slots + rm.slots) ∧ T'.heap = h' ∧ Qc v h' L ∧ ∀ target, Steps p.tables e below (T'.setTop { g with pc := g.pc + 3, stack := v.toList ++ rest }) target → Steps p.tables e below (T.setTop g) target := by
  subst has
  obtain ⟨cq, kq, qa, qb, qc⟩ := isOf hZ eT E
  obtain ⟨v, _, ⟨T', L', k', n'⟩, -, X', ⟨Lc, hQ, l1, y1, z1⟩, st⟩ := X.virtualBack hx (y := y) (z := z) hown (mvT hZ w1) (mvT hZ w2) hnf (mvT hZ w5) (mvT hZ w6) hy (backOf (W := W) hM hZ w4 w3 hf hl) qa qc (g := g) hg hsize (Steps.refl _) (argsL := argsL) (rest := rest) hlen hstack hW hdg (fun _ _ => ⟨rfl, eT, hc, hs⟩)
  dsimp only [Pt.U, Pt.locs, Pt.cells, Pt.slots] at X' l1 y1 z1 st hQ
  subst l1 y1 z1
  exact ⟨v, T', _, Lc, X', rfl, hQ, fun t k => st.trans k⟩
theorem nne {x y : Nat} (q : ¬ x = y) : @Ne Addr x y := q
end Own

def wv : Value → Int32
  | .int w => w
  | _ => 0
def pl (hs1 hs2 : List (Int32 × Value)) (k : Int32) (r : Nat) : Int32 := if k < 0 then -1 else if getH hs1 [] .null k.toNatClampNeg = .ref r then wv (getH hs2 [] (.int (0 : Int32)) k.toNatClampNeg) else -1
def expd (f11 f12 f13 k i j p1 p2 : Int32) : Int32 := if k < 0 then -1 else if ¬ f12 = 0 ∧ k = j then (if f13 = 0 then -1 else p2) else if ¬ f11 = 0 ∧ k = i then (if f13 = 0 then p1 else -1) else -1
def good1 (hs : List (Int32 × Value)) : Prop := ∀ k : Int32, (getH hs [] .null k.toNatClampNeg).isRef = true
def good2 (hs : List (Int32 × Value)) : Prop := ∀ k : Int32, getH hs [] (.int (0 : Int32)) k.toNatClampNeg = .int (wv (getH hs [] (.int (0 : Int32)) k.toNatClampNeg))
theorem good1_nil : good1 [] := fun k => by simp [getH, Value.isRef]
theorem good1_cons {i : Int32} {a : Nat} {hs : List (Int32 × Value)} (h : good1 hs) : good1 ((i, .ref a) :: hs) := fun k => by
  simp only [getH]; split
  · rfl
  · exact h k
theorem good2_nil : good2 [] := fun k => by simp [getH, wv]
theorem good2_cons {i p : Int32} {hs : List (Int32 × Value)} (h : good2 hs) : good2 ((i, .int p) :: hs) := fun k => by
  simp only [getH]; split
  · rfl
  · exact h k
theorem own_mask (x : Int32) : ¬ (x &&& 1023) < 0 ∧ (x &&& 1023) < (1024 : Int32) := by
  have e : (x &&& 1023).toInt = x.toInt % 2 ^ 10 := Jvm.Kit.i32_mask x 1023 (k := 10) (by decide) (by decide)
  have h0 : (0 : Int32).toInt = 0 := by decide
  have h1 : (1024 : Int32).toInt = 1024 := by decide
  simp only [Int32.lt_iff_toInt_lt, h0, h1, e]
  omega
theorem own_neg (x : Int32) : x ||| (-2147483648) < 0 := by
  rw [Jvm.Free.XT.neg32, Int32.toBitVec_or, BitVec.msb_or]
  have : (-2147483648 : Int32).toBitVec.msb = true := by decide
  rw [this, Bool.or_true]
theorem nil1 (k : Int32) : getH [] [] .null k.toNatClampNeg = .null := by simp [getH]
theorem fin00 (a b : Nat) (i j p1 p2 f11 f12 : Int32) (h11 : f11 = 0) (h12 : f12 = 0) (k f : Int32) : pl [] [] k (if f = 0 then a else b) = expd f11 f12 f k i j p1 p2 := by
  unfold pl expd
  by_cases hk : k < 0
  · rw [if_pos hk, if_pos hk]
  · rw [if_neg hk, if_neg hk, nil1, if_neg (by simp), if_neg (fun q => q.1 h12), if_neg (fun q => q.1 h11)]
theorem fin10 (a b : Nat) (hab : a ≠ b) (i j p1 p2 f11 f12 : Int32) (h11 : ¬ f11 = 0) (h12 : f12 = 0) (k f : Int32) : pl [(i, .ref a)] [(i, .int p1)] k (if f = 0 then a else b) = expd f11 f12 f k i j p1 p2 := by
  unfold pl expd
  by_cases hk : k < 0
  · rw [if_pos hk, if_pos hk]
  · rw [if_neg hk, if_neg hk, if_neg (fun q : ¬ f12 = 0 ∧ k = j => q.1 h12)]
    by_cases hi : k = i
    · rw [getH_hit hk hi, getH_hit hk hi, if_pos (show ¬ f11 = 0 ∧ k = i from ⟨h11, hi⟩)]
      by_cases hf : f = 0
      · rw [if_pos hf, if_pos hf, if_pos rfl]; rfl
      · rw [if_neg hf, if_neg hf, if_neg (fun q => hab (Value.ref.inj q))]
    · rw [getH_miss hk hi (nil1 k), if_neg (by simp), if_neg (fun q => hi q.2)]
theorem fin01 (a b : Nat) (hab : a ≠ b) (i j p1 p2 f11 f12 : Int32) (h11 : f11 = 0) (h12 : ¬ f12 = 0) (k f : Int32) : pl [(j, .ref b)] [(j, .int p2)] k (if f = 0 then a else b) = expd f11 f12 f k i j p1 p2 := by
  unfold pl expd
  by_cases hk : k < 0
  · rw [if_pos hk, if_pos hk]
  · rw [if_neg hk, if_neg hk]
    by_cases hi : k = j
    · rw [getH_hit hk hi, getH_hit hk hi, if_pos (show ¬ f12 = 0 ∧ k = j from ⟨h12, hi⟩)]
      by_cases hf : f = 0
      · rw [if_pos hf, if_pos hf, if_neg (fun q => hab (Value.ref.inj q).symm)]
      · rw [if_neg hf, if_neg hf, if_pos rfl]; rfl
    · rw [getH_miss hk hi (nil1 k), if_neg (by simp), if_neg (fun q => hi q.2), if_neg (fun q => q.1 h11)]
theorem fin11 (a b : Nat) (hab : a ≠ b) (i j p1 p2 f11 f12 : Int32) (h11 : ¬ f11 = 0) (h12 : ¬ f12 = 0) (k f : Int32) : pl [(j, .ref b), (i, .ref a)] [(j, .int p2), (i, .int p1)] k (if f = 0 then a else b) = expd f11 f12 f k i j p1 p2 := by
  unfold pl expd
  by_cases hk : k < 0
  · rw [if_pos hk, if_pos hk]
  · rw [if_neg hk, if_neg hk]
    by_cases hj : k = j
    · rw [getH_hit hk hj, getH_hit hk hj, if_pos (show ¬ f12 = 0 ∧ k = j from ⟨h12, hj⟩)]
      by_cases hf : f = 0
      · rw [if_pos hf, if_pos hf, if_neg (fun q => hab (Value.ref.inj q).symm)]
      · rw [if_neg hf, if_neg hf, if_pos rfl]; rfl
    · rw [if_neg (fun q : ¬ f12 = 0 ∧ k = j => hj q.2)]
      by_cases hi : k = i
      · rw [getH_miss hk hj (getH_hit hk hi), getH_miss hk hj (getH_hit hk hi), if_pos (show ¬ f11 = 0 ∧ k = i from ⟨h11, hi⟩)]
        by_cases hf : f = 0
        · rw [if_pos hf, if_pos hf, if_pos rfl]; rfl
        · rw [if_neg hf, if_neg hf, if_neg (fun q => hab (Value.ref.inj q))]
      · rw [getH_miss hk hj (getH_miss hk hi (nil1 k)), if_neg (by simp), if_neg (fun q => hi q.2)]
theorem d4_0 : decode jdk_71_method_1_code 0 = .ok (.aload_n 0, 1) := by decide +kernel
theorem d4_1 : decode jdk_71_method_1_code 1 = .ok (.invokespecial 1, 3) := by decide +kernel
theorem d4_4 : decode jdk_71_method_1_code 4 = .ok (.return_, 1) := by decide +kernel
theorem ef_4 (m : MethodId) (x0 : Nat) : entryFrame m #[(.ref x0)] 1 = mkF m 0 #[.val (.ref x0)] [] := by first | (simp [entryFrame, mkF, argsToLocals, Value.category]; done) | rfl
set_option maxRecDepth 65536 in
set_option maxHeartbeats 40000000 in
theorem rmAM (l : Launch) (Z : State) (a0 : Array Value) (hw : ∀ d ∈ tables_1, d.before a0 Z = true) (a1 : Nat) (h0 : Heap) (n0 : Nat) (Z0 : n0 ≤ h0.size) :
    Met l (⟨"java/util/AbstractMap", "<init>", "()V"⟩ : MethodName) jdk_71_method_1_code 1 none [] ({ frames := 1, cells := 0, slots := 0, locals := 12 } : Room) Z #[(.ref a1)] h0 (fun v h L => v = none ∧ Fr n0 L ∧ h = h0) := by
  refine of_goal (plainFor_of_name (by first | (simp [plainName, overriddenIn]; done) | decide +kernel)) ?_
  intro p e s m below meth c s₁ C X0 e0
  have C0 := C
  obtain ⟨hx, hZ, hby, hml, hret, hown, hnm⟩ := C
  have hown : s.vm.findClass "java/util/AbstractMap" = some m.cls := hown
  have hret : meth.sig.returnType = none := hret
  have N0 := Fr.nil n0
  rw [ef_4]
  refine Goal.step (T' := s₁) (g' := (mkF m 1 #[.val (.ref a1)] [(.ref a1)])) ?_ (fun t k => XS.aloadN X0.here hx rfl (hb hby d4_0) rfl rfl k)
  obtain ⟨T1001, X1001, e1001, st1001⟩ := initO X0 hx hZ hown (hw _ (List.mem_of_getElem? (i := 28) rfl)) (hw _ (List.mem_of_getElem? (i := 7) rfl)) (hw _ (List.mem_of_getElem? (i := 8) rfl)) e0 (g := (mkF m 1 #[.val (.ref a1)] [(.ref a1)])) rfl (by rw [hml]; rfl) rfl (hb hby d4_1) (by decide) (W := 0) (by show 2 * 0 + _ ≤ _; exact Nat.le_of_eq rfl) (by decide)
  refine Goal.step (T' := T1001) (g' := (mkF m 4 #[.val (.ref a1)] [])) ?_ st1001
  refine Goal.retV X1001 hx hret (hb hby d4_4) ?_
  refine ⟨?_, by decide, by decide⟩
  rw [e1001]
  exact ⟨rfl, N0, rfl⟩
theorem d3_0 : decode jdk_69_method_7_code 0 = .ok (.aload_n 0, 1) := by decide +kernel
theorem d3_1 : decode jdk_69_method_7_code 1 = .ok (.invokespecial 43, 3) := by decide +kernel
theorem pd_0 : parseMethodDescriptor "()V" = some ⟨[], none⟩ := by decide +kernel
theorem d3_4 : decode jdk_69_method_7_code 4 = .ok (.aload_n 0, 1) := by decide +kernel
theorem d3_5 : decode jdk_69_method_7_code 5 = .ok (.ldc 92, 2) := by decide +kernel
theorem d3_7 : decode jdk_69_method_7_code 7 = .ok (.putfield 81, 3) := by decide +kernel
theorem d3_10 : decode jdk_69_method_7_code 10 = .ok (.return_, 1) := by decide +kernel
theorem ef_3 (m : MethodId) (x0 : Nat) : entryFrame m #[(.ref x0)] 1 = mkF m 0 #[.val (.ref x0)] [] := by first | (simp [entryFrame, mkF, argsToLocals, Value.category]; done) | rfl
set_option maxRecDepth 65536 in
set_option maxHeartbeats 40000000 in
theorem rmHM (l : Launch) (Z : State) (a0 : Array Value) (hw : ∀ d ∈ tables_1, d.before a0 Z = true) (a1 : Nat) (u0 : Value) (h0 : Heap) (n0 : Nat) (Z0 : n0 ≤ h0.size) (E1 : Exa Z h0 a1 "java/util/HashMap") (F0 : Fld Z h0 a1 "java/util/HashMap" "loadFactor" "F" u0) (g1 : n0 ≤ a1) (lt1 : a1 < h0.size) :
    Met l (⟨"java/util/HashMap", "<init>", "()V"⟩ : MethodName) jdk_69_method_7_code 1 none [] ({ frames := 2, cells := 0, slots := 0, locals := 24 } : Room) Z #[(.ref a1)] h0 (fun v h L => v = none ∧ Fr n0 L ∧ Keep h0 h [a1]) := by
  refine of_goal (plainFor_of_name (by first | (simp [plainName, overriddenIn]; done) | decide +kernel)) ?_
  intro p e s m below meth c s₁ C X0 e0
  have C0 := C
  obtain ⟨hx, hZ, hby, hml, hret, hown, hnm⟩ := C
  have hown : s.vm.findClass "java/util/HashMap" = some m.cls := hown
  have hret : meth.sig.returnType = none := hret
  have N0 := Fr.nil n0
  rw [ef_3]
  refine Goal.step (T' := s₁) (g' := (mkF m 1 #[.val (.ref a1)] [(.ref a1)])) ?_ (fun t k => XS.aloadN X0.here hx rfl (hb hby d3_0) rfl rfl k)
  obtain ⟨v1001, T1001, h1001, L1001, X1001, e1001, hQ1001, st1001⟩ := callInit X0 hx hZ hown rfl (hw _ (List.mem_of_getElem? (i := 22) rfl)) (hw _ (List.mem_of_getElem? (i := 23) rfl)) (hw _ (List.mem_of_getElem? (i := 26) rfl)) (hw _ (List.mem_of_getElem? (i := 27) rfl)) (by decide) (rmAM l Z a0 hw a1 h0 n0 (by omega) ) e0 (W := 0) (by decide) (by decide) (by decide) (by decide) (g := (mkF m 1 #[.val (.ref a1)] [(.ref a1)])) rfl (by rw [hml]; rfl) (a := a1) (argsL := []) (rest := []) (lenOf pd_0 rfl) rfl (by show 2 * 0 + _ ≤ _; exact Nat.le_of_eq rfl) (hb hby d3_1) rfl
  obtain ⟨rfl, M1001, q1001⟩ := hQ1001
  rw [q1001] at e1001
  have N1001 := Fr.app N0 M1001
  refine Goal.step (T' := T1001) (g' := (mkF m 4 #[.val (.ref a1)] [])) ?_ st1001
  refine Goal.step (T' := T1001) (g' := (mkF m 5 #[.val (.ref a1)] [(.ref a1)])) ?_ (fun t k => XS.aloadN X1001.here hx rfl (hb hby d3_4) rfl rfl k)
  refine Goal.step (T' := T1001) (g' := (mkF m 7 #[.val (.ref a1)] [(.float (1061158912 : UInt32)), (.ref a1)])) ?_ (fun t k => X1001.ldcFloatC hx hown (mvT hZ (hw _ (List.mem_of_getElem? (i := 29) rfl))) (g := (mkF m 5 #[.val (.ref a1)] [(.ref a1)])) rfl (hb hby d3_5) _ k)
  obtain ⟨T1002, h1002, X1002, e1002, W1002, st1002⟩ := putF X1001 hx hZ hown (host := "") (Or.inl (hw _ (List.mem_of_getElem? (i := 30) rfl))) Via.refl e1001 F0 E1 (Or.inr ⟨(hw _ (List.mem_of_getElem? (i := 31) rfl)), rfl, hnm⟩) (hw _ (List.mem_of_getElem? (i := 17) rfl)) (ty := .float) (by decide) rfl rfl (g := (mkF m 7 #[.val (.ref a1)] [(.float (1061158912 : UInt32)), (.ref a1)])) rfl rfl (hb hby d3_7)
  refine Goal.step (T' := T1002) (g' := (mkF m 10 #[.val (.ref a1)] [])) ?_ st1002
  have sz1003 : h0.size ≤ h1002.size := Nat.le_of_eq W1002.size.symm
  have F1002 := Fld.same W1002 F0
  have N1002 := Fr.snoc X1002 N1001 (by omega : n0 ≤ a1)
  refine Goal.retV X1002 hx hret (hb hby d3_10) ?_
  have k1004 : Keep h0 h1002 [a1] := ((Keep.refl h0 [a1]).wr W1002 (Or.inl (by simp)))
  refine ⟨?_, by decide, by decide⟩
  rw [e1002]
  exact ⟨rfl, N1002, k1004⟩
theorem d7_0 : decode jdk_22_method_1_code 0 = .ok (.aload_n 0, 1) := by decide +kernel
theorem d7_1 : decode jdk_22_method_1_code 1 = .ok (.invokespecial 1, 3) := by decide +kernel
theorem d7_4 : decode jdk_22_method_1_code 4 = .ok (.return_, 1) := by decide +kernel
theorem ef_7 (m : MethodId) (x0 : Nat) : entryFrame m #[(.ref x0)] 1 = mkF m 0 #[.val (.ref x0)] [] := by first | (simp [entryFrame, mkF, argsToLocals, Value.category]; done) | rfl
set_option maxRecDepth 65536 in
set_option maxHeartbeats 40000000 in
theorem rmAC (l : Launch) (Z : State) (a0 : Array Value) (hw : ∀ d ∈ tables_1, d.before a0 Z = true) (a1 : Nat) (h0 : Heap) (n0 : Nat) (Z0 : n0 ≤ h0.size) :
    Met l (⟨"java/util/AbstractCollection", "<init>", "()V"⟩ : MethodName) jdk_22_method_1_code 1 none [] ({ frames := 1, cells := 0, slots := 0, locals := 12 } : Room) Z #[(.ref a1)] h0 (fun v h L => v = none ∧ Fr n0 L ∧ h = h0) := by
  refine of_goal (plainFor_of_name (by first | (simp [plainName, overriddenIn]; done) | decide +kernel)) ?_
  intro p e s m below meth c s₁ C X0 e0
  have C0 := C
  obtain ⟨hx, hZ, hby, hml, hret, hown, hnm⟩ := C
  have hown : s.vm.findClass "java/util/AbstractCollection" = some m.cls := hown
  have hret : meth.sig.returnType = none := hret
  have N0 := Fr.nil n0
  rw [ef_7]
  refine Goal.step (T' := s₁) (g' := (mkF m 1 #[.val (.ref a1)] [(.ref a1)])) ?_ (fun t k => XS.aloadN X0.here hx rfl (hb hby d7_0) rfl rfl k)
  obtain ⟨T1001, X1001, e1001, st1001⟩ := initO X0 hx hZ hown (hw _ (List.mem_of_getElem? (i := 64) rfl)) (hw _ (List.mem_of_getElem? (i := 7) rfl)) (hw _ (List.mem_of_getElem? (i := 8) rfl)) e0 (g := (mkF m 1 #[.val (.ref a1)] [(.ref a1)])) rfl (by rw [hml]; rfl) rfl (hb hby d7_1) (by decide) (W := 0) (by show 2 * 0 + _ ≤ _; exact Nat.le_of_eq rfl) (by decide)
  refine Goal.step (T' := T1001) (g' := (mkF m 4 #[.val (.ref a1)] [])) ?_ st1001
  refine Goal.retV X1001 hx hret (hb hby d7_4) ?_
  refine ⟨?_, by decide, by decide⟩
  rw [e1001]
  exact ⟨rfl, N0, rfl⟩
theorem d6_0 : decode jdk_39_method_1_code 0 = .ok (.aload_n 0, 1) := by decide +kernel
theorem d6_1 : decode jdk_39_method_1_code 1 = .ok (.invokespecial 1, 3) := by decide +kernel
theorem d6_4 : decode jdk_39_method_1_code 4 = .ok (.aload_n 0, 1) := by decide +kernel
theorem d6_5 : decode jdk_39_method_1_code 5 = .ok (.iconst 0, 1) := by decide +kernel
theorem d6_6 : decode jdk_39_method_1_code 6 = .ok (.putfield 7, 3) := by decide +kernel
theorem d6_9 : decode jdk_39_method_1_code 9 = .ok (.return_, 1) := by decide +kernel
theorem ef_6 (m : MethodId) (x0 : Nat) : entryFrame m #[(.ref x0)] 1 = mkF m 0 #[.val (.ref x0)] [] := by first | (simp [entryFrame, mkF, argsToLocals, Value.category]; done) | rfl
set_option maxRecDepth 65536 in
set_option maxHeartbeats 40000000 in
theorem rmAB (l : Launch) (Z : State) (a0 : Array Value) (hw : ∀ d ∈ tables_1, d.before a0 Z = true) (a1 : Nat) (u0 : Value) (h0 : Heap) (n0 : Nat) (Z0 : n0 ≤ h0.size) (E1 : Exa Z h0 a1 "java/util/ArrayList") (F0 : Fld Z h0 a1 "java/util/AbstractList" "modCount" "I" u0) (g1 : n0 ≤ a1) (lt1 : a1 < h0.size) :
    Met l (⟨"java/util/AbstractList", "<init>", "()V"⟩ : MethodName) jdk_39_method_1_code 1 none [] ({ frames := 2, cells := 0, slots := 0, locals := 24 } : Room) Z #[(.ref a1)] h0 (fun v h L => v = none ∧ Fr n0 L ∧ Keep h0 h [a1]) := by
  refine of_goal (plainFor_of_name (by first | (simp [plainName, overriddenIn]; done) | decide +kernel)) ?_
  intro p e s m below meth c s₁ C X0 e0
  have C0 := C
  obtain ⟨hx, hZ, hby, hml, hret, hown, hnm⟩ := C
  have hown : s.vm.findClass "java/util/AbstractList" = some m.cls := hown
  have hret : meth.sig.returnType = none := hret
  have N0 := Fr.nil n0
  rw [ef_6]
  refine Goal.step (T' := s₁) (g' := (mkF m 1 #[.val (.ref a1)] [(.ref a1)])) ?_ (fun t k => XS.aloadN X0.here hx rfl (hb hby d6_0) rfl rfl k)
  obtain ⟨v1001, T1001, h1001, L1001, X1001, e1001, hQ1001, st1001⟩ := callInit X0 hx hZ hown rfl (hw _ (List.mem_of_getElem? (i := 58) rfl)) (hw _ (List.mem_of_getElem? (i := 59) rfl)) (hw _ (List.mem_of_getElem? (i := 62) rfl)) (hw _ (List.mem_of_getElem? (i := 63) rfl)) (by decide) (rmAC l Z a0 hw a1 h0 n0 (by omega) ) e0 (W := 0) (by decide) (by decide) (by decide) (by decide) (g := (mkF m 1 #[.val (.ref a1)] [(.ref a1)])) rfl (by rw [hml]; rfl) (a := a1) (argsL := []) (rest := []) (lenOf pd_0 rfl) rfl (by show 2 * 0 + _ ≤ _; exact Nat.le_of_eq rfl) (hb hby d6_1) rfl
  obtain ⟨rfl, M1001, q1001⟩ := hQ1001
  rw [q1001] at e1001
  have N1001 := Fr.app N0 M1001
  refine Goal.step (T' := T1001) (g' := (mkF m 4 #[.val (.ref a1)] [])) ?_ st1001
  refine Goal.step (T' := T1001) (g' := (mkF m 5 #[.val (.ref a1)] [(.ref a1)])) ?_ (fun t k => XS.aloadN X1001.here hx rfl (hb hby d6_4) rfl rfl k)
  refine Goal.step (T' := T1001) (g' := (mkF m 6 #[.val (.ref a1)] [(.int (0 : Int32)), (.ref a1)])) ?_ (fun t k => XS.iconst X1001.here hx rfl (hb hby d6_5) k)
  obtain ⟨T1002, h1002, X1002, e1002, W1002, st1002⟩ := putF X1001 hx hZ hown (host := "") (Or.inl (hw _ (List.mem_of_getElem? (i := 65) rfl))) Via.refl e1001 F0 E1 (Or.inl (hw _ (List.mem_of_getElem? (i := 66) rfl))) (hw _ (List.mem_of_getElem? (i := 47) rfl)) (ty := .int) (by decide) rfl rfl (g := (mkF m 6 #[.val (.ref a1)] [(.int (0 : Int32)), (.ref a1)])) rfl rfl (hb hby d6_6)
  refine Goal.step (T' := T1002) (g' := (mkF m 9 #[.val (.ref a1)] [])) ?_ st1002
  have sz1003 : h0.size ≤ h1002.size := Nat.le_of_eq W1002.size.symm
  have F1002 := Fld.same W1002 F0
  have N1002 := Fr.snoc X1002 N1001 (by omega : n0 ≤ a1)
  refine Goal.retV X1002 hx hret (hb hby d6_9) ?_
  have k1004 : Keep h0 h1002 [a1] := ((Keep.refl h0 [a1]).wr W1002 (Or.inl (by simp)))
  refine ⟨?_, by decide, by decide⟩
  rw [e1002]
  exact ⟨rfl, N1002, k1004⟩
set_option maxRecDepth 65536 in
set_option maxHeartbeats 40000000 in
theorem rmAB2 (l : Launch) (Z : State) (a0 : Array Value) (hw : ∀ d ∈ tables_1, d.before a0 Z = true) (a1 : Nat) (u0 u1 : Value) (h0 : Heap) (n0 : Nat) (Z0 : n0 ≤ h0.size) (E1 : Exa Z h0 a1 "java/util/ArrayList") (F0 : Fld Z h0 a1 "java/util/AbstractList" "modCount" "I" u0) (F1 : Fld Z h0 a1 "java/util/ArrayList" "elementData" "[Ljava/lang/Object;" u1) (g1 : n0 ≤ a1) (lt1 : a1 < h0.size) :
    Met l (⟨"java/util/AbstractList", "<init>", "()V"⟩ : MethodName) jdk_39_method_1_code 1 none [] ({ frames := 2, cells := 0, slots := 0, locals := 24 } : Room) Z #[(.ref a1)] h0 (fun v h L => v = none ∧ Fr n0 L ∧ Keep h0 h [a1] ∧ Fld Z h a1 "java/util/ArrayList" "elementData" "[Ljava/lang/Object;" u1) := by
  refine of_goal (plainFor_of_name (by first | (simp [plainName, overriddenIn]; done) | decide +kernel)) ?_
  intro p e s m below meth c s₁ C X0 e0
  have C0 := C
  obtain ⟨hx, hZ, hby, hml, hret, hown, hnm⟩ := C
  have hown : s.vm.findClass "java/util/AbstractList" = some m.cls := hown
  have hret : meth.sig.returnType = none := hret
  have N0 := Fr.nil n0
  rw [ef_6]
  refine Goal.step (T' := s₁) (g' := (mkF m 1 #[.val (.ref a1)] [(.ref a1)])) ?_ (fun t k => XS.aloadN X0.here hx rfl (hb hby d6_0) rfl rfl k)
  obtain ⟨v1001, T1001, h1001, L1001, X1001, e1001, hQ1001, st1001⟩ := callInit X0 hx hZ hown rfl (hw _ (List.mem_of_getElem? (i := 58) rfl)) (hw _ (List.mem_of_getElem? (i := 59) rfl)) (hw _ (List.mem_of_getElem? (i := 62) rfl)) (hw _ (List.mem_of_getElem? (i := 63) rfl)) (by decide) (rmAC l Z a0 hw a1 h0 n0 (by omega) ) e0 (W := 0) (by decide) (by decide) (by decide) (by decide) (g := (mkF m 1 #[.val (.ref a1)] [(.ref a1)])) rfl (by rw [hml]; rfl) (a := a1) (argsL := []) (rest := []) (lenOf pd_0 rfl) rfl (by show 2 * 0 + _ ≤ _; exact Nat.le_of_eq rfl) (hb hby d6_1) rfl
  obtain ⟨rfl, M1001, q1001⟩ := hQ1001
  rw [q1001] at e1001
  have N1001 := Fr.app N0 M1001
  refine Goal.step (T' := T1001) (g' := (mkF m 4 #[.val (.ref a1)] [])) ?_ st1001
  refine Goal.step (T' := T1001) (g' := (mkF m 5 #[.val (.ref a1)] [(.ref a1)])) ?_ (fun t k => XS.aloadN X1001.here hx rfl (hb hby d6_4) rfl rfl k)
  refine Goal.step (T' := T1001) (g' := (mkF m 6 #[.val (.ref a1)] [(.int (0 : Int32)), (.ref a1)])) ?_ (fun t k => XS.iconst X1001.here hx rfl (hb hby d6_5) k)
  obtain ⟨T1002, h1002, X1002, e1002, W1002, st1002⟩ := putF X1001 hx hZ hown (host := "") (Or.inl (hw _ (List.mem_of_getElem? (i := 65) rfl))) Via.refl e1001 F0 E1 (Or.inl (hw _ (List.mem_of_getElem? (i := 66) rfl))) (hw _ (List.mem_of_getElem? (i := 47) rfl)) (ty := .int) (by decide) rfl rfl (g := (mkF m 6 #[.val (.ref a1)] [(.int (0 : Int32)), (.ref a1)])) rfl rfl (hb hby d6_6)
  refine Goal.step (T' := T1002) (g' := (mkF m 9 #[.val (.ref a1)] [])) ?_ st1002
  have sz1003 : h0.size ≤ h1002.size := Nat.le_of_eq W1002.size.symm
  have F1002 := Fld.same W1002 F0
  have N1002 := Fr.snoc X1002 N1001 (by omega : n0 ≤ a1)
  refine Goal.retV X1002 hx hret (hb hby d6_9) ?_
  have k1004 : Keep h0 h1002 [a1] := ((Keep.refl h0 [a1]).wr W1002 (Or.inl (by simp)))
  have f1005 : Fld Z h1002 a1 "java/util/ArrayList" "elementData" "[Ljava/lang/Object;" u1 := (Fld.other W1002 F1 (Or.inr (slot_ne (Or.inl (hw _ (List.mem_of_getElem? (i := 69) rfl))) (Or.inl (hw _ (List.mem_of_getElem? (i := 66) rfl))) (by decide) (t := (.array (.object "java/lang/Object"))) (t' := .int) (by decide) (by decide))))
  refine ⟨?_, by decide, by decide⟩
  rw [e1002]
  exact ⟨rfl, N1002, k1004, f1005⟩
theorem d5_0 : decode jdk_38_method_2_code 0 = .ok (.aload_n 0, 1) := by decide +kernel
theorem d5_1 : decode jdk_38_method_2_code 1 = .ok (.invokespecial 1, 3) := by decide +kernel
theorem d5_4 : decode jdk_38_method_2_code 4 = .ok (.aload_n 0, 1) := by decide +kernel
theorem d5_5 : decode jdk_38_method_2_code 5 = .ok (.getstatic 39, 3) := by decide +kernel
theorem d5_8 : decode jdk_38_method_2_code 8 = .ok (.putfield 9, 3) := by decide +kernel
theorem d5_11 : decode jdk_38_method_2_code 11 = .ok (.return_, 1) := by decide +kernel
theorem ef_5 (m : MethodId) (x0 : Nat) : entryFrame m #[(.ref x0)] 1 = mkF m 0 #[.val (.ref x0)] [] := by first | (simp [entryFrame, mkF, argsToLocals, Value.category]; done) | rfl
set_option maxRecDepth 65536 in
set_option maxHeartbeats 40000000 in
theorem rmAL (l : Launch) (Z : State) (a0 : Array Value) (hw : ∀ d ∈ tables_1, d.before a0 Z = true) (a1 : Nat) (u0 u1 : Value) (da : Nat) (h0 : Heap) (n0 : Nat) (Z0 : n0 ≤ h0.size) (E1 : Exa Z h0 a1 "java/util/ArrayList") (F0 : Fld Z h0 a1 "java/util/AbstractList" "modCount" "I" u0) (F1 : Fld Z h0 a1 "java/util/ArrayList" "elementData" "[Ljava/lang/Object;" u1) (g1 : n0 ≤ a1) (lt1 : a1 < h0.size) (S0 : Sta Z Z.heap "java/util/ArrayList" "DEFAULTCAPACITY_EMPTY_ELEMENTDATA" "[Ljava/lang/Object;" (.ref da)) (O0 : Old Z n0 h0) :
    Met l (⟨"java/util/ArrayList", "<init>", "()V"⟩ : MethodName) jdk_38_method_2_code 1 none [] ({ frames := 3, cells := 0, slots := 0, locals := 36 } : Room) Z #[(.ref a1)] h0 (fun v h L => v = none ∧ Fr n0 L ∧ Keep h0 h [a1]) := by
  refine of_goal (plainFor_of_name (by first | (simp [plainName, overriddenIn]; done) | decide +kernel)) ?_
  intro p e s m below meth c s₁ C X0 e0
  have C0 := C
  obtain ⟨hx, hZ, hby, hml, hret, hown, hnm⟩ := C
  have hown : s.vm.findClass "java/util/ArrayList" = some m.cls := hown
  have hret : meth.sig.returnType = none := hret
  have N0 := Fr.nil n0
  rw [ef_5]
  refine Goal.step (T' := s₁) (g' := (mkF m 1 #[.val (.ref a1)] [(.ref a1)])) ?_ (fun t k => XS.aloadN X0.here hx rfl (hb hby d5_0) rfl rfl k)
  obtain ⟨v1001, T1001, h1001, L1001, X1001, e1001, hQ1001, st1001⟩ := callInit X0 hx hZ hown rfl (hw _ (List.mem_of_getElem? (i := 52) rfl)) (hw _ (List.mem_of_getElem? (i := 53) rfl)) (hw _ (List.mem_of_getElem? (i := 56) rfl)) (hw _ (List.mem_of_getElem? (i := 57) rfl)) (by decide) (rmAB2 l Z a0 hw a1 u0 u1 h0 n0 (by omega) E1 F0 F1 (by omega) (by omega)) e0 (W := 0) (by decide) (by decide) (by decide) (by decide) (g := (mkF m 1 #[.val (.ref a1)] [(.ref a1)])) rfl (by rw [hml]; rfl) (a := a1) (argsL := []) (rest := []) (lenOf pd_0 rfl) rfl (by show 2 * 0 + _ ≤ _; exact Nat.le_of_eq rfl) (hb hby d5_1) rfl
  obtain ⟨rfl, M1001, K1001, F1001⟩ := hQ1001
  have N1001 := Fr.app N0 M1001
  refine Goal.step (T' := T1001) (g' := (mkF m 4 #[.val (.ref a1)] [])) ?_ st1001
  have sz1002 : h0.size ≤ h1001.size := K1001.1
  refine Goal.step (T' := T1001) (g' := (mkF m 5 #[.val (.ref a1)] [(.ref a1)])) ?_ (fun t k => XS.aloadN X1001.here hx rfl (hb hby d5_4) rfl rfl k)
  have f1003 : Old Z n0 h1001 := (O0.keep K1001 (allS (by omega) all0))
  have S5 : Sta Z h1001 "java/util/ArrayList" "DEFAULTCAPACITY_EMPTY_ELEMENTDATA" "[Ljava/lang/Object;" (.ref da) := Sta.ext f1003.2 S0
  obtain ⟨T1004, X1004, e1004, st1004⟩ := getS2 X1001 hx hZ hown (host := "") (Or.inl (hw _ (List.mem_of_getElem? (i := 67) rfl))) Via.refl e1001 S5 (g := (mkF m 5 #[.val (.ref a1)] [(.ref a1)])) rfl (hb hby d5_5)
  refine Goal.step (T' := T1004) (g' := (mkF m 8 #[.val (.ref a1)] [(.ref da), (.ref a1)])) ?_ st1004
  have f1005 : Exa Z h1001 a1 "java/util/ArrayList" := (E1.keep K1001)
  obtain ⟨T1006, h1006, X1006, e1006, W1006, st1006⟩ := putF X1004 hx hZ hown (host := "") (Or.inl (hw _ (List.mem_of_getElem? (i := 68) rfl))) Via.refl e1004 F1001 f1005 (Or.inl (hw _ (List.mem_of_getElem? (i := 69) rfl))) (hw _ (List.mem_of_getElem? (i := 47) rfl)) (ty := (.array (.object "java/lang/Object"))) (by decide) rfl rfl (g := (mkF m 8 #[.val (.ref a1)] [(.ref da), (.ref a1)])) rfl rfl (hb hby d5_8)
  refine Goal.step (T' := T1006) (g' := (mkF m 11 #[.val (.ref a1)] [])) ?_ st1006
  have sz1007 : h1001.size ≤ h1006.size := Nat.le_of_eq W1006.size.symm
  have F1006 := Fld.same W1006 F1001
  have N1006 := Fr.snoc X1006 N1001 (by omega : n0 ≤ a1)
  refine Goal.retV X1006 hx hret (hb hby d5_11) ?_
  have k1008 : Keep h0 h1006 [a1] := (((Keep.refl h0 [a1]).trans K1001 (allS (Or.inl (by simp)) all0)).wr W1006 (Or.inl (by simp)))
  refine ⟨?_, by decide, by decide⟩
  rw [e1006]
  exact ⟨rfl, N1006, k1008⟩
theorem d1_0 : decode prog_40_method_1_code 0 = .ok (.aload_n 0, 1) := by decide +kernel
theorem d1_1 : decode prog_40_method_1_code 1 = .ok (.invokespecial 1, 3) := by decide +kernel
theorem d1_4 : decode prog_40_method_1_code 4 = .ok (.aload_n 0, 1) := by decide +kernel
theorem d1_5 : decode prog_40_method_1_code 5 = .ok (.sipush 1024, 3) := by decide +kernel
theorem d1_8 : decode prog_40_method_1_code 8 = .ok (.anewarray 9, 3) := by decide +kernel
theorem d1_11 : decode prog_40_method_1_code 11 = .ok (.putfield 11, 3) := by decide +kernel
theorem d1_14 : decode prog_40_method_1_code 14 = .ok (.aload_n 0, 1) := by decide +kernel
theorem d1_15 : decode prog_40_method_1_code 15 = .ok (.sipush 1024, 3) := by decide +kernel
theorem d1_18 : decode prog_40_method_1_code 18 = .ok (.newarray .int, 2) := by decide +kernel
theorem d1_20 : decode prog_40_method_1_code 20 = .ok (.putfield 15, 3) := by decide +kernel
theorem d1_23 : decode prog_40_method_1_code 23 = .ok (.aload_n 0, 1) := by decide +kernel
theorem d1_24 : decode prog_40_method_1_code 24 = .ok (.new 19, 3) := by decide +kernel
theorem d1_27 : decode prog_40_method_1_code 27 = .ok (.dup, 1) := by decide +kernel
theorem d1_28 : decode prog_40_method_1_code 28 = .ok (.invokespecial 21, 3) := by decide +kernel
theorem d1_31 : decode prog_40_method_1_code 31 = .ok (.putfield 22, 3) := by decide +kernel
theorem d1_34 : decode prog_40_method_1_code 34 = .ok (.aload_n 0, 1) := by decide +kernel
theorem d1_35 : decode prog_40_method_1_code 35 = .ok (.sipush 1024, 3) := by decide +kernel
theorem d1_38 : decode prog_40_method_1_code 38 = .ok (.anewarray 9, 3) := by decide +kernel
theorem d1_41 : decode prog_40_method_1_code 41 = .ok (.putfield 26, 3) := by decide +kernel
theorem d1_44 : decode prog_40_method_1_code 44 = .ok (.aload_n 0, 1) := by decide +kernel
theorem d1_45 : decode prog_40_method_1_code 45 = .ok (.sipush 1024, 3) := by decide +kernel
theorem d1_48 : decode prog_40_method_1_code 48 = .ok (.anewarray 9, 3) := by decide +kernel
theorem d1_51 : decode prog_40_method_1_code 51 = .ok (.putfield 29, 3) := by decide +kernel
theorem d1_54 : decode prog_40_method_1_code 54 = .ok (.aload_n 0, 1) := by decide +kernel
theorem d1_55 : decode prog_40_method_1_code 55 = .ok (.sipush 1024, 3) := by decide +kernel
theorem d1_58 : decode prog_40_method_1_code 58 = .ok (.anewarray 9, 3) := by decide +kernel
theorem d1_61 : decode prog_40_method_1_code 61 = .ok (.putfield 32, 3) := by decide +kernel
theorem d1_64 : decode prog_40_method_1_code 64 = .ok (.aload_n 0, 1) := by decide +kernel
theorem d1_65 : decode prog_40_method_1_code 65 = .ok (.sipush 1024, 3) := by decide +kernel
theorem d1_68 : decode prog_40_method_1_code 68 = .ok (.anewarray 2, 3) := by decide +kernel
theorem d1_71 : decode prog_40_method_1_code 71 = .ok (.putfield 35, 3) := by decide +kernel
theorem d1_74 : decode prog_40_method_1_code 74 = .ok (.aload_n 0, 1) := by decide +kernel
theorem d1_75 : decode prog_40_method_1_code 75 = .ok (.sipush 1024, 3) := by decide +kernel
theorem d1_78 : decode prog_40_method_1_code 78 = .ok (.newarray .int, 2) := by decide +kernel
theorem d1_80 : decode prog_40_method_1_code 80 = .ok (.putfield 39, 3) := by decide +kernel
theorem d1_83 : decode prog_40_method_1_code 83 = .ok (.return_, 1) := by decide +kernel
theorem ef_1 (m : MethodId) (x0 : Nat) : entryFrame m #[(.ref x0)] 1 = mkF m 0 #[.val (.ref x0)] [] := by first | (simp [entryFrame, mkF, argsToLocals, Value.category]; done) | rfl
set_option maxRecDepth 65536 in
set_option maxHeartbeats 40000000 in
theorem rmXI (l : Launch) (Z : State) (a0 : Array Value) (hw : ∀ d ∈ tables_1, d.before a0 Z = true) (a1 : Nat) (u0 u1 u2 u3 u4 u5 u6 u7 : Value) (h0 : Heap) (n0 : Nat) (Z0 : n0 ≤ h0.size) (E1 : Exa Z h0 a1 "com/example/prove_permissions/provepermissions/model/XmiIds") (F0 : Fld Z h0 a1 "com/example/prove_permissions/provepermissions/model/XmiIds" "slots" "[Ljava/lang/String;" u0) (F1 : Fld Z h0 a1 "com/example/prove_permissions/provepermissions/model/XmiIds" "slotNumbers" "[I" u1) (F2 : Fld Z h0 a1 "com/example/prove_permissions/provepermissions/model/XmiIds" "overflow" "Ljava/util/Map;" u2) (F3 : Fld Z h0 a1 "com/example/prove_permissions/provepermissions/model/XmiIds" "ids" "[Ljava/lang/String;" u3) (F4 : Fld Z h0 a1 "com/example/prove_permissions/provepermissions/model/XmiIds" "elementKinds" "[Ljava/lang/String;" u4) (F5 : Fld Z h0 a1 "com/example/prove_permissions/provepermissions/model/XmiIds" "types" "[Ljava/lang/String;" u5) (F6 : Fld Z h0 a1 "com/example/prove_permissions/provepermissions/model/XmiIds" "holders" "[Ljava/lang/Object;" u6) (F7 : Fld Z h0 a1 "com/example/prove_permissions/provepermissions/model/XmiIds" "places" "[I" u7) (g1 : n0 ≤ a1) (lt1 : a1 < h0.size) :
    Met l (⟨"com/example/prove_permissions/provepermissions/model/XmiIds", "<init>", "()V"⟩ : MethodName) prog_40_method_1_code 1 none [] ({ frames := 3, cells := 8, slots := 7176, locals := 38 } : Room) Z #[(.ref a1)] h0 (fun v h L => v = none ∧ Fr n0 L ∧ Keep h0 h [a1] ∧ ∃ (b1 : Nat) (k1 : ClassId) (b2 : Nat) (k2 : ClassId), Fld Z h a1 "com/example/prove_permissions/provepermissions/model/XmiIds" "holders" "[Ljava/lang/Object;" (.ref b1) ∧ Fld Z h a1 "com/example/prove_permissions/provepermissions/model/XmiIds" "places" "[I" (.ref b2) ∧ Arh Z h b1 k1 (.object "java/lang/Object") (1024 : Int32) [] [] .null ∧ Ovr Z k1 "java/lang/Object" ∧ Arh Z h b2 k2 .int (1024 : Int32) [] [] (.int (0 : Int32)) ∧ h0.size ≤ b1 ∧ b1 < b2 ∧ b2 < h.size) := by
  refine of_goal (plainFor_of_name (by first | (simp [plainName, overriddenIn]; done) | decide +kernel)) ?_
  intro p e s m below meth c s₁ C X0 e0
  have C0 := C
  obtain ⟨hx, hZ, hby, hml, hret, hown, hnm⟩ := C
  have hown : s.vm.findClass "com/example/prove_permissions/provepermissions/model/XmiIds" = some m.cls := hown
  have hret : meth.sig.returnType = none := hret
  have N0 := Fr.nil n0
  rw [ef_1]
  refine Goal.step (T' := s₁) (g' := (mkF m 1 #[.val (.ref a1)] [(.ref a1)])) ?_ (fun t k => XS.aloadN X0.here hx rfl (hb hby d1_0) rfl rfl k)
  obtain ⟨T1001, X1001, e1001, st1001⟩ := initO X0 hx hZ hown (hw _ (List.mem_of_getElem? (i := 6) rfl)) (hw _ (List.mem_of_getElem? (i := 7) rfl)) (hw _ (List.mem_of_getElem? (i := 8) rfl)) e0 (g := (mkF m 1 #[.val (.ref a1)] [(.ref a1)])) rfl (by rw [hml]; rfl) rfl (hb hby d1_1) (by decide) (W := 0) (by show 2 * 0 + _ ≤ _; exact Nat.le_of_eq rfl) (by decide)
  refine Goal.step (T' := T1001) (g' := (mkF m 4 #[.val (.ref a1)] [])) ?_ st1001
  refine Goal.step (T' := T1001) (g' := (mkF m 5 #[.val (.ref a1)] [(.ref a1)])) ?_ (fun t k => XS.aloadN X1001.here hx rfl (hb hby d1_4) rfl rfl k)
  refine Goal.step (T' := T1001) (g' := (mkF m 8 #[.val (.ref a1)] [(.int (1024 : Int32)), (.ref a1)])) ?_ (fun t k => XS.sipush X1001.here hx rfl (hb hby d1_5) k)
  obtain ⟨T1002, h1002, k1002, X1002, e1002, E1002, A1002, O1002, st1002⟩ := newR X1001 hx hZ hown (hw _ (List.mem_of_getElem? (i := 9) rfl)) (hw _ (List.mem_of_getElem? (i := 10) rfl)) e1001 (g := (mkF m 8 #[.val (.ref a1)] [(.int (1024 : Int32)), (.ref a1)])) rfl (hb hby d1_8) rfl (by decide) (cap := 1024) (by decide) (by decide) (by decide) (by decide)
  obtain ⟨b1002, g1002⟩ : ∃ z, z = h0.size := ⟨_, rfl⟩
  rw [← g1002] at A1002 st1002
  refine Goal.step (T' := T1002) (g' := (mkF m 11 #[.val (.ref a1)] [(.ref b1002), (.ref a1)])) ?_ st1002
  have sz1003 : h0.size ≤ h1002.size := E1002.1
  have lt_b1002 : b1002 < h1002.size := A1002.lt
  have V1002 : Arh Z h1002 b1002 k1002 (.object "java/lang/String") (1024 : Int32) [] [] .null := (Arv.new A1002 (by decide)).arh
  have f1004 : Fld Z h1002 a1 "com/example/prove_permissions/provepermissions/model/XmiIds" "slots" "[Ljava/lang/String;" u0 := (F0.ext E1002)
  have f1005 : Exa Z h1002 a1 "com/example/prove_permissions/provepermissions/model/XmiIds" := (E1.ext E1002)
  obtain ⟨T1006, h1006, X1006, e1006, W1006, st1006⟩ := putF X1002 hx hZ hown (host := "") (Or.inl (hw _ (List.mem_of_getElem? (i := 11) rfl))) Via.refl e1002 f1004 f1005 (Or.inl (hw _ (List.mem_of_getElem? (i := 12) rfl))) (hw _ (List.mem_of_getElem? (i := 1) rfl)) (ty := (.array (.object "java/lang/String"))) (by decide) rfl rfl (g := (mkF m 11 #[.val (.ref a1)] [(.ref b1002), (.ref a1)])) rfl rfl (hb hby d1_11)
  refine Goal.step (T' := T1006) (g' := (mkF m 14 #[.val (.ref a1)] [])) ?_ st1006
  have sz1007 : h1002.size ≤ h1006.size := Nat.le_of_eq W1006.size.symm
  have F1006 := Fld.same W1006 f1004
  have N1006 := Fr.snoc X1006 N0 (by omega : n0 ≤ a1)
  refine Goal.step (T' := T1006) (g' := (mkF m 15 #[.val (.ref a1)] [(.ref a1)])) ?_ (fun t k => XS.aloadN X1006.here hx rfl (hb hby d1_14) rfl rfl k)
  refine Goal.step (T' := T1006) (g' := (mkF m 18 #[.val (.ref a1)] [(.int (1024 : Int32)), (.ref a1)])) ?_ (fun t k => XS.sipush X1006.here hx rfl (hb hby d1_15) k)
  obtain ⟨T1008, h1008, k1008, X1008, e1008, E1008, A1008, st1008⟩ := newP X1006 hx hZ (hw _ (List.mem_of_getElem? (i := 13) rfl)) e1006 (g := (mkF m 18 #[.val (.ref a1)] [(.int (1024 : Int32)), (.ref a1)])) rfl (hb hby d1_18) rfl (by decide) (cap := 1024) (by decide) (by decide) (by decide) (by decide)
  obtain ⟨b1008, g1008⟩ : ∃ z, z = h1006.size := ⟨_, rfl⟩
  rw [← g1008] at A1008 st1008
  refine Goal.step (T' := T1008) (g' := (mkF m 20 #[.val (.ref a1)] [(.ref b1008), (.ref a1)])) ?_ st1008
  have sz1009 : h1006.size ≤ h1008.size := E1008.1
  have lt_b1008 : b1008 < h1008.size := A1008.lt
  have V1008 : Arh Z h1008 b1008 k1008 .int (1024 : Int32) [] [] (.int (0 : Int32)) := (Arv.new A1008 (by decide)).arh
  have f1010 : Fld Z h1008 a1 "com/example/prove_permissions/provepermissions/model/XmiIds" "slotNumbers" "[I" u1 := ((Fld.other W1006 (F1.ext E1002) (Or.inr (slot_ne (Or.inl (hw _ (List.mem_of_getElem? (i := 15) rfl))) (Or.inl (hw _ (List.mem_of_getElem? (i := 12) rfl))) (by decide) (t := (.array .int)) (t' := (.array (.object "java/lang/String"))) (by decide) (by decide)))).ext E1008)
  have f1011 : Exa Z h1008 a1 "com/example/prove_permissions/provepermissions/model/XmiIds" := ((Exa.wr W1006 f1005).ext E1008)
  obtain ⟨T1012, h1012, X1012, e1012, W1012, st1012⟩ := putF X1008 hx hZ hown (host := "") (Or.inl (hw _ (List.mem_of_getElem? (i := 14) rfl))) Via.refl e1008 f1010 f1011 (Or.inl (hw _ (List.mem_of_getElem? (i := 15) rfl))) (hw _ (List.mem_of_getElem? (i := 1) rfl)) (ty := (.array .int)) (by decide) rfl rfl (g := (mkF m 20 #[.val (.ref a1)] [(.ref b1008), (.ref a1)])) rfl rfl (hb hby d1_20)
  refine Goal.step (T' := T1012) (g' := (mkF m 23 #[.val (.ref a1)] [])) ?_ st1012
  have sz1013 : h1008.size ≤ h1012.size := Nat.le_of_eq W1012.size.symm
  have F1012 := Fld.same W1012 f1010
  have N1012 := Fr.snoc X1012 N1006 (by omega : n0 ≤ a1)
  refine Goal.step (T' := T1012) (g' := (mkF m 24 #[.val (.ref a1)] [(.ref a1)])) ?_ (fun t k => XS.aloadN X1012.here hx rfl (hb hby d1_23) rfl rfl k)
  obtain ⟨T1014, h1014, X1014, e1014, E1014, A1014, D1014, -, st1014⟩ := newO X1012 hx hZ hown (hw _ (List.mem_of_getElem? (i := 16) rfl)) (hw _ (List.mem_of_getElem? (i := 17) rfl)) (hw _ (List.mem_of_getElem? (i := 18) rfl)) e1012 (g := (mkF m 24 #[.val (.ref a1)] [(.ref a1)])) rfl (hb hby d1_24) (by decide) (by decide)
  obtain ⟨b1014, g1014⟩ : ∃ z, z = h1012.size := ⟨_, rfl⟩
  rw [← g1014] at A1014 D1014 st1014
  refine Goal.step (T' := T1014) (g' := (mkF m 27 #[.val (.ref a1)] [(.ref b1014), (.ref a1)])) ?_ st1014
  have sz1015 : h1012.size ≤ h1014.size := E1014.1
  have lt_b1014 : b1014 < h1014.size := A1014.lt
  refine Goal.step (T' := T1014) (g' := (mkF m 28 #[.val (.ref a1)] [(.ref b1014), (.ref b1014), (.ref a1)])) ?_ (fun t k => XS.dup X1014.here hx rfl (hb hby d1_27) rfl rfl k)
  obtain ⟨v1016, T1016, h1016, L1016, X1016, e1016, hQ1016, st1016⟩ := callInit X1014 hx hZ hown rfl (hw _ (List.mem_of_getElem? (i := 19) rfl)) (hw _ (List.mem_of_getElem? (i := 20) rfl)) (hw _ (List.mem_of_getElem? (i := 18) rfl)) (hw _ (List.mem_of_getElem? (i := 21) rfl)) (by decide) (rmHM l Z a0 hw b1014 (.float 0) h1014 n0 (by omega) A1014 (D1014 (Or.inr (hw _ (List.mem_of_getElem? (i := 31) rfl))) (ty := .float) (by decide)) (by omega) (by omega)) e1014 (W := 2) (by decide) (by decide) (by decide) (by decide) (g := (mkF m 28 #[.val (.ref a1)] [(.ref b1014), (.ref b1014), (.ref a1)])) rfl (by rw [hml]; rfl) (a := b1014) (argsL := []) (rest := [(.ref b1014), (.ref a1)]) (lenOf pd_0 rfl) rfl (by show 2 * 0 + _ ≤ _; exact Nat.le_of_eq rfl) (hb hby d1_28) rfl
  obtain ⟨rfl, M1016, K1016⟩ := hQ1016
  have N1016 := Fr.app N1012 M1016
  refine Goal.step (T' := T1016) (g' := (mkF m 31 #[.val (.ref a1)] [(.ref b1014), (.ref a1)])) ?_ st1016
  have sz1017 : h1014.size ≤ h1016.size := K1016.1
  have f1018 : Fld Z h1016 a1 "com/example/prove_permissions/provepermissions/model/XmiIds" "overflow" "Ljava/util/Map;" u2 := (((Fld.other W1012 ((Fld.other W1006 (F2.ext E1002) (Or.inr (slot_ne (Or.inr (hw _ (List.mem_of_getElem? (i := 33) rfl))) (Or.inl (hw _ (List.mem_of_getElem? (i := 12) rfl))) (by decide) (t := (.object "java/util/Map")) (t' := (.array (.object "java/lang/String"))) (by decide) (by decide)))).ext E1008) (Or.inr (slot_ne (Or.inr (hw _ (List.mem_of_getElem? (i := 33) rfl))) (Or.inl (hw _ (List.mem_of_getElem? (i := 15) rfl))) (by decide) (t := (.object "java/util/Map")) (t' := (.array .int)) (by decide) (by decide)))).ext E1014).keep K1016 (ninS (nne (by omega)) nin0))
  have f1019 : Exa Z h1016 a1 "com/example/prove_permissions/provepermissions/model/XmiIds" := (((Exa.wr W1012 f1011).ext E1014).keep K1016)
  obtain ⟨T1020, h1020, X1020, e1020, W1020, st1020⟩ := putF X1016 hx hZ hown (host := "") (Or.inl (hw _ (List.mem_of_getElem? (i := 32) rfl))) Via.refl e1016 f1018 f1019 (Or.inr ⟨(hw _ (List.mem_of_getElem? (i := 33) rfl)), rfl, hnm⟩) (hw _ (List.mem_of_getElem? (i := 1) rfl)) (ty := (.object "java/util/Map")) (by decide) rfl rfl (g := (mkF m 31 #[.val (.ref a1)] [(.ref b1014), (.ref a1)])) rfl rfl (hb hby d1_31)
  refine Goal.step (T' := T1020) (g' := (mkF m 34 #[.val (.ref a1)] [])) ?_ st1020
  have sz1021 : h1016.size ≤ h1020.size := Nat.le_of_eq W1020.size.symm
  have F1020 := Fld.same W1020 f1018
  have N1020 := Fr.snoc X1020 N1016 (by omega : n0 ≤ a1)
  refine Goal.step (T' := T1020) (g' := (mkF m 35 #[.val (.ref a1)] [(.ref a1)])) ?_ (fun t k => XS.aloadN X1020.here hx rfl (hb hby d1_34) rfl rfl k)
  refine Goal.step (T' := T1020) (g' := (mkF m 38 #[.val (.ref a1)] [(.int (1024 : Int32)), (.ref a1)])) ?_ (fun t k => XS.sipush X1020.here hx rfl (hb hby d1_35) k)
  obtain ⟨T1022, h1022, k1022, X1022, e1022, E1022, A1022, O1022, st1022⟩ := newR X1020 hx hZ hown (hw _ (List.mem_of_getElem? (i := 9) rfl)) (hw _ (List.mem_of_getElem? (i := 10) rfl)) e1020 (g := (mkF m 38 #[.val (.ref a1)] [(.int (1024 : Int32)), (.ref a1)])) rfl (hb hby d1_38) rfl (by decide) (cap := 1024) (by decide) (by decide) (by decide) (by decide)
  obtain ⟨b1022, g1022⟩ : ∃ z, z = h1020.size := ⟨_, rfl⟩
  rw [← g1022] at A1022 st1022
  refine Goal.step (T' := T1022) (g' := (mkF m 41 #[.val (.ref a1)] [(.ref b1022), (.ref a1)])) ?_ st1022
  have sz1023 : h1020.size ≤ h1022.size := E1022.1
  have lt_b1022 : b1022 < h1022.size := A1022.lt
  have V1022 : Arh Z h1022 b1022 k1022 (.object "java/lang/String") (1024 : Int32) [] [] .null := (Arv.new A1022 (by decide)).arh
  have f1024 : Fld Z h1022 a1 "com/example/prove_permissions/provepermissions/model/XmiIds" "ids" "[Ljava/lang/String;" u3 := ((Fld.other W1020 (((Fld.other W1012 ((Fld.other W1006 (F3.ext E1002) (Or.inr (slot_ne (Or.inl (hw _ (List.mem_of_getElem? (i := 35) rfl))) (Or.inl (hw _ (List.mem_of_getElem? (i := 12) rfl))) (by decide) (t := (.array (.object "java/lang/String"))) (t' := (.array (.object "java/lang/String"))) (by decide) (by decide)))).ext E1008) (Or.inr (slot_ne (Or.inl (hw _ (List.mem_of_getElem? (i := 35) rfl))) (Or.inl (hw _ (List.mem_of_getElem? (i := 15) rfl))) (by decide) (t := (.array (.object "java/lang/String"))) (t' := (.array .int)) (by decide) (by decide)))).ext E1014).keep K1016 (ninS (nne (by omega)) nin0)) (Or.inr (slot_ne (Or.inl (hw _ (List.mem_of_getElem? (i := 35) rfl))) (Or.inr (hw _ (List.mem_of_getElem? (i := 33) rfl))) (by decide) (t := (.array (.object "java/lang/String"))) (t' := (.object "java/util/Map")) (by decide) (by decide)))).ext E1022)
  have f1025 : Exa Z h1022 a1 "com/example/prove_permissions/provepermissions/model/XmiIds" := ((Exa.wr W1020 f1019).ext E1022)
  obtain ⟨T1026, h1026, X1026, e1026, W1026, st1026⟩ := putF X1022 hx hZ hown (host := "") (Or.inl (hw _ (List.mem_of_getElem? (i := 34) rfl))) Via.refl e1022 f1024 f1025 (Or.inl (hw _ (List.mem_of_getElem? (i := 35) rfl))) (hw _ (List.mem_of_getElem? (i := 1) rfl)) (ty := (.array (.object "java/lang/String"))) (by decide) rfl rfl (g := (mkF m 41 #[.val (.ref a1)] [(.ref b1022), (.ref a1)])) rfl rfl (hb hby d1_41)
  refine Goal.step (T' := T1026) (g' := (mkF m 44 #[.val (.ref a1)] [])) ?_ st1026
  have sz1027 : h1022.size ≤ h1026.size := Nat.le_of_eq W1026.size.symm
  have F1026 := Fld.same W1026 f1024
  have N1026 := Fr.snoc X1026 N1020 (by omega : n0 ≤ a1)
  refine Goal.step (T' := T1026) (g' := (mkF m 45 #[.val (.ref a1)] [(.ref a1)])) ?_ (fun t k => XS.aloadN X1026.here hx rfl (hb hby d1_44) rfl rfl k)
  refine Goal.step (T' := T1026) (g' := (mkF m 48 #[.val (.ref a1)] [(.int (1024 : Int32)), (.ref a1)])) ?_ (fun t k => XS.sipush X1026.here hx rfl (hb hby d1_45) k)
  obtain ⟨T1028, h1028, k1028, X1028, e1028, E1028, A1028, O1028, st1028⟩ := newR X1026 hx hZ hown (hw _ (List.mem_of_getElem? (i := 9) rfl)) (hw _ (List.mem_of_getElem? (i := 10) rfl)) e1026 (g := (mkF m 48 #[.val (.ref a1)] [(.int (1024 : Int32)), (.ref a1)])) rfl (hb hby d1_48) rfl (by decide) (cap := 1024) (by decide) (by decide) (by decide) (by decide)
  obtain ⟨b1028, g1028⟩ : ∃ z, z = h1026.size := ⟨_, rfl⟩
  rw [← g1028] at A1028 st1028
  refine Goal.step (T' := T1028) (g' := (mkF m 51 #[.val (.ref a1)] [(.ref b1028), (.ref a1)])) ?_ st1028
  have sz1029 : h1026.size ≤ h1028.size := E1028.1
  have lt_b1028 : b1028 < h1028.size := A1028.lt
  have V1028 : Arh Z h1028 b1028 k1028 (.object "java/lang/String") (1024 : Int32) [] [] .null := (Arv.new A1028 (by decide)).arh
  have f1030 : Fld Z h1028 a1 "com/example/prove_permissions/provepermissions/model/XmiIds" "elementKinds" "[Ljava/lang/String;" u4 := ((Fld.other W1026 ((Fld.other W1020 (((Fld.other W1012 ((Fld.other W1006 (F4.ext E1002) (Or.inr (slot_ne (Or.inl (hw _ (List.mem_of_getElem? (i := 37) rfl))) (Or.inl (hw _ (List.mem_of_getElem? (i := 12) rfl))) (by decide) (t := (.array (.object "java/lang/String"))) (t' := (.array (.object "java/lang/String"))) (by decide) (by decide)))).ext E1008) (Or.inr (slot_ne (Or.inl (hw _ (List.mem_of_getElem? (i := 37) rfl))) (Or.inl (hw _ (List.mem_of_getElem? (i := 15) rfl))) (by decide) (t := (.array (.object "java/lang/String"))) (t' := (.array .int)) (by decide) (by decide)))).ext E1014).keep K1016 (ninS (nne (by omega)) nin0)) (Or.inr (slot_ne (Or.inl (hw _ (List.mem_of_getElem? (i := 37) rfl))) (Or.inr (hw _ (List.mem_of_getElem? (i := 33) rfl))) (by decide) (t := (.array (.object "java/lang/String"))) (t' := (.object "java/util/Map")) (by decide) (by decide)))).ext E1022) (Or.inr (slot_ne (Or.inl (hw _ (List.mem_of_getElem? (i := 37) rfl))) (Or.inl (hw _ (List.mem_of_getElem? (i := 35) rfl))) (by decide) (t := (.array (.object "java/lang/String"))) (t' := (.array (.object "java/lang/String"))) (by decide) (by decide)))).ext E1028)
  have f1031 : Exa Z h1028 a1 "com/example/prove_permissions/provepermissions/model/XmiIds" := ((Exa.wr W1026 f1025).ext E1028)
  obtain ⟨T1032, h1032, X1032, e1032, W1032, st1032⟩ := putF X1028 hx hZ hown (host := "") (Or.inl (hw _ (List.mem_of_getElem? (i := 36) rfl))) Via.refl e1028 f1030 f1031 (Or.inl (hw _ (List.mem_of_getElem? (i := 37) rfl))) (hw _ (List.mem_of_getElem? (i := 1) rfl)) (ty := (.array (.object "java/lang/String"))) (by decide) rfl rfl (g := (mkF m 51 #[.val (.ref a1)] [(.ref b1028), (.ref a1)])) rfl rfl (hb hby d1_51)
  refine Goal.step (T' := T1032) (g' := (mkF m 54 #[.val (.ref a1)] [])) ?_ st1032
  have sz1033 : h1028.size ≤ h1032.size := Nat.le_of_eq W1032.size.symm
  have F1032 := Fld.same W1032 f1030
  have N1032 := Fr.snoc X1032 N1026 (by omega : n0 ≤ a1)
  refine Goal.step (T' := T1032) (g' := (mkF m 55 #[.val (.ref a1)] [(.ref a1)])) ?_ (fun t k => XS.aloadN X1032.here hx rfl (hb hby d1_54) rfl rfl k)
  refine Goal.step (T' := T1032) (g' := (mkF m 58 #[.val (.ref a1)] [(.int (1024 : Int32)), (.ref a1)])) ?_ (fun t k => XS.sipush X1032.here hx rfl (hb hby d1_55) k)
  obtain ⟨T1034, h1034, k1034, X1034, e1034, E1034, A1034, O1034, st1034⟩ := newR X1032 hx hZ hown (hw _ (List.mem_of_getElem? (i := 9) rfl)) (hw _ (List.mem_of_getElem? (i := 10) rfl)) e1032 (g := (mkF m 58 #[.val (.ref a1)] [(.int (1024 : Int32)), (.ref a1)])) rfl (hb hby d1_58) rfl (by decide) (cap := 1024) (by decide) (by decide) (by decide) (by decide)
  obtain ⟨b1034, g1034⟩ : ∃ z, z = h1032.size := ⟨_, rfl⟩
  rw [← g1034] at A1034 st1034
  refine Goal.step (T' := T1034) (g' := (mkF m 61 #[.val (.ref a1)] [(.ref b1034), (.ref a1)])) ?_ st1034
  have sz1035 : h1032.size ≤ h1034.size := E1034.1
  have lt_b1034 : b1034 < h1034.size := A1034.lt
  have V1034 : Arh Z h1034 b1034 k1034 (.object "java/lang/String") (1024 : Int32) [] [] .null := (Arv.new A1034 (by decide)).arh
  have f1036 : Fld Z h1034 a1 "com/example/prove_permissions/provepermissions/model/XmiIds" "types" "[Ljava/lang/String;" u5 := ((Fld.other W1032 ((Fld.other W1026 ((Fld.other W1020 (((Fld.other W1012 ((Fld.other W1006 (F5.ext E1002) (Or.inr (slot_ne (Or.inl (hw _ (List.mem_of_getElem? (i := 39) rfl))) (Or.inl (hw _ (List.mem_of_getElem? (i := 12) rfl))) (by decide) (t := (.array (.object "java/lang/String"))) (t' := (.array (.object "java/lang/String"))) (by decide) (by decide)))).ext E1008) (Or.inr (slot_ne (Or.inl (hw _ (List.mem_of_getElem? (i := 39) rfl))) (Or.inl (hw _ (List.mem_of_getElem? (i := 15) rfl))) (by decide) (t := (.array (.object "java/lang/String"))) (t' := (.array .int)) (by decide) (by decide)))).ext E1014).keep K1016 (ninS (nne (by omega)) nin0)) (Or.inr (slot_ne (Or.inl (hw _ (List.mem_of_getElem? (i := 39) rfl))) (Or.inr (hw _ (List.mem_of_getElem? (i := 33) rfl))) (by decide) (t := (.array (.object "java/lang/String"))) (t' := (.object "java/util/Map")) (by decide) (by decide)))).ext E1022) (Or.inr (slot_ne (Or.inl (hw _ (List.mem_of_getElem? (i := 39) rfl))) (Or.inl (hw _ (List.mem_of_getElem? (i := 35) rfl))) (by decide) (t := (.array (.object "java/lang/String"))) (t' := (.array (.object "java/lang/String"))) (by decide) (by decide)))).ext E1028) (Or.inr (slot_ne (Or.inl (hw _ (List.mem_of_getElem? (i := 39) rfl))) (Or.inl (hw _ (List.mem_of_getElem? (i := 37) rfl))) (by decide) (t := (.array (.object "java/lang/String"))) (t' := (.array (.object "java/lang/String"))) (by decide) (by decide)))).ext E1034)
  have f1037 : Exa Z h1034 a1 "com/example/prove_permissions/provepermissions/model/XmiIds" := ((Exa.wr W1032 f1031).ext E1034)
  obtain ⟨T1038, h1038, X1038, e1038, W1038, st1038⟩ := putF X1034 hx hZ hown (host := "") (Or.inl (hw _ (List.mem_of_getElem? (i := 38) rfl))) Via.refl e1034 f1036 f1037 (Or.inl (hw _ (List.mem_of_getElem? (i := 39) rfl))) (hw _ (List.mem_of_getElem? (i := 1) rfl)) (ty := (.array (.object "java/lang/String"))) (by decide) rfl rfl (g := (mkF m 61 #[.val (.ref a1)] [(.ref b1034), (.ref a1)])) rfl rfl (hb hby d1_61)
  refine Goal.step (T' := T1038) (g' := (mkF m 64 #[.val (.ref a1)] [])) ?_ st1038
  have sz1039 : h1034.size ≤ h1038.size := Nat.le_of_eq W1038.size.symm
  have F1038 := Fld.same W1038 f1036
  have N1038 := Fr.snoc X1038 N1032 (by omega : n0 ≤ a1)
  refine Goal.step (T' := T1038) (g' := (mkF m 65 #[.val (.ref a1)] [(.ref a1)])) ?_ (fun t k => XS.aloadN X1038.here hx rfl (hb hby d1_64) rfl rfl k)
  refine Goal.step (T' := T1038) (g' := (mkF m 68 #[.val (.ref a1)] [(.int (1024 : Int32)), (.ref a1)])) ?_ (fun t k => XS.sipush X1038.here hx rfl (hb hby d1_65) k)
  obtain ⟨T1040, h1040, k1040, X1040, e1040, E1040, A1040, O1040, st1040⟩ := newR X1038 hx hZ hown (hw _ (List.mem_of_getElem? (i := 40) rfl)) (hw _ (List.mem_of_getElem? (i := 41) rfl)) e1038 (g := (mkF m 68 #[.val (.ref a1)] [(.int (1024 : Int32)), (.ref a1)])) rfl (hb hby d1_68) rfl (by decide) (cap := 1024) (by decide) (by decide) (by decide) (by decide)
  obtain ⟨b1040, g1040⟩ : ∃ z, z = h1038.size := ⟨_, rfl⟩
  rw [← g1040] at A1040 st1040
  refine Goal.step (T' := T1040) (g' := (mkF m 71 #[.val (.ref a1)] [(.ref b1040), (.ref a1)])) ?_ st1040
  have sz1041 : h1038.size ≤ h1040.size := E1040.1
  have lt_b1040 : b1040 < h1040.size := A1040.lt
  have V1040 : Arh Z h1040 b1040 k1040 (.object "java/lang/Object") (1024 : Int32) [] [] .null := (Arv.new A1040 (by decide)).arh
  have f1042 : Fld Z h1040 a1 "com/example/prove_permissions/provepermissions/model/XmiIds" "holders" "[Ljava/lang/Object;" u6 := ((Fld.other W1038 ((Fld.other W1032 ((Fld.other W1026 ((Fld.other W1020 (((Fld.other W1012 ((Fld.other W1006 (F6.ext E1002) (Or.inr (slot_ne (Or.inl (hw _ (List.mem_of_getElem? (i := 43) rfl))) (Or.inl (hw _ (List.mem_of_getElem? (i := 12) rfl))) (by decide) (t := (.array (.object "java/lang/Object"))) (t' := (.array (.object "java/lang/String"))) (by decide) (by decide)))).ext E1008) (Or.inr (slot_ne (Or.inl (hw _ (List.mem_of_getElem? (i := 43) rfl))) (Or.inl (hw _ (List.mem_of_getElem? (i := 15) rfl))) (by decide) (t := (.array (.object "java/lang/Object"))) (t' := (.array .int)) (by decide) (by decide)))).ext E1014).keep K1016 (ninS (nne (by omega)) nin0)) (Or.inr (slot_ne (Or.inl (hw _ (List.mem_of_getElem? (i := 43) rfl))) (Or.inr (hw _ (List.mem_of_getElem? (i := 33) rfl))) (by decide) (t := (.array (.object "java/lang/Object"))) (t' := (.object "java/util/Map")) (by decide) (by decide)))).ext E1022) (Or.inr (slot_ne (Or.inl (hw _ (List.mem_of_getElem? (i := 43) rfl))) (Or.inl (hw _ (List.mem_of_getElem? (i := 35) rfl))) (by decide) (t := (.array (.object "java/lang/Object"))) (t' := (.array (.object "java/lang/String"))) (by decide) (by decide)))).ext E1028) (Or.inr (slot_ne (Or.inl (hw _ (List.mem_of_getElem? (i := 43) rfl))) (Or.inl (hw _ (List.mem_of_getElem? (i := 37) rfl))) (by decide) (t := (.array (.object "java/lang/Object"))) (t' := (.array (.object "java/lang/String"))) (by decide) (by decide)))).ext E1034) (Or.inr (slot_ne (Or.inl (hw _ (List.mem_of_getElem? (i := 43) rfl))) (Or.inl (hw _ (List.mem_of_getElem? (i := 39) rfl))) (by decide) (t := (.array (.object "java/lang/Object"))) (t' := (.array (.object "java/lang/String"))) (by decide) (by decide)))).ext E1040)
  have f1043 : Exa Z h1040 a1 "com/example/prove_permissions/provepermissions/model/XmiIds" := ((Exa.wr W1038 f1037).ext E1040)
  obtain ⟨T1044, h1044, X1044, e1044, W1044, st1044⟩ := putF X1040 hx hZ hown (host := "") (Or.inl (hw _ (List.mem_of_getElem? (i := 42) rfl))) Via.refl e1040 f1042 f1043 (Or.inl (hw _ (List.mem_of_getElem? (i := 43) rfl))) (hw _ (List.mem_of_getElem? (i := 1) rfl)) (ty := (.array (.object "java/lang/Object"))) (by decide) rfl rfl (g := (mkF m 71 #[.val (.ref a1)] [(.ref b1040), (.ref a1)])) rfl rfl (hb hby d1_71)
  refine Goal.step (T' := T1044) (g' := (mkF m 74 #[.val (.ref a1)] [])) ?_ st1044
  have sz1045 : h1040.size ≤ h1044.size := Nat.le_of_eq W1044.size.symm
  have F1044 := Fld.same W1044 f1042
  have N1044 := Fr.snoc X1044 N1038 (by omega : n0 ≤ a1)
  refine Goal.step (T' := T1044) (g' := (mkF m 75 #[.val (.ref a1)] [(.ref a1)])) ?_ (fun t k => XS.aloadN X1044.here hx rfl (hb hby d1_74) rfl rfl k)
  refine Goal.step (T' := T1044) (g' := (mkF m 78 #[.val (.ref a1)] [(.int (1024 : Int32)), (.ref a1)])) ?_ (fun t k => XS.sipush X1044.here hx rfl (hb hby d1_75) k)
  obtain ⟨T1046, h1046, k1046, X1046, e1046, E1046, A1046, st1046⟩ := newP X1044 hx hZ (hw _ (List.mem_of_getElem? (i := 13) rfl)) e1044 (g := (mkF m 78 #[.val (.ref a1)] [(.int (1024 : Int32)), (.ref a1)])) rfl (hb hby d1_78) rfl (by decide) (cap := 1024) (by decide) (by decide) (by decide) (by decide)
  obtain ⟨b1046, g1046⟩ : ∃ z, z = h1044.size := ⟨_, rfl⟩
  rw [← g1046] at A1046 st1046
  refine Goal.step (T' := T1046) (g' := (mkF m 80 #[.val (.ref a1)] [(.ref b1046), (.ref a1)])) ?_ st1046
  have sz1047 : h1044.size ≤ h1046.size := E1046.1
  have lt_b1046 : b1046 < h1046.size := A1046.lt
  have V1046 : Arh Z h1046 b1046 k1046 .int (1024 : Int32) [] [] (.int (0 : Int32)) := (Arv.new A1046 (by decide)).arh
  have f1048 : Fld Z h1046 a1 "com/example/prove_permissions/provepermissions/model/XmiIds" "places" "[I" u7 := ((Fld.other W1044 ((Fld.other W1038 ((Fld.other W1032 ((Fld.other W1026 ((Fld.other W1020 (((Fld.other W1012 ((Fld.other W1006 (F7.ext E1002) (Or.inr (slot_ne (Or.inl (hw _ (List.mem_of_getElem? (i := 45) rfl))) (Or.inl (hw _ (List.mem_of_getElem? (i := 12) rfl))) (by decide) (t := (.array .int)) (t' := (.array (.object "java/lang/String"))) (by decide) (by decide)))).ext E1008) (Or.inr (slot_ne (Or.inl (hw _ (List.mem_of_getElem? (i := 45) rfl))) (Or.inl (hw _ (List.mem_of_getElem? (i := 15) rfl))) (by decide) (t := (.array .int)) (t' := (.array .int)) (by decide) (by decide)))).ext E1014).keep K1016 (ninS (nne (by omega)) nin0)) (Or.inr (slot_ne (Or.inl (hw _ (List.mem_of_getElem? (i := 45) rfl))) (Or.inr (hw _ (List.mem_of_getElem? (i := 33) rfl))) (by decide) (t := (.array .int)) (t' := (.object "java/util/Map")) (by decide) (by decide)))).ext E1022) (Or.inr (slot_ne (Or.inl (hw _ (List.mem_of_getElem? (i := 45) rfl))) (Or.inl (hw _ (List.mem_of_getElem? (i := 35) rfl))) (by decide) (t := (.array .int)) (t' := (.array (.object "java/lang/String"))) (by decide) (by decide)))).ext E1028) (Or.inr (slot_ne (Or.inl (hw _ (List.mem_of_getElem? (i := 45) rfl))) (Or.inl (hw _ (List.mem_of_getElem? (i := 37) rfl))) (by decide) (t := (.array .int)) (t' := (.array (.object "java/lang/String"))) (by decide) (by decide)))).ext E1034) (Or.inr (slot_ne (Or.inl (hw _ (List.mem_of_getElem? (i := 45) rfl))) (Or.inl (hw _ (List.mem_of_getElem? (i := 39) rfl))) (by decide) (t := (.array .int)) (t' := (.array (.object "java/lang/String"))) (by decide) (by decide)))).ext E1040) (Or.inr (slot_ne (Or.inl (hw _ (List.mem_of_getElem? (i := 45) rfl))) (Or.inl (hw _ (List.mem_of_getElem? (i := 43) rfl))) (by decide) (t := (.array .int)) (t' := (.array (.object "java/lang/Object"))) (by decide) (by decide)))).ext E1046)
  have f1049 : Exa Z h1046 a1 "com/example/prove_permissions/provepermissions/model/XmiIds" := ((Exa.wr W1044 f1043).ext E1046)
  obtain ⟨T1050, h1050, X1050, e1050, W1050, st1050⟩ := putF X1046 hx hZ hown (host := "") (Or.inl (hw _ (List.mem_of_getElem? (i := 44) rfl))) Via.refl e1046 f1048 f1049 (Or.inl (hw _ (List.mem_of_getElem? (i := 45) rfl))) (hw _ (List.mem_of_getElem? (i := 1) rfl)) (ty := (.array .int)) (by decide) rfl rfl (g := (mkF m 80 #[.val (.ref a1)] [(.ref b1046), (.ref a1)])) rfl rfl (hb hby d1_80)
  refine Goal.step (T' := T1050) (g' := (mkF m 83 #[.val (.ref a1)] [])) ?_ st1050
  have sz1051 : h1046.size ≤ h1050.size := Nat.le_of_eq W1050.size.symm
  have F1050 := Fld.same W1050 f1048
  have N1050 := Fr.snoc X1050 N1044 (by omega : n0 ≤ a1)
  refine Goal.retV X1050 hx hret (hb hby d1_83) ?_
  have k1052 : Keep h0 h1050 [a1] := ((((((((((((((((((Keep.refl h0 [a1]).ext E1002).wr W1006 (Or.inl (by simp))).ext E1008).wr W1012 (Or.inl (by simp))).ext E1014).trans K1016 (allS (Or.inr (by omega)) all0)).wr W1020 (Or.inl (by simp))).ext E1022).wr W1026 (Or.inl (by simp))).ext E1028).wr W1032 (Or.inl (by simp))).ext E1034).wr W1038 (Or.inl (by simp))).ext E1040).wr W1044 (Or.inl (by simp))).ext E1046).wr W1050 (Or.inl (by simp)))
  have f1053 : Fld Z h1050 a1 "com/example/prove_permissions/provepermissions/model/XmiIds" "holders" "[Ljava/lang/Object;" (.ref b1040) := (Fld.other W1050 (F1044.ext E1046) (Or.inr (slot_ne (Or.inl (hw _ (List.mem_of_getElem? (i := 43) rfl))) (Or.inl (hw _ (List.mem_of_getElem? (i := 45) rfl))) (by decide) (t := (.array (.object "java/lang/Object"))) (t' := (.array .int)) (by decide) (by decide))))
  have f1054 : Arh Z h1050 b1040 k1040 (.object "java/lang/Object") (1024 : Int32) [] [] .null := (((V1040.other W1044 (nne (by omega))).ext E1046).other W1050 (nne (by omega)))
  have f1055 : Arh Z h1050 b1046 k1046 .int (1024 : Int32) [] [] (.int (0 : Int32)) := (V1046.other W1050 (nne (by omega)))
  refine ⟨?_, by decide, by decide⟩
  rw [e1050]
  exact ⟨rfl, N1050, k1052, b1040, _, b1046, _, f1053, F1050, f1054, O1040, f1055, by omega, by omega, by omega⟩
theorem d8_0 : decode prog_40_method_9_code 0 = .ok (.aload_n 0, 1) := by decide +kernel
theorem d8_1 : decode prog_40_method_9_code 1 = .ok (.getfield 35, 3) := by decide +kernel
theorem d8_4 : decode prog_40_method_9_code 4 = .ok (.iload_n 1, 1) := by decide +kernel
theorem d8_5 : decode prog_40_method_9_code 5 = .ok (.aload_n 2, 1) := by decide +kernel
theorem d8_6 : decode prog_40_method_9_code 6 = .ok (.aastore, 1) := by decide +kernel
theorem d8_7 : decode prog_40_method_9_code 7 = .ok (.aload_n 0, 1) := by decide +kernel
theorem d8_8 : decode prog_40_method_9_code 8 = .ok (.getfield 39, 3) := by decide +kernel
theorem d8_11 : decode prog_40_method_9_code 11 = .ok (.iload_n 1, 1) := by decide +kernel
theorem d8_12 : decode prog_40_method_9_code 12 = .ok (.iload_n 3, 1) := by decide +kernel
theorem d8_13 : decode prog_40_method_9_code 13 = .ok (.iastore, 1) := by decide +kernel
theorem d8_14 : decode prog_40_method_9_code 14 = .ok (.return_, 1) := by decide +kernel
theorem ef_8 (m : MethodId) (x0 : Nat) (x1 : Int32) (x2 : Nat) (x3 : Int32) : entryFrame m #[(.ref x0), (.int x1), (.ref x2), (.int x3)] 4 = mkF m 0 #[.val (.ref x0), .val (.int x1), .val (.ref x2), .val (.int x3)] [] := by first | (simp [entryFrame, mkF, argsToLocals, Value.category]; done) | rfl
set_option maxRecDepth 65536 in
set_option maxHeartbeats 40000000 in
theorem rmHO (l : Launch) (Z : State) (a0 : Array Value) (hw : ∀ d ∈ tables_1, d.before a0 Z = true) (a1 : Nat) (p2 : Int32) (a3 : Nat) (p4 : Int32) (b1 b2 : Nat) (k1 k2 : ClassId) (hs1 hs2 : List (Int32 × Value)) (h0 : Heap) (n0 : Nat) (Z0 : n0 ≤ h0.size) (F1 : Fld Z h0 a1 "com/example/prove_permissions/provepermissions/model/XmiIds" "holders" "[Ljava/lang/Object;" (.ref b1)) (F2 : Fld Z h0 a1 "com/example/prove_permissions/provepermissions/model/XmiIds" "places" "[I" (.ref b2)) (A1 : Arh Z h0 b1 k1 (.object "java/lang/Object") (1024 : Int32) hs1 [] .null) (O1 : Ovr Z k1 "java/lang/Object") (A2 : Arh Z h0 b2 k2 .int (1024 : Int32) hs2 [] (.int (0 : Int32))) (E3 : Exa Z h0 a3 "java/util/ArrayList") (hin : ¬ p2 < 0 ∧ p2 < (1024 : Int32)) (g1 : n0 ≤ b1) (g2 : n0 ≤ b2) (ne12 : b1 ≠ b2) (nea1 : a1 ≠ b1) (nea2 : a1 ≠ b2) :
    Met l (⟨"com/example/prove_permissions/provepermissions/model/XmiIds", "hold", "(ILjava/lang/Object;I)V"⟩ : MethodName) prog_40_method_9_code 4 none [] ({ frames := 0, cells := 0, slots := 0, locals := 0 } : Room) Z #[(.ref a1), (.int p2), (.ref a3), (.int p4)] h0 (fun v h L => v = none ∧ Fr n0 L ∧ Keep h0 h [b1, b2] ∧ Arh Z h b1 k1 (.object "java/lang/Object") (1024 : Int32) ((p2, .ref a3) :: hs1) [] .null ∧ Arh Z h b2 k2 .int (1024 : Int32) ((p2, .int p4) :: hs2) [] (.int (0 : Int32))) := by
  refine of_goal (plainFor_of_name (by first | (simp [plainName, overriddenIn]; done) | decide +kernel)) ?_
  intro p e s m below meth c s₁ C X0 e0
  have C0 := C
  obtain ⟨hx, hZ, hby, hml, hret, hown, hnm⟩ := C
  have hown : s.vm.findClass "com/example/prove_permissions/provepermissions/model/XmiIds" = some m.cls := hown
  have hret : meth.sig.returnType = none := hret
  have N0 := Fr.nil n0
  rw [ef_8]
  refine Goal.step (T' := s₁) (g' := (mkF m 1 #[.val (.ref a1), .val (.int p2), .val (.ref a3), .val (.int p4)] [(.ref a1)])) ?_ (fun t k => XS.aloadN X0.here hx rfl (hb hby d8_0) rfl rfl k)
  obtain ⟨T1001, X1001, e1001, st1001⟩ := getF X0 hx hZ hown (host := "") (Or.inl (hw _ (List.mem_of_getElem? (i := 42) rfl))) Via.refl e0 F1 (g := (mkF m 1 #[.val (.ref a1), .val (.int p2), .val (.ref a3), .val (.int p4)] [(.ref a1)])) rfl rfl (hb hby d8_1)
  refine Goal.step (T' := T1001) (g' := (mkF m 4 #[.val (.ref a1), .val (.int p2), .val (.ref a3), .val (.int p4)] [(.ref b1)])) ?_ st1001
  refine Goal.step (T' := T1001) (g' := (mkF m 5 #[.val (.ref a1), .val (.int p2), .val (.ref a3), .val (.int p4)] [(.int p2), (.ref b1)])) ?_ (fun t k => XS.iloadN X1001.here hx rfl (hb hby d8_4) rfl k)
  refine Goal.step (T' := T1001) (g' := (mkF m 6 #[.val (.ref a1), .val (.int p2), .val (.ref a3), .val (.int p4)] [(.ref a3), (.int p2), (.ref b1)])) ?_ (fun t k => XS.aloadN X1001.here hx rfl (hb hby d8_5) rfl rfl k)
  obtain ⟨cl1002, Ar1002, q1002, S1002, N_1002, H1002, G1002⟩ := (id A1)
  have hin1002 : ¬ (p2 < 0 ∨ cl1002.slots.size ≤ (p2).toNatClampNeg) := inb_of S1002 hin
  obtain ⟨T1002, h1002, X1002, e1002, W1002, st1002⟩ := stR X1001 hx hZ e1001 Ar1002 (j := p2) hin1002 rfl (Sto.ofV Ar1002 q1002 O1 (Ins.of_exa E3 (hw _ (List.mem_of_getElem? (i := 75) rfl)))) (g := (mkF m 6 #[.val (.ref a1), .val (.int p2), .val (.ref a3), .val (.int p4)] [(.ref a3), (.int p2), (.ref b1)])) rfl rfl (hb hby d8_6)
  refine Goal.step (T' := T1002) (g' := (mkF m 7 #[.val (.ref a1), .val (.int p2), .val (.ref a3), .val (.int p4)] [])) ?_ st1002
  have sz1003 : h0.size ≤ h1002.size := Nat.le_of_eq W1002.size.symm
  have V1002 : Arh Z h1002 b1 k1 (.object "java/lang/Object") (1024 : Int32) ((p2, (.ref a3)) :: hs1) [] .null := Arh.push Ar1002 q1002 S1002 N_1002 H1002 G1002 rfl W1002 hin1002
  have N1002 := Fr.snoc X1002 N0 (by omega : n0 ≤ b1)
  refine Goal.step (T' := T1002) (g' := (mkF m 8 #[.val (.ref a1), .val (.int p2), .val (.ref a3), .val (.int p4)] [(.ref a1)])) ?_ (fun t k => XS.aloadN X1002.here hx rfl (hb hby d8_7) rfl rfl k)
  have f1004 : Fld Z h1002 a1 "com/example/prove_permissions/provepermissions/model/XmiIds" "places" "[I" (.ref b2) := (Fld.other W1002 F2 (Or.inl (nne (by omega))))
  obtain ⟨T1005, X1005, e1005, st1005⟩ := getF X1002 hx hZ hown (host := "") (Or.inl (hw _ (List.mem_of_getElem? (i := 44) rfl))) Via.refl e1002 f1004 (g := (mkF m 8 #[.val (.ref a1), .val (.int p2), .val (.ref a3), .val (.int p4)] [(.ref a1)])) rfl rfl (hb hby d8_8)
  refine Goal.step (T' := T1005) (g' := (mkF m 11 #[.val (.ref a1), .val (.int p2), .val (.ref a3), .val (.int p4)] [(.ref b2)])) ?_ st1005
  refine Goal.step (T' := T1005) (g' := (mkF m 12 #[.val (.ref a1), .val (.int p2), .val (.ref a3), .val (.int p4)] [(.int p2), (.ref b2)])) ?_ (fun t k => XS.iloadN X1005.here hx rfl (hb hby d8_11) rfl k)
  refine Goal.step (T' := T1005) (g' := (mkF m 13 #[.val (.ref a1), .val (.int p2), .val (.ref a3), .val (.int p4)] [(.int p4), (.int p2), (.ref b2)])) ?_ (fun t k => XS.iloadN X1005.here hx rfl (hb hby d8_12) rfl k)
  have f1007 : Arh Z h1002 b2 k2 .int (1024 : Int32) hs2 [] (.int (0 : Int32)) := (A2.other W1002 (nne (by omega)))
  obtain ⟨cl1006, Ar1006, q1006, S1006, N_1006, H1006, G1006⟩ := (id f1007)
  have hin1006 : ¬ (p2 < 0 ∨ cl1006.slots.size ≤ (p2).toNatClampNeg) := inb_of S1006 hin
  obtain ⟨T1006, h1006, X1006, e1006, W1006, st1006⟩ := stI X1005 hx hZ e1005 Ar1006 (j := p2) hin1006  (g := (mkF m 13 #[.val (.ref a1), .val (.int p2), .val (.ref a3), .val (.int p4)] [(.int p4), (.int p2), (.ref b2)])) rfl rfl (hb hby d8_13)
  refine Goal.step (T' := T1006) (g' := (mkF m 14 #[.val (.ref a1), .val (.int p2), .val (.ref a3), .val (.int p4)] [])) ?_ st1006
  have sz1008 : h1002.size ≤ h1006.size := Nat.le_of_eq W1006.size.symm
  have V1006 : Arh Z h1006 b2 k2 .int (1024 : Int32) ((p2, (.int p4)) :: hs2) [] (.int (0 : Int32)) := Arh.push Ar1006 q1006 S1006 N_1006 H1006 G1006 rfl W1006 hin1006
  have N1006 := Fr.snoc X1006 N1002 (by omega : n0 ≤ b2)
  refine Goal.retV X1006 hx hret (hb hby d8_14) ?_
  have k1009 : Keep h0 h1006 [b1, b2] := (((Keep.refl h0 [b1, b2]).wr W1002 (Or.inl (by simp))).wr W1006 (Or.inl (by simp)))
  have f1010 : Arh Z h1006 b1 k1 (.object "java/lang/Object") (1024 : Int32) ((p2, (.ref a3)) :: hs1) [] .null := (V1002.other W1006 (nne (by omega)))
  refine ⟨?_, by decide, by decide⟩
  rw [e1006]
  exact ⟨rfl, N1006, k1009, f1010, V1006⟩
theorem d9_0 : decode prog_40_method_10_code 0 = .ok (.iload_n 1, 1) := by decide +kernel
theorem d9_1 : decode prog_40_method_10_code 1 = .ok (.ifCond .lt 22, 3) := by decide +kernel
theorem d9_23 : decode prog_40_method_10_code 23 = .ok (.iconst (-1), 1) := by decide +kernel
theorem d9_24 : decode prog_40_method_10_code 24 = .ok (.ireturn, 1) := by decide +kernel
theorem d9_4 : decode prog_40_method_10_code 4 = .ok (.aload_n 0, 1) := by decide +kernel
theorem d9_5 : decode prog_40_method_10_code 5 = .ok (.getfield 35, 3) := by decide +kernel
theorem d9_8 : decode prog_40_method_10_code 8 = .ok (.iload_n 1, 1) := by decide +kernel
theorem d9_9 : decode prog_40_method_10_code 9 = .ok (.aaload, 1) := by decide +kernel
theorem d9_10 : decode prog_40_method_10_code 10 = .ok (.aload_n 2, 1) := by decide +kernel
theorem d9_11 : decode prog_40_method_10_code 11 = .ok (.if_acmp .ne 12, 3) := by decide +kernel
theorem d9_14 : decode prog_40_method_10_code 14 = .ok (.aload_n 0, 1) := by decide +kernel
theorem d9_15 : decode prog_40_method_10_code 15 = .ok (.getfield 39, 3) := by decide +kernel
theorem d9_18 : decode prog_40_method_10_code 18 = .ok (.iload_n 1, 1) := by decide +kernel
theorem d9_19 : decode prog_40_method_10_code 19 = .ok (.iaload, 1) := by decide +kernel
theorem d9_20 : decode prog_40_method_10_code 20 = .ok (.goto 4, 3) := by decide +kernel
theorem ef_9 (m : MethodId) (x0 : Nat) (x1 : Int32) (x2 : Nat) : entryFrame m #[(.ref x0), (.int x1), (.ref x2)] 3 = mkF m 0 #[.val (.ref x0), .val (.int x1), .val (.ref x2)] [] := by first | (simp [entryFrame, mkF, argsToLocals, Value.category]; done) | rfl
set_option maxRecDepth 65536 in
set_option maxHeartbeats 40000000 in
theorem rmPL (l : Launch) (Z : State) (a0 : Array Value) (hw : ∀ d ∈ tables_1, d.before a0 Z = true) (a1 : Nat) (p2 : Int32) (a3 : Nat) (b1 b2 : Nat) (k1 k2 : ClassId) (hs1 hs2 : List (Int32 × Value)) (h0 : Heap) (n0 : Nat) (Z0 : n0 ≤ h0.size) (F1 : Fld Z h0 a1 "com/example/prove_permissions/provepermissions/model/XmiIds" "holders" "[Ljava/lang/Object;" (.ref b1)) (F2 : Fld Z h0 a1 "com/example/prove_permissions/provepermissions/model/XmiIds" "places" "[I" (.ref b2)) (A1 : Arh Z h0 b1 k1 (.object "java/lang/Object") (1024 : Int32) hs1 [] .null) (O1 : Ovr Z k1 "java/lang/Object") (A2 : Arh Z h0 b2 k2 .int (1024 : Int32) hs2 [] (.int (0 : Int32))) (hbd : ¬ p2 < 0 → p2 < (1024 : Int32)) (G1 : good1 hs1) (G2 : good2 hs2) :
    Met l (⟨"com/example/prove_permissions/provepermissions/model/XmiIds", "placeIn", "(ILjava/lang/Object;)I"⟩ : MethodName) prog_40_method_10_code 3 (some .int) [] ({ frames := 0, cells := 0, slots := 0, locals := 0 } : Room) Z #[(.ref a1), (.int p2), (.ref a3)] h0 (fun v h L => v = some (.int (pl hs1 hs2 p2 a3)) ∧ Fr n0 L ∧ h = h0) := by
  refine of_goal (plainFor_of_name (by first | (simp [plainName, overriddenIn]; done) | decide +kernel)) ?_
  intro p e s m below meth c s₁ C X0 e0
  have C0 := C
  obtain ⟨hx, hZ, hby, hml, hret, hown, hnm⟩ := C
  have hown : s.vm.findClass "com/example/prove_permissions/provepermissions/model/XmiIds" = some m.cls := hown
  have hret : meth.sig.returnType = (some .int) := hret
  have N0 := Fr.nil n0
  rw [ef_9]
  refine Goal.step (T' := s₁) (g' := (mkF m 1 #[.val (.ref a1), .val (.int p2), .val (.ref a3)] [(.int p2)])) ?_ (fun t k => XS.iloadN X0.here hx rfl (hb hby d9_0) rfl k)
  by_cases c1001 : p2 < (0 : Int32)
  · refine Goal.step (T' := s₁) (g' := (mkF m 23 #[.val (.ref a1), .val (.int p2), .val (.ref a3)] [])) ?_ (fun t k => XS.ifYes X0.here hx rfl (pc0 := 1) (pc' := 23) rfl (hb hby d9_1) rfl ((if0 _ _).trans (tlt c1001).1) (by decide) (by decide) k)
    refine Goal.step (T' := s₁) (g' := (mkF m 24 #[.val (.ref a1), .val (.int p2), .val (.ref a3)] [(.int (-1 : Int32))])) ?_ (fun t k => XS.iconst X0.here hx rfl (hb hby d9_23) k)
    refine Goal.retI X0 hx hret (hb hby d9_24) ?_
    refine ⟨?_, by decide, by decide⟩
    rw [e0]
    exact ⟨by rw [pl, if_pos c1001], N0, rfl⟩
  · refine Goal.step (T' := s₁) (g' := (mkF m 4 #[.val (.ref a1), .val (.int p2), .val (.ref a3)] [])) ?_ (fun t k => XS.ifNo X0.here hx rfl (hb hby d9_1) rfl ((if0 _ _).trans (flt c1001).1) k)
    refine Goal.step (T' := s₁) (g' := (mkF m 5 #[.val (.ref a1), .val (.int p2), .val (.ref a3)] [(.ref a1)])) ?_ (fun t k => XS.aloadN X0.here hx rfl (hb hby d9_4) rfl rfl k)
    obtain ⟨T1002, X1002, e1002, st1002⟩ := getF X0 hx hZ hown (host := "") (Or.inl (hw _ (List.mem_of_getElem? (i := 42) rfl))) Via.refl e0 F1 (g := (mkF m 5 #[.val (.ref a1), .val (.int p2), .val (.ref a3)] [(.ref a1)])) rfl rfl (hb hby d9_5)
    refine Goal.step (T' := T1002) (g' := (mkF m 8 #[.val (.ref a1), .val (.int p2), .val (.ref a3)] [(.ref b1)])) ?_ st1002
    refine Goal.step (T' := T1002) (g' := (mkF m 9 #[.val (.ref a1), .val (.int p2), .val (.ref a3)] [(.int p2), (.ref b1)])) ?_ (fun t k => XS.iloadN X1002.here hx rfl (hb hby d9_8) rfl k)
    obtain ⟨v1, hv1⟩ : ∃ z, z = getH hs1 [] .null p2.toNatClampNeg := ⟨_, rfl⟩
    have r1 : v1.isRef = true := by rw [hv1]; exact G1 p2
    obtain ⟨cl1003, Ar1003, q1003, S1003, N_1003, H1003, G1003⟩ := (id A1)
    have hin1003 : ¬ (p2 < 0 ∨ cl1003.slots.size ≤ (p2).toNatClampNeg) := inb_of S1003 ⟨c1001, hbd c1001⟩
    have hat1003 : cl1003.slots[(p2).toNatClampNeg]? = some v1 := atH H1003 hin1003 hv1.symm
    refine Goal.step (T' := T1002) (g' := (mkF m 10 #[.val (.ref a1), .val (.int p2), .val (.ref a3)] [v1])) ?_ (fun t k => X1002.aaload hx (j := p2) (v := v1) (by rw [e1002]; exact Ar1003.1) (State.isArrayOf_alike hZ.alike Ar1003.2.1) rfl Ar1003.2.2 hin1003 hat1003 (g := (mkF m 9 #[.val (.ref a1), .val (.int p2), .val (.ref a3)] [(.int p2), (.ref b1)])) rfl rfl (hb hby d9_9) _ k)
    refine Goal.step (T' := T1002) (g' := (mkF m 11 #[.val (.ref a1), .val (.int p2), .val (.ref a3)] [(.ref a3), v1])) ?_ (fun t k => XS.aloadN X1002.here hx rfl (hb hby d9_10) rfl rfl k)
    by_cases hsame0 : v1 = .ref a3
    · have hsame : getH hs1 [] .null p2.toNatClampNeg = .ref a3 := hv1 ▸ hsame0
      refine Goal.step (T' := T1002) (g' := (mkF m 14 #[.val (.ref a1), .val (.int p2), .val (.ref a3)] [])) ?_ (fun t k => Jvm.RoadKit.acmp (g := (mkF m 11 #[.val (.ref a1), .val (.int p2), .val (.ref a3)] [(.ref a3), v1])) X1002 hx rfl r1 rfl (pc0 := 11) (pc' := 14) (same := true) rfl (hb hby d9_11) rfl (decide_eq_true hsame0) (by decide) (by decide) k)
      refine Goal.step (T' := T1002) (g' := (mkF m 15 #[.val (.ref a1), .val (.int p2), .val (.ref a3)] [(.ref a1)])) ?_ (fun t k => XS.aloadN X1002.here hx rfl (hb hby d9_14) rfl rfl k)
      obtain ⟨T1004, X1004, e1004, st1004⟩ := getF X1002 hx hZ hown (host := "") (Or.inl (hw _ (List.mem_of_getElem? (i := 44) rfl))) Via.refl e1002 F2 (g := (mkF m 15 #[.val (.ref a1), .val (.int p2), .val (.ref a3)] [(.ref a1)])) rfl rfl (hb hby d9_15)
      refine Goal.step (T' := T1004) (g' := (mkF m 18 #[.val (.ref a1), .val (.int p2), .val (.ref a3)] [(.ref b2)])) ?_ st1004
      refine Goal.step (T' := T1004) (g' := (mkF m 19 #[.val (.ref a1), .val (.int p2), .val (.ref a3)] [(.int p2), (.ref b2)])) ?_ (fun t k => XS.iloadN X1004.here hx rfl (hb hby d9_18) rfl k)
      obtain ⟨w2, hw2⟩ : ∃ z, wv (getH hs2 [] (.int (0 : Int32)) p2.toNatClampNeg) = z := ⟨_, rfl⟩
      obtain ⟨cl1005, Ar1005, q1005, S1005, N_1005, H1005, G1005⟩ := (id A2)
      have hin1005 : ¬ (p2 < 0 ∨ cl1005.slots.size ≤ (p2).toNatClampNeg) := inb_of S1005 ⟨c1001, hbd c1001⟩
      have hat1005 : cl1005.slots[(p2).toNatClampNeg]? = some (.int w2) := atH H1005 hin1005 (by rw [← hw2]; exact G2 p2)
      refine Goal.step (T' := T1004) (g' := (mkF m 20 #[.val (.ref a1), .val (.int p2), .val (.ref a3)] [(.int w2)])) ?_ (fun t k => X1004.iaload hx (j := p2) (v := (.int w2)) (by rw [e1004]; exact Ar1005.1) (State.isArrayOf_alike hZ.alike Ar1005.2.1) Ar1005.2.2 hin1005 hat1005 (g := (mkF m 19 #[.val (.ref a1), .val (.int p2), .val (.ref a3)] [(.int p2), (.ref b2)])) rfl rfl (hb hby d9_19) _ k)
      refine Goal.step (T' := T1004) (g' := (mkF m 24 #[.val (.ref a1), .val (.int p2), .val (.ref a3)] [(.int w2)])) ?_ (fun t k => XS.goto X1004.here hx rfl (pc0 := 20) (pc' := 24) rfl (hb hby d9_20) (by decide) (by decide) k)
      refine Goal.retI X1004 hx hret (hb hby d9_24) ?_
      refine ⟨?_, by decide, by decide⟩
      rw [e1004]
      exact ⟨by rw [pl, if_neg c1001, if_pos hsame, hw2], N0, rfl⟩
    · have hsame : ¬ (getH hs1 [] .null p2.toNatClampNeg = .ref a3) := hv1 ▸ hsame0
      refine Goal.step (T' := T1002) (g' := (mkF m 23 #[.val (.ref a1), .val (.int p2), .val (.ref a3)] [])) ?_ (fun t k => Jvm.RoadKit.acmp (g := (mkF m 11 #[.val (.ref a1), .val (.int p2), .val (.ref a3)] [(.ref a3), v1])) X1002 hx rfl r1 rfl (pc0 := 11) (pc' := 23) (same := false) rfl (hb hby d9_11) rfl (decide_eq_false hsame0) (by decide) (by decide) k)
      refine Goal.step (T' := T1002) (g' := (mkF m 24 #[.val (.ref a1), .val (.int p2), .val (.ref a3)] [(.int (-1 : Int32))])) ?_ (fun t k => XS.iconst X1002.here hx rfl (hb hby d9_23) k)
      refine Goal.retI X1002 hx hret (hb hby d9_24) ?_
      refine ⟨?_, by decide, by decide⟩
      rw [e1002]
      exact ⟨by rw [pl, if_neg c1001, if_neg hsame], N0, rfl⟩
theorem pd_1 : parseMethodDescriptor "(ILjava/lang/Object;)I" = some ⟨[.int, (.object "java/lang/Object")], some .int⟩ := by decide +kernel
set_option maxRecDepth 65536 in
set_option maxHeartbeats 40000000 in
theorem seg168 {p : Program} {l : Launch} {e : Env} {s : State} {m : MethodId} {args : Array Value} {below : List Frame} {meth : Method} {c : Code} {Z : State} {a0 : Array Value} {T0 : State} {locs : List Loc} (hw : ∀ d ∈ tables_1, d.before a0 Z = true) (C0 : Ctx p s m meth c Z code maxLocals ret x.cls x.name) (p1 p2 p3 p4 p5 p6 : Int32) (b6 a7 a8 : Nat) (i9 j10 f11 f12 f13 f14 : Int32) (b1 b2 : Nat) (k1 k2 : ClassId) (hs1 hs2 : List (Int32 × Value)) (k15 : Int32) (a16 : Nat) (h0 : Heap) (n0 : Nat) (Z0 : n0 ≤ h0.size) (X0 : Stand p l e room_1 s m args below meth c T0 locs 11 7191) (e0 : T0.heap = h0) (N0 : Fr n0 locs) (F1 : Fld Z h0 b6 "com/example/prove_permissions/provepermissions/model/XmiIds" "holders" "[Ljava/lang/Object;" (.ref b1)) (F2 : Fld Z h0 b6 "com/example/prove_permissions/provepermissions/model/XmiIds" "places" "[I" (.ref b2)) (A1 : Arh Z h0 b1 k1 (.object "java/lang/Object") (1024 : Int32) hs1 [] .null) (O1 : Ovr Z k1 "java/lang/Object") (A2 : Arh Z h0 b2 k2 .int (1024 : Int32) hs2 [] (.int (0 : Int32))) (E6 : Exa Z h0 b6 "com/example/prove_permissions/provepermissions/model/XmiIds") (E7 : Exa Z h0 a7 "java/util/ArrayList") (E8 : Exa Z h0 a8 "java/util/ArrayList") (hbd : ¬ k15 < 0 → k15 < (1024 : Int32)) (G1 : good1 hs1) (G2 : good2 hs2) (hE : pl hs1 hs2 k15 a16 = expd f11 f12 f13 k15 i9 j10 p3 p4) :
    Goal p l e room_1 s m args below meth c (In room_1 (fun v h L => v = some (.int 1) ∧ Fr n0 L)) T0 (mkF m 168 #[.val (.int p1), .val (.int p2), .val (.int p3), .val (.int p4), .val (.int p5), .val (.int p6), .val (.ref b6), .val (.ref a7), .val (.ref a8), .val (.int i9), .val (.int j10), .val (.int f11), .val (.int f12), .val (.int f13), .val (.int f14), .val (.int k15), .val (.ref a16), .unset, .unset] []) := by
  have C := C0
  obtain ⟨hx, hZ, hby, hml, hret, hown, hnm⟩ := C
  have hown : s.vm.findClass "com/example/prove_permissions/provepermissions/model/XmiIdsPlaceInPinLaw" = some m.cls := hown
  have hret : meth.sig.returnType = (some .boolean) := hret
  refine Goal.step (T' := T0) (g' := (mkF m 170 #[.val (.int p1), .val (.int p2), .val (.int p3), .val (.int p4), .val (.int p5), .val (.int p6), .val (.ref b6), .val (.ref a7), .val (.ref a8), .val (.int i9), .val (.int j10), .val (.int f11), .val (.int f12), .val (.int f13), .val (.int f14), .val (.int k15), .val (.ref a16), .unset, .unset] [(.ref b6)])) ?_ (fun t k => XS.aload X0.here hx rfl (hb hby at_168) rfl rfl k)
  refine Goal.step (T' := T0) (g' := (mkF m 172 #[.val (.int p1), .val (.int p2), .val (.int p3), .val (.int p4), .val (.int p5), .val (.int p6), .val (.ref b6), .val (.ref a7), .val (.ref a8), .val (.int i9), .val (.int j10), .val (.int f11), .val (.int f12), .val (.int f13), .val (.int f14), .val (.int k15), .val (.ref a16), .unset, .unset] [(.int k15), (.ref b6)])) ?_ (fun t k => XS.iload X0.here hx rfl (hb hby at_170) rfl k)
  refine Goal.step (T' := T0) (g' := (mkF m 174 #[.val (.int p1), .val (.int p2), .val (.int p3), .val (.int p4), .val (.int p5), .val (.int p6), .val (.ref b6), .val (.ref a7), .val (.ref a8), .val (.int i9), .val (.int j10), .val (.int f11), .val (.int f12), .val (.int f13), .val (.int f14), .val (.int k15), .val (.ref a16), .unset, .unset] [(.ref a16), (.int k15), (.ref b6)])) ?_ (fun t k => XS.aload X0.here hx rfl (hb hby at_172) rfl rfl k)
  obtain ⟨v1001, T1001, h1001, L1001, X1001, e1001, hQ1001, st1001⟩ := callVirt X0 hx hZ hown (hw _ (List.mem_of_getElem? (i := 76) rfl)) (hw _ (List.mem_of_getElem? (i := 77) rfl)) (notFace_of_selects (args := #[]) (mvT hZ (hw _ (List.mem_of_getElem? (i := 79) rfl)))) (hw _ (List.mem_of_getElem? (i := 79) rfl)) (hw _ (List.mem_of_getElem? (i := 78) rfl)) (hw _ (List.mem_of_getElem? (i := 2) rfl)) (hw _ (List.mem_of_getElem? (i := 80) rfl)) (by decide) (rmPL l Z a0 hw b6 k15 a16 b1 b2 k1 k2 hs1 hs2 h0 n0 (by omega) F1 F2 A1 O1 A2 hbd G1 G2) e0 E6 (W := 0) (by decide) (by decide) (by decide) (by decide) (g := (mkF m 174 #[.val (.int p1), .val (.int p2), .val (.int p3), .val (.int p4), .val (.int p5), .val (.int p6), .val (.ref b6), .val (.ref a7), .val (.ref a8), .val (.int i9), .val (.int j10), .val (.int f11), .val (.int f12), .val (.int f13), .val (.int f14), .val (.int k15), .val (.ref a16), .unset, .unset] [(.ref a16), (.int k15), (.ref b6)])) rfl (by rw [hml]; rfl) (argsL := [(.int k15), (.ref a16)]) (rest := []) (lenOf pd_1 rfl) rfl (by show 2 * 0 + _ ≤ _; exact Nat.le_of_eq rfl) (hb hby at_174) rfl
  obtain ⟨rfl, M1001, q1001⟩ := hQ1001
  rw [q1001] at e1001
  have N1001 := Fr.app N0 M1001
  refine Goal.step (T' := T1001) (g' := (mkF m 177 #[.val (.int p1), .val (.int p2), .val (.int p3), .val (.int p4), .val (.int p5), .val (.int p6), .val (.ref b6), .val (.ref a7), .val (.ref a8), .val (.int i9), .val (.int j10), .val (.int f11), .val (.int f12), .val (.int f13), .val (.int f14), .val (.int k15), .val (.ref a16), .unset, .unset] [(.int (pl hs1 hs2 k15 a16))])) ?_ st1001
  refine Goal.step (T' := T1001) (g' := (mkF m 179 #[.val (.int p1), .val (.int p2), .val (.int p3), .val (.int p4), .val (.int p5), .val (.int p6), .val (.ref b6), .val (.ref a7), .val (.ref a8), .val (.int i9), .val (.int j10), .val (.int f11), .val (.int f12), .val (.int f13), .val (.int f14), .val (.int k15), .val (.ref a16), .val (.int (pl hs1 hs2 k15 a16)), .unset] [])) ?_ (fun t k => XS.istore X1001.here hx rfl (hb hby at_177) rfl (l' := #[.val (.int p1), .val (.int p2), .val (.int p3), .val (.int p4), .val (.int p5), .val (.int p6), .val (.ref b6), .val (.ref a7), .val (.ref a8), .val (.int i9), .val (.int j10), .val (.int f11), .val (.int f12), .val (.int f13), .val (.int f14), .val (.int k15), .val (.ref a16), .val (.int (pl hs1 hs2 k15 a16)), .unset]) rfl k)
  refine Goal.step (T' := T1001) (g' := (mkF m 181 #[.val (.int p1), .val (.int p2), .val (.int p3), .val (.int p4), .val (.int p5), .val (.int p6), .val (.ref b6), .val (.ref a7), .val (.ref a8), .val (.int i9), .val (.int j10), .val (.int f11), .val (.int f12), .val (.int f13), .val (.int f14), .val (.int k15), .val (.ref a16), .val (.int (pl hs1 hs2 k15 a16)), .unset] [(.int k15)])) ?_ (fun t k => XS.iload X1001.here hx rfl (hb hby at_179) rfl k)
  by_cases c1002 : k15 < (0 : Int32)
  · refine Goal.step (T' := T1001) (g' := (mkF m 184 #[.val (.int p1), .val (.int p2), .val (.int p3), .val (.int p4), .val (.int p5), .val (.int p6), .val (.ref b6), .val (.ref a7), .val (.ref a8), .val (.int i9), .val (.int j10), .val (.int f11), .val (.int f12), .val (.int f13), .val (.int f14), .val (.int k15), .val (.ref a16), .val (.int (pl hs1 hs2 k15 a16)), .unset] [])) ?_ (fun t k => XS.ifNo X1001.here hx rfl (hb hby at_181) rfl ((if0 _ _).trans (tlt c1002).2.1) k)
    refine Goal.step (T' := T1001) (g' := (mkF m 185 #[.val (.int p1), .val (.int p2), .val (.int p3), .val (.int p4), .val (.int p5), .val (.int p6), .val (.ref b6), .val (.ref a7), .val (.ref a8), .val (.int i9), .val (.int j10), .val (.int f11), .val (.int f12), .val (.int f13), .val (.int f14), .val (.int k15), .val (.ref a16), .val (.int (pl hs1 hs2 k15 a16)), .unset] [(.int (-1 : Int32))])) ?_ (fun t k => XS.iconst X1001.here hx rfl (hb hby at_184) k)
    refine Goal.step (T' := T1001) (g' := (mkF m 187 #[.val (.int p1), .val (.int p2), .val (.int p3), .val (.int p4), .val (.int p5), .val (.int p6), .val (.ref b6), .val (.ref a7), .val (.ref a8), .val (.int i9), .val (.int j10), .val (.int f11), .val (.int f12), .val (.int f13), .val (.int f14), .val (.int k15), .val (.ref a16), .val (.int (pl hs1 hs2 k15 a16)), .val (.int (-1 : Int32))] [])) ?_ (fun t k => XS.istore X1001.here hx rfl (hb hby at_185) rfl (l' := #[.val (.int p1), .val (.int p2), .val (.int p3), .val (.int p4), .val (.int p5), .val (.int p6), .val (.ref b6), .val (.ref a7), .val (.ref a8), .val (.int i9), .val (.int j10), .val (.int f11), .val (.int f12), .val (.int f13), .val (.int f14), .val (.int k15), .val (.ref a16), .val (.int (pl hs1 hs2 k15 a16)), .val (.int (-1 : Int32))]) rfl k)
    refine Goal.step (T' := T1001) (g' := (mkF m 247 #[.val (.int p1), .val (.int p2), .val (.int p3), .val (.int p4), .val (.int p5), .val (.int p6), .val (.ref b6), .val (.ref a7), .val (.ref a8), .val (.int i9), .val (.int j10), .val (.int f11), .val (.int f12), .val (.int f13), .val (.int f14), .val (.int k15), .val (.ref a16), .val (.int (pl hs1 hs2 k15 a16)), .val (.int (-1 : Int32))] [])) ?_ (fun t k => XS.goto X1001.here hx rfl (pc0 := 187) (pc' := 247) rfl (hb hby at_187) (by decide) (by decide) k)
    refine Goal.step (T' := T1001) (g' := (mkF m 249 #[.val (.int p1), .val (.int p2), .val (.int p3), .val (.int p4), .val (.int p5), .val (.int p6), .val (.ref b6), .val (.ref a7), .val (.ref a8), .val (.int i9), .val (.int j10), .val (.int f11), .val (.int f12), .val (.int f13), .val (.int f14), .val (.int k15), .val (.ref a16), .val (.int (pl hs1 hs2 k15 a16)), .val (.int (-1 : Int32))] [(.int (pl hs1 hs2 k15 a16))])) ?_ (fun t k => XS.iload X1001.here hx rfl (hb hby at_247) rfl k)
    refine Goal.step (T' := T1001) (g' := (mkF m 251 #[.val (.int p1), .val (.int p2), .val (.int p3), .val (.int p4), .val (.int p5), .val (.int p6), .val (.ref b6), .val (.ref a7), .val (.ref a8), .val (.int i9), .val (.int j10), .val (.int f11), .val (.int f12), .val (.int f13), .val (.int f14), .val (.int k15), .val (.ref a16), .val (.int (pl hs1 hs2 k15 a16)), .val (.int (-1 : Int32))] [(.int (-1 : Int32)), (.int (pl hs1 hs2 k15 a16))])) ?_ (fun t k => XS.iload X1001.here hx rfl (hb hby at_249) rfl k)
    refine Goal.step (T' := T1001) (g' := (mkF m 254 #[.val (.int p1), .val (.int p2), .val (.int p3), .val (.int p4), .val (.int p5), .val (.int p6), .val (.ref b6), .val (.ref a7), .val (.ref a8), .val (.int i9), .val (.int j10), .val (.int f11), .val (.int f12), .val (.int f13), .val (.int f14), .val (.int k15), .val (.ref a16), .val (.int (pl hs1 hs2 k15 a16)), .val (.int (-1 : Int32))] [])) ?_ (fun t k => XS.icmpNo X1001.here hx rfl (hb hby at_251) rfl (teq (hE.trans (by rw [expd, if_pos c1002]))).2 k)
    refine Goal.step (T' := T1001) (g' := (mkF m 255 #[.val (.int p1), .val (.int p2), .val (.int p3), .val (.int p4), .val (.int p5), .val (.int p6), .val (.ref b6), .val (.ref a7), .val (.ref a8), .val (.int i9), .val (.int j10), .val (.int f11), .val (.int f12), .val (.int f13), .val (.int f14), .val (.int k15), .val (.ref a16), .val (.int (pl hs1 hs2 k15 a16)), .val (.int (-1 : Int32))] [(.int (1 : Int32))])) ?_ (fun t k => XS.iconst X1001.here hx rfl (hb hby at_254) k)
    refine Goal.step (T' := T1001) (g' := (mkF m 259 #[.val (.int p1), .val (.int p2), .val (.int p3), .val (.int p4), .val (.int p5), .val (.int p6), .val (.ref b6), .val (.ref a7), .val (.ref a8), .val (.int i9), .val (.int j10), .val (.int f11), .val (.int f12), .val (.int f13), .val (.int f14), .val (.int k15), .val (.ref a16), .val (.int (pl hs1 hs2 k15 a16)), .val (.int (-1 : Int32))] [(.int (1 : Int32))])) ?_ (fun t k => XS.goto X1001.here hx rfl (pc0 := 255) (pc' := 259) rfl (hb hby at_255) (by decide) (by decide) k)
    refine Goal.retN (t := .boolean) X1001 hx hret (by simp) (hb hby at_259) ?_
    exact ⟨⟨rfl, N1001⟩, by decide, by decide⟩
  · refine Goal.step (T' := T1001) (g' := (mkF m 190 #[.val (.int p1), .val (.int p2), .val (.int p3), .val (.int p4), .val (.int p5), .val (.int p6), .val (.ref b6), .val (.ref a7), .val (.ref a8), .val (.int i9), .val (.int j10), .val (.int f11), .val (.int f12), .val (.int f13), .val (.int f14), .val (.int k15), .val (.ref a16), .val (.int (pl hs1 hs2 k15 a16)), .unset] [])) ?_ (fun t k => XS.ifYes X1001.here hx rfl (pc0 := 181) (pc' := 190) rfl (hb hby at_181) rfl ((if0 _ _).trans (flt c1002).2.1) (by decide) (by decide) k)
    refine Goal.step (T' := T1001) (g' := (mkF m 192 #[.val (.int p1), .val (.int p2), .val (.int p3), .val (.int p4), .val (.int p5), .val (.int p6), .val (.ref b6), .val (.ref a7), .val (.ref a8), .val (.int i9), .val (.int j10), .val (.int f11), .val (.int f12), .val (.int f13), .val (.int f14), .val (.int k15), .val (.ref a16), .val (.int (pl hs1 hs2 k15 a16)), .unset] [(.int f12)])) ?_ (fun t k => XS.iload X1001.here hx rfl (hb hby at_190) rfl k)
    by_cases c1003 : f12 = (0 : Int32)
    · refine Goal.step (T' := T1001) (g' := (mkF m 217 #[.val (.int p1), .val (.int p2), .val (.int p3), .val (.int p4), .val (.int p5), .val (.int p6), .val (.ref b6), .val (.ref a7), .val (.ref a8), .val (.int i9), .val (.int j10), .val (.int f11), .val (.int f12), .val (.int f13), .val (.int f14), .val (.int k15), .val (.ref a16), .val (.int (pl hs1 hs2 k15 a16)), .unset] [])) ?_ (fun t k => XS.ifYes X1001.here hx rfl (pc0 := 192) (pc' := 217) rfl (hb hby at_192) rfl ((if0 _ _).trans (teq c1003).1) (by decide) (by decide) k)
      refine Goal.step (T' := T1001) (g' := (mkF m 219 #[.val (.int p1), .val (.int p2), .val (.int p3), .val (.int p4), .val (.int p5), .val (.int p6), .val (.ref b6), .val (.ref a7), .val (.ref a8), .val (.int i9), .val (.int j10), .val (.int f11), .val (.int f12), .val (.int f13), .val (.int f14), .val (.int k15), .val (.ref a16), .val (.int (pl hs1 hs2 k15 a16)), .unset] [(.int f11)])) ?_ (fun t k => XS.iload X1001.here hx rfl (hb hby at_217) rfl k)
      by_cases c1004 : f11 = (0 : Int32)
      · refine Goal.step (T' := T1001) (g' := (mkF m 244 #[.val (.int p1), .val (.int p2), .val (.int p3), .val (.int p4), .val (.int p5), .val (.int p6), .val (.ref b6), .val (.ref a7), .val (.ref a8), .val (.int i9), .val (.int j10), .val (.int f11), .val (.int f12), .val (.int f13), .val (.int f14), .val (.int k15), .val (.ref a16), .val (.int (pl hs1 hs2 k15 a16)), .unset] [])) ?_ (fun t k => XS.ifYes X1001.here hx rfl (pc0 := 219) (pc' := 244) rfl (hb hby at_219) rfl ((if0 _ _).trans (teq c1004).1) (by decide) (by decide) k)
        refine Goal.step (T' := T1001) (g' := (mkF m 245 #[.val (.int p1), .val (.int p2), .val (.int p3), .val (.int p4), .val (.int p5), .val (.int p6), .val (.ref b6), .val (.ref a7), .val (.ref a8), .val (.int i9), .val (.int j10), .val (.int f11), .val (.int f12), .val (.int f13), .val (.int f14), .val (.int k15), .val (.ref a16), .val (.int (pl hs1 hs2 k15 a16)), .unset] [(.int (-1 : Int32))])) ?_ (fun t k => XS.iconst X1001.here hx rfl (hb hby at_244) k)
        refine Goal.step (T' := T1001) (g' := (mkF m 247 #[.val (.int p1), .val (.int p2), .val (.int p3), .val (.int p4), .val (.int p5), .val (.int p6), .val (.ref b6), .val (.ref a7), .val (.ref a8), .val (.int i9), .val (.int j10), .val (.int f11), .val (.int f12), .val (.int f13), .val (.int f14), .val (.int k15), .val (.ref a16), .val (.int (pl hs1 hs2 k15 a16)), .val (.int (-1 : Int32))] [])) ?_ (fun t k => XS.istore X1001.here hx rfl (hb hby at_245) rfl (l' := #[.val (.int p1), .val (.int p2), .val (.int p3), .val (.int p4), .val (.int p5), .val (.int p6), .val (.ref b6), .val (.ref a7), .val (.ref a8), .val (.int i9), .val (.int j10), .val (.int f11), .val (.int f12), .val (.int f13), .val (.int f14), .val (.int k15), .val (.ref a16), .val (.int (pl hs1 hs2 k15 a16)), .val (.int (-1 : Int32))]) rfl k)
        refine Goal.step (T' := T1001) (g' := (mkF m 249 #[.val (.int p1), .val (.int p2), .val (.int p3), .val (.int p4), .val (.int p5), .val (.int p6), .val (.ref b6), .val (.ref a7), .val (.ref a8), .val (.int i9), .val (.int j10), .val (.int f11), .val (.int f12), .val (.int f13), .val (.int f14), .val (.int k15), .val (.ref a16), .val (.int (pl hs1 hs2 k15 a16)), .val (.int (-1 : Int32))] [(.int (pl hs1 hs2 k15 a16))])) ?_ (fun t k => XS.iload X1001.here hx rfl (hb hby at_247) rfl k)
        refine Goal.step (T' := T1001) (g' := (mkF m 251 #[.val (.int p1), .val (.int p2), .val (.int p3), .val (.int p4), .val (.int p5), .val (.int p6), .val (.ref b6), .val (.ref a7), .val (.ref a8), .val (.int i9), .val (.int j10), .val (.int f11), .val (.int f12), .val (.int f13), .val (.int f14), .val (.int k15), .val (.ref a16), .val (.int (pl hs1 hs2 k15 a16)), .val (.int (-1 : Int32))] [(.int (-1 : Int32)), (.int (pl hs1 hs2 k15 a16))])) ?_ (fun t k => XS.iload X1001.here hx rfl (hb hby at_249) rfl k)
        refine Goal.step (T' := T1001) (g' := (mkF m 254 #[.val (.int p1), .val (.int p2), .val (.int p3), .val (.int p4), .val (.int p5), .val (.int p6), .val (.ref b6), .val (.ref a7), .val (.ref a8), .val (.int i9), .val (.int j10), .val (.int f11), .val (.int f12), .val (.int f13), .val (.int f14), .val (.int k15), .val (.ref a16), .val (.int (pl hs1 hs2 k15 a16)), .val (.int (-1 : Int32))] [])) ?_ (fun t k => XS.icmpNo X1001.here hx rfl (hb hby at_251) rfl (teq (hE.trans (by rw [expd, if_neg c1002, if_neg (show ¬ (¬ f12 = 0 ∧ k15 = j10) from fun q => q.1 c1003), if_neg (show ¬ (¬ f11 = 0 ∧ k15 = i9) from fun q => q.1 c1004)]))).2 k)
        refine Goal.step (T' := T1001) (g' := (mkF m 255 #[.val (.int p1), .val (.int p2), .val (.int p3), .val (.int p4), .val (.int p5), .val (.int p6), .val (.ref b6), .val (.ref a7), .val (.ref a8), .val (.int i9), .val (.int j10), .val (.int f11), .val (.int f12), .val (.int f13), .val (.int f14), .val (.int k15), .val (.ref a16), .val (.int (pl hs1 hs2 k15 a16)), .val (.int (-1 : Int32))] [(.int (1 : Int32))])) ?_ (fun t k => XS.iconst X1001.here hx rfl (hb hby at_254) k)
        refine Goal.step (T' := T1001) (g' := (mkF m 259 #[.val (.int p1), .val (.int p2), .val (.int p3), .val (.int p4), .val (.int p5), .val (.int p6), .val (.ref b6), .val (.ref a7), .val (.ref a8), .val (.int i9), .val (.int j10), .val (.int f11), .val (.int f12), .val (.int f13), .val (.int f14), .val (.int k15), .val (.ref a16), .val (.int (pl hs1 hs2 k15 a16)), .val (.int (-1 : Int32))] [(.int (1 : Int32))])) ?_ (fun t k => XS.goto X1001.here hx rfl (pc0 := 255) (pc' := 259) rfl (hb hby at_255) (by decide) (by decide) k)
        refine Goal.retN (t := .boolean) X1001 hx hret (by simp) (hb hby at_259) ?_
        exact ⟨⟨rfl, N1001⟩, by decide, by decide⟩
      · refine Goal.step (T' := T1001) (g' := (mkF m 222 #[.val (.int p1), .val (.int p2), .val (.int p3), .val (.int p4), .val (.int p5), .val (.int p6), .val (.ref b6), .val (.ref a7), .val (.ref a8), .val (.int i9), .val (.int j10), .val (.int f11), .val (.int f12), .val (.int f13), .val (.int f14), .val (.int k15), .val (.ref a16), .val (.int (pl hs1 hs2 k15 a16)), .unset] [])) ?_ (fun t k => XS.ifNo X1001.here hx rfl (hb hby at_219) rfl ((if0 _ _).trans (feq c1004).1) k)
        refine Goal.step (T' := T1001) (g' := (mkF m 224 #[.val (.int p1), .val (.int p2), .val (.int p3), .val (.int p4), .val (.int p5), .val (.int p6), .val (.ref b6), .val (.ref a7), .val (.ref a8), .val (.int i9), .val (.int j10), .val (.int f11), .val (.int f12), .val (.int f13), .val (.int f14), .val (.int k15), .val (.ref a16), .val (.int (pl hs1 hs2 k15 a16)), .unset] [(.int k15)])) ?_ (fun t k => XS.iload X1001.here hx rfl (hb hby at_222) rfl k)
        refine Goal.step (T' := T1001) (g' := (mkF m 226 #[.val (.int p1), .val (.int p2), .val (.int p3), .val (.int p4), .val (.int p5), .val (.int p6), .val (.ref b6), .val (.ref a7), .val (.ref a8), .val (.int i9), .val (.int j10), .val (.int f11), .val (.int f12), .val (.int f13), .val (.int f14), .val (.int k15), .val (.ref a16), .val (.int (pl hs1 hs2 k15 a16)), .unset] [(.int i9), (.int k15)])) ?_ (fun t k => XS.iload X1001.here hx rfl (hb hby at_224) rfl k)
        by_cases c1005 : k15 = i9
        · refine Goal.step (T' := T1001) (g' := (mkF m 229 #[.val (.int p1), .val (.int p2), .val (.int p3), .val (.int p4), .val (.int p5), .val (.int p6), .val (.ref b6), .val (.ref a7), .val (.ref a8), .val (.int i9), .val (.int j10), .val (.int f11), .val (.int f12), .val (.int f13), .val (.int f14), .val (.int k15), .val (.ref a16), .val (.int (pl hs1 hs2 k15 a16)), .unset] [])) ?_ (fun t k => XS.icmpNo X1001.here hx rfl (hb hby at_226) rfl (teq c1005).2 k)
          refine Goal.step (T' := T1001) (g' := (mkF m 231 #[.val (.int p1), .val (.int p2), .val (.int p3), .val (.int p4), .val (.int p5), .val (.int p6), .val (.ref b6), .val (.ref a7), .val (.ref a8), .val (.int i9), .val (.int j10), .val (.int f11), .val (.int f12), .val (.int f13), .val (.int f14), .val (.int k15), .val (.ref a16), .val (.int (pl hs1 hs2 k15 a16)), .unset] [(.int f13)])) ?_ (fun t k => XS.iload X1001.here hx rfl (hb hby at_229) rfl k)
          by_cases c1006 : f13 = (0 : Int32)
          · refine Goal.step (T' := T1001) (g' := (mkF m 238 #[.val (.int p1), .val (.int p2), .val (.int p3), .val (.int p4), .val (.int p5), .val (.int p6), .val (.ref b6), .val (.ref a7), .val (.ref a8), .val (.int i9), .val (.int j10), .val (.int f11), .val (.int f12), .val (.int f13), .val (.int f14), .val (.int k15), .val (.ref a16), .val (.int (pl hs1 hs2 k15 a16)), .unset] [])) ?_ (fun t k => XS.ifYes X1001.here hx rfl (pc0 := 231) (pc' := 238) rfl (hb hby at_231) rfl ((if0 _ _).trans (teq c1006).1) (by decide) (by decide) k)
            refine Goal.step (T' := T1001) (g' := (mkF m 239 #[.val (.int p1), .val (.int p2), .val (.int p3), .val (.int p4), .val (.int p5), .val (.int p6), .val (.ref b6), .val (.ref a7), .val (.ref a8), .val (.int i9), .val (.int j10), .val (.int f11), .val (.int f12), .val (.int f13), .val (.int f14), .val (.int k15), .val (.ref a16), .val (.int (pl hs1 hs2 k15 a16)), .unset] [(.int p3)])) ?_ (fun t k => XS.iloadN X1001.here hx rfl (hb hby at_238) rfl k)
            refine Goal.step (T' := T1001) (g' := (mkF m 241 #[.val (.int p1), .val (.int p2), .val (.int p3), .val (.int p4), .val (.int p5), .val (.int p6), .val (.ref b6), .val (.ref a7), .val (.ref a8), .val (.int i9), .val (.int j10), .val (.int f11), .val (.int f12), .val (.int f13), .val (.int f14), .val (.int k15), .val (.ref a16), .val (.int (pl hs1 hs2 k15 a16)), .val (.int p3)] [])) ?_ (fun t k => XS.istore X1001.here hx rfl (hb hby at_239) rfl (l' := #[.val (.int p1), .val (.int p2), .val (.int p3), .val (.int p4), .val (.int p5), .val (.int p6), .val (.ref b6), .val (.ref a7), .val (.ref a8), .val (.int i9), .val (.int j10), .val (.int f11), .val (.int f12), .val (.int f13), .val (.int f14), .val (.int k15), .val (.ref a16), .val (.int (pl hs1 hs2 k15 a16)), .val (.int p3)]) rfl k)
            refine Goal.step (T' := T1001) (g' := (mkF m 247 #[.val (.int p1), .val (.int p2), .val (.int p3), .val (.int p4), .val (.int p5), .val (.int p6), .val (.ref b6), .val (.ref a7), .val (.ref a8), .val (.int i9), .val (.int j10), .val (.int f11), .val (.int f12), .val (.int f13), .val (.int f14), .val (.int k15), .val (.ref a16), .val (.int (pl hs1 hs2 k15 a16)), .val (.int p3)] [])) ?_ (fun t k => XS.goto X1001.here hx rfl (pc0 := 241) (pc' := 247) rfl (hb hby at_241) (by decide) (by decide) k)
            refine Goal.step (T' := T1001) (g' := (mkF m 249 #[.val (.int p1), .val (.int p2), .val (.int p3), .val (.int p4), .val (.int p5), .val (.int p6), .val (.ref b6), .val (.ref a7), .val (.ref a8), .val (.int i9), .val (.int j10), .val (.int f11), .val (.int f12), .val (.int f13), .val (.int f14), .val (.int k15), .val (.ref a16), .val (.int (pl hs1 hs2 k15 a16)), .val (.int p3)] [(.int (pl hs1 hs2 k15 a16))])) ?_ (fun t k => XS.iload X1001.here hx rfl (hb hby at_247) rfl k)
            refine Goal.step (T' := T1001) (g' := (mkF m 251 #[.val (.int p1), .val (.int p2), .val (.int p3), .val (.int p4), .val (.int p5), .val (.int p6), .val (.ref b6), .val (.ref a7), .val (.ref a8), .val (.int i9), .val (.int j10), .val (.int f11), .val (.int f12), .val (.int f13), .val (.int f14), .val (.int k15), .val (.ref a16), .val (.int (pl hs1 hs2 k15 a16)), .val (.int p3)] [(.int p3), (.int (pl hs1 hs2 k15 a16))])) ?_ (fun t k => XS.iload X1001.here hx rfl (hb hby at_249) rfl k)
            refine Goal.step (T' := T1001) (g' := (mkF m 254 #[.val (.int p1), .val (.int p2), .val (.int p3), .val (.int p4), .val (.int p5), .val (.int p6), .val (.ref b6), .val (.ref a7), .val (.ref a8), .val (.int i9), .val (.int j10), .val (.int f11), .val (.int f12), .val (.int f13), .val (.int f14), .val (.int k15), .val (.ref a16), .val (.int (pl hs1 hs2 k15 a16)), .val (.int p3)] [])) ?_ (fun t k => XS.icmpNo X1001.here hx rfl (hb hby at_251) rfl (teq (hE.trans (by rw [expd, if_neg c1002, if_neg (show ¬ (¬ f12 = 0 ∧ k15 = j10) from fun q => q.1 c1003), if_pos (show ¬ f11 = 0 ∧ k15 = i9 from ⟨c1004, c1005⟩), if_pos c1006]))).2 k)
            refine Goal.step (T' := T1001) (g' := (mkF m 255 #[.val (.int p1), .val (.int p2), .val (.int p3), .val (.int p4), .val (.int p5), .val (.int p6), .val (.ref b6), .val (.ref a7), .val (.ref a8), .val (.int i9), .val (.int j10), .val (.int f11), .val (.int f12), .val (.int f13), .val (.int f14), .val (.int k15), .val (.ref a16), .val (.int (pl hs1 hs2 k15 a16)), .val (.int p3)] [(.int (1 : Int32))])) ?_ (fun t k => XS.iconst X1001.here hx rfl (hb hby at_254) k)
            refine Goal.step (T' := T1001) (g' := (mkF m 259 #[.val (.int p1), .val (.int p2), .val (.int p3), .val (.int p4), .val (.int p5), .val (.int p6), .val (.ref b6), .val (.ref a7), .val (.ref a8), .val (.int i9), .val (.int j10), .val (.int f11), .val (.int f12), .val (.int f13), .val (.int f14), .val (.int k15), .val (.ref a16), .val (.int (pl hs1 hs2 k15 a16)), .val (.int p3)] [(.int (1 : Int32))])) ?_ (fun t k => XS.goto X1001.here hx rfl (pc0 := 255) (pc' := 259) rfl (hb hby at_255) (by decide) (by decide) k)
            refine Goal.retN (t := .boolean) X1001 hx hret (by simp) (hb hby at_259) ?_
            exact ⟨⟨rfl, N1001⟩, by decide, by decide⟩
          · refine Goal.step (T' := T1001) (g' := (mkF m 234 #[.val (.int p1), .val (.int p2), .val (.int p3), .val (.int p4), .val (.int p5), .val (.int p6), .val (.ref b6), .val (.ref a7), .val (.ref a8), .val (.int i9), .val (.int j10), .val (.int f11), .val (.int f12), .val (.int f13), .val (.int f14), .val (.int k15), .val (.ref a16), .val (.int (pl hs1 hs2 k15 a16)), .unset] [])) ?_ (fun t k => XS.ifNo X1001.here hx rfl (hb hby at_231) rfl ((if0 _ _).trans (feq c1006).1) k)
            refine Goal.step (T' := T1001) (g' := (mkF m 235 #[.val (.int p1), .val (.int p2), .val (.int p3), .val (.int p4), .val (.int p5), .val (.int p6), .val (.ref b6), .val (.ref a7), .val (.ref a8), .val (.int i9), .val (.int j10), .val (.int f11), .val (.int f12), .val (.int f13), .val (.int f14), .val (.int k15), .val (.ref a16), .val (.int (pl hs1 hs2 k15 a16)), .unset] [(.int (-1 : Int32))])) ?_ (fun t k => XS.iconst X1001.here hx rfl (hb hby at_234) k)
            refine Goal.step (T' := T1001) (g' := (mkF m 239 #[.val (.int p1), .val (.int p2), .val (.int p3), .val (.int p4), .val (.int p5), .val (.int p6), .val (.ref b6), .val (.ref a7), .val (.ref a8), .val (.int i9), .val (.int j10), .val (.int f11), .val (.int f12), .val (.int f13), .val (.int f14), .val (.int k15), .val (.ref a16), .val (.int (pl hs1 hs2 k15 a16)), .unset] [(.int (-1 : Int32))])) ?_ (fun t k => XS.goto X1001.here hx rfl (pc0 := 235) (pc' := 239) rfl (hb hby at_235) (by decide) (by decide) k)
            refine Goal.step (T' := T1001) (g' := (mkF m 241 #[.val (.int p1), .val (.int p2), .val (.int p3), .val (.int p4), .val (.int p5), .val (.int p6), .val (.ref b6), .val (.ref a7), .val (.ref a8), .val (.int i9), .val (.int j10), .val (.int f11), .val (.int f12), .val (.int f13), .val (.int f14), .val (.int k15), .val (.ref a16), .val (.int (pl hs1 hs2 k15 a16)), .val (.int (-1 : Int32))] [])) ?_ (fun t k => XS.istore X1001.here hx rfl (hb hby at_239) rfl (l' := #[.val (.int p1), .val (.int p2), .val (.int p3), .val (.int p4), .val (.int p5), .val (.int p6), .val (.ref b6), .val (.ref a7), .val (.ref a8), .val (.int i9), .val (.int j10), .val (.int f11), .val (.int f12), .val (.int f13), .val (.int f14), .val (.int k15), .val (.ref a16), .val (.int (pl hs1 hs2 k15 a16)), .val (.int (-1 : Int32))]) rfl k)
            refine Goal.step (T' := T1001) (g' := (mkF m 247 #[.val (.int p1), .val (.int p2), .val (.int p3), .val (.int p4), .val (.int p5), .val (.int p6), .val (.ref b6), .val (.ref a7), .val (.ref a8), .val (.int i9), .val (.int j10), .val (.int f11), .val (.int f12), .val (.int f13), .val (.int f14), .val (.int k15), .val (.ref a16), .val (.int (pl hs1 hs2 k15 a16)), .val (.int (-1 : Int32))] [])) ?_ (fun t k => XS.goto X1001.here hx rfl (pc0 := 241) (pc' := 247) rfl (hb hby at_241) (by decide) (by decide) k)
            refine Goal.step (T' := T1001) (g' := (mkF m 249 #[.val (.int p1), .val (.int p2), .val (.int p3), .val (.int p4), .val (.int p5), .val (.int p6), .val (.ref b6), .val (.ref a7), .val (.ref a8), .val (.int i9), .val (.int j10), .val (.int f11), .val (.int f12), .val (.int f13), .val (.int f14), .val (.int k15), .val (.ref a16), .val (.int (pl hs1 hs2 k15 a16)), .val (.int (-1 : Int32))] [(.int (pl hs1 hs2 k15 a16))])) ?_ (fun t k => XS.iload X1001.here hx rfl (hb hby at_247) rfl k)
            refine Goal.step (T' := T1001) (g' := (mkF m 251 #[.val (.int p1), .val (.int p2), .val (.int p3), .val (.int p4), .val (.int p5), .val (.int p6), .val (.ref b6), .val (.ref a7), .val (.ref a8), .val (.int i9), .val (.int j10), .val (.int f11), .val (.int f12), .val (.int f13), .val (.int f14), .val (.int k15), .val (.ref a16), .val (.int (pl hs1 hs2 k15 a16)), .val (.int (-1 : Int32))] [(.int (-1 : Int32)), (.int (pl hs1 hs2 k15 a16))])) ?_ (fun t k => XS.iload X1001.here hx rfl (hb hby at_249) rfl k)
            refine Goal.step (T' := T1001) (g' := (mkF m 254 #[.val (.int p1), .val (.int p2), .val (.int p3), .val (.int p4), .val (.int p5), .val (.int p6), .val (.ref b6), .val (.ref a7), .val (.ref a8), .val (.int i9), .val (.int j10), .val (.int f11), .val (.int f12), .val (.int f13), .val (.int f14), .val (.int k15), .val (.ref a16), .val (.int (pl hs1 hs2 k15 a16)), .val (.int (-1 : Int32))] [])) ?_ (fun t k => XS.icmpNo X1001.here hx rfl (hb hby at_251) rfl (teq (hE.trans (by rw [expd, if_neg c1002, if_neg (show ¬ (¬ f12 = 0 ∧ k15 = j10) from fun q => q.1 c1003), if_pos (show ¬ f11 = 0 ∧ k15 = i9 from ⟨c1004, c1005⟩), if_neg c1006]))).2 k)
            refine Goal.step (T' := T1001) (g' := (mkF m 255 #[.val (.int p1), .val (.int p2), .val (.int p3), .val (.int p4), .val (.int p5), .val (.int p6), .val (.ref b6), .val (.ref a7), .val (.ref a8), .val (.int i9), .val (.int j10), .val (.int f11), .val (.int f12), .val (.int f13), .val (.int f14), .val (.int k15), .val (.ref a16), .val (.int (pl hs1 hs2 k15 a16)), .val (.int (-1 : Int32))] [(.int (1 : Int32))])) ?_ (fun t k => XS.iconst X1001.here hx rfl (hb hby at_254) k)
            refine Goal.step (T' := T1001) (g' := (mkF m 259 #[.val (.int p1), .val (.int p2), .val (.int p3), .val (.int p4), .val (.int p5), .val (.int p6), .val (.ref b6), .val (.ref a7), .val (.ref a8), .val (.int i9), .val (.int j10), .val (.int f11), .val (.int f12), .val (.int f13), .val (.int f14), .val (.int k15), .val (.ref a16), .val (.int (pl hs1 hs2 k15 a16)), .val (.int (-1 : Int32))] [(.int (1 : Int32))])) ?_ (fun t k => XS.goto X1001.here hx rfl (pc0 := 255) (pc' := 259) rfl (hb hby at_255) (by decide) (by decide) k)
            refine Goal.retN (t := .boolean) X1001 hx hret (by simp) (hb hby at_259) ?_
            exact ⟨⟨rfl, N1001⟩, by decide, by decide⟩
        · refine Goal.step (T' := T1001) (g' := (mkF m 244 #[.val (.int p1), .val (.int p2), .val (.int p3), .val (.int p4), .val (.int p5), .val (.int p6), .val (.ref b6), .val (.ref a7), .val (.ref a8), .val (.int i9), .val (.int j10), .val (.int f11), .val (.int f12), .val (.int f13), .val (.int f14), .val (.int k15), .val (.ref a16), .val (.int (pl hs1 hs2 k15 a16)), .unset] [])) ?_ (fun t k => XS.icmpYes X1001.here hx rfl (pc0 := 226) (pc' := 244) rfl (hb hby at_226) rfl (feq c1005).2 (by decide) (by decide) k)
          refine Goal.step (T' := T1001) (g' := (mkF m 245 #[.val (.int p1), .val (.int p2), .val (.int p3), .val (.int p4), .val (.int p5), .val (.int p6), .val (.ref b6), .val (.ref a7), .val (.ref a8), .val (.int i9), .val (.int j10), .val (.int f11), .val (.int f12), .val (.int f13), .val (.int f14), .val (.int k15), .val (.ref a16), .val (.int (pl hs1 hs2 k15 a16)), .unset] [(.int (-1 : Int32))])) ?_ (fun t k => XS.iconst X1001.here hx rfl (hb hby at_244) k)
          refine Goal.step (T' := T1001) (g' := (mkF m 247 #[.val (.int p1), .val (.int p2), .val (.int p3), .val (.int p4), .val (.int p5), .val (.int p6), .val (.ref b6), .val (.ref a7), .val (.ref a8), .val (.int i9), .val (.int j10), .val (.int f11), .val (.int f12), .val (.int f13), .val (.int f14), .val (.int k15), .val (.ref a16), .val (.int (pl hs1 hs2 k15 a16)), .val (.int (-1 : Int32))] [])) ?_ (fun t k => XS.istore X1001.here hx rfl (hb hby at_245) rfl (l' := #[.val (.int p1), .val (.int p2), .val (.int p3), .val (.int p4), .val (.int p5), .val (.int p6), .val (.ref b6), .val (.ref a7), .val (.ref a8), .val (.int i9), .val (.int j10), .val (.int f11), .val (.int f12), .val (.int f13), .val (.int f14), .val (.int k15), .val (.ref a16), .val (.int (pl hs1 hs2 k15 a16)), .val (.int (-1 : Int32))]) rfl k)
          refine Goal.step (T' := T1001) (g' := (mkF m 249 #[.val (.int p1), .val (.int p2), .val (.int p3), .val (.int p4), .val (.int p5), .val (.int p6), .val (.ref b6), .val (.ref a7), .val (.ref a8), .val (.int i9), .val (.int j10), .val (.int f11), .val (.int f12), .val (.int f13), .val (.int f14), .val (.int k15), .val (.ref a16), .val (.int (pl hs1 hs2 k15 a16)), .val (.int (-1 : Int32))] [(.int (pl hs1 hs2 k15 a16))])) ?_ (fun t k => XS.iload X1001.here hx rfl (hb hby at_247) rfl k)
          refine Goal.step (T' := T1001) (g' := (mkF m 251 #[.val (.int p1), .val (.int p2), .val (.int p3), .val (.int p4), .val (.int p5), .val (.int p6), .val (.ref b6), .val (.ref a7), .val (.ref a8), .val (.int i9), .val (.int j10), .val (.int f11), .val (.int f12), .val (.int f13), .val (.int f14), .val (.int k15), .val (.ref a16), .val (.int (pl hs1 hs2 k15 a16)), .val (.int (-1 : Int32))] [(.int (-1 : Int32)), (.int (pl hs1 hs2 k15 a16))])) ?_ (fun t k => XS.iload X1001.here hx rfl (hb hby at_249) rfl k)
          refine Goal.step (T' := T1001) (g' := (mkF m 254 #[.val (.int p1), .val (.int p2), .val (.int p3), .val (.int p4), .val (.int p5), .val (.int p6), .val (.ref b6), .val (.ref a7), .val (.ref a8), .val (.int i9), .val (.int j10), .val (.int f11), .val (.int f12), .val (.int f13), .val (.int f14), .val (.int k15), .val (.ref a16), .val (.int (pl hs1 hs2 k15 a16)), .val (.int (-1 : Int32))] [])) ?_ (fun t k => XS.icmpNo X1001.here hx rfl (hb hby at_251) rfl (teq (hE.trans (by rw [expd, if_neg c1002, if_neg (show ¬ (¬ f12 = 0 ∧ k15 = j10) from fun q => q.1 c1003), if_neg (show ¬ (¬ f11 = 0 ∧ k15 = i9) from fun q => c1005 q.2)]))).2 k)
          refine Goal.step (T' := T1001) (g' := (mkF m 255 #[.val (.int p1), .val (.int p2), .val (.int p3), .val (.int p4), .val (.int p5), .val (.int p6), .val (.ref b6), .val (.ref a7), .val (.ref a8), .val (.int i9), .val (.int j10), .val (.int f11), .val (.int f12), .val (.int f13), .val (.int f14), .val (.int k15), .val (.ref a16), .val (.int (pl hs1 hs2 k15 a16)), .val (.int (-1 : Int32))] [(.int (1 : Int32))])) ?_ (fun t k => XS.iconst X1001.here hx rfl (hb hby at_254) k)
          refine Goal.step (T' := T1001) (g' := (mkF m 259 #[.val (.int p1), .val (.int p2), .val (.int p3), .val (.int p4), .val (.int p5), .val (.int p6), .val (.ref b6), .val (.ref a7), .val (.ref a8), .val (.int i9), .val (.int j10), .val (.int f11), .val (.int f12), .val (.int f13), .val (.int f14), .val (.int k15), .val (.ref a16), .val (.int (pl hs1 hs2 k15 a16)), .val (.int (-1 : Int32))] [(.int (1 : Int32))])) ?_ (fun t k => XS.goto X1001.here hx rfl (pc0 := 255) (pc' := 259) rfl (hb hby at_255) (by decide) (by decide) k)
          refine Goal.retN (t := .boolean) X1001 hx hret (by simp) (hb hby at_259) ?_
          exact ⟨⟨rfl, N1001⟩, by decide, by decide⟩
    · refine Goal.step (T' := T1001) (g' := (mkF m 195 #[.val (.int p1), .val (.int p2), .val (.int p3), .val (.int p4), .val (.int p5), .val (.int p6), .val (.ref b6), .val (.ref a7), .val (.ref a8), .val (.int i9), .val (.int j10), .val (.int f11), .val (.int f12), .val (.int f13), .val (.int f14), .val (.int k15), .val (.ref a16), .val (.int (pl hs1 hs2 k15 a16)), .unset] [])) ?_ (fun t k => XS.ifNo X1001.here hx rfl (hb hby at_192) rfl ((if0 _ _).trans (feq c1003).1) k)
      refine Goal.step (T' := T1001) (g' := (mkF m 197 #[.val (.int p1), .val (.int p2), .val (.int p3), .val (.int p4), .val (.int p5), .val (.int p6), .val (.ref b6), .val (.ref a7), .val (.ref a8), .val (.int i9), .val (.int j10), .val (.int f11), .val (.int f12), .val (.int f13), .val (.int f14), .val (.int k15), .val (.ref a16), .val (.int (pl hs1 hs2 k15 a16)), .unset] [(.int k15)])) ?_ (fun t k => XS.iload X1001.here hx rfl (hb hby at_195) rfl k)
      refine Goal.step (T' := T1001) (g' := (mkF m 199 #[.val (.int p1), .val (.int p2), .val (.int p3), .val (.int p4), .val (.int p5), .val (.int p6), .val (.ref b6), .val (.ref a7), .val (.ref a8), .val (.int i9), .val (.int j10), .val (.int f11), .val (.int f12), .val (.int f13), .val (.int f14), .val (.int k15), .val (.ref a16), .val (.int (pl hs1 hs2 k15 a16)), .unset] [(.int j10), (.int k15)])) ?_ (fun t k => XS.iload X1001.here hx rfl (hb hby at_197) rfl k)
      by_cases c1007 : k15 = j10
      · refine Goal.step (T' := T1001) (g' := (mkF m 202 #[.val (.int p1), .val (.int p2), .val (.int p3), .val (.int p4), .val (.int p5), .val (.int p6), .val (.ref b6), .val (.ref a7), .val (.ref a8), .val (.int i9), .val (.int j10), .val (.int f11), .val (.int f12), .val (.int f13), .val (.int f14), .val (.int k15), .val (.ref a16), .val (.int (pl hs1 hs2 k15 a16)), .unset] [])) ?_ (fun t k => XS.icmpNo X1001.here hx rfl (hb hby at_199) rfl (teq c1007).2 k)
        refine Goal.step (T' := T1001) (g' := (mkF m 204 #[.val (.int p1), .val (.int p2), .val (.int p3), .val (.int p4), .val (.int p5), .val (.int p6), .val (.ref b6), .val (.ref a7), .val (.ref a8), .val (.int i9), .val (.int j10), .val (.int f11), .val (.int f12), .val (.int f13), .val (.int f14), .val (.int k15), .val (.ref a16), .val (.int (pl hs1 hs2 k15 a16)), .unset] [(.int f13)])) ?_ (fun t k => XS.iload X1001.here hx rfl (hb hby at_202) rfl k)
        by_cases c1008 : f13 = (0 : Int32)
        · refine Goal.step (T' := T1001) (g' := (mkF m 211 #[.val (.int p1), .val (.int p2), .val (.int p3), .val (.int p4), .val (.int p5), .val (.int p6), .val (.ref b6), .val (.ref a7), .val (.ref a8), .val (.int i9), .val (.int j10), .val (.int f11), .val (.int f12), .val (.int f13), .val (.int f14), .val (.int k15), .val (.ref a16), .val (.int (pl hs1 hs2 k15 a16)), .unset] [])) ?_ (fun t k => XS.ifYes X1001.here hx rfl (pc0 := 204) (pc' := 211) rfl (hb hby at_204) rfl ((if0 _ _).trans (teq c1008).1) (by decide) (by decide) k)
          refine Goal.step (T' := T1001) (g' := (mkF m 212 #[.val (.int p1), .val (.int p2), .val (.int p3), .val (.int p4), .val (.int p5), .val (.int p6), .val (.ref b6), .val (.ref a7), .val (.ref a8), .val (.int i9), .val (.int j10), .val (.int f11), .val (.int f12), .val (.int f13), .val (.int f14), .val (.int k15), .val (.ref a16), .val (.int (pl hs1 hs2 k15 a16)), .unset] [(.int (-1 : Int32))])) ?_ (fun t k => XS.iconst X1001.here hx rfl (hb hby at_211) k)
          refine Goal.step (T' := T1001) (g' := (mkF m 214 #[.val (.int p1), .val (.int p2), .val (.int p3), .val (.int p4), .val (.int p5), .val (.int p6), .val (.ref b6), .val (.ref a7), .val (.ref a8), .val (.int i9), .val (.int j10), .val (.int f11), .val (.int f12), .val (.int f13), .val (.int f14), .val (.int k15), .val (.ref a16), .val (.int (pl hs1 hs2 k15 a16)), .val (.int (-1 : Int32))] [])) ?_ (fun t k => XS.istore X1001.here hx rfl (hb hby at_212) rfl (l' := #[.val (.int p1), .val (.int p2), .val (.int p3), .val (.int p4), .val (.int p5), .val (.int p6), .val (.ref b6), .val (.ref a7), .val (.ref a8), .val (.int i9), .val (.int j10), .val (.int f11), .val (.int f12), .val (.int f13), .val (.int f14), .val (.int k15), .val (.ref a16), .val (.int (pl hs1 hs2 k15 a16)), .val (.int (-1 : Int32))]) rfl k)
          refine Goal.step (T' := T1001) (g' := (mkF m 247 #[.val (.int p1), .val (.int p2), .val (.int p3), .val (.int p4), .val (.int p5), .val (.int p6), .val (.ref b6), .val (.ref a7), .val (.ref a8), .val (.int i9), .val (.int j10), .val (.int f11), .val (.int f12), .val (.int f13), .val (.int f14), .val (.int k15), .val (.ref a16), .val (.int (pl hs1 hs2 k15 a16)), .val (.int (-1 : Int32))] [])) ?_ (fun t k => XS.goto X1001.here hx rfl (pc0 := 214) (pc' := 247) rfl (hb hby at_214) (by decide) (by decide) k)
          refine Goal.step (T' := T1001) (g' := (mkF m 249 #[.val (.int p1), .val (.int p2), .val (.int p3), .val (.int p4), .val (.int p5), .val (.int p6), .val (.ref b6), .val (.ref a7), .val (.ref a8), .val (.int i9), .val (.int j10), .val (.int f11), .val (.int f12), .val (.int f13), .val (.int f14), .val (.int k15), .val (.ref a16), .val (.int (pl hs1 hs2 k15 a16)), .val (.int (-1 : Int32))] [(.int (pl hs1 hs2 k15 a16))])) ?_ (fun t k => XS.iload X1001.here hx rfl (hb hby at_247) rfl k)
          refine Goal.step (T' := T1001) (g' := (mkF m 251 #[.val (.int p1), .val (.int p2), .val (.int p3), .val (.int p4), .val (.int p5), .val (.int p6), .val (.ref b6), .val (.ref a7), .val (.ref a8), .val (.int i9), .val (.int j10), .val (.int f11), .val (.int f12), .val (.int f13), .val (.int f14), .val (.int k15), .val (.ref a16), .val (.int (pl hs1 hs2 k15 a16)), .val (.int (-1 : Int32))] [(.int (-1 : Int32)), (.int (pl hs1 hs2 k15 a16))])) ?_ (fun t k => XS.iload X1001.here hx rfl (hb hby at_249) rfl k)
          refine Goal.step (T' := T1001) (g' := (mkF m 254 #[.val (.int p1), .val (.int p2), .val (.int p3), .val (.int p4), .val (.int p5), .val (.int p6), .val (.ref b6), .val (.ref a7), .val (.ref a8), .val (.int i9), .val (.int j10), .val (.int f11), .val (.int f12), .val (.int f13), .val (.int f14), .val (.int k15), .val (.ref a16), .val (.int (pl hs1 hs2 k15 a16)), .val (.int (-1 : Int32))] [])) ?_ (fun t k => XS.icmpNo X1001.here hx rfl (hb hby at_251) rfl (teq (hE.trans (by rw [expd, if_neg c1002, if_pos (show ¬ f12 = 0 ∧ k15 = j10 from ⟨c1003, c1007⟩), if_pos c1008]))).2 k)
          refine Goal.step (T' := T1001) (g' := (mkF m 255 #[.val (.int p1), .val (.int p2), .val (.int p3), .val (.int p4), .val (.int p5), .val (.int p6), .val (.ref b6), .val (.ref a7), .val (.ref a8), .val (.int i9), .val (.int j10), .val (.int f11), .val (.int f12), .val (.int f13), .val (.int f14), .val (.int k15), .val (.ref a16), .val (.int (pl hs1 hs2 k15 a16)), .val (.int (-1 : Int32))] [(.int (1 : Int32))])) ?_ (fun t k => XS.iconst X1001.here hx rfl (hb hby at_254) k)
          refine Goal.step (T' := T1001) (g' := (mkF m 259 #[.val (.int p1), .val (.int p2), .val (.int p3), .val (.int p4), .val (.int p5), .val (.int p6), .val (.ref b6), .val (.ref a7), .val (.ref a8), .val (.int i9), .val (.int j10), .val (.int f11), .val (.int f12), .val (.int f13), .val (.int f14), .val (.int k15), .val (.ref a16), .val (.int (pl hs1 hs2 k15 a16)), .val (.int (-1 : Int32))] [(.int (1 : Int32))])) ?_ (fun t k => XS.goto X1001.here hx rfl (pc0 := 255) (pc' := 259) rfl (hb hby at_255) (by decide) (by decide) k)
          refine Goal.retN (t := .boolean) X1001 hx hret (by simp) (hb hby at_259) ?_
          exact ⟨⟨rfl, N1001⟩, by decide, by decide⟩
        · refine Goal.step (T' := T1001) (g' := (mkF m 207 #[.val (.int p1), .val (.int p2), .val (.int p3), .val (.int p4), .val (.int p5), .val (.int p6), .val (.ref b6), .val (.ref a7), .val (.ref a8), .val (.int i9), .val (.int j10), .val (.int f11), .val (.int f12), .val (.int f13), .val (.int f14), .val (.int k15), .val (.ref a16), .val (.int (pl hs1 hs2 k15 a16)), .unset] [])) ?_ (fun t k => XS.ifNo X1001.here hx rfl (hb hby at_204) rfl ((if0 _ _).trans (feq c1008).1) k)
          refine Goal.step (T' := T1001) (g' := (mkF m 208 #[.val (.int p1), .val (.int p2), .val (.int p3), .val (.int p4), .val (.int p5), .val (.int p6), .val (.ref b6), .val (.ref a7), .val (.ref a8), .val (.int i9), .val (.int j10), .val (.int f11), .val (.int f12), .val (.int f13), .val (.int f14), .val (.int k15), .val (.ref a16), .val (.int (pl hs1 hs2 k15 a16)), .unset] [(.int p4)])) ?_ (fun t k => XS.iloadN X1001.here hx rfl (hb hby at_207) rfl k)
          refine Goal.step (T' := T1001) (g' := (mkF m 212 #[.val (.int p1), .val (.int p2), .val (.int p3), .val (.int p4), .val (.int p5), .val (.int p6), .val (.ref b6), .val (.ref a7), .val (.ref a8), .val (.int i9), .val (.int j10), .val (.int f11), .val (.int f12), .val (.int f13), .val (.int f14), .val (.int k15), .val (.ref a16), .val (.int (pl hs1 hs2 k15 a16)), .unset] [(.int p4)])) ?_ (fun t k => XS.goto X1001.here hx rfl (pc0 := 208) (pc' := 212) rfl (hb hby at_208) (by decide) (by decide) k)
          refine Goal.step (T' := T1001) (g' := (mkF m 214 #[.val (.int p1), .val (.int p2), .val (.int p3), .val (.int p4), .val (.int p5), .val (.int p6), .val (.ref b6), .val (.ref a7), .val (.ref a8), .val (.int i9), .val (.int j10), .val (.int f11), .val (.int f12), .val (.int f13), .val (.int f14), .val (.int k15), .val (.ref a16), .val (.int (pl hs1 hs2 k15 a16)), .val (.int p4)] [])) ?_ (fun t k => XS.istore X1001.here hx rfl (hb hby at_212) rfl (l' := #[.val (.int p1), .val (.int p2), .val (.int p3), .val (.int p4), .val (.int p5), .val (.int p6), .val (.ref b6), .val (.ref a7), .val (.ref a8), .val (.int i9), .val (.int j10), .val (.int f11), .val (.int f12), .val (.int f13), .val (.int f14), .val (.int k15), .val (.ref a16), .val (.int (pl hs1 hs2 k15 a16)), .val (.int p4)]) rfl k)
          refine Goal.step (T' := T1001) (g' := (mkF m 247 #[.val (.int p1), .val (.int p2), .val (.int p3), .val (.int p4), .val (.int p5), .val (.int p6), .val (.ref b6), .val (.ref a7), .val (.ref a8), .val (.int i9), .val (.int j10), .val (.int f11), .val (.int f12), .val (.int f13), .val (.int f14), .val (.int k15), .val (.ref a16), .val (.int (pl hs1 hs2 k15 a16)), .val (.int p4)] [])) ?_ (fun t k => XS.goto X1001.here hx rfl (pc0 := 214) (pc' := 247) rfl (hb hby at_214) (by decide) (by decide) k)
          refine Goal.step (T' := T1001) (g' := (mkF m 249 #[.val (.int p1), .val (.int p2), .val (.int p3), .val (.int p4), .val (.int p5), .val (.int p6), .val (.ref b6), .val (.ref a7), .val (.ref a8), .val (.int i9), .val (.int j10), .val (.int f11), .val (.int f12), .val (.int f13), .val (.int f14), .val (.int k15), .val (.ref a16), .val (.int (pl hs1 hs2 k15 a16)), .val (.int p4)] [(.int (pl hs1 hs2 k15 a16))])) ?_ (fun t k => XS.iload X1001.here hx rfl (hb hby at_247) rfl k)
          refine Goal.step (T' := T1001) (g' := (mkF m 251 #[.val (.int p1), .val (.int p2), .val (.int p3), .val (.int p4), .val (.int p5), .val (.int p6), .val (.ref b6), .val (.ref a7), .val (.ref a8), .val (.int i9), .val (.int j10), .val (.int f11), .val (.int f12), .val (.int f13), .val (.int f14), .val (.int k15), .val (.ref a16), .val (.int (pl hs1 hs2 k15 a16)), .val (.int p4)] [(.int p4), (.int (pl hs1 hs2 k15 a16))])) ?_ (fun t k => XS.iload X1001.here hx rfl (hb hby at_249) rfl k)
          refine Goal.step (T' := T1001) (g' := (mkF m 254 #[.val (.int p1), .val (.int p2), .val (.int p3), .val (.int p4), .val (.int p5), .val (.int p6), .val (.ref b6), .val (.ref a7), .val (.ref a8), .val (.int i9), .val (.int j10), .val (.int f11), .val (.int f12), .val (.int f13), .val (.int f14), .val (.int k15), .val (.ref a16), .val (.int (pl hs1 hs2 k15 a16)), .val (.int p4)] [])) ?_ (fun t k => XS.icmpNo X1001.here hx rfl (hb hby at_251) rfl (teq (hE.trans (by rw [expd, if_neg c1002, if_pos (show ¬ f12 = 0 ∧ k15 = j10 from ⟨c1003, c1007⟩), if_neg c1008]))).2 k)
          refine Goal.step (T' := T1001) (g' := (mkF m 255 #[.val (.int p1), .val (.int p2), .val (.int p3), .val (.int p4), .val (.int p5), .val (.int p6), .val (.ref b6), .val (.ref a7), .val (.ref a8), .val (.int i9), .val (.int j10), .val (.int f11), .val (.int f12), .val (.int f13), .val (.int f14), .val (.int k15), .val (.ref a16), .val (.int (pl hs1 hs2 k15 a16)), .val (.int p4)] [(.int (1 : Int32))])) ?_ (fun t k => XS.iconst X1001.here hx rfl (hb hby at_254) k)
          refine Goal.step (T' := T1001) (g' := (mkF m 259 #[.val (.int p1), .val (.int p2), .val (.int p3), .val (.int p4), .val (.int p5), .val (.int p6), .val (.ref b6), .val (.ref a7), .val (.ref a8), .val (.int i9), .val (.int j10), .val (.int f11), .val (.int f12), .val (.int f13), .val (.int f14), .val (.int k15), .val (.ref a16), .val (.int (pl hs1 hs2 k15 a16)), .val (.int p4)] [(.int (1 : Int32))])) ?_ (fun t k => XS.goto X1001.here hx rfl (pc0 := 255) (pc' := 259) rfl (hb hby at_255) (by decide) (by decide) k)
          refine Goal.retN (t := .boolean) X1001 hx hret (by simp) (hb hby at_259) ?_
          exact ⟨⟨rfl, N1001⟩, by decide, by decide⟩
      · refine Goal.step (T' := T1001) (g' := (mkF m 217 #[.val (.int p1), .val (.int p2), .val (.int p3), .val (.int p4), .val (.int p5), .val (.int p6), .val (.ref b6), .val (.ref a7), .val (.ref a8), .val (.int i9), .val (.int j10), .val (.int f11), .val (.int f12), .val (.int f13), .val (.int f14), .val (.int k15), .val (.ref a16), .val (.int (pl hs1 hs2 k15 a16)), .unset] [])) ?_ (fun t k => XS.icmpYes X1001.here hx rfl (pc0 := 199) (pc' := 217) rfl (hb hby at_199) rfl (feq c1007).2 (by decide) (by decide) k)
        refine Goal.step (T' := T1001) (g' := (mkF m 219 #[.val (.int p1), .val (.int p2), .val (.int p3), .val (.int p4), .val (.int p5), .val (.int p6), .val (.ref b6), .val (.ref a7), .val (.ref a8), .val (.int i9), .val (.int j10), .val (.int f11), .val (.int f12), .val (.int f13), .val (.int f14), .val (.int k15), .val (.ref a16), .val (.int (pl hs1 hs2 k15 a16)), .unset] [(.int f11)])) ?_ (fun t k => XS.iload X1001.here hx rfl (hb hby at_217) rfl k)
        by_cases c1009 : f11 = (0 : Int32)
        · refine Goal.step (T' := T1001) (g' := (mkF m 244 #[.val (.int p1), .val (.int p2), .val (.int p3), .val (.int p4), .val (.int p5), .val (.int p6), .val (.ref b6), .val (.ref a7), .val (.ref a8), .val (.int i9), .val (.int j10), .val (.int f11), .val (.int f12), .val (.int f13), .val (.int f14), .val (.int k15), .val (.ref a16), .val (.int (pl hs1 hs2 k15 a16)), .unset] [])) ?_ (fun t k => XS.ifYes X1001.here hx rfl (pc0 := 219) (pc' := 244) rfl (hb hby at_219) rfl ((if0 _ _).trans (teq c1009).1) (by decide) (by decide) k)
          refine Goal.step (T' := T1001) (g' := (mkF m 245 #[.val (.int p1), .val (.int p2), .val (.int p3), .val (.int p4), .val (.int p5), .val (.int p6), .val (.ref b6), .val (.ref a7), .val (.ref a8), .val (.int i9), .val (.int j10), .val (.int f11), .val (.int f12), .val (.int f13), .val (.int f14), .val (.int k15), .val (.ref a16), .val (.int (pl hs1 hs2 k15 a16)), .unset] [(.int (-1 : Int32))])) ?_ (fun t k => XS.iconst X1001.here hx rfl (hb hby at_244) k)
          refine Goal.step (T' := T1001) (g' := (mkF m 247 #[.val (.int p1), .val (.int p2), .val (.int p3), .val (.int p4), .val (.int p5), .val (.int p6), .val (.ref b6), .val (.ref a7), .val (.ref a8), .val (.int i9), .val (.int j10), .val (.int f11), .val (.int f12), .val (.int f13), .val (.int f14), .val (.int k15), .val (.ref a16), .val (.int (pl hs1 hs2 k15 a16)), .val (.int (-1 : Int32))] [])) ?_ (fun t k => XS.istore X1001.here hx rfl (hb hby at_245) rfl (l' := #[.val (.int p1), .val (.int p2), .val (.int p3), .val (.int p4), .val (.int p5), .val (.int p6), .val (.ref b6), .val (.ref a7), .val (.ref a8), .val (.int i9), .val (.int j10), .val (.int f11), .val (.int f12), .val (.int f13), .val (.int f14), .val (.int k15), .val (.ref a16), .val (.int (pl hs1 hs2 k15 a16)), .val (.int (-1 : Int32))]) rfl k)
          refine Goal.step (T' := T1001) (g' := (mkF m 249 #[.val (.int p1), .val (.int p2), .val (.int p3), .val (.int p4), .val (.int p5), .val (.int p6), .val (.ref b6), .val (.ref a7), .val (.ref a8), .val (.int i9), .val (.int j10), .val (.int f11), .val (.int f12), .val (.int f13), .val (.int f14), .val (.int k15), .val (.ref a16), .val (.int (pl hs1 hs2 k15 a16)), .val (.int (-1 : Int32))] [(.int (pl hs1 hs2 k15 a16))])) ?_ (fun t k => XS.iload X1001.here hx rfl (hb hby at_247) rfl k)
          refine Goal.step (T' := T1001) (g' := (mkF m 251 #[.val (.int p1), .val (.int p2), .val (.int p3), .val (.int p4), .val (.int p5), .val (.int p6), .val (.ref b6), .val (.ref a7), .val (.ref a8), .val (.int i9), .val (.int j10), .val (.int f11), .val (.int f12), .val (.int f13), .val (.int f14), .val (.int k15), .val (.ref a16), .val (.int (pl hs1 hs2 k15 a16)), .val (.int (-1 : Int32))] [(.int (-1 : Int32)), (.int (pl hs1 hs2 k15 a16))])) ?_ (fun t k => XS.iload X1001.here hx rfl (hb hby at_249) rfl k)
          refine Goal.step (T' := T1001) (g' := (mkF m 254 #[.val (.int p1), .val (.int p2), .val (.int p3), .val (.int p4), .val (.int p5), .val (.int p6), .val (.ref b6), .val (.ref a7), .val (.ref a8), .val (.int i9), .val (.int j10), .val (.int f11), .val (.int f12), .val (.int f13), .val (.int f14), .val (.int k15), .val (.ref a16), .val (.int (pl hs1 hs2 k15 a16)), .val (.int (-1 : Int32))] [])) ?_ (fun t k => XS.icmpNo X1001.here hx rfl (hb hby at_251) rfl (teq (hE.trans (by rw [expd, if_neg c1002, if_neg (show ¬ (¬ f12 = 0 ∧ k15 = j10) from fun q => c1007 q.2), if_neg (show ¬ (¬ f11 = 0 ∧ k15 = i9) from fun q => q.1 c1009)]))).2 k)
          refine Goal.step (T' := T1001) (g' := (mkF m 255 #[.val (.int p1), .val (.int p2), .val (.int p3), .val (.int p4), .val (.int p5), .val (.int p6), .val (.ref b6), .val (.ref a7), .val (.ref a8), .val (.int i9), .val (.int j10), .val (.int f11), .val (.int f12), .val (.int f13), .val (.int f14), .val (.int k15), .val (.ref a16), .val (.int (pl hs1 hs2 k15 a16)), .val (.int (-1 : Int32))] [(.int (1 : Int32))])) ?_ (fun t k => XS.iconst X1001.here hx rfl (hb hby at_254) k)
          refine Goal.step (T' := T1001) (g' := (mkF m 259 #[.val (.int p1), .val (.int p2), .val (.int p3), .val (.int p4), .val (.int p5), .val (.int p6), .val (.ref b6), .val (.ref a7), .val (.ref a8), .val (.int i9), .val (.int j10), .val (.int f11), .val (.int f12), .val (.int f13), .val (.int f14), .val (.int k15), .val (.ref a16), .val (.int (pl hs1 hs2 k15 a16)), .val (.int (-1 : Int32))] [(.int (1 : Int32))])) ?_ (fun t k => XS.goto X1001.here hx rfl (pc0 := 255) (pc' := 259) rfl (hb hby at_255) (by decide) (by decide) k)
          refine Goal.retN (t := .boolean) X1001 hx hret (by simp) (hb hby at_259) ?_
          exact ⟨⟨rfl, N1001⟩, by decide, by decide⟩
        · refine Goal.step (T' := T1001) (g' := (mkF m 222 #[.val (.int p1), .val (.int p2), .val (.int p3), .val (.int p4), .val (.int p5), .val (.int p6), .val (.ref b6), .val (.ref a7), .val (.ref a8), .val (.int i9), .val (.int j10), .val (.int f11), .val (.int f12), .val (.int f13), .val (.int f14), .val (.int k15), .val (.ref a16), .val (.int (pl hs1 hs2 k15 a16)), .unset] [])) ?_ (fun t k => XS.ifNo X1001.here hx rfl (hb hby at_219) rfl ((if0 _ _).trans (feq c1009).1) k)
          refine Goal.step (T' := T1001) (g' := (mkF m 224 #[.val (.int p1), .val (.int p2), .val (.int p3), .val (.int p4), .val (.int p5), .val (.int p6), .val (.ref b6), .val (.ref a7), .val (.ref a8), .val (.int i9), .val (.int j10), .val (.int f11), .val (.int f12), .val (.int f13), .val (.int f14), .val (.int k15), .val (.ref a16), .val (.int (pl hs1 hs2 k15 a16)), .unset] [(.int k15)])) ?_ (fun t k => XS.iload X1001.here hx rfl (hb hby at_222) rfl k)
          refine Goal.step (T' := T1001) (g' := (mkF m 226 #[.val (.int p1), .val (.int p2), .val (.int p3), .val (.int p4), .val (.int p5), .val (.int p6), .val (.ref b6), .val (.ref a7), .val (.ref a8), .val (.int i9), .val (.int j10), .val (.int f11), .val (.int f12), .val (.int f13), .val (.int f14), .val (.int k15), .val (.ref a16), .val (.int (pl hs1 hs2 k15 a16)), .unset] [(.int i9), (.int k15)])) ?_ (fun t k => XS.iload X1001.here hx rfl (hb hby at_224) rfl k)
          by_cases c1010 : k15 = i9
          · refine Goal.step (T' := T1001) (g' := (mkF m 229 #[.val (.int p1), .val (.int p2), .val (.int p3), .val (.int p4), .val (.int p5), .val (.int p6), .val (.ref b6), .val (.ref a7), .val (.ref a8), .val (.int i9), .val (.int j10), .val (.int f11), .val (.int f12), .val (.int f13), .val (.int f14), .val (.int k15), .val (.ref a16), .val (.int (pl hs1 hs2 k15 a16)), .unset] [])) ?_ (fun t k => XS.icmpNo X1001.here hx rfl (hb hby at_226) rfl (teq c1010).2 k)
            refine Goal.step (T' := T1001) (g' := (mkF m 231 #[.val (.int p1), .val (.int p2), .val (.int p3), .val (.int p4), .val (.int p5), .val (.int p6), .val (.ref b6), .val (.ref a7), .val (.ref a8), .val (.int i9), .val (.int j10), .val (.int f11), .val (.int f12), .val (.int f13), .val (.int f14), .val (.int k15), .val (.ref a16), .val (.int (pl hs1 hs2 k15 a16)), .unset] [(.int f13)])) ?_ (fun t k => XS.iload X1001.here hx rfl (hb hby at_229) rfl k)
            by_cases c1011 : f13 = (0 : Int32)
            · refine Goal.step (T' := T1001) (g' := (mkF m 238 #[.val (.int p1), .val (.int p2), .val (.int p3), .val (.int p4), .val (.int p5), .val (.int p6), .val (.ref b6), .val (.ref a7), .val (.ref a8), .val (.int i9), .val (.int j10), .val (.int f11), .val (.int f12), .val (.int f13), .val (.int f14), .val (.int k15), .val (.ref a16), .val (.int (pl hs1 hs2 k15 a16)), .unset] [])) ?_ (fun t k => XS.ifYes X1001.here hx rfl (pc0 := 231) (pc' := 238) rfl (hb hby at_231) rfl ((if0 _ _).trans (teq c1011).1) (by decide) (by decide) k)
              refine Goal.step (T' := T1001) (g' := (mkF m 239 #[.val (.int p1), .val (.int p2), .val (.int p3), .val (.int p4), .val (.int p5), .val (.int p6), .val (.ref b6), .val (.ref a7), .val (.ref a8), .val (.int i9), .val (.int j10), .val (.int f11), .val (.int f12), .val (.int f13), .val (.int f14), .val (.int k15), .val (.ref a16), .val (.int (pl hs1 hs2 k15 a16)), .unset] [(.int p3)])) ?_ (fun t k => XS.iloadN X1001.here hx rfl (hb hby at_238) rfl k)
              refine Goal.step (T' := T1001) (g' := (mkF m 241 #[.val (.int p1), .val (.int p2), .val (.int p3), .val (.int p4), .val (.int p5), .val (.int p6), .val (.ref b6), .val (.ref a7), .val (.ref a8), .val (.int i9), .val (.int j10), .val (.int f11), .val (.int f12), .val (.int f13), .val (.int f14), .val (.int k15), .val (.ref a16), .val (.int (pl hs1 hs2 k15 a16)), .val (.int p3)] [])) ?_ (fun t k => XS.istore X1001.here hx rfl (hb hby at_239) rfl (l' := #[.val (.int p1), .val (.int p2), .val (.int p3), .val (.int p4), .val (.int p5), .val (.int p6), .val (.ref b6), .val (.ref a7), .val (.ref a8), .val (.int i9), .val (.int j10), .val (.int f11), .val (.int f12), .val (.int f13), .val (.int f14), .val (.int k15), .val (.ref a16), .val (.int (pl hs1 hs2 k15 a16)), .val (.int p3)]) rfl k)
              refine Goal.step (T' := T1001) (g' := (mkF m 247 #[.val (.int p1), .val (.int p2), .val (.int p3), .val (.int p4), .val (.int p5), .val (.int p6), .val (.ref b6), .val (.ref a7), .val (.ref a8), .val (.int i9), .val (.int j10), .val (.int f11), .val (.int f12), .val (.int f13), .val (.int f14), .val (.int k15), .val (.ref a16), .val (.int (pl hs1 hs2 k15 a16)), .val (.int p3)] [])) ?_ (fun t k => XS.goto X1001.here hx rfl (pc0 := 241) (pc' := 247) rfl (hb hby at_241) (by decide) (by decide) k)
              refine Goal.step (T' := T1001) (g' := (mkF m 249 #[.val (.int p1), .val (.int p2), .val (.int p3), .val (.int p4), .val (.int p5), .val (.int p6), .val (.ref b6), .val (.ref a7), .val (.ref a8), .val (.int i9), .val (.int j10), .val (.int f11), .val (.int f12), .val (.int f13), .val (.int f14), .val (.int k15), .val (.ref a16), .val (.int (pl hs1 hs2 k15 a16)), .val (.int p3)] [(.int (pl hs1 hs2 k15 a16))])) ?_ (fun t k => XS.iload X1001.here hx rfl (hb hby at_247) rfl k)
              refine Goal.step (T' := T1001) (g' := (mkF m 251 #[.val (.int p1), .val (.int p2), .val (.int p3), .val (.int p4), .val (.int p5), .val (.int p6), .val (.ref b6), .val (.ref a7), .val (.ref a8), .val (.int i9), .val (.int j10), .val (.int f11), .val (.int f12), .val (.int f13), .val (.int f14), .val (.int k15), .val (.ref a16), .val (.int (pl hs1 hs2 k15 a16)), .val (.int p3)] [(.int p3), (.int (pl hs1 hs2 k15 a16))])) ?_ (fun t k => XS.iload X1001.here hx rfl (hb hby at_249) rfl k)
              refine Goal.step (T' := T1001) (g' := (mkF m 254 #[.val (.int p1), .val (.int p2), .val (.int p3), .val (.int p4), .val (.int p5), .val (.int p6), .val (.ref b6), .val (.ref a7), .val (.ref a8), .val (.int i9), .val (.int j10), .val (.int f11), .val (.int f12), .val (.int f13), .val (.int f14), .val (.int k15), .val (.ref a16), .val (.int (pl hs1 hs2 k15 a16)), .val (.int p3)] [])) ?_ (fun t k => XS.icmpNo X1001.here hx rfl (hb hby at_251) rfl (teq (hE.trans (by rw [expd, if_neg c1002, if_neg (show ¬ (¬ f12 = 0 ∧ k15 = j10) from fun q => c1007 q.2), if_pos (show ¬ f11 = 0 ∧ k15 = i9 from ⟨c1009, c1010⟩), if_pos c1011]))).2 k)
              refine Goal.step (T' := T1001) (g' := (mkF m 255 #[.val (.int p1), .val (.int p2), .val (.int p3), .val (.int p4), .val (.int p5), .val (.int p6), .val (.ref b6), .val (.ref a7), .val (.ref a8), .val (.int i9), .val (.int j10), .val (.int f11), .val (.int f12), .val (.int f13), .val (.int f14), .val (.int k15), .val (.ref a16), .val (.int (pl hs1 hs2 k15 a16)), .val (.int p3)] [(.int (1 : Int32))])) ?_ (fun t k => XS.iconst X1001.here hx rfl (hb hby at_254) k)
              refine Goal.step (T' := T1001) (g' := (mkF m 259 #[.val (.int p1), .val (.int p2), .val (.int p3), .val (.int p4), .val (.int p5), .val (.int p6), .val (.ref b6), .val (.ref a7), .val (.ref a8), .val (.int i9), .val (.int j10), .val (.int f11), .val (.int f12), .val (.int f13), .val (.int f14), .val (.int k15), .val (.ref a16), .val (.int (pl hs1 hs2 k15 a16)), .val (.int p3)] [(.int (1 : Int32))])) ?_ (fun t k => XS.goto X1001.here hx rfl (pc0 := 255) (pc' := 259) rfl (hb hby at_255) (by decide) (by decide) k)
              refine Goal.retN (t := .boolean) X1001 hx hret (by simp) (hb hby at_259) ?_
              exact ⟨⟨rfl, N1001⟩, by decide, by decide⟩
            · refine Goal.step (T' := T1001) (g' := (mkF m 234 #[.val (.int p1), .val (.int p2), .val (.int p3), .val (.int p4), .val (.int p5), .val (.int p6), .val (.ref b6), .val (.ref a7), .val (.ref a8), .val (.int i9), .val (.int j10), .val (.int f11), .val (.int f12), .val (.int f13), .val (.int f14), .val (.int k15), .val (.ref a16), .val (.int (pl hs1 hs2 k15 a16)), .unset] [])) ?_ (fun t k => XS.ifNo X1001.here hx rfl (hb hby at_231) rfl ((if0 _ _).trans (feq c1011).1) k)
              refine Goal.step (T' := T1001) (g' := (mkF m 235 #[.val (.int p1), .val (.int p2), .val (.int p3), .val (.int p4), .val (.int p5), .val (.int p6), .val (.ref b6), .val (.ref a7), .val (.ref a8), .val (.int i9), .val (.int j10), .val (.int f11), .val (.int f12), .val (.int f13), .val (.int f14), .val (.int k15), .val (.ref a16), .val (.int (pl hs1 hs2 k15 a16)), .unset] [(.int (-1 : Int32))])) ?_ (fun t k => XS.iconst X1001.here hx rfl (hb hby at_234) k)
              refine Goal.step (T' := T1001) (g' := (mkF m 239 #[.val (.int p1), .val (.int p2), .val (.int p3), .val (.int p4), .val (.int p5), .val (.int p6), .val (.ref b6), .val (.ref a7), .val (.ref a8), .val (.int i9), .val (.int j10), .val (.int f11), .val (.int f12), .val (.int f13), .val (.int f14), .val (.int k15), .val (.ref a16), .val (.int (pl hs1 hs2 k15 a16)), .unset] [(.int (-1 : Int32))])) ?_ (fun t k => XS.goto X1001.here hx rfl (pc0 := 235) (pc' := 239) rfl (hb hby at_235) (by decide) (by decide) k)
              refine Goal.step (T' := T1001) (g' := (mkF m 241 #[.val (.int p1), .val (.int p2), .val (.int p3), .val (.int p4), .val (.int p5), .val (.int p6), .val (.ref b6), .val (.ref a7), .val (.ref a8), .val (.int i9), .val (.int j10), .val (.int f11), .val (.int f12), .val (.int f13), .val (.int f14), .val (.int k15), .val (.ref a16), .val (.int (pl hs1 hs2 k15 a16)), .val (.int (-1 : Int32))] [])) ?_ (fun t k => XS.istore X1001.here hx rfl (hb hby at_239) rfl (l' := #[.val (.int p1), .val (.int p2), .val (.int p3), .val (.int p4), .val (.int p5), .val (.int p6), .val (.ref b6), .val (.ref a7), .val (.ref a8), .val (.int i9), .val (.int j10), .val (.int f11), .val (.int f12), .val (.int f13), .val (.int f14), .val (.int k15), .val (.ref a16), .val (.int (pl hs1 hs2 k15 a16)), .val (.int (-1 : Int32))]) rfl k)
              refine Goal.step (T' := T1001) (g' := (mkF m 247 #[.val (.int p1), .val (.int p2), .val (.int p3), .val (.int p4), .val (.int p5), .val (.int p6), .val (.ref b6), .val (.ref a7), .val (.ref a8), .val (.int i9), .val (.int j10), .val (.int f11), .val (.int f12), .val (.int f13), .val (.int f14), .val (.int k15), .val (.ref a16), .val (.int (pl hs1 hs2 k15 a16)), .val (.int (-1 : Int32))] [])) ?_ (fun t k => XS.goto X1001.here hx rfl (pc0 := 241) (pc' := 247) rfl (hb hby at_241) (by decide) (by decide) k)
              refine Goal.step (T' := T1001) (g' := (mkF m 249 #[.val (.int p1), .val (.int p2), .val (.int p3), .val (.int p4), .val (.int p5), .val (.int p6), .val (.ref b6), .val (.ref a7), .val (.ref a8), .val (.int i9), .val (.int j10), .val (.int f11), .val (.int f12), .val (.int f13), .val (.int f14), .val (.int k15), .val (.ref a16), .val (.int (pl hs1 hs2 k15 a16)), .val (.int (-1 : Int32))] [(.int (pl hs1 hs2 k15 a16))])) ?_ (fun t k => XS.iload X1001.here hx rfl (hb hby at_247) rfl k)
              refine Goal.step (T' := T1001) (g' := (mkF m 251 #[.val (.int p1), .val (.int p2), .val (.int p3), .val (.int p4), .val (.int p5), .val (.int p6), .val (.ref b6), .val (.ref a7), .val (.ref a8), .val (.int i9), .val (.int j10), .val (.int f11), .val (.int f12), .val (.int f13), .val (.int f14), .val (.int k15), .val (.ref a16), .val (.int (pl hs1 hs2 k15 a16)), .val (.int (-1 : Int32))] [(.int (-1 : Int32)), (.int (pl hs1 hs2 k15 a16))])) ?_ (fun t k => XS.iload X1001.here hx rfl (hb hby at_249) rfl k)
              refine Goal.step (T' := T1001) (g' := (mkF m 254 #[.val (.int p1), .val (.int p2), .val (.int p3), .val (.int p4), .val (.int p5), .val (.int p6), .val (.ref b6), .val (.ref a7), .val (.ref a8), .val (.int i9), .val (.int j10), .val (.int f11), .val (.int f12), .val (.int f13), .val (.int f14), .val (.int k15), .val (.ref a16), .val (.int (pl hs1 hs2 k15 a16)), .val (.int (-1 : Int32))] [])) ?_ (fun t k => XS.icmpNo X1001.here hx rfl (hb hby at_251) rfl (teq (hE.trans (by rw [expd, if_neg c1002, if_neg (show ¬ (¬ f12 = 0 ∧ k15 = j10) from fun q => c1007 q.2), if_pos (show ¬ f11 = 0 ∧ k15 = i9 from ⟨c1009, c1010⟩), if_neg c1011]))).2 k)
              refine Goal.step (T' := T1001) (g' := (mkF m 255 #[.val (.int p1), .val (.int p2), .val (.int p3), .val (.int p4), .val (.int p5), .val (.int p6), .val (.ref b6), .val (.ref a7), .val (.ref a8), .val (.int i9), .val (.int j10), .val (.int f11), .val (.int f12), .val (.int f13), .val (.int f14), .val (.int k15), .val (.ref a16), .val (.int (pl hs1 hs2 k15 a16)), .val (.int (-1 : Int32))] [(.int (1 : Int32))])) ?_ (fun t k => XS.iconst X1001.here hx rfl (hb hby at_254) k)
              refine Goal.step (T' := T1001) (g' := (mkF m 259 #[.val (.int p1), .val (.int p2), .val (.int p3), .val (.int p4), .val (.int p5), .val (.int p6), .val (.ref b6), .val (.ref a7), .val (.ref a8), .val (.int i9), .val (.int j10), .val (.int f11), .val (.int f12), .val (.int f13), .val (.int f14), .val (.int k15), .val (.ref a16), .val (.int (pl hs1 hs2 k15 a16)), .val (.int (-1 : Int32))] [(.int (1 : Int32))])) ?_ (fun t k => XS.goto X1001.here hx rfl (pc0 := 255) (pc' := 259) rfl (hb hby at_255) (by decide) (by decide) k)
              refine Goal.retN (t := .boolean) X1001 hx hret (by simp) (hb hby at_259) ?_
              exact ⟨⟨rfl, N1001⟩, by decide, by decide⟩
          · refine Goal.step (T' := T1001) (g' := (mkF m 244 #[.val (.int p1), .val (.int p2), .val (.int p3), .val (.int p4), .val (.int p5), .val (.int p6), .val (.ref b6), .val (.ref a7), .val (.ref a8), .val (.int i9), .val (.int j10), .val (.int f11), .val (.int f12), .val (.int f13), .val (.int f14), .val (.int k15), .val (.ref a16), .val (.int (pl hs1 hs2 k15 a16)), .unset] [])) ?_ (fun t k => XS.icmpYes X1001.here hx rfl (pc0 := 226) (pc' := 244) rfl (hb hby at_226) rfl (feq c1010).2 (by decide) (by decide) k)
            refine Goal.step (T' := T1001) (g' := (mkF m 245 #[.val (.int p1), .val (.int p2), .val (.int p3), .val (.int p4), .val (.int p5), .val (.int p6), .val (.ref b6), .val (.ref a7), .val (.ref a8), .val (.int i9), .val (.int j10), .val (.int f11), .val (.int f12), .val (.int f13), .val (.int f14), .val (.int k15), .val (.ref a16), .val (.int (pl hs1 hs2 k15 a16)), .unset] [(.int (-1 : Int32))])) ?_ (fun t k => XS.iconst X1001.here hx rfl (hb hby at_244) k)
            refine Goal.step (T' := T1001) (g' := (mkF m 247 #[.val (.int p1), .val (.int p2), .val (.int p3), .val (.int p4), .val (.int p5), .val (.int p6), .val (.ref b6), .val (.ref a7), .val (.ref a8), .val (.int i9), .val (.int j10), .val (.int f11), .val (.int f12), .val (.int f13), .val (.int f14), .val (.int k15), .val (.ref a16), .val (.int (pl hs1 hs2 k15 a16)), .val (.int (-1 : Int32))] [])) ?_ (fun t k => XS.istore X1001.here hx rfl (hb hby at_245) rfl (l' := #[.val (.int p1), .val (.int p2), .val (.int p3), .val (.int p4), .val (.int p5), .val (.int p6), .val (.ref b6), .val (.ref a7), .val (.ref a8), .val (.int i9), .val (.int j10), .val (.int f11), .val (.int f12), .val (.int f13), .val (.int f14), .val (.int k15), .val (.ref a16), .val (.int (pl hs1 hs2 k15 a16)), .val (.int (-1 : Int32))]) rfl k)
            refine Goal.step (T' := T1001) (g' := (mkF m 249 #[.val (.int p1), .val (.int p2), .val (.int p3), .val (.int p4), .val (.int p5), .val (.int p6), .val (.ref b6), .val (.ref a7), .val (.ref a8), .val (.int i9), .val (.int j10), .val (.int f11), .val (.int f12), .val (.int f13), .val (.int f14), .val (.int k15), .val (.ref a16), .val (.int (pl hs1 hs2 k15 a16)), .val (.int (-1 : Int32))] [(.int (pl hs1 hs2 k15 a16))])) ?_ (fun t k => XS.iload X1001.here hx rfl (hb hby at_247) rfl k)
            refine Goal.step (T' := T1001) (g' := (mkF m 251 #[.val (.int p1), .val (.int p2), .val (.int p3), .val (.int p4), .val (.int p5), .val (.int p6), .val (.ref b6), .val (.ref a7), .val (.ref a8), .val (.int i9), .val (.int j10), .val (.int f11), .val (.int f12), .val (.int f13), .val (.int f14), .val (.int k15), .val (.ref a16), .val (.int (pl hs1 hs2 k15 a16)), .val (.int (-1 : Int32))] [(.int (-1 : Int32)), (.int (pl hs1 hs2 k15 a16))])) ?_ (fun t k => XS.iload X1001.here hx rfl (hb hby at_249) rfl k)
            refine Goal.step (T' := T1001) (g' := (mkF m 254 #[.val (.int p1), .val (.int p2), .val (.int p3), .val (.int p4), .val (.int p5), .val (.int p6), .val (.ref b6), .val (.ref a7), .val (.ref a8), .val (.int i9), .val (.int j10), .val (.int f11), .val (.int f12), .val (.int f13), .val (.int f14), .val (.int k15), .val (.ref a16), .val (.int (pl hs1 hs2 k15 a16)), .val (.int (-1 : Int32))] [])) ?_ (fun t k => XS.icmpNo X1001.here hx rfl (hb hby at_251) rfl (teq (hE.trans (by rw [expd, if_neg c1002, if_neg (show ¬ (¬ f12 = 0 ∧ k15 = j10) from fun q => c1007 q.2), if_neg (show ¬ (¬ f11 = 0 ∧ k15 = i9) from fun q => c1010 q.2)]))).2 k)
            refine Goal.step (T' := T1001) (g' := (mkF m 255 #[.val (.int p1), .val (.int p2), .val (.int p3), .val (.int p4), .val (.int p5), .val (.int p6), .val (.ref b6), .val (.ref a7), .val (.ref a8), .val (.int i9), .val (.int j10), .val (.int f11), .val (.int f12), .val (.int f13), .val (.int f14), .val (.int k15), .val (.ref a16), .val (.int (pl hs1 hs2 k15 a16)), .val (.int (-1 : Int32))] [(.int (1 : Int32))])) ?_ (fun t k => XS.iconst X1001.here hx rfl (hb hby at_254) k)
            refine Goal.step (T' := T1001) (g' := (mkF m 259 #[.val (.int p1), .val (.int p2), .val (.int p3), .val (.int p4), .val (.int p5), .val (.int p6), .val (.ref b6), .val (.ref a7), .val (.ref a8), .val (.int i9), .val (.int j10), .val (.int f11), .val (.int f12), .val (.int f13), .val (.int f14), .val (.int k15), .val (.ref a16), .val (.int (pl hs1 hs2 k15 a16)), .val (.int (-1 : Int32))] [(.int (1 : Int32))])) ?_ (fun t k => XS.goto X1001.here hx rfl (pc0 := 255) (pc' := 259) rfl (hb hby at_255) (by decide) (by decide) k)
            refine Goal.retN (t := .boolean) X1001 hx hret (by simp) (hb hby at_259) ?_
            exact ⟨⟨rfl, N1001⟩, by decide, by decide⟩
set_option maxRecDepth 65536 in
set_option maxHeartbeats 40000000 in
theorem seg121 {p : Program} {l : Launch} {e : Env} {s : State} {m : MethodId} {args : Array Value} {below : List Frame} {meth : Method} {c : Code} {Z : State} {a0 : Array Value} {T0 : State} {locs : List Loc} (hw : ∀ d ∈ tables_1, d.before a0 Z = true) (C0 : Ctx p s m meth c Z code maxLocals ret x.cls x.name) (p1 p2 p3 p4 p5 p6 : Int32) (b6 a7 a8 : Nat) (i9 j10 f11 f12 f13 f14 : Int32) (b1 b2 : Nat) (k1 k2 : ClassId) (hs1 hs2 : List (Int32 × Value)) (h0 : Heap) (n0 : Nat) (Z0 : n0 ≤ h0.size) (X0 : Stand p l e room_1 s m args below meth c T0 locs 11 7191) (e0 : T0.heap = h0) (N0 : Fr n0 locs) (F1 : Fld Z h0 b6 "com/example/prove_permissions/provepermissions/model/XmiIds" "holders" "[Ljava/lang/Object;" (.ref b1)) (F2 : Fld Z h0 b6 "com/example/prove_permissions/provepermissions/model/XmiIds" "places" "[I" (.ref b2)) (A1 : Arh Z h0 b1 k1 (.object "java/lang/Object") (1024 : Int32) hs1 [] .null) (O1 : Ovr Z k1 "java/lang/Object") (A2 : Arh Z h0 b2 k2 .int (1024 : Int32) hs2 [] (.int (0 : Int32))) (E6 : Exa Z h0 b6 "com/example/prove_permissions/provepermissions/model/XmiIds") (E7 : Exa Z h0 a7 "java/util/ArrayList") (E8 : Exa Z h0 a8 "java/util/ArrayList") (hi : ¬ i9 < 0 ∧ i9 < (1024 : Int32)) (hj : ¬ j10 < 0 ∧ j10 < (1024 : Int32)) (G1 : good1 hs1) (G2 : good2 hs2) (hE : ∀ k f, pl hs1 hs2 k (if f = 0 then a7 else a8) = expd f11 f12 f k i9 j10 p3 p4) :
    Goal p l e room_1 s m args below meth c (In room_1 (fun v h L => v = some (.int 1) ∧ Fr n0 L)) T0 (mkF m 121 #[.val (.int p1), .val (.int p2), .val (.int p3), .val (.int p4), .val (.int p5), .val (.int p6), .val (.ref b6), .val (.ref a7), .val (.ref a8), .val (.int i9), .val (.int j10), .val (.int f11), .val (.int f12), .val (.int f13), .val (.int f14), .unset, .unset, .unset, .unset] []) := by
  have C := C0
  obtain ⟨hx, hZ, hby, hml, hret, hown, hnm⟩ := C
  have hown : s.vm.findClass "com/example/prove_permissions/provepermissions/model/XmiIdsPlaceInPinLaw" = some m.cls := hown
  have hret : meth.sig.returnType = (some .boolean) := hret
  refine Goal.step (T' := T0) (g' := (mkF m 123 #[.val (.int p1), .val (.int p2), .val (.int p3), .val (.int p4), .val (.int p5), .val (.int p6), .val (.ref b6), .val (.ref a7), .val (.ref a8), .val (.int i9), .val (.int j10), .val (.int f11), .val (.int f12), .val (.int f13), .val (.int f14), .unset, .unset, .unset, .unset] [(.int f14)])) ?_ (fun t k => XS.iload X0.here hx rfl (hb hby at_121) rfl k)
  refine Goal.step (T' := T0) (g' := (mkF m 124 #[.val (.int p1), .val (.int p2), .val (.int p3), .val (.int p4), .val (.int p5), .val (.int p6), .val (.ref b6), .val (.ref a7), .val (.ref a8), .val (.int i9), .val (.int j10), .val (.int f11), .val (.int f12), .val (.int f13), .val (.int f14), .unset, .unset, .unset, .unset] [(.int (1 : Int32)), (.int f14)])) ?_ (fun t k => XS.iconst X0.here hx rfl (hb hby at_123) k)
  by_cases c1001 : f14 = (1 : Int32)
  · refine Goal.step (T' := T0) (g' := (mkF m 127 #[.val (.int p1), .val (.int p2), .val (.int p3), .val (.int p4), .val (.int p5), .val (.int p6), .val (.ref b6), .val (.ref a7), .val (.ref a8), .val (.int i9), .val (.int j10), .val (.int f11), .val (.int f12), .val (.int f13), .val (.int f14), .unset, .unset, .unset, .unset] [])) ?_ (fun t k => XS.icmpNo X0.here hx rfl (hb hby at_124) rfl (teq c1001).2 k)
    refine Goal.step (T' := T0) (g' := (mkF m 129 #[.val (.int p1), .val (.int p2), .val (.int p3), .val (.int p4), .val (.int p5), .val (.int p6), .val (.ref b6), .val (.ref a7), .val (.ref a8), .val (.int i9), .val (.int j10), .val (.int f11), .val (.int f12), .val (.int f13), .val (.int f14), .unset, .unset, .unset, .unset] [(.int j10)])) ?_ (fun t k => XS.iload X0.here hx rfl (hb hby at_127) rfl k)
    refine Goal.step (T' := T0) (g' := (mkF m 131 #[.val (.int p1), .val (.int p2), .val (.int p3), .val (.int p4), .val (.int p5), .val (.int p6), .val (.ref b6), .val (.ref a7), .val (.ref a8), .val (.int i9), .val (.int j10), .val (.int f11), .val (.int f12), .val (.int f13), .val (.int f14), .val (.int j10), .unset, .unset, .unset] [])) ?_ (fun t k => XS.istore X0.here hx rfl (hb hby at_129) rfl (l' := #[.val (.int p1), .val (.int p2), .val (.int p3), .val (.int p4), .val (.int p5), .val (.int p6), .val (.ref b6), .val (.ref a7), .val (.ref a8), .val (.int i9), .val (.int j10), .val (.int f11), .val (.int f12), .val (.int f13), .val (.int f14), .val (.int j10), .unset, .unset, .unset]) rfl k)
    refine Goal.step (T' := T0) (g' := (mkF m 154 #[.val (.int p1), .val (.int p2), .val (.int p3), .val (.int p4), .val (.int p5), .val (.int p6), .val (.ref b6), .val (.ref a7), .val (.ref a8), .val (.int i9), .val (.int j10), .val (.int f11), .val (.int f12), .val (.int f13), .val (.int f14), .val (.int j10), .unset, .unset, .unset] [])) ?_ (fun t k => XS.goto X0.here hx rfl (pc0 := 131) (pc' := 154) rfl (hb hby at_131) (by decide) (by decide) k)
    refine Goal.step (T' := T0) (g' := (mkF m 156 #[.val (.int p1), .val (.int p2), .val (.int p3), .val (.int p4), .val (.int p5), .val (.int p6), .val (.ref b6), .val (.ref a7), .val (.ref a8), .val (.int i9), .val (.int j10), .val (.int f11), .val (.int f12), .val (.int f13), .val (.int f14), .val (.int j10), .unset, .unset, .unset] [(.int f13)])) ?_ (fun t k => XS.iload X0.here hx rfl (hb hby at_154) rfl k)
    by_cases c1002 : f13 = (0 : Int32)
    · refine Goal.step (T' := T0) (g' := (mkF m 164 #[.val (.int p1), .val (.int p2), .val (.int p3), .val (.int p4), .val (.int p5), .val (.int p6), .val (.ref b6), .val (.ref a7), .val (.ref a8), .val (.int i9), .val (.int j10), .val (.int f11), .val (.int f12), .val (.int f13), .val (.int f14), .val (.int j10), .unset, .unset, .unset] [])) ?_ (fun t k => XS.ifYes X0.here hx rfl (pc0 := 156) (pc' := 164) rfl (hb hby at_156) rfl ((if0 _ _).trans (teq c1002).1) (by decide) (by decide) k)
      refine Goal.step (T' := T0) (g' := (mkF m 166 #[.val (.int p1), .val (.int p2), .val (.int p3), .val (.int p4), .val (.int p5), .val (.int p6), .val (.ref b6), .val (.ref a7), .val (.ref a8), .val (.int i9), .val (.int j10), .val (.int f11), .val (.int f12), .val (.int f13), .val (.int f14), .val (.int j10), .unset, .unset, .unset] [(.ref a7)])) ?_ (fun t k => XS.aload X0.here hx rfl (hb hby at_164) rfl rfl k)
      refine Goal.step (T' := T0) (g' := (mkF m 168 #[.val (.int p1), .val (.int p2), .val (.int p3), .val (.int p4), .val (.int p5), .val (.int p6), .val (.ref b6), .val (.ref a7), .val (.ref a8), .val (.int i9), .val (.int j10), .val (.int f11), .val (.int f12), .val (.int f13), .val (.int f14), .val (.int j10), .val (.ref a7), .unset, .unset] [])) ?_ (fun t k => XS.astore X0.here hx rfl (hb hby at_166) rfl rfl (l' := #[.val (.int p1), .val (.int p2), .val (.int p3), .val (.int p4), .val (.int p5), .val (.int p6), .val (.ref b6), .val (.ref a7), .val (.ref a8), .val (.int i9), .val (.int j10), .val (.int f11), .val (.int f12), .val (.int f13), .val (.int f14), .val (.int j10), .val (.ref a7), .unset, .unset]) rfl k)
      have hE' := hE j10 f13
      rw [if_pos c1002] at hE'
      exact seg168 hw C0 p1 p2 p3 p4 p5 p6 b6 a7 a8 i9 j10 f11 f12 f13 f14 b1 b2 k1 k2 hs1 hs2 j10 a7 h0 n0 (by omega) X0 e0 N0 F1 F2 A1 O1 A2 E6 E7 E8 (fun _ => hj.2) G1 G2 hE'
    · refine Goal.step (T' := T0) (g' := (mkF m 159 #[.val (.int p1), .val (.int p2), .val (.int p3), .val (.int p4), .val (.int p5), .val (.int p6), .val (.ref b6), .val (.ref a7), .val (.ref a8), .val (.int i9), .val (.int j10), .val (.int f11), .val (.int f12), .val (.int f13), .val (.int f14), .val (.int j10), .unset, .unset, .unset] [])) ?_ (fun t k => XS.ifNo X0.here hx rfl (hb hby at_156) rfl ((if0 _ _).trans (feq c1002).1) k)
      refine Goal.step (T' := T0) (g' := (mkF m 161 #[.val (.int p1), .val (.int p2), .val (.int p3), .val (.int p4), .val (.int p5), .val (.int p6), .val (.ref b6), .val (.ref a7), .val (.ref a8), .val (.int i9), .val (.int j10), .val (.int f11), .val (.int f12), .val (.int f13), .val (.int f14), .val (.int j10), .unset, .unset, .unset] [(.ref a8)])) ?_ (fun t k => XS.aload X0.here hx rfl (hb hby at_159) rfl rfl k)
      refine Goal.step (T' := T0) (g' := (mkF m 166 #[.val (.int p1), .val (.int p2), .val (.int p3), .val (.int p4), .val (.int p5), .val (.int p6), .val (.ref b6), .val (.ref a7), .val (.ref a8), .val (.int i9), .val (.int j10), .val (.int f11), .val (.int f12), .val (.int f13), .val (.int f14), .val (.int j10), .unset, .unset, .unset] [(.ref a8)])) ?_ (fun t k => XS.goto X0.here hx rfl (pc0 := 161) (pc' := 166) rfl (hb hby at_161) (by decide) (by decide) k)
      refine Goal.step (T' := T0) (g' := (mkF m 168 #[.val (.int p1), .val (.int p2), .val (.int p3), .val (.int p4), .val (.int p5), .val (.int p6), .val (.ref b6), .val (.ref a7), .val (.ref a8), .val (.int i9), .val (.int j10), .val (.int f11), .val (.int f12), .val (.int f13), .val (.int f14), .val (.int j10), .val (.ref a8), .unset, .unset] [])) ?_ (fun t k => XS.astore X0.here hx rfl (hb hby at_166) rfl rfl (l' := #[.val (.int p1), .val (.int p2), .val (.int p3), .val (.int p4), .val (.int p5), .val (.int p6), .val (.ref b6), .val (.ref a7), .val (.ref a8), .val (.int i9), .val (.int j10), .val (.int f11), .val (.int f12), .val (.int f13), .val (.int f14), .val (.int j10), .val (.ref a8), .unset, .unset]) rfl k)
      have hE' := hE j10 f13
      rw [if_neg c1002] at hE'
      exact seg168 hw C0 p1 p2 p3 p4 p5 p6 b6 a7 a8 i9 j10 f11 f12 f13 f14 b1 b2 k1 k2 hs1 hs2 j10 a8 h0 n0 (by omega) X0 e0 N0 F1 F2 A1 O1 A2 E6 E7 E8 (fun _ => hj.2) G1 G2 hE'
  · refine Goal.step (T' := T0) (g' := (mkF m 134 #[.val (.int p1), .val (.int p2), .val (.int p3), .val (.int p4), .val (.int p5), .val (.int p6), .val (.ref b6), .val (.ref a7), .val (.ref a8), .val (.int i9), .val (.int j10), .val (.int f11), .val (.int f12), .val (.int f13), .val (.int f14), .unset, .unset, .unset, .unset] [])) ?_ (fun t k => XS.icmpYes X0.here hx rfl (pc0 := 124) (pc' := 134) rfl (hb hby at_124) rfl (feq c1001).2 (by decide) (by decide) k)
    refine Goal.step (T' := T0) (g' := (mkF m 136 #[.val (.int p1), .val (.int p2), .val (.int p3), .val (.int p4), .val (.int p5), .val (.int p6), .val (.ref b6), .val (.ref a7), .val (.ref a8), .val (.int i9), .val (.int j10), .val (.int f11), .val (.int f12), .val (.int f13), .val (.int f14), .unset, .unset, .unset, .unset] [(.int f14)])) ?_ (fun t k => XS.iload X0.here hx rfl (hb hby at_134) rfl k)
    refine Goal.step (T' := T0) (g' := (mkF m 137 #[.val (.int p1), .val (.int p2), .val (.int p3), .val (.int p4), .val (.int p5), .val (.int p6), .val (.ref b6), .val (.ref a7), .val (.ref a8), .val (.int i9), .val (.int j10), .val (.int f11), .val (.int f12), .val (.int f13), .val (.int f14), .unset, .unset, .unset, .unset] [(.int (2 : Int32)), (.int f14)])) ?_ (fun t k => XS.iconst X0.here hx rfl (hb hby at_136) k)
    by_cases c1003 : f14 = (2 : Int32)
    · refine Goal.step (T' := T0) (g' := (mkF m 140 #[.val (.int p1), .val (.int p2), .val (.int p3), .val (.int p4), .val (.int p5), .val (.int p6), .val (.ref b6), .val (.ref a7), .val (.ref a8), .val (.int i9), .val (.int j10), .val (.int f11), .val (.int f12), .val (.int f13), .val (.int f14), .unset, .unset, .unset, .unset] [])) ?_ (fun t k => XS.icmpNo X0.here hx rfl (hb hby at_137) rfl (teq c1003).2 k)
      refine Goal.step (T' := T0) (g' := (mkF m 142 #[.val (.int p1), .val (.int p2), .val (.int p3), .val (.int p4), .val (.int p5), .val (.int p6), .val (.ref b6), .val (.ref a7), .val (.ref a8), .val (.int i9), .val (.int j10), .val (.int f11), .val (.int f12), .val (.int f13), .val (.int f14), .unset, .unset, .unset, .unset] [(.int p5)])) ?_ (fun t k => XS.iload X0.here hx rfl (hb hby at_140) rfl k)
      refine Goal.step (T' := T0) (g' := (mkF m 144 #[.val (.int p1), .val (.int p2), .val (.int p3), .val (.int p4), .val (.int p5), .val (.int p6), .val (.ref b6), .val (.ref a7), .val (.ref a8), .val (.int i9), .val (.int j10), .val (.int f11), .val (.int f12), .val (.int f13), .val (.int f14), .unset, .unset, .unset, .unset] [(.int (-2147483648 : Int32)), (.int p5)])) ?_ (fun t k => X0.ldcInt hx hown (mvT hZ (hw _ (List.mem_of_getElem? (i := 81) rfl))) (g := (mkF m 142 #[.val (.int p1), .val (.int p2), .val (.int p3), .val (.int p4), .val (.int p5), .val (.int p6), .val (.ref b6), .val (.ref a7), .val (.ref a8), .val (.int i9), .val (.int j10), .val (.int f11), .val (.int f12), .val (.int f13), .val (.int f14), .unset, .unset, .unset, .unset] [(.int p5)])) rfl (hb hby at_142) _ k)
      refine Goal.step (T' := T0) (g' := (mkF m 145 #[.val (.int p1), .val (.int p2), .val (.int p3), .val (.int p4), .val (.int p5), .val (.int p6), .val (.ref b6), .val (.ref a7), .val (.ref a8), .val (.int i9), .val (.int j10), .val (.int f11), .val (.int f12), .val (.int f13), .val (.int f14), .unset, .unset, .unset, .unset] [(.int (p5 ||| (-2147483648 : Int32)))])) ?_ (fun t k => XS.ior X0.here hx rfl (hb hby at_144) rfl k)
      refine Goal.step (T' := T0) (g' := (mkF m 147 #[.val (.int p1), .val (.int p2), .val (.int p3), .val (.int p4), .val (.int p5), .val (.int p6), .val (.ref b6), .val (.ref a7), .val (.ref a8), .val (.int i9), .val (.int j10), .val (.int f11), .val (.int f12), .val (.int f13), .val (.int f14), .val (.int (p5 ||| (-2147483648 : Int32))), .unset, .unset, .unset] [])) ?_ (fun t k => XS.istore X0.here hx rfl (hb hby at_145) rfl (l' := #[.val (.int p1), .val (.int p2), .val (.int p3), .val (.int p4), .val (.int p5), .val (.int p6), .val (.ref b6), .val (.ref a7), .val (.ref a8), .val (.int i9), .val (.int j10), .val (.int f11), .val (.int f12), .val (.int f13), .val (.int f14), .val (.int (p5 ||| (-2147483648 : Int32))), .unset, .unset, .unset]) rfl k)
      refine Goal.step (T' := T0) (g' := (mkF m 154 #[.val (.int p1), .val (.int p2), .val (.int p3), .val (.int p4), .val (.int p5), .val (.int p6), .val (.ref b6), .val (.ref a7), .val (.ref a8), .val (.int i9), .val (.int j10), .val (.int f11), .val (.int f12), .val (.int f13), .val (.int f14), .val (.int (p5 ||| (-2147483648 : Int32))), .unset, .unset, .unset] [])) ?_ (fun t k => XS.goto X0.here hx rfl (pc0 := 147) (pc' := 154) rfl (hb hby at_147) (by decide) (by decide) k)
      refine Goal.step (T' := T0) (g' := (mkF m 156 #[.val (.int p1), .val (.int p2), .val (.int p3), .val (.int p4), .val (.int p5), .val (.int p6), .val (.ref b6), .val (.ref a7), .val (.ref a8), .val (.int i9), .val (.int j10), .val (.int f11), .val (.int f12), .val (.int f13), .val (.int f14), .val (.int (p5 ||| (-2147483648 : Int32))), .unset, .unset, .unset] [(.int f13)])) ?_ (fun t k => XS.iload X0.here hx rfl (hb hby at_154) rfl k)
      by_cases c1004 : f13 = (0 : Int32)
      · refine Goal.step (T' := T0) (g' := (mkF m 164 #[.val (.int p1), .val (.int p2), .val (.int p3), .val (.int p4), .val (.int p5), .val (.int p6), .val (.ref b6), .val (.ref a7), .val (.ref a8), .val (.int i9), .val (.int j10), .val (.int f11), .val (.int f12), .val (.int f13), .val (.int f14), .val (.int (p5 ||| (-2147483648 : Int32))), .unset, .unset, .unset] [])) ?_ (fun t k => XS.ifYes X0.here hx rfl (pc0 := 156) (pc' := 164) rfl (hb hby at_156) rfl ((if0 _ _).trans (teq c1004).1) (by decide) (by decide) k)
        refine Goal.step (T' := T0) (g' := (mkF m 166 #[.val (.int p1), .val (.int p2), .val (.int p3), .val (.int p4), .val (.int p5), .val (.int p6), .val (.ref b6), .val (.ref a7), .val (.ref a8), .val (.int i9), .val (.int j10), .val (.int f11), .val (.int f12), .val (.int f13), .val (.int f14), .val (.int (p5 ||| (-2147483648 : Int32))), .unset, .unset, .unset] [(.ref a7)])) ?_ (fun t k => XS.aload X0.here hx rfl (hb hby at_164) rfl rfl k)
        refine Goal.step (T' := T0) (g' := (mkF m 168 #[.val (.int p1), .val (.int p2), .val (.int p3), .val (.int p4), .val (.int p5), .val (.int p6), .val (.ref b6), .val (.ref a7), .val (.ref a8), .val (.int i9), .val (.int j10), .val (.int f11), .val (.int f12), .val (.int f13), .val (.int f14), .val (.int (p5 ||| (-2147483648 : Int32))), .val (.ref a7), .unset, .unset] [])) ?_ (fun t k => XS.astore X0.here hx rfl (hb hby at_166) rfl rfl (l' := #[.val (.int p1), .val (.int p2), .val (.int p3), .val (.int p4), .val (.int p5), .val (.int p6), .val (.ref b6), .val (.ref a7), .val (.ref a8), .val (.int i9), .val (.int j10), .val (.int f11), .val (.int f12), .val (.int f13), .val (.int f14), .val (.int (p5 ||| (-2147483648 : Int32))), .val (.ref a7), .unset, .unset]) rfl k)
        have hE' := hE (p5 ||| (-2147483648 : Int32)) f13
        rw [if_pos c1004] at hE'
        exact seg168 hw C0 p1 p2 p3 p4 p5 p6 b6 a7 a8 i9 j10 f11 f12 f13 f14 b1 b2 k1 k2 hs1 hs2 (p5 ||| (-2147483648 : Int32)) a7 h0 n0 (by omega) X0 e0 N0 F1 F2 A1 O1 A2 E6 E7 E8 (fun q => absurd (own_neg p5) q) G1 G2 hE'
      · refine Goal.step (T' := T0) (g' := (mkF m 159 #[.val (.int p1), .val (.int p2), .val (.int p3), .val (.int p4), .val (.int p5), .val (.int p6), .val (.ref b6), .val (.ref a7), .val (.ref a8), .val (.int i9), .val (.int j10), .val (.int f11), .val (.int f12), .val (.int f13), .val (.int f14), .val (.int (p5 ||| (-2147483648 : Int32))), .unset, .unset, .unset] [])) ?_ (fun t k => XS.ifNo X0.here hx rfl (hb hby at_156) rfl ((if0 _ _).trans (feq c1004).1) k)
        refine Goal.step (T' := T0) (g' := (mkF m 161 #[.val (.int p1), .val (.int p2), .val (.int p3), .val (.int p4), .val (.int p5), .val (.int p6), .val (.ref b6), .val (.ref a7), .val (.ref a8), .val (.int i9), .val (.int j10), .val (.int f11), .val (.int f12), .val (.int f13), .val (.int f14), .val (.int (p5 ||| (-2147483648 : Int32))), .unset, .unset, .unset] [(.ref a8)])) ?_ (fun t k => XS.aload X0.here hx rfl (hb hby at_159) rfl rfl k)
        refine Goal.step (T' := T0) (g' := (mkF m 166 #[.val (.int p1), .val (.int p2), .val (.int p3), .val (.int p4), .val (.int p5), .val (.int p6), .val (.ref b6), .val (.ref a7), .val (.ref a8), .val (.int i9), .val (.int j10), .val (.int f11), .val (.int f12), .val (.int f13), .val (.int f14), .val (.int (p5 ||| (-2147483648 : Int32))), .unset, .unset, .unset] [(.ref a8)])) ?_ (fun t k => XS.goto X0.here hx rfl (pc0 := 161) (pc' := 166) rfl (hb hby at_161) (by decide) (by decide) k)
        refine Goal.step (T' := T0) (g' := (mkF m 168 #[.val (.int p1), .val (.int p2), .val (.int p3), .val (.int p4), .val (.int p5), .val (.int p6), .val (.ref b6), .val (.ref a7), .val (.ref a8), .val (.int i9), .val (.int j10), .val (.int f11), .val (.int f12), .val (.int f13), .val (.int f14), .val (.int (p5 ||| (-2147483648 : Int32))), .val (.ref a8), .unset, .unset] [])) ?_ (fun t k => XS.astore X0.here hx rfl (hb hby at_166) rfl rfl (l' := #[.val (.int p1), .val (.int p2), .val (.int p3), .val (.int p4), .val (.int p5), .val (.int p6), .val (.ref b6), .val (.ref a7), .val (.ref a8), .val (.int i9), .val (.int j10), .val (.int f11), .val (.int f12), .val (.int f13), .val (.int f14), .val (.int (p5 ||| (-2147483648 : Int32))), .val (.ref a8), .unset, .unset]) rfl k)
        have hE' := hE (p5 ||| (-2147483648 : Int32)) f13
        rw [if_neg c1004] at hE'
        exact seg168 hw C0 p1 p2 p3 p4 p5 p6 b6 a7 a8 i9 j10 f11 f12 f13 f14 b1 b2 k1 k2 hs1 hs2 (p5 ||| (-2147483648 : Int32)) a8 h0 n0 (by omega) X0 e0 N0 F1 F2 A1 O1 A2 E6 E7 E8 (fun q => absurd (own_neg p5) q) G1 G2 hE'
    · refine Goal.step (T' := T0) (g' := (mkF m 150 #[.val (.int p1), .val (.int p2), .val (.int p3), .val (.int p4), .val (.int p5), .val (.int p6), .val (.ref b6), .val (.ref a7), .val (.ref a8), .val (.int i9), .val (.int j10), .val (.int f11), .val (.int f12), .val (.int f13), .val (.int f14), .unset, .unset, .unset, .unset] [])) ?_ (fun t k => XS.icmpYes X0.here hx rfl (pc0 := 137) (pc' := 150) rfl (hb hby at_137) rfl (feq c1003).2 (by decide) (by decide) k)
      refine Goal.step (T' := T0) (g' := (mkF m 152 #[.val (.int p1), .val (.int p2), .val (.int p3), .val (.int p4), .val (.int p5), .val (.int p6), .val (.ref b6), .val (.ref a7), .val (.ref a8), .val (.int i9), .val (.int j10), .val (.int f11), .val (.int f12), .val (.int f13), .val (.int f14), .unset, .unset, .unset, .unset] [(.int i9)])) ?_ (fun t k => XS.iload X0.here hx rfl (hb hby at_150) rfl k)
      refine Goal.step (T' := T0) (g' := (mkF m 154 #[.val (.int p1), .val (.int p2), .val (.int p3), .val (.int p4), .val (.int p5), .val (.int p6), .val (.ref b6), .val (.ref a7), .val (.ref a8), .val (.int i9), .val (.int j10), .val (.int f11), .val (.int f12), .val (.int f13), .val (.int f14), .val (.int i9), .unset, .unset, .unset] [])) ?_ (fun t k => XS.istore X0.here hx rfl (hb hby at_152) rfl (l' := #[.val (.int p1), .val (.int p2), .val (.int p3), .val (.int p4), .val (.int p5), .val (.int p6), .val (.ref b6), .val (.ref a7), .val (.ref a8), .val (.int i9), .val (.int j10), .val (.int f11), .val (.int f12), .val (.int f13), .val (.int f14), .val (.int i9), .unset, .unset, .unset]) rfl k)
      refine Goal.step (T' := T0) (g' := (mkF m 156 #[.val (.int p1), .val (.int p2), .val (.int p3), .val (.int p4), .val (.int p5), .val (.int p6), .val (.ref b6), .val (.ref a7), .val (.ref a8), .val (.int i9), .val (.int j10), .val (.int f11), .val (.int f12), .val (.int f13), .val (.int f14), .val (.int i9), .unset, .unset, .unset] [(.int f13)])) ?_ (fun t k => XS.iload X0.here hx rfl (hb hby at_154) rfl k)
      by_cases c1005 : f13 = (0 : Int32)
      · refine Goal.step (T' := T0) (g' := (mkF m 164 #[.val (.int p1), .val (.int p2), .val (.int p3), .val (.int p4), .val (.int p5), .val (.int p6), .val (.ref b6), .val (.ref a7), .val (.ref a8), .val (.int i9), .val (.int j10), .val (.int f11), .val (.int f12), .val (.int f13), .val (.int f14), .val (.int i9), .unset, .unset, .unset] [])) ?_ (fun t k => XS.ifYes X0.here hx rfl (pc0 := 156) (pc' := 164) rfl (hb hby at_156) rfl ((if0 _ _).trans (teq c1005).1) (by decide) (by decide) k)
        refine Goal.step (T' := T0) (g' := (mkF m 166 #[.val (.int p1), .val (.int p2), .val (.int p3), .val (.int p4), .val (.int p5), .val (.int p6), .val (.ref b6), .val (.ref a7), .val (.ref a8), .val (.int i9), .val (.int j10), .val (.int f11), .val (.int f12), .val (.int f13), .val (.int f14), .val (.int i9), .unset, .unset, .unset] [(.ref a7)])) ?_ (fun t k => XS.aload X0.here hx rfl (hb hby at_164) rfl rfl k)
        refine Goal.step (T' := T0) (g' := (mkF m 168 #[.val (.int p1), .val (.int p2), .val (.int p3), .val (.int p4), .val (.int p5), .val (.int p6), .val (.ref b6), .val (.ref a7), .val (.ref a8), .val (.int i9), .val (.int j10), .val (.int f11), .val (.int f12), .val (.int f13), .val (.int f14), .val (.int i9), .val (.ref a7), .unset, .unset] [])) ?_ (fun t k => XS.astore X0.here hx rfl (hb hby at_166) rfl rfl (l' := #[.val (.int p1), .val (.int p2), .val (.int p3), .val (.int p4), .val (.int p5), .val (.int p6), .val (.ref b6), .val (.ref a7), .val (.ref a8), .val (.int i9), .val (.int j10), .val (.int f11), .val (.int f12), .val (.int f13), .val (.int f14), .val (.int i9), .val (.ref a7), .unset, .unset]) rfl k)
        have hE' := hE i9 f13
        rw [if_pos c1005] at hE'
        exact seg168 hw C0 p1 p2 p3 p4 p5 p6 b6 a7 a8 i9 j10 f11 f12 f13 f14 b1 b2 k1 k2 hs1 hs2 i9 a7 h0 n0 (by omega) X0 e0 N0 F1 F2 A1 O1 A2 E6 E7 E8 (fun _ => hi.2) G1 G2 hE'
      · refine Goal.step (T' := T0) (g' := (mkF m 159 #[.val (.int p1), .val (.int p2), .val (.int p3), .val (.int p4), .val (.int p5), .val (.int p6), .val (.ref b6), .val (.ref a7), .val (.ref a8), .val (.int i9), .val (.int j10), .val (.int f11), .val (.int f12), .val (.int f13), .val (.int f14), .val (.int i9), .unset, .unset, .unset] [])) ?_ (fun t k => XS.ifNo X0.here hx rfl (hb hby at_156) rfl ((if0 _ _).trans (feq c1005).1) k)
        refine Goal.step (T' := T0) (g' := (mkF m 161 #[.val (.int p1), .val (.int p2), .val (.int p3), .val (.int p4), .val (.int p5), .val (.int p6), .val (.ref b6), .val (.ref a7), .val (.ref a8), .val (.int i9), .val (.int j10), .val (.int f11), .val (.int f12), .val (.int f13), .val (.int f14), .val (.int i9), .unset, .unset, .unset] [(.ref a8)])) ?_ (fun t k => XS.aload X0.here hx rfl (hb hby at_159) rfl rfl k)
        refine Goal.step (T' := T0) (g' := (mkF m 166 #[.val (.int p1), .val (.int p2), .val (.int p3), .val (.int p4), .val (.int p5), .val (.int p6), .val (.ref b6), .val (.ref a7), .val (.ref a8), .val (.int i9), .val (.int j10), .val (.int f11), .val (.int f12), .val (.int f13), .val (.int f14), .val (.int i9), .unset, .unset, .unset] [(.ref a8)])) ?_ (fun t k => XS.goto X0.here hx rfl (pc0 := 161) (pc' := 166) rfl (hb hby at_161) (by decide) (by decide) k)
        refine Goal.step (T' := T0) (g' := (mkF m 168 #[.val (.int p1), .val (.int p2), .val (.int p3), .val (.int p4), .val (.int p5), .val (.int p6), .val (.ref b6), .val (.ref a7), .val (.ref a8), .val (.int i9), .val (.int j10), .val (.int f11), .val (.int f12), .val (.int f13), .val (.int f14), .val (.int i9), .val (.ref a8), .unset, .unset] [])) ?_ (fun t k => XS.astore X0.here hx rfl (hb hby at_166) rfl rfl (l' := #[.val (.int p1), .val (.int p2), .val (.int p3), .val (.int p4), .val (.int p5), .val (.int p6), .val (.ref b6), .val (.ref a7), .val (.ref a8), .val (.int i9), .val (.int j10), .val (.int f11), .val (.int f12), .val (.int f13), .val (.int f14), .val (.int i9), .val (.ref a8), .unset, .unset]) rfl k)
        have hE' := hE i9 f13
        rw [if_neg c1005] at hE'
        exact seg168 hw C0 p1 p2 p3 p4 p5 p6 b6 a7 a8 i9 j10 f11 f12 f13 f14 b1 b2 k1 k2 hs1 hs2 i9 a8 h0 n0 (by omega) X0 e0 N0 F1 F2 A1 O1 A2 E6 E7 E8 (fun _ => hi.2) G1 G2 hE'
theorem pd_2 : parseMethodDescriptor "(ILjava/lang/Object;I)V" = some ⟨[.int, (.object "java/lang/Object"), .int], none⟩ := by decide +kernel
set_option maxRecDepth 65536 in
set_option maxHeartbeats 40000000 in
theorem seg91 {p : Program} {l : Launch} {e : Env} {s : State} {m : MethodId} {args : Array Value} {below : List Frame} {meth : Method} {c : Code} {Z : State} {a0 : Array Value} {T0 : State} {locs : List Loc} (hw : ∀ d ∈ tables_1, d.before a0 Z = true) (C0 : Ctx p s m meth c Z code maxLocals ret x.cls x.name) (p1 p2 p3 p4 p5 p6 : Int32) (b6 a7 a8 : Nat) (i9 j10 f11 f12 f13 f14 : Int32) (b1 b2 : Nat) (k1 k2 : ClassId) (h0 : Heap) (n0 : Nat) (Z0 : n0 ≤ h0.size) (X0 : Stand p l e room_1 s m args below meth c T0 locs 11 7191) (e0 : T0.heap = h0) (N0 : Fr n0 locs) (F1 : Fld Z h0 b6 "com/example/prove_permissions/provepermissions/model/XmiIds" "holders" "[Ljava/lang/Object;" (.ref b1)) (F2 : Fld Z h0 b6 "com/example/prove_permissions/provepermissions/model/XmiIds" "places" "[I" (.ref b2)) (A1 : Arh Z h0 b1 k1 (.object "java/lang/Object") (1024 : Int32) [] [] .null) (O1 : Ovr Z k1 "java/lang/Object") (A2 : Arh Z h0 b2 k2 .int (1024 : Int32) [] [] (.int (0 : Int32))) (E6 : Exa Z h0 b6 "com/example/prove_permissions/provepermissions/model/XmiIds") (E7 : Exa Z h0 a7 "java/util/ArrayList") (E8 : Exa Z h0 a8 "java/util/ArrayList") (hi : ¬ i9 < 0 ∧ i9 < (1024 : Int32)) (hj : ¬ j10 < 0 ∧ j10 < (1024 : Int32)) (hord : n0 ≤ b6 ∧ b6 < b1 ∧ b1 < b2 ∧ b2 < a7 ∧ a7 < a8) :
    Goal p l e room_1 s m args below meth c (In room_1 (fun v h L => v = some (.int 1) ∧ Fr n0 L)) T0 (mkF m 91 #[.val (.int p1), .val (.int p2), .val (.int p3), .val (.int p4), .val (.int p5), .val (.int p6), .val (.ref b6), .val (.ref a7), .val (.ref a8), .val (.int i9), .val (.int j10), .val (.int f11), .val (.int f12), .val (.int f13), .val (.int f14), .unset, .unset, .unset, .unset] []) := by
  have C := C0
  obtain ⟨hx, hZ, hby, hml, hret, hown, hnm⟩ := C
  have hown : s.vm.findClass "com/example/prove_permissions/provepermissions/model/XmiIdsPlaceInPinLaw" = some m.cls := hown
  have hret : meth.sig.returnType = (some .boolean) := hret
  refine Goal.step (T' := T0) (g' := (mkF m 93 #[.val (.int p1), .val (.int p2), .val (.int p3), .val (.int p4), .val (.int p5), .val (.int p6), .val (.ref b6), .val (.ref a7), .val (.ref a8), .val (.int i9), .val (.int j10), .val (.int f11), .val (.int f12), .val (.int f13), .val (.int f14), .unset, .unset, .unset, .unset] [(.int f11)])) ?_ (fun t k => XS.iload X0.here hx rfl (hb hby at_91) rfl k)
  by_cases c1001 : f11 = (0 : Int32)
  · refine Goal.step (T' := T0) (g' := (mkF m 106 #[.val (.int p1), .val (.int p2), .val (.int p3), .val (.int p4), .val (.int p5), .val (.int p6), .val (.ref b6), .val (.ref a7), .val (.ref a8), .val (.int i9), .val (.int j10), .val (.int f11), .val (.int f12), .val (.int f13), .val (.int f14), .unset, .unset, .unset, .unset] [])) ?_ (fun t k => XS.ifYes X0.here hx rfl (pc0 := 93) (pc' := 106) rfl (hb hby at_93) rfl ((if0 _ _).trans (teq c1001).1) (by decide) (by decide) k)
    refine Goal.step (T' := T0) (g' := (mkF m 108 #[.val (.int p1), .val (.int p2), .val (.int p3), .val (.int p4), .val (.int p5), .val (.int p6), .val (.ref b6), .val (.ref a7), .val (.ref a8), .val (.int i9), .val (.int j10), .val (.int f11), .val (.int f12), .val (.int f13), .val (.int f14), .unset, .unset, .unset, .unset] [(.int f12)])) ?_ (fun t k => XS.iload X0.here hx rfl (hb hby at_106) rfl k)
    by_cases c1002 : f12 = (0 : Int32)
    · refine Goal.step (T' := T0) (g' := (mkF m 121 #[.val (.int p1), .val (.int p2), .val (.int p3), .val (.int p4), .val (.int p5), .val (.int p6), .val (.ref b6), .val (.ref a7), .val (.ref a8), .val (.int i9), .val (.int j10), .val (.int f11), .val (.int f12), .val (.int f13), .val (.int f14), .unset, .unset, .unset, .unset] [])) ?_ (fun t k => XS.ifYes X0.here hx rfl (pc0 := 108) (pc' := 121) rfl (hb hby at_108) rfl ((if0 _ _).trans (teq c1002).1) (by decide) (by decide) k)
      exact seg121 hw C0 p1 p2 p3 p4 p5 p6 b6 a7 a8 i9 j10 f11 f12 f13 f14 b1 b2 k1 k2 [] [] h0 n0 (by omega) X0 e0 N0 F1 F2 A1 O1 A2 E6 E7 E8 hi hj good1_nil good2_nil (fin00 a7 a8 i9 j10 p3 p4 f11 f12 c1001 c1002)
    · refine Goal.step (T' := T0) (g' := (mkF m 111 #[.val (.int p1), .val (.int p2), .val (.int p3), .val (.int p4), .val (.int p5), .val (.int p6), .val (.ref b6), .val (.ref a7), .val (.ref a8), .val (.int i9), .val (.int j10), .val (.int f11), .val (.int f12), .val (.int f13), .val (.int f14), .unset, .unset, .unset, .unset] [])) ?_ (fun t k => XS.ifNo X0.here hx rfl (hb hby at_108) rfl ((if0 _ _).trans (feq c1002).1) k)
      refine Goal.step (T' := T0) (g' := (mkF m 113 #[.val (.int p1), .val (.int p2), .val (.int p3), .val (.int p4), .val (.int p5), .val (.int p6), .val (.ref b6), .val (.ref a7), .val (.ref a8), .val (.int i9), .val (.int j10), .val (.int f11), .val (.int f12), .val (.int f13), .val (.int f14), .unset, .unset, .unset, .unset] [(.ref b6)])) ?_ (fun t k => XS.aload X0.here hx rfl (hb hby at_111) rfl rfl k)
      refine Goal.step (T' := T0) (g' := (mkF m 115 #[.val (.int p1), .val (.int p2), .val (.int p3), .val (.int p4), .val (.int p5), .val (.int p6), .val (.ref b6), .val (.ref a7), .val (.ref a8), .val (.int i9), .val (.int j10), .val (.int f11), .val (.int f12), .val (.int f13), .val (.int f14), .unset, .unset, .unset, .unset] [(.int j10), (.ref b6)])) ?_ (fun t k => XS.iload X0.here hx rfl (hb hby at_113) rfl k)
      refine Goal.step (T' := T0) (g' := (mkF m 117 #[.val (.int p1), .val (.int p2), .val (.int p3), .val (.int p4), .val (.int p5), .val (.int p6), .val (.ref b6), .val (.ref a7), .val (.ref a8), .val (.int i9), .val (.int j10), .val (.int f11), .val (.int f12), .val (.int f13), .val (.int f14), .unset, .unset, .unset, .unset] [(.ref a8), (.int j10), (.ref b6)])) ?_ (fun t k => XS.aload X0.here hx rfl (hb hby at_115) rfl rfl k)
      refine Goal.step (T' := T0) (g' := (mkF m 118 #[.val (.int p1), .val (.int p2), .val (.int p3), .val (.int p4), .val (.int p5), .val (.int p6), .val (.ref b6), .val (.ref a7), .val (.ref a8), .val (.int i9), .val (.int j10), .val (.int f11), .val (.int f12), .val (.int f13), .val (.int f14), .unset, .unset, .unset, .unset] [(.int p4), (.ref a8), (.int j10), (.ref b6)])) ?_ (fun t k => XS.iloadN X0.here hx rfl (hb hby at_117) rfl k)
      obtain ⟨v1003, T1003, h1003, L1003, X1003, e1003, hQ1003, st1003⟩ := callVirt X0 hx hZ hown (hw _ (List.mem_of_getElem? (i := 70) rfl)) (hw _ (List.mem_of_getElem? (i := 71) rfl)) (notFace_of_selects (args := #[]) (mvT hZ (hw _ (List.mem_of_getElem? (i := 73) rfl)))) (hw _ (List.mem_of_getElem? (i := 73) rfl)) (hw _ (List.mem_of_getElem? (i := 72) rfl)) (hw _ (List.mem_of_getElem? (i := 2) rfl)) (hw _ (List.mem_of_getElem? (i := 74) rfl)) (by decide) (rmHO l Z a0 hw b6 j10 a8 p4 b1 b2 k1 k2 [] [] h0 n0 (by omega) F1 F2 A1 O1 A2 E8 hj (by omega) (by omega) (by omega) (by omega) (by omega)) e0 E6 (W := 0) (by decide) (by decide) (by decide) (by decide) (g := (mkF m 118 #[.val (.int p1), .val (.int p2), .val (.int p3), .val (.int p4), .val (.int p5), .val (.int p6), .val (.ref b6), .val (.ref a7), .val (.ref a8), .val (.int i9), .val (.int j10), .val (.int f11), .val (.int f12), .val (.int f13), .val (.int f14), .unset, .unset, .unset, .unset] [(.int p4), (.ref a8), (.int j10), (.ref b6)])) rfl (by rw [hml]; rfl) (argsL := [(.int j10), (.ref a8), (.int p4)]) (rest := []) (lenOf pd_2 rfl) rfl (by show 2 * 0 + _ ≤ _; exact Nat.le_of_eq rfl) (hb hby at_118) rfl
      obtain ⟨rfl, M1003, K1003, Aa1003, Ab1003⟩ := hQ1003
      have N1003 := Fr.app N0 M1003
      refine Goal.step (T' := T1003) (g' := (mkF m 121 #[.val (.int p1), .val (.int p2), .val (.int p3), .val (.int p4), .val (.int p5), .val (.int p6), .val (.ref b6), .val (.ref a7), .val (.ref a8), .val (.int i9), .val (.int j10), .val (.int f11), .val (.int f12), .val (.int f13), .val (.int f14), .unset, .unset, .unset, .unset] [])) ?_ st1003
      have sz1004 : h0.size ≤ h1003.size := K1003.1
      have f1005 : Fld Z h1003 b6 "com/example/prove_permissions/provepermissions/model/XmiIds" "holders" "[Ljava/lang/Object;" (.ref b1) := (F1.keep K1003 (ninS (nne (by omega)) (ninS (nne (by omega)) nin0)))
      have f1006 : Fld Z h1003 b6 "com/example/prove_permissions/provepermissions/model/XmiIds" "places" "[I" (.ref b2) := (F2.keep K1003 (ninS (nne (by omega)) (ninS (nne (by omega)) nin0)))
      have f1007 : Exa Z h1003 b6 "com/example/prove_permissions/provepermissions/model/XmiIds" := (E6.keep K1003)
      have f1008 : Exa Z h1003 a7 "java/util/ArrayList" := (E7.keep K1003)
      have f1009 : Exa Z h1003 a8 "java/util/ArrayList" := (E8.keep K1003)
      exact seg121 hw C0 p1 p2 p3 p4 p5 p6 b6 a7 a8 i9 j10 f11 f12 f13 f14 b1 b2 k1 k2 ((j10, .ref a8) :: []) ((j10, .int p4) :: []) h1003 n0 (by omega) X1003 e1003 N1003 f1005 f1006 Aa1003 O1 Ab1003 f1007 f1008 f1009 hi hj (good1_cons good1_nil) (good2_cons good2_nil) (fin01 a7 a8 (by omega) i9 j10 p3 p4 f11 f12 c1001 c1002)
  · refine Goal.step (T' := T0) (g' := (mkF m 96 #[.val (.int p1), .val (.int p2), .val (.int p3), .val (.int p4), .val (.int p5), .val (.int p6), .val (.ref b6), .val (.ref a7), .val (.ref a8), .val (.int i9), .val (.int j10), .val (.int f11), .val (.int f12), .val (.int f13), .val (.int f14), .unset, .unset, .unset, .unset] [])) ?_ (fun t k => XS.ifNo X0.here hx rfl (hb hby at_93) rfl ((if0 _ _).trans (feq c1001).1) k)
    refine Goal.step (T' := T0) (g' := (mkF m 98 #[.val (.int p1), .val (.int p2), .val (.int p3), .val (.int p4), .val (.int p5), .val (.int p6), .val (.ref b6), .val (.ref a7), .val (.ref a8), .val (.int i9), .val (.int j10), .val (.int f11), .val (.int f12), .val (.int f13), .val (.int f14), .unset, .unset, .unset, .unset] [(.ref b6)])) ?_ (fun t k => XS.aload X0.here hx rfl (hb hby at_96) rfl rfl k)
    refine Goal.step (T' := T0) (g' := (mkF m 100 #[.val (.int p1), .val (.int p2), .val (.int p3), .val (.int p4), .val (.int p5), .val (.int p6), .val (.ref b6), .val (.ref a7), .val (.ref a8), .val (.int i9), .val (.int j10), .val (.int f11), .val (.int f12), .val (.int f13), .val (.int f14), .unset, .unset, .unset, .unset] [(.int i9), (.ref b6)])) ?_ (fun t k => XS.iload X0.here hx rfl (hb hby at_98) rfl k)
    refine Goal.step (T' := T0) (g' := (mkF m 102 #[.val (.int p1), .val (.int p2), .val (.int p3), .val (.int p4), .val (.int p5), .val (.int p6), .val (.ref b6), .val (.ref a7), .val (.ref a8), .val (.int i9), .val (.int j10), .val (.int f11), .val (.int f12), .val (.int f13), .val (.int f14), .unset, .unset, .unset, .unset] [(.ref a7), (.int i9), (.ref b6)])) ?_ (fun t k => XS.aload X0.here hx rfl (hb hby at_100) rfl rfl k)
    refine Goal.step (T' := T0) (g' := (mkF m 103 #[.val (.int p1), .val (.int p2), .val (.int p3), .val (.int p4), .val (.int p5), .val (.int p6), .val (.ref b6), .val (.ref a7), .val (.ref a8), .val (.int i9), .val (.int j10), .val (.int f11), .val (.int f12), .val (.int f13), .val (.int f14), .unset, .unset, .unset, .unset] [(.int p3), (.ref a7), (.int i9), (.ref b6)])) ?_ (fun t k => XS.iloadN X0.here hx rfl (hb hby at_102) rfl k)
    obtain ⟨v1010, T1010, h1010, L1010, X1010, e1010, hQ1010, st1010⟩ := callVirt X0 hx hZ hown (hw _ (List.mem_of_getElem? (i := 70) rfl)) (hw _ (List.mem_of_getElem? (i := 71) rfl)) (notFace_of_selects (args := #[]) (mvT hZ (hw _ (List.mem_of_getElem? (i := 73) rfl)))) (hw _ (List.mem_of_getElem? (i := 73) rfl)) (hw _ (List.mem_of_getElem? (i := 72) rfl)) (hw _ (List.mem_of_getElem? (i := 2) rfl)) (hw _ (List.mem_of_getElem? (i := 74) rfl)) (by decide) (rmHO l Z a0 hw b6 i9 a7 p3 b1 b2 k1 k2 [] [] h0 n0 (by omega) F1 F2 A1 O1 A2 E7 hi (by omega) (by omega) (by omega) (by omega) (by omega)) e0 E6 (W := 0) (by decide) (by decide) (by decide) (by decide) (g := (mkF m 103 #[.val (.int p1), .val (.int p2), .val (.int p3), .val (.int p4), .val (.int p5), .val (.int p6), .val (.ref b6), .val (.ref a7), .val (.ref a8), .val (.int i9), .val (.int j10), .val (.int f11), .val (.int f12), .val (.int f13), .val (.int f14), .unset, .unset, .unset, .unset] [(.int p3), (.ref a7), (.int i9), (.ref b6)])) rfl (by rw [hml]; rfl) (argsL := [(.int i9), (.ref a7), (.int p3)]) (rest := []) (lenOf pd_2 rfl) rfl (by show 2 * 0 + _ ≤ _; exact Nat.le_of_eq rfl) (hb hby at_103) rfl
    obtain ⟨rfl, M1010, K1010, Aa1010, Ab1010⟩ := hQ1010
    have N1010 := Fr.app N0 M1010
    refine Goal.step (T' := T1010) (g' := (mkF m 106 #[.val (.int p1), .val (.int p2), .val (.int p3), .val (.int p4), .val (.int p5), .val (.int p6), .val (.ref b6), .val (.ref a7), .val (.ref a8), .val (.int i9), .val (.int j10), .val (.int f11), .val (.int f12), .val (.int f13), .val (.int f14), .unset, .unset, .unset, .unset] [])) ?_ st1010
    have sz1011 : h0.size ≤ h1010.size := K1010.1
    refine Goal.step (T' := T1010) (g' := (mkF m 108 #[.val (.int p1), .val (.int p2), .val (.int p3), .val (.int p4), .val (.int p5), .val (.int p6), .val (.ref b6), .val (.ref a7), .val (.ref a8), .val (.int i9), .val (.int j10), .val (.int f11), .val (.int f12), .val (.int f13), .val (.int f14), .unset, .unset, .unset, .unset] [(.int f12)])) ?_ (fun t k => XS.iload X1010.here hx rfl (hb hby at_106) rfl k)
    by_cases c1012 : f12 = (0 : Int32)
    · refine Goal.step (T' := T1010) (g' := (mkF m 121 #[.val (.int p1), .val (.int p2), .val (.int p3), .val (.int p4), .val (.int p5), .val (.int p6), .val (.ref b6), .val (.ref a7), .val (.ref a8), .val (.int i9), .val (.int j10), .val (.int f11), .val (.int f12), .val (.int f13), .val (.int f14), .unset, .unset, .unset, .unset] [])) ?_ (fun t k => XS.ifYes X1010.here hx rfl (pc0 := 108) (pc' := 121) rfl (hb hby at_108) rfl ((if0 _ _).trans (teq c1012).1) (by decide) (by decide) k)
      have f1013 : Fld Z h1010 b6 "com/example/prove_permissions/provepermissions/model/XmiIds" "holders" "[Ljava/lang/Object;" (.ref b1) := (F1.keep K1010 (ninS (nne (by omega)) (ninS (nne (by omega)) nin0)))
      have f1014 : Fld Z h1010 b6 "com/example/prove_permissions/provepermissions/model/XmiIds" "places" "[I" (.ref b2) := (F2.keep K1010 (ninS (nne (by omega)) (ninS (nne (by omega)) nin0)))
      have f1015 : Exa Z h1010 b6 "com/example/prove_permissions/provepermissions/model/XmiIds" := (E6.keep K1010)
      have f1016 : Exa Z h1010 a7 "java/util/ArrayList" := (E7.keep K1010)
      have f1017 : Exa Z h1010 a8 "java/util/ArrayList" := (E8.keep K1010)
      exact seg121 hw C0 p1 p2 p3 p4 p5 p6 b6 a7 a8 i9 j10 f11 f12 f13 f14 b1 b2 k1 k2 ((i9, .ref a7) :: []) ((i9, .int p3) :: []) h1010 n0 (by omega) X1010 e1010 N1010 f1013 f1014 Aa1010 O1 Ab1010 f1015 f1016 f1017 hi hj (good1_cons good1_nil) (good2_cons good2_nil) (fin10 a7 a8 (by omega) i9 j10 p3 p4 f11 f12 c1001 c1012)
    · refine Goal.step (T' := T1010) (g' := (mkF m 111 #[.val (.int p1), .val (.int p2), .val (.int p3), .val (.int p4), .val (.int p5), .val (.int p6), .val (.ref b6), .val (.ref a7), .val (.ref a8), .val (.int i9), .val (.int j10), .val (.int f11), .val (.int f12), .val (.int f13), .val (.int f14), .unset, .unset, .unset, .unset] [])) ?_ (fun t k => XS.ifNo X1010.here hx rfl (hb hby at_108) rfl ((if0 _ _).trans (feq c1012).1) k)
      refine Goal.step (T' := T1010) (g' := (mkF m 113 #[.val (.int p1), .val (.int p2), .val (.int p3), .val (.int p4), .val (.int p5), .val (.int p6), .val (.ref b6), .val (.ref a7), .val (.ref a8), .val (.int i9), .val (.int j10), .val (.int f11), .val (.int f12), .val (.int f13), .val (.int f14), .unset, .unset, .unset, .unset] [(.ref b6)])) ?_ (fun t k => XS.aload X1010.here hx rfl (hb hby at_111) rfl rfl k)
      refine Goal.step (T' := T1010) (g' := (mkF m 115 #[.val (.int p1), .val (.int p2), .val (.int p3), .val (.int p4), .val (.int p5), .val (.int p6), .val (.ref b6), .val (.ref a7), .val (.ref a8), .val (.int i9), .val (.int j10), .val (.int f11), .val (.int f12), .val (.int f13), .val (.int f14), .unset, .unset, .unset, .unset] [(.int j10), (.ref b6)])) ?_ (fun t k => XS.iload X1010.here hx rfl (hb hby at_113) rfl k)
      refine Goal.step (T' := T1010) (g' := (mkF m 117 #[.val (.int p1), .val (.int p2), .val (.int p3), .val (.int p4), .val (.int p5), .val (.int p6), .val (.ref b6), .val (.ref a7), .val (.ref a8), .val (.int i9), .val (.int j10), .val (.int f11), .val (.int f12), .val (.int f13), .val (.int f14), .unset, .unset, .unset, .unset] [(.ref a8), (.int j10), (.ref b6)])) ?_ (fun t k => XS.aload X1010.here hx rfl (hb hby at_115) rfl rfl k)
      refine Goal.step (T' := T1010) (g' := (mkF m 118 #[.val (.int p1), .val (.int p2), .val (.int p3), .val (.int p4), .val (.int p5), .val (.int p6), .val (.ref b6), .val (.ref a7), .val (.ref a8), .val (.int i9), .val (.int j10), .val (.int f11), .val (.int f12), .val (.int f13), .val (.int f14), .unset, .unset, .unset, .unset] [(.int p4), (.ref a8), (.int j10), (.ref b6)])) ?_ (fun t k => XS.iloadN X1010.here hx rfl (hb hby at_117) rfl k)
      have f1019 : Fld Z h1010 b6 "com/example/prove_permissions/provepermissions/model/XmiIds" "holders" "[Ljava/lang/Object;" (.ref b1) := (F1.keep K1010 (ninS (nne (by omega)) (ninS (nne (by omega)) nin0)))
      have f1020 : Fld Z h1010 b6 "com/example/prove_permissions/provepermissions/model/XmiIds" "places" "[I" (.ref b2) := (F2.keep K1010 (ninS (nne (by omega)) (ninS (nne (by omega)) nin0)))
      have f1021 : Exa Z h1010 a8 "java/util/ArrayList" := (E8.keep K1010)
      have f1022 : Exa Z h1010 b6 "com/example/prove_permissions/provepermissions/model/XmiIds" := (E6.keep K1010)
      obtain ⟨v1018, T1018, h1018, L1018, X1018, e1018, hQ1018, st1018⟩ := callVirt X1010 hx hZ hown (hw _ (List.mem_of_getElem? (i := 70) rfl)) (hw _ (List.mem_of_getElem? (i := 71) rfl)) (notFace_of_selects (args := #[]) (mvT hZ (hw _ (List.mem_of_getElem? (i := 73) rfl)))) (hw _ (List.mem_of_getElem? (i := 73) rfl)) (hw _ (List.mem_of_getElem? (i := 72) rfl)) (hw _ (List.mem_of_getElem? (i := 2) rfl)) (hw _ (List.mem_of_getElem? (i := 74) rfl)) (by decide) (rmHO l Z a0 hw b6 j10 a8 p4 b1 b2 k1 k2 ((i9, .ref a7) :: []) ((i9, .int p3) :: []) h1010 n0 (by omega) f1019 f1020 Aa1010 O1 Ab1010 f1021 hj (by omega) (by omega) (by omega) (by omega) (by omega)) e1010 f1022 (W := 0) (by decide) (by decide) (by decide) (by decide) (g := (mkF m 118 #[.val (.int p1), .val (.int p2), .val (.int p3), .val (.int p4), .val (.int p5), .val (.int p6), .val (.ref b6), .val (.ref a7), .val (.ref a8), .val (.int i9), .val (.int j10), .val (.int f11), .val (.int f12), .val (.int f13), .val (.int f14), .unset, .unset, .unset, .unset] [(.int p4), (.ref a8), (.int j10), (.ref b6)])) rfl (by rw [hml]; rfl) (argsL := [(.int j10), (.ref a8), (.int p4)]) (rest := []) (lenOf pd_2 rfl) rfl (by show 2 * 0 + _ ≤ _; exact Nat.le_of_eq rfl) (hb hby at_118) rfl
      obtain ⟨rfl, M1018, K1018, Aa1018, Ab1018⟩ := hQ1018
      have N1018 := Fr.app N1010 M1018
      refine Goal.step (T' := T1018) (g' := (mkF m 121 #[.val (.int p1), .val (.int p2), .val (.int p3), .val (.int p4), .val (.int p5), .val (.int p6), .val (.ref b6), .val (.ref a7), .val (.ref a8), .val (.int i9), .val (.int j10), .val (.int f11), .val (.int f12), .val (.int f13), .val (.int f14), .unset, .unset, .unset, .unset] [])) ?_ st1018
      have sz1023 : h1010.size ≤ h1018.size := K1018.1
      have f1024 : Fld Z h1018 b6 "com/example/prove_permissions/provepermissions/model/XmiIds" "holders" "[Ljava/lang/Object;" (.ref b1) := (f1019.keep K1018 (ninS (nne (by omega)) (ninS (nne (by omega)) nin0)))
      have f1025 : Fld Z h1018 b6 "com/example/prove_permissions/provepermissions/model/XmiIds" "places" "[I" (.ref b2) := (f1020.keep K1018 (ninS (nne (by omega)) (ninS (nne (by omega)) nin0)))
      have f1026 : Exa Z h1018 b6 "com/example/prove_permissions/provepermissions/model/XmiIds" := (f1022.keep K1018)
      have f1027 : Exa Z h1018 a7 "java/util/ArrayList" := ((E7.keep K1010).keep K1018)
      have f1028 : Exa Z h1018 a8 "java/util/ArrayList" := (f1021.keep K1018)
      exact seg121 hw C0 p1 p2 p3 p4 p5 p6 b6 a7 a8 i9 j10 f11 f12 f13 f14 b1 b2 k1 k2 ((j10, .ref a8) :: ((i9, .ref a7) :: [])) ((j10, .int p4) :: ((i9, .int p3) :: [])) h1018 n0 (by omega) X1018 e1018 N1018 f1024 f1025 Aa1018 O1 Ab1018 f1026 f1027 f1028 hi hj (good1_cons (good1_cons good1_nil)) (good2_cons (good2_cons good2_nil)) (fin11 a7 a8 (by omega) i9 j10 p3 p4 f11 f12 c1001 c1012)
theorem ef_0 (m : MethodId) (x0 : Int32) (x1 : Int32) (x2 : Int32) (x3 : Int32) (x4 : Int32) (x5 : Int32) : entryFrame m #[(.int x0), (.int x1), (.int x2), (.int x3), (.int x4), (.int x5)] maxLocals = mkF m 0 #[.val (.int x0), .val (.int x1), .val (.int x2), .val (.int x3), .val (.int x4), .val (.int x5), .unset, .unset, .unset, .unset, .unset, .unset, .unset, .unset, .unset, .unset, .unset, .unset, .unset] [] := by first | (simp [entryFrame, mkF, argsToLocals, Value.category, maxLocals]; done) | rfl
set_option maxRecDepth 65536 in
set_option maxHeartbeats 40000000 in
theorem rm0 (l : Launch) (Z : State) (a0 : Array Value) (hw : ∀ d ∈ tables_1, d.before a0 Z = true) (p1 p2 p3 p4 p5 p6 : Int32) (da : Nat) (h0 : Heap) (n0 : Nat) (Z0 : n0 ≤ h0.size) (S0 : Sta Z Z.heap "java/util/ArrayList" "DEFAULTCAPACITY_EMPTY_ELEMENTDATA" "[Ljava/lang/Object;" (.ref da)) (O0 : Old Z n0 h0) :
    Met l x code maxLocals ret tables_1 room_1 Z #[(.int p1), (.int p2), (.int p3), (.int p4), (.int p5), (.int p6)] h0 (fun v h L => v = some (.int 1) ∧ Fr n0 L) := by
  refine of_goal (plainFor_of_name (by first | (simp [plainName, overriddenIn]; done) | decide +kernel)) ?_
  intro p e s m below meth c s₁ C X0 e0
  have C0 := C
  obtain ⟨hx, hZ, hby, hml, hret, hown, hnm⟩ := C
  have hown : s.vm.findClass "com/example/prove_permissions/provepermissions/model/XmiIdsPlaceInPinLaw" = some m.cls := hown
  have hret : meth.sig.returnType = (some .boolean) := hret
  have N0 := Fr.nil n0
  rw [ef_0]
  obtain ⟨T1001, h1001, X1001, e1001, E1001, A1001, D1001, -, st1001⟩ := newO X0 hx hZ hown (hw _ (List.mem_of_getElem? (i := 0) rfl)) (hw _ (List.mem_of_getElem? (i := 1) rfl)) (hw _ (List.mem_of_getElem? (i := 2) rfl)) e0 (g := (mkF m 0 #[.val (.int p1), .val (.int p2), .val (.int p3), .val (.int p4), .val (.int p5), .val (.int p6), .unset, .unset, .unset, .unset, .unset, .unset, .unset, .unset, .unset, .unset, .unset, .unset, .unset] [])) rfl (hb hby at_0) (by decide) (by decide)
  obtain ⟨b1001, g1001⟩ : ∃ z, z = h0.size := ⟨_, rfl⟩
  rw [← g1001] at A1001 D1001 st1001
  refine Goal.step (T' := T1001) (g' := (mkF m 3 #[.val (.int p1), .val (.int p2), .val (.int p3), .val (.int p4), .val (.int p5), .val (.int p6), .unset, .unset, .unset, .unset, .unset, .unset, .unset, .unset, .unset, .unset, .unset, .unset, .unset] [(.ref b1001)])) ?_ st1001
  have sz1002 : h0.size ≤ h1001.size := E1001.1
  have lt_b1001 : b1001 < h1001.size := A1001.lt
  refine Goal.step (T' := T1001) (g' := (mkF m 4 #[.val (.int p1), .val (.int p2), .val (.int p3), .val (.int p4), .val (.int p5), .val (.int p6), .unset, .unset, .unset, .unset, .unset, .unset, .unset, .unset, .unset, .unset, .unset, .unset, .unset] [(.ref b1001), (.ref b1001)])) ?_ (fun t k => XS.dup X1001.here hx rfl (hb hby at_3) rfl rfl k)
  obtain ⟨v1003, T1003, h1003, L1003, X1003, e1003, hQ1003, st1003⟩ := callInit X1001 hx hZ hown rfl (hw _ (List.mem_of_getElem? (i := 3) rfl)) (hw _ (List.mem_of_getElem? (i := 4) rfl)) (hw _ (List.mem_of_getElem? (i := 2) rfl)) (hw _ (List.mem_of_getElem? (i := 5) rfl)) (by decide) (rmXI l Z a0 hw b1001 .null .null .null .null .null .null .null .null h1001 n0 (by omega) A1001 (D1001 (Or.inl (hw _ (List.mem_of_getElem? (i := 12) rfl))) (ty := (.array (.object "java/lang/String"))) (by decide)) (D1001 (Or.inl (hw _ (List.mem_of_getElem? (i := 15) rfl))) (ty := (.array .int)) (by decide)) (D1001 (Or.inr (hw _ (List.mem_of_getElem? (i := 33) rfl))) (ty := (.object "java/util/Map")) (by decide)) (D1001 (Or.inl (hw _ (List.mem_of_getElem? (i := 35) rfl))) (ty := (.array (.object "java/lang/String"))) (by decide)) (D1001 (Or.inl (hw _ (List.mem_of_getElem? (i := 37) rfl))) (ty := (.array (.object "java/lang/String"))) (by decide)) (D1001 (Or.inl (hw _ (List.mem_of_getElem? (i := 39) rfl))) (ty := (.array (.object "java/lang/String"))) (by decide)) (D1001 (Or.inl (hw _ (List.mem_of_getElem? (i := 43) rfl))) (ty := (.array (.object "java/lang/Object"))) (by decide)) (D1001 (Or.inl (hw _ (List.mem_of_getElem? (i := 45) rfl))) (ty := (.array .int)) (by decide)) (by omega) (by omega)) e1001 (W := 1) (by decide) (by decide) (by decide) (by decide) (g := (mkF m 4 #[.val (.int p1), .val (.int p2), .val (.int p3), .val (.int p4), .val (.int p5), .val (.int p6), .unset, .unset, .unset, .unset, .unset, .unset, .unset, .unset, .unset, .unset, .unset, .unset, .unset] [(.ref b1001), (.ref b1001)])) rfl (by rw [hml]; rfl) (a := b1001) (argsL := []) (rest := [(.ref b1001)]) (lenOf pd_0 rfl) rfl (by show 2 * 0 + _ ≤ _; exact Nat.le_of_eq rfl) (hb hby at_4) rfl
  obtain ⟨rfl, M1003, K1003, b1, k1, b2, k2, Fh1003, Fp1003, Aa1003, O1, Ab1003, lo1003, mid1003, hi1003⟩ := hQ1003
  have N1003 := Fr.app N0 M1003
  refine Goal.step (T' := T1003) (g' := (mkF m 7 #[.val (.int p1), .val (.int p2), .val (.int p3), .val (.int p4), .val (.int p5), .val (.int p6), .unset, .unset, .unset, .unset, .unset, .unset, .unset, .unset, .unset, .unset, .unset, .unset, .unset] [(.ref b1001)])) ?_ st1003
  have sz1004 : h1001.size ≤ h1003.size := K1003.1
  refine Goal.step (T' := T1003) (g' := (mkF m 9 #[.val (.int p1), .val (.int p2), .val (.int p3), .val (.int p4), .val (.int p5), .val (.int p6), .val (.ref b1001), .unset, .unset, .unset, .unset, .unset, .unset, .unset, .unset, .unset, .unset, .unset, .unset] [])) ?_ (fun t k => XS.astore X1003.here hx rfl (hb hby at_7) rfl rfl (l' := #[.val (.int p1), .val (.int p2), .val (.int p3), .val (.int p4), .val (.int p5), .val (.int p6), .val (.ref b1001), .unset, .unset, .unset, .unset, .unset, .unset, .unset, .unset, .unset, .unset, .unset, .unset]) rfl k)
  obtain ⟨T1005, h1005, X1005, e1005, E1005, A1005, D1005, -, st1005⟩ := newO X1003 hx hZ hown (hw _ (List.mem_of_getElem? (i := 46) rfl)) (hw _ (List.mem_of_getElem? (i := 47) rfl)) (hw _ (List.mem_of_getElem? (i := 48) rfl)) e1003 (g := (mkF m 9 #[.val (.int p1), .val (.int p2), .val (.int p3), .val (.int p4), .val (.int p5), .val (.int p6), .val (.ref b1001), .unset, .unset, .unset, .unset, .unset, .unset, .unset, .unset, .unset, .unset, .unset, .unset] [])) rfl (hb hby at_9) (by decide) (by decide)
  obtain ⟨b1005, g1005⟩ : ∃ z, z = h1003.size := ⟨_, rfl⟩
  rw [← g1005] at A1005 D1005 st1005
  refine Goal.step (T' := T1005) (g' := (mkF m 12 #[.val (.int p1), .val (.int p2), .val (.int p3), .val (.int p4), .val (.int p5), .val (.int p6), .val (.ref b1001), .unset, .unset, .unset, .unset, .unset, .unset, .unset, .unset, .unset, .unset, .unset, .unset] [(.ref b1005)])) ?_ st1005
  have sz1006 : h1003.size ≤ h1005.size := E1005.1
  have lt_b1005 : b1005 < h1005.size := A1005.lt
  refine Goal.step (T' := T1005) (g' := (mkF m 13 #[.val (.int p1), .val (.int p2), .val (.int p3), .val (.int p4), .val (.int p5), .val (.int p6), .val (.ref b1001), .unset, .unset, .unset, .unset, .unset, .unset, .unset, .unset, .unset, .unset, .unset, .unset] [(.ref b1005), (.ref b1005)])) ?_ (fun t k => XS.dup X1005.here hx rfl (hb hby at_12) rfl rfl k)
  have f1008 : Old Z n0 h1005 := (((O0.ext E1001).keep K1003 (allS (by omega) all0)).ext E1005)
  obtain ⟨v1007, T1007, h1007, L1007, X1007, e1007, hQ1007, st1007⟩ := callInit X1005 hx hZ hown rfl (hw _ (List.mem_of_getElem? (i := 49) rfl)) (hw _ (List.mem_of_getElem? (i := 50) rfl)) (hw _ (List.mem_of_getElem? (i := 48) rfl)) (hw _ (List.mem_of_getElem? (i := 51) rfl)) (by decide) (rmAL l Z a0 hw b1005 (.int (0 : Int32)) .null da h1005 n0 (by omega) A1005 (D1005 (Or.inl (hw _ (List.mem_of_getElem? (i := 66) rfl))) (ty := .int) (by decide)) (D1005 (Or.inl (hw _ (List.mem_of_getElem? (i := 69) rfl))) (ty := (.array (.object "java/lang/Object"))) (by decide)) (by omega) (by omega) S0 f1008) e1005 (W := 1) (by decide) (by decide) (by decide) (by decide) (g := (mkF m 13 #[.val (.int p1), .val (.int p2), .val (.int p3), .val (.int p4), .val (.int p5), .val (.int p6), .val (.ref b1001), .unset, .unset, .unset, .unset, .unset, .unset, .unset, .unset, .unset, .unset, .unset, .unset] [(.ref b1005), (.ref b1005)])) rfl (by rw [hml]; rfl) (a := b1005) (argsL := []) (rest := [(.ref b1005)]) (lenOf pd_0 rfl) rfl (by show 2 * 0 + _ ≤ _; exact Nat.le_of_eq rfl) (hb hby at_13) rfl
  obtain ⟨rfl, M1007, K1007⟩ := hQ1007
  have N1007 := Fr.app N1003 M1007
  refine Goal.step (T' := T1007) (g' := (mkF m 16 #[.val (.int p1), .val (.int p2), .val (.int p3), .val (.int p4), .val (.int p5), .val (.int p6), .val (.ref b1001), .unset, .unset, .unset, .unset, .unset, .unset, .unset, .unset, .unset, .unset, .unset, .unset] [(.ref b1005)])) ?_ st1007
  have sz1009 : h1005.size ≤ h1007.size := K1007.1
  refine Goal.step (T' := T1007) (g' := (mkF m 18 #[.val (.int p1), .val (.int p2), .val (.int p3), .val (.int p4), .val (.int p5), .val (.int p6), .val (.ref b1001), .val (.ref b1005), .unset, .unset, .unset, .unset, .unset, .unset, .unset, .unset, .unset, .unset, .unset] [])) ?_ (fun t k => XS.astore X1007.here hx rfl (hb hby at_16) rfl rfl (l' := #[.val (.int p1), .val (.int p2), .val (.int p3), .val (.int p4), .val (.int p5), .val (.int p6), .val (.ref b1001), .val (.ref b1005), .unset, .unset, .unset, .unset, .unset, .unset, .unset, .unset, .unset, .unset, .unset]) rfl k)
  obtain ⟨T1010, h1010, X1010, e1010, E1010, A1010, D1010, -, st1010⟩ := newO X1007 hx hZ hown (hw _ (List.mem_of_getElem? (i := 46) rfl)) (hw _ (List.mem_of_getElem? (i := 47) rfl)) (hw _ (List.mem_of_getElem? (i := 48) rfl)) e1007 (g := (mkF m 18 #[.val (.int p1), .val (.int p2), .val (.int p3), .val (.int p4), .val (.int p5), .val (.int p6), .val (.ref b1001), .val (.ref b1005), .unset, .unset, .unset, .unset, .unset, .unset, .unset, .unset, .unset, .unset, .unset] [])) rfl (hb hby at_18) (by decide) (by decide)
  obtain ⟨b1010, g1010⟩ : ∃ z, z = h1007.size := ⟨_, rfl⟩
  rw [← g1010] at A1010 D1010 st1010
  refine Goal.step (T' := T1010) (g' := (mkF m 21 #[.val (.int p1), .val (.int p2), .val (.int p3), .val (.int p4), .val (.int p5), .val (.int p6), .val (.ref b1001), .val (.ref b1005), .unset, .unset, .unset, .unset, .unset, .unset, .unset, .unset, .unset, .unset, .unset] [(.ref b1010)])) ?_ st1010
  have sz1011 : h1007.size ≤ h1010.size := E1010.1
  have lt_b1010 : b1010 < h1010.size := A1010.lt
  refine Goal.step (T' := T1010) (g' := (mkF m 22 #[.val (.int p1), .val (.int p2), .val (.int p3), .val (.int p4), .val (.int p5), .val (.int p6), .val (.ref b1001), .val (.ref b1005), .unset, .unset, .unset, .unset, .unset, .unset, .unset, .unset, .unset, .unset, .unset] [(.ref b1010), (.ref b1010)])) ?_ (fun t k => XS.dup X1010.here hx rfl (hb hby at_21) rfl rfl k)
  have f1013 : Old Z n0 h1010 := ((f1008.keep K1007 (allS (by omega) all0)).ext E1010)
  obtain ⟨v1012, T1012, h1012, L1012, X1012, e1012, hQ1012, st1012⟩ := callInit X1010 hx hZ hown rfl (hw _ (List.mem_of_getElem? (i := 49) rfl)) (hw _ (List.mem_of_getElem? (i := 50) rfl)) (hw _ (List.mem_of_getElem? (i := 48) rfl)) (hw _ (List.mem_of_getElem? (i := 51) rfl)) (by decide) (rmAL l Z a0 hw b1010 (.int (0 : Int32)) .null da h1010 n0 (by omega) A1010 (D1010 (Or.inl (hw _ (List.mem_of_getElem? (i := 66) rfl))) (ty := .int) (by decide)) (D1010 (Or.inl (hw _ (List.mem_of_getElem? (i := 69) rfl))) (ty := (.array (.object "java/lang/Object"))) (by decide)) (by omega) (by omega) S0 f1013) e1010 (W := 1) (by decide) (by decide) (by decide) (by decide) (g := (mkF m 22 #[.val (.int p1), .val (.int p2), .val (.int p3), .val (.int p4), .val (.int p5), .val (.int p6), .val (.ref b1001), .val (.ref b1005), .unset, .unset, .unset, .unset, .unset, .unset, .unset, .unset, .unset, .unset, .unset] [(.ref b1010), (.ref b1010)])) rfl (by rw [hml]; rfl) (a := b1010) (argsL := []) (rest := [(.ref b1010)]) (lenOf pd_0 rfl) rfl (by show 2 * 0 + _ ≤ _; exact Nat.le_of_eq rfl) (hb hby at_22) rfl
  obtain ⟨rfl, M1012, K1012⟩ := hQ1012
  have N1012 := Fr.app N1007 M1012
  refine Goal.step (T' := T1012) (g' := (mkF m 25 #[.val (.int p1), .val (.int p2), .val (.int p3), .val (.int p4), .val (.int p5), .val (.int p6), .val (.ref b1001), .val (.ref b1005), .unset, .unset, .unset, .unset, .unset, .unset, .unset, .unset, .unset, .unset, .unset] [(.ref b1010)])) ?_ st1012
  have sz1014 : h1010.size ≤ h1012.size := K1012.1
  refine Goal.step (T' := T1012) (g' := (mkF m 27 #[.val (.int p1), .val (.int p2), .val (.int p3), .val (.int p4), .val (.int p5), .val (.int p6), .val (.ref b1001), .val (.ref b1005), .val (.ref b1010), .unset, .unset, .unset, .unset, .unset, .unset, .unset, .unset, .unset, .unset] [])) ?_ (fun t k => XS.astore X1012.here hx rfl (hb hby at_25) rfl rfl (l' := #[.val (.int p1), .val (.int p2), .val (.int p3), .val (.int p4), .val (.int p5), .val (.int p6), .val (.ref b1001), .val (.ref b1005), .val (.ref b1010), .unset, .unset, .unset, .unset, .unset, .unset, .unset, .unset, .unset, .unset]) rfl k)
  refine Goal.step (T' := T1012) (g' := (mkF m 28 #[.val (.int p1), .val (.int p2), .val (.int p3), .val (.int p4), .val (.int p5), .val (.int p6), .val (.ref b1001), .val (.ref b1005), .val (.ref b1010), .unset, .unset, .unset, .unset, .unset, .unset, .unset, .unset, .unset, .unset] [(.int p1)])) ?_ (fun t k => XS.iloadN X1012.here hx rfl (hb hby at_27) rfl k)
  refine Goal.step (T' := T1012) (g' := (mkF m 31 #[.val (.int p1), .val (.int p2), .val (.int p3), .val (.int p4), .val (.int p5), .val (.int p6), .val (.ref b1001), .val (.ref b1005), .val (.ref b1010), .unset, .unset, .unset, .unset, .unset, .unset, .unset, .unset, .unset, .unset] [(.int (1023 : Int32)), (.int p1)])) ?_ (fun t k => XS.sipush X1012.here hx rfl (hb hby at_28) k)
  refine Goal.step (T' := T1012) (g' := (mkF m 32 #[.val (.int p1), .val (.int p2), .val (.int p3), .val (.int p4), .val (.int p5), .val (.int p6), .val (.ref b1001), .val (.ref b1005), .val (.ref b1010), .unset, .unset, .unset, .unset, .unset, .unset, .unset, .unset, .unset, .unset] [(.int (p1 &&& (1023 : Int32)))])) ?_ (fun t k => XS.iand X1012.here hx rfl (hb hby at_31) rfl k)
  obtain ⟨i9, hi9⟩ : ∃ z, z = (p1 &&& (1023 : Int32)) := ⟨_, rfl⟩
  rw [← hi9]
  have hi : ¬ i9 < 0 ∧ i9 < (1024 : Int32) := by rw [hi9]; exact own_mask p1
  refine Goal.step (T' := T1012) (g' := (mkF m 34 #[.val (.int p1), .val (.int p2), .val (.int p3), .val (.int p4), .val (.int p5), .val (.int p6), .val (.ref b1001), .val (.ref b1005), .val (.ref b1010), .val (.int i9), .unset, .unset, .unset, .unset, .unset, .unset, .unset, .unset, .unset] [])) ?_ (fun t k => XS.istore X1012.here hx rfl (hb hby at_32) rfl (l' := #[.val (.int p1), .val (.int p2), .val (.int p3), .val (.int p4), .val (.int p5), .val (.int p6), .val (.ref b1001), .val (.ref b1005), .val (.ref b1010), .val (.int i9), .unset, .unset, .unset, .unset, .unset, .unset, .unset, .unset, .unset]) rfl k)
  refine Goal.step (T' := T1012) (g' := (mkF m 35 #[.val (.int p1), .val (.int p2), .val (.int p3), .val (.int p4), .val (.int p5), .val (.int p6), .val (.ref b1001), .val (.ref b1005), .val (.ref b1010), .val (.int i9), .unset, .unset, .unset, .unset, .unset, .unset, .unset, .unset, .unset] [(.int p2)])) ?_ (fun t k => XS.iloadN X1012.here hx rfl (hb hby at_34) rfl k)
  refine Goal.step (T' := T1012) (g' := (mkF m 38 #[.val (.int p1), .val (.int p2), .val (.int p3), .val (.int p4), .val (.int p5), .val (.int p6), .val (.ref b1001), .val (.ref b1005), .val (.ref b1010), .val (.int i9), .unset, .unset, .unset, .unset, .unset, .unset, .unset, .unset, .unset] [(.int (1023 : Int32)), (.int p2)])) ?_ (fun t k => XS.sipush X1012.here hx rfl (hb hby at_35) k)
  refine Goal.step (T' := T1012) (g' := (mkF m 39 #[.val (.int p1), .val (.int p2), .val (.int p3), .val (.int p4), .val (.int p5), .val (.int p6), .val (.ref b1001), .val (.ref b1005), .val (.ref b1010), .val (.int i9), .unset, .unset, .unset, .unset, .unset, .unset, .unset, .unset, .unset] [(.int (p2 &&& (1023 : Int32)))])) ?_ (fun t k => XS.iand X1012.here hx rfl (hb hby at_38) rfl k)
  obtain ⟨j10, hj10⟩ : ∃ z, z = (p2 &&& (1023 : Int32)) := ⟨_, rfl⟩
  rw [← hj10]
  have hj : ¬ j10 < 0 ∧ j10 < (1024 : Int32) := by rw [hj10]; exact own_mask p2
  refine Goal.step (T' := T1012) (g' := (mkF m 41 #[.val (.int p1), .val (.int p2), .val (.int p3), .val (.int p4), .val (.int p5), .val (.int p6), .val (.ref b1001), .val (.ref b1005), .val (.ref b1010), .val (.int i9), .val (.int j10), .unset, .unset, .unset, .unset, .unset, .unset, .unset, .unset] [])) ?_ (fun t k => XS.istore X1012.here hx rfl (hb hby at_39) rfl (l' := #[.val (.int p1), .val (.int p2), .val (.int p3), .val (.int p4), .val (.int p5), .val (.int p6), .val (.ref b1001), .val (.ref b1005), .val (.ref b1010), .val (.int i9), .val (.int j10), .unset, .unset, .unset, .unset, .unset, .unset, .unset, .unset]) rfl k)
  refine Goal.step (T' := T1012) (g' := (mkF m 43 #[.val (.int p1), .val (.int p2), .val (.int p3), .val (.int p4), .val (.int p5), .val (.int p6), .val (.ref b1001), .val (.ref b1005), .val (.ref b1010), .val (.int i9), .val (.int j10), .unset, .unset, .unset, .unset, .unset, .unset, .unset, .unset] [(.int p6)])) ?_ (fun t k => XS.iload X1012.here hx rfl (hb hby at_41) rfl k)
  refine Goal.step (T' := T1012) (g' := (mkF m 44 #[.val (.int p1), .val (.int p2), .val (.int p3), .val (.int p4), .val (.int p5), .val (.int p6), .val (.ref b1001), .val (.ref b1005), .val (.ref b1010), .val (.int i9), .val (.int j10), .unset, .unset, .unset, .unset, .unset, .unset, .unset, .unset] [(.int (1 : Int32)), (.int p6)])) ?_ (fun t k => XS.iconst X1012.here hx rfl (hb hby at_43) k)
  refine Goal.step (T' := T1012) (g' := (mkF m 45 #[.val (.int p1), .val (.int p2), .val (.int p3), .val (.int p4), .val (.int p5), .val (.int p6), .val (.ref b1001), .val (.ref b1005), .val (.ref b1010), .val (.int i9), .val (.int j10), .unset, .unset, .unset, .unset, .unset, .unset, .unset, .unset] [(.int (p6 &&& (1 : Int32)))])) ?_ (fun t k => XS.iand X1012.here hx rfl (hb hby at_44) rfl k)
  by_cases c1015 : (p6 &&& (1 : Int32)) = (0 : Int32)
  · refine Goal.step (T' := T1012) (g' := (mkF m 52 #[.val (.int p1), .val (.int p2), .val (.int p3), .val (.int p4), .val (.int p5), .val (.int p6), .val (.ref b1001), .val (.ref b1005), .val (.ref b1010), .val (.int i9), .val (.int j10), .unset, .unset, .unset, .unset, .unset, .unset, .unset, .unset] [])) ?_ (fun t k => XS.ifYes X1012.here hx rfl (pc0 := 45) (pc' := 52) rfl (hb hby at_45) rfl ((if0 _ _).trans (teq c1015).1) (by decide) (by decide) k)
    refine Goal.step (T' := T1012) (g' := (mkF m 53 #[.val (.int p1), .val (.int p2), .val (.int p3), .val (.int p4), .val (.int p5), .val (.int p6), .val (.ref b1001), .val (.ref b1005), .val (.ref b1010), .val (.int i9), .val (.int j10), .unset, .unset, .unset, .unset, .unset, .unset, .unset, .unset] [(.int (0 : Int32))])) ?_ (fun t k => XS.iconst X1012.here hx rfl (hb hby at_52) k)
    refine Goal.step (T' := T1012) (g' := (mkF m 55 #[.val (.int p1), .val (.int p2), .val (.int p3), .val (.int p4), .val (.int p5), .val (.int p6), .val (.ref b1001), .val (.ref b1005), .val (.ref b1010), .val (.int i9), .val (.int j10), .val (.int (0 : Int32)), .unset, .unset, .unset, .unset, .unset, .unset, .unset] [])) ?_ (fun t k => XS.istore X1012.here hx rfl (hb hby at_53) rfl (l' := #[.val (.int p1), .val (.int p2), .val (.int p3), .val (.int p4), .val (.int p5), .val (.int p6), .val (.ref b1001), .val (.ref b1005), .val (.ref b1010), .val (.int i9), .val (.int j10), .val (.int (0 : Int32)), .unset, .unset, .unset, .unset, .unset, .unset, .unset]) rfl k)
    refine Goal.step (T' := T1012) (g' := (mkF m 57 #[.val (.int p1), .val (.int p2), .val (.int p3), .val (.int p4), .val (.int p5), .val (.int p6), .val (.ref b1001), .val (.ref b1005), .val (.ref b1010), .val (.int i9), .val (.int j10), .val (.int (0 : Int32)), .unset, .unset, .unset, .unset, .unset, .unset, .unset] [(.int p6)])) ?_ (fun t k => XS.iload X1012.here hx rfl (hb hby at_55) rfl k)
    refine Goal.step (T' := T1012) (g' := (mkF m 58 #[.val (.int p1), .val (.int p2), .val (.int p3), .val (.int p4), .val (.int p5), .val (.int p6), .val (.ref b1001), .val (.ref b1005), .val (.ref b1010), .val (.int i9), .val (.int j10), .val (.int (0 : Int32)), .unset, .unset, .unset, .unset, .unset, .unset, .unset] [(.int (2 : Int32)), (.int p6)])) ?_ (fun t k => XS.iconst X1012.here hx rfl (hb hby at_57) k)
    refine Goal.step (T' := T1012) (g' := (mkF m 59 #[.val (.int p1), .val (.int p2), .val (.int p3), .val (.int p4), .val (.int p5), .val (.int p6), .val (.ref b1001), .val (.ref b1005), .val (.ref b1010), .val (.int i9), .val (.int j10), .val (.int (0 : Int32)), .unset, .unset, .unset, .unset, .unset, .unset, .unset] [(.int (p6 &&& (2 : Int32)))])) ?_ (fun t k => XS.iand X1012.here hx rfl (hb hby at_58) rfl k)
    by_cases c1016 : (p6 &&& (2 : Int32)) = (0 : Int32)
    · refine Goal.step (T' := T1012) (g' := (mkF m 66 #[.val (.int p1), .val (.int p2), .val (.int p3), .val (.int p4), .val (.int p5), .val (.int p6), .val (.ref b1001), .val (.ref b1005), .val (.ref b1010), .val (.int i9), .val (.int j10), .val (.int (0 : Int32)), .unset, .unset, .unset, .unset, .unset, .unset, .unset] [])) ?_ (fun t k => XS.ifYes X1012.here hx rfl (pc0 := 59) (pc' := 66) rfl (hb hby at_59) rfl ((if0 _ _).trans (teq c1016).1) (by decide) (by decide) k)
      refine Goal.step (T' := T1012) (g' := (mkF m 67 #[.val (.int p1), .val (.int p2), .val (.int p3), .val (.int p4), .val (.int p5), .val (.int p6), .val (.ref b1001), .val (.ref b1005), .val (.ref b1010), .val (.int i9), .val (.int j10), .val (.int (0 : Int32)), .unset, .unset, .unset, .unset, .unset, .unset, .unset] [(.int (0 : Int32))])) ?_ (fun t k => XS.iconst X1012.here hx rfl (hb hby at_66) k)
      refine Goal.step (T' := T1012) (g' := (mkF m 69 #[.val (.int p1), .val (.int p2), .val (.int p3), .val (.int p4), .val (.int p5), .val (.int p6), .val (.ref b1001), .val (.ref b1005), .val (.ref b1010), .val (.int i9), .val (.int j10), .val (.int (0 : Int32)), .val (.int (0 : Int32)), .unset, .unset, .unset, .unset, .unset, .unset] [])) ?_ (fun t k => XS.istore X1012.here hx rfl (hb hby at_67) rfl (l' := #[.val (.int p1), .val (.int p2), .val (.int p3), .val (.int p4), .val (.int p5), .val (.int p6), .val (.ref b1001), .val (.ref b1005), .val (.ref b1010), .val (.int i9), .val (.int j10), .val (.int (0 : Int32)), .val (.int (0 : Int32)), .unset, .unset, .unset, .unset, .unset, .unset]) rfl k)
      refine Goal.step (T' := T1012) (g' := (mkF m 71 #[.val (.int p1), .val (.int p2), .val (.int p3), .val (.int p4), .val (.int p5), .val (.int p6), .val (.ref b1001), .val (.ref b1005), .val (.ref b1010), .val (.int i9), .val (.int j10), .val (.int (0 : Int32)), .val (.int (0 : Int32)), .unset, .unset, .unset, .unset, .unset, .unset] [(.int p6)])) ?_ (fun t k => XS.iload X1012.here hx rfl (hb hby at_69) rfl k)
      refine Goal.step (T' := T1012) (g' := (mkF m 72 #[.val (.int p1), .val (.int p2), .val (.int p3), .val (.int p4), .val (.int p5), .val (.int p6), .val (.ref b1001), .val (.ref b1005), .val (.ref b1010), .val (.int i9), .val (.int j10), .val (.int (0 : Int32)), .val (.int (0 : Int32)), .unset, .unset, .unset, .unset, .unset, .unset] [(.int (4 : Int32)), (.int p6)])) ?_ (fun t k => XS.iconst X1012.here hx rfl (hb hby at_71) k)
      refine Goal.step (T' := T1012) (g' := (mkF m 73 #[.val (.int p1), .val (.int p2), .val (.int p3), .val (.int p4), .val (.int p5), .val (.int p6), .val (.ref b1001), .val (.ref b1005), .val (.ref b1010), .val (.int i9), .val (.int j10), .val (.int (0 : Int32)), .val (.int (0 : Int32)), .unset, .unset, .unset, .unset, .unset, .unset] [(.int (p6 &&& (4 : Int32)))])) ?_ (fun t k => XS.iand X1012.here hx rfl (hb hby at_72) rfl k)
      by_cases c1017 : (p6 &&& (4 : Int32)) = (0 : Int32)
      · refine Goal.step (T' := T1012) (g' := (mkF m 80 #[.val (.int p1), .val (.int p2), .val (.int p3), .val (.int p4), .val (.int p5), .val (.int p6), .val (.ref b1001), .val (.ref b1005), .val (.ref b1010), .val (.int i9), .val (.int j10), .val (.int (0 : Int32)), .val (.int (0 : Int32)), .unset, .unset, .unset, .unset, .unset, .unset] [])) ?_ (fun t k => XS.ifYes X1012.here hx rfl (pc0 := 73) (pc' := 80) rfl (hb hby at_73) rfl ((if0 _ _).trans (teq c1017).1) (by decide) (by decide) k)
        refine Goal.step (T' := T1012) (g' := (mkF m 81 #[.val (.int p1), .val (.int p2), .val (.int p3), .val (.int p4), .val (.int p5), .val (.int p6), .val (.ref b1001), .val (.ref b1005), .val (.ref b1010), .val (.int i9), .val (.int j10), .val (.int (0 : Int32)), .val (.int (0 : Int32)), .unset, .unset, .unset, .unset, .unset, .unset] [(.int (0 : Int32))])) ?_ (fun t k => XS.iconst X1012.here hx rfl (hb hby at_80) k)
        refine Goal.step (T' := T1012) (g' := (mkF m 83 #[.val (.int p1), .val (.int p2), .val (.int p3), .val (.int p4), .val (.int p5), .val (.int p6), .val (.ref b1001), .val (.ref b1005), .val (.ref b1010), .val (.int i9), .val (.int j10), .val (.int (0 : Int32)), .val (.int (0 : Int32)), .val (.int (0 : Int32)), .unset, .unset, .unset, .unset, .unset] [])) ?_ (fun t k => XS.istore X1012.here hx rfl (hb hby at_81) rfl (l' := #[.val (.int p1), .val (.int p2), .val (.int p3), .val (.int p4), .val (.int p5), .val (.int p6), .val (.ref b1001), .val (.ref b1005), .val (.ref b1010), .val (.int i9), .val (.int j10), .val (.int (0 : Int32)), .val (.int (0 : Int32)), .val (.int (0 : Int32)), .unset, .unset, .unset, .unset, .unset]) rfl k)
        refine Goal.step (T' := T1012) (g' := (mkF m 85 #[.val (.int p1), .val (.int p2), .val (.int p3), .val (.int p4), .val (.int p5), .val (.int p6), .val (.ref b1001), .val (.ref b1005), .val (.ref b1010), .val (.int i9), .val (.int j10), .val (.int (0 : Int32)), .val (.int (0 : Int32)), .val (.int (0 : Int32)), .unset, .unset, .unset, .unset, .unset] [(.int p6)])) ?_ (fun t k => XS.iload X1012.here hx rfl (hb hby at_83) rfl k)
        refine Goal.step (T' := T1012) (g' := (mkF m 86 #[.val (.int p1), .val (.int p2), .val (.int p3), .val (.int p4), .val (.int p5), .val (.int p6), .val (.ref b1001), .val (.ref b1005), .val (.ref b1010), .val (.int i9), .val (.int j10), .val (.int (0 : Int32)), .val (.int (0 : Int32)), .val (.int (0 : Int32)), .unset, .unset, .unset, .unset, .unset] [(.int (3 : Int32)), (.int p6)])) ?_ (fun t k => XS.iconst X1012.here hx rfl (hb hby at_85) k)
        refine Goal.step (T' := T1012) (g' := (mkF m 87 #[.val (.int p1), .val (.int p2), .val (.int p3), .val (.int p4), .val (.int p5), .val (.int p6), .val (.ref b1001), .val (.ref b1005), .val (.ref b1010), .val (.int i9), .val (.int j10), .val (.int (0 : Int32)), .val (.int (0 : Int32)), .val (.int (0 : Int32)), .unset, .unset, .unset, .unset, .unset] [(.int ((p6.toUInt32 >>> ((3 : Int32) &&& 31).toUInt32).toInt32))])) ?_ (fun t k => XS.iushr X1012.here hx rfl (hb hby at_86) rfl k)
        refine Goal.step (T' := T1012) (g' := (mkF m 88 #[.val (.int p1), .val (.int p2), .val (.int p3), .val (.int p4), .val (.int p5), .val (.int p6), .val (.ref b1001), .val (.ref b1005), .val (.ref b1010), .val (.int i9), .val (.int j10), .val (.int (0 : Int32)), .val (.int (0 : Int32)), .val (.int (0 : Int32)), .unset, .unset, .unset, .unset, .unset] [(.int (3 : Int32)), (.int ((p6.toUInt32 >>> ((3 : Int32) &&& 31).toUInt32).toInt32))])) ?_ (fun t k => XS.iconst X1012.here hx rfl (hb hby at_87) k)
        refine Goal.step (T' := T1012) (g' := (mkF m 89 #[.val (.int p1), .val (.int p2), .val (.int p3), .val (.int p4), .val (.int p5), .val (.int p6), .val (.ref b1001), .val (.ref b1005), .val (.ref b1010), .val (.int i9), .val (.int j10), .val (.int (0 : Int32)), .val (.int (0 : Int32)), .val (.int (0 : Int32)), .unset, .unset, .unset, .unset, .unset] [(.int (((p6.toUInt32 >>> ((3 : Int32) &&& 31).toUInt32).toInt32) &&& (3 : Int32)))])) ?_ (fun t k => XS.iand X1012.here hx rfl (hb hby at_88) rfl k)
        refine Goal.step (T' := T1012) (g' := (mkF m 91 #[.val (.int p1), .val (.int p2), .val (.int p3), .val (.int p4), .val (.int p5), .val (.int p6), .val (.ref b1001), .val (.ref b1005), .val (.ref b1010), .val (.int i9), .val (.int j10), .val (.int (0 : Int32)), .val (.int (0 : Int32)), .val (.int (0 : Int32)), .val (.int (((p6.toUInt32 >>> ((3 : Int32) &&& 31).toUInt32).toInt32) &&& (3 : Int32))), .unset, .unset, .unset, .unset] [])) ?_ (fun t k => XS.istore X1012.here hx rfl (hb hby at_89) rfl (l' := #[.val (.int p1), .val (.int p2), .val (.int p3), .val (.int p4), .val (.int p5), .val (.int p6), .val (.ref b1001), .val (.ref b1005), .val (.ref b1010), .val (.int i9), .val (.int j10), .val (.int (0 : Int32)), .val (.int (0 : Int32)), .val (.int (0 : Int32)), .val (.int (((p6.toUInt32 >>> ((3 : Int32) &&& 31).toUInt32).toInt32) &&& (3 : Int32))), .unset, .unset, .unset, .unset]) rfl k)
        have f1018 : Fld Z h1012 b1001 "com/example/prove_permissions/provepermissions/model/XmiIds" "holders" "[Ljava/lang/Object;" (.ref b1) := ((((Fh1003.ext E1005).keep K1007 (ninS (nne (by omega)) nin0)).ext E1010).keep K1012 (ninS (nne (by omega)) nin0))
        have f1019 : Fld Z h1012 b1001 "com/example/prove_permissions/provepermissions/model/XmiIds" "places" "[I" (.ref b2) := ((((Fp1003.ext E1005).keep K1007 (ninS (nne (by omega)) nin0)).ext E1010).keep K1012 (ninS (nne (by omega)) nin0))
        have f1020 : Arh Z h1012 b1 k1 (.object "java/lang/Object") (1024 : Int32) [] [] .null := ((((Aa1003.ext E1005).keep K1007 (ninS (nne (by omega)) nin0)).ext E1010).keep K1012 (ninS (nne (by omega)) nin0))
        have f1021 : Arh Z h1012 b2 k2 .int (1024 : Int32) [] [] (.int (0 : Int32)) := ((((Ab1003.ext E1005).keep K1007 (ninS (nne (by omega)) nin0)).ext E1010).keep K1012 (ninS (nne (by omega)) nin0))
        have f1022 : Exa Z h1012 b1001 "com/example/prove_permissions/provepermissions/model/XmiIds" := (((((A1001.keep K1003).ext E1005).keep K1007).ext E1010).keep K1012)
        have f1023 : Exa Z h1012 b1005 "java/util/ArrayList" := (((A1005.keep K1007).ext E1010).keep K1012)
        have f1024 : Exa Z h1012 b1010 "java/util/ArrayList" := (A1010.keep K1012)
        exact seg91 hw C0 p1 p2 p3 p4 p5 p6 b1001 b1005 b1010 i9 j10 (0 : Int32) (0 : Int32) (0 : Int32) (((p6.toUInt32 >>> ((3 : Int32) &&& 31).toUInt32).toInt32) &&& (3 : Int32)) b1 b2 k1 k2 h1012 n0 (by omega) X1012 e1012 N1012 f1018 f1019 f1020 O1 f1021 f1022 f1023 f1024 hi hj (by omega)
      · refine Goal.step (T' := T1012) (g' := (mkF m 76 #[.val (.int p1), .val (.int p2), .val (.int p3), .val (.int p4), .val (.int p5), .val (.int p6), .val (.ref b1001), .val (.ref b1005), .val (.ref b1010), .val (.int i9), .val (.int j10), .val (.int (0 : Int32)), .val (.int (0 : Int32)), .unset, .unset, .unset, .unset, .unset, .unset] [])) ?_ (fun t k => XS.ifNo X1012.here hx rfl (hb hby at_73) rfl ((if0 _ _).trans (feq c1017).1) k)
        refine Goal.step (T' := T1012) (g' := (mkF m 77 #[.val (.int p1), .val (.int p2), .val (.int p3), .val (.int p4), .val (.int p5), .val (.int p6), .val (.ref b1001), .val (.ref b1005), .val (.ref b1010), .val (.int i9), .val (.int j10), .val (.int (0 : Int32)), .val (.int (0 : Int32)), .unset, .unset, .unset, .unset, .unset, .unset] [(.int (1 : Int32))])) ?_ (fun t k => XS.iconst X1012.here hx rfl (hb hby at_76) k)
        refine Goal.step (T' := T1012) (g' := (mkF m 81 #[.val (.int p1), .val (.int p2), .val (.int p3), .val (.int p4), .val (.int p5), .val (.int p6), .val (.ref b1001), .val (.ref b1005), .val (.ref b1010), .val (.int i9), .val (.int j10), .val (.int (0 : Int32)), .val (.int (0 : Int32)), .unset, .unset, .unset, .unset, .unset, .unset] [(.int (1 : Int32))])) ?_ (fun t k => XS.goto X1012.here hx rfl (pc0 := 77) (pc' := 81) rfl (hb hby at_77) (by decide) (by decide) k)
        refine Goal.step (T' := T1012) (g' := (mkF m 83 #[.val (.int p1), .val (.int p2), .val (.int p3), .val (.int p4), .val (.int p5), .val (.int p6), .val (.ref b1001), .val (.ref b1005), .val (.ref b1010), .val (.int i9), .val (.int j10), .val (.int (0 : Int32)), .val (.int (0 : Int32)), .val (.int (1 : Int32)), .unset, .unset, .unset, .unset, .unset] [])) ?_ (fun t k => XS.istore X1012.here hx rfl (hb hby at_81) rfl (l' := #[.val (.int p1), .val (.int p2), .val (.int p3), .val (.int p4), .val (.int p5), .val (.int p6), .val (.ref b1001), .val (.ref b1005), .val (.ref b1010), .val (.int i9), .val (.int j10), .val (.int (0 : Int32)), .val (.int (0 : Int32)), .val (.int (1 : Int32)), .unset, .unset, .unset, .unset, .unset]) rfl k)
        refine Goal.step (T' := T1012) (g' := (mkF m 85 #[.val (.int p1), .val (.int p2), .val (.int p3), .val (.int p4), .val (.int p5), .val (.int p6), .val (.ref b1001), .val (.ref b1005), .val (.ref b1010), .val (.int i9), .val (.int j10), .val (.int (0 : Int32)), .val (.int (0 : Int32)), .val (.int (1 : Int32)), .unset, .unset, .unset, .unset, .unset] [(.int p6)])) ?_ (fun t k => XS.iload X1012.here hx rfl (hb hby at_83) rfl k)
        refine Goal.step (T' := T1012) (g' := (mkF m 86 #[.val (.int p1), .val (.int p2), .val (.int p3), .val (.int p4), .val (.int p5), .val (.int p6), .val (.ref b1001), .val (.ref b1005), .val (.ref b1010), .val (.int i9), .val (.int j10), .val (.int (0 : Int32)), .val (.int (0 : Int32)), .val (.int (1 : Int32)), .unset, .unset, .unset, .unset, .unset] [(.int (3 : Int32)), (.int p6)])) ?_ (fun t k => XS.iconst X1012.here hx rfl (hb hby at_85) k)
        refine Goal.step (T' := T1012) (g' := (mkF m 87 #[.val (.int p1), .val (.int p2), .val (.int p3), .val (.int p4), .val (.int p5), .val (.int p6), .val (.ref b1001), .val (.ref b1005), .val (.ref b1010), .val (.int i9), .val (.int j10), .val (.int (0 : Int32)), .val (.int (0 : Int32)), .val (.int (1 : Int32)), .unset, .unset, .unset, .unset, .unset] [(.int ((p6.toUInt32 >>> ((3 : Int32) &&& 31).toUInt32).toInt32))])) ?_ (fun t k => XS.iushr X1012.here hx rfl (hb hby at_86) rfl k)
        refine Goal.step (T' := T1012) (g' := (mkF m 88 #[.val (.int p1), .val (.int p2), .val (.int p3), .val (.int p4), .val (.int p5), .val (.int p6), .val (.ref b1001), .val (.ref b1005), .val (.ref b1010), .val (.int i9), .val (.int j10), .val (.int (0 : Int32)), .val (.int (0 : Int32)), .val (.int (1 : Int32)), .unset, .unset, .unset, .unset, .unset] [(.int (3 : Int32)), (.int ((p6.toUInt32 >>> ((3 : Int32) &&& 31).toUInt32).toInt32))])) ?_ (fun t k => XS.iconst X1012.here hx rfl (hb hby at_87) k)
        refine Goal.step (T' := T1012) (g' := (mkF m 89 #[.val (.int p1), .val (.int p2), .val (.int p3), .val (.int p4), .val (.int p5), .val (.int p6), .val (.ref b1001), .val (.ref b1005), .val (.ref b1010), .val (.int i9), .val (.int j10), .val (.int (0 : Int32)), .val (.int (0 : Int32)), .val (.int (1 : Int32)), .unset, .unset, .unset, .unset, .unset] [(.int (((p6.toUInt32 >>> ((3 : Int32) &&& 31).toUInt32).toInt32) &&& (3 : Int32)))])) ?_ (fun t k => XS.iand X1012.here hx rfl (hb hby at_88) rfl k)
        refine Goal.step (T' := T1012) (g' := (mkF m 91 #[.val (.int p1), .val (.int p2), .val (.int p3), .val (.int p4), .val (.int p5), .val (.int p6), .val (.ref b1001), .val (.ref b1005), .val (.ref b1010), .val (.int i9), .val (.int j10), .val (.int (0 : Int32)), .val (.int (0 : Int32)), .val (.int (1 : Int32)), .val (.int (((p6.toUInt32 >>> ((3 : Int32) &&& 31).toUInt32).toInt32) &&& (3 : Int32))), .unset, .unset, .unset, .unset] [])) ?_ (fun t k => XS.istore X1012.here hx rfl (hb hby at_89) rfl (l' := #[.val (.int p1), .val (.int p2), .val (.int p3), .val (.int p4), .val (.int p5), .val (.int p6), .val (.ref b1001), .val (.ref b1005), .val (.ref b1010), .val (.int i9), .val (.int j10), .val (.int (0 : Int32)), .val (.int (0 : Int32)), .val (.int (1 : Int32)), .val (.int (((p6.toUInt32 >>> ((3 : Int32) &&& 31).toUInt32).toInt32) &&& (3 : Int32))), .unset, .unset, .unset, .unset]) rfl k)
        have f1025 : Fld Z h1012 b1001 "com/example/prove_permissions/provepermissions/model/XmiIds" "holders" "[Ljava/lang/Object;" (.ref b1) := ((((Fh1003.ext E1005).keep K1007 (ninS (nne (by omega)) nin0)).ext E1010).keep K1012 (ninS (nne (by omega)) nin0))
        have f1026 : Fld Z h1012 b1001 "com/example/prove_permissions/provepermissions/model/XmiIds" "places" "[I" (.ref b2) := ((((Fp1003.ext E1005).keep K1007 (ninS (nne (by omega)) nin0)).ext E1010).keep K1012 (ninS (nne (by omega)) nin0))
        have f1027 : Arh Z h1012 b1 k1 (.object "java/lang/Object") (1024 : Int32) [] [] .null := ((((Aa1003.ext E1005).keep K1007 (ninS (nne (by omega)) nin0)).ext E1010).keep K1012 (ninS (nne (by omega)) nin0))
        have f1028 : Arh Z h1012 b2 k2 .int (1024 : Int32) [] [] (.int (0 : Int32)) := ((((Ab1003.ext E1005).keep K1007 (ninS (nne (by omega)) nin0)).ext E1010).keep K1012 (ninS (nne (by omega)) nin0))
        have f1029 : Exa Z h1012 b1001 "com/example/prove_permissions/provepermissions/model/XmiIds" := (((((A1001.keep K1003).ext E1005).keep K1007).ext E1010).keep K1012)
        have f1030 : Exa Z h1012 b1005 "java/util/ArrayList" := (((A1005.keep K1007).ext E1010).keep K1012)
        have f1031 : Exa Z h1012 b1010 "java/util/ArrayList" := (A1010.keep K1012)
        exact seg91 hw C0 p1 p2 p3 p4 p5 p6 b1001 b1005 b1010 i9 j10 (0 : Int32) (0 : Int32) (1 : Int32) (((p6.toUInt32 >>> ((3 : Int32) &&& 31).toUInt32).toInt32) &&& (3 : Int32)) b1 b2 k1 k2 h1012 n0 (by omega) X1012 e1012 N1012 f1025 f1026 f1027 O1 f1028 f1029 f1030 f1031 hi hj (by omega)
    · refine Goal.step (T' := T1012) (g' := (mkF m 62 #[.val (.int p1), .val (.int p2), .val (.int p3), .val (.int p4), .val (.int p5), .val (.int p6), .val (.ref b1001), .val (.ref b1005), .val (.ref b1010), .val (.int i9), .val (.int j10), .val (.int (0 : Int32)), .unset, .unset, .unset, .unset, .unset, .unset, .unset] [])) ?_ (fun t k => XS.ifNo X1012.here hx rfl (hb hby at_59) rfl ((if0 _ _).trans (feq c1016).1) k)
      refine Goal.step (T' := T1012) (g' := (mkF m 63 #[.val (.int p1), .val (.int p2), .val (.int p3), .val (.int p4), .val (.int p5), .val (.int p6), .val (.ref b1001), .val (.ref b1005), .val (.ref b1010), .val (.int i9), .val (.int j10), .val (.int (0 : Int32)), .unset, .unset, .unset, .unset, .unset, .unset, .unset] [(.int (1 : Int32))])) ?_ (fun t k => XS.iconst X1012.here hx rfl (hb hby at_62) k)
      refine Goal.step (T' := T1012) (g' := (mkF m 67 #[.val (.int p1), .val (.int p2), .val (.int p3), .val (.int p4), .val (.int p5), .val (.int p6), .val (.ref b1001), .val (.ref b1005), .val (.ref b1010), .val (.int i9), .val (.int j10), .val (.int (0 : Int32)), .unset, .unset, .unset, .unset, .unset, .unset, .unset] [(.int (1 : Int32))])) ?_ (fun t k => XS.goto X1012.here hx rfl (pc0 := 63) (pc' := 67) rfl (hb hby at_63) (by decide) (by decide) k)
      refine Goal.step (T' := T1012) (g' := (mkF m 69 #[.val (.int p1), .val (.int p2), .val (.int p3), .val (.int p4), .val (.int p5), .val (.int p6), .val (.ref b1001), .val (.ref b1005), .val (.ref b1010), .val (.int i9), .val (.int j10), .val (.int (0 : Int32)), .val (.int (1 : Int32)), .unset, .unset, .unset, .unset, .unset, .unset] [])) ?_ (fun t k => XS.istore X1012.here hx rfl (hb hby at_67) rfl (l' := #[.val (.int p1), .val (.int p2), .val (.int p3), .val (.int p4), .val (.int p5), .val (.int p6), .val (.ref b1001), .val (.ref b1005), .val (.ref b1010), .val (.int i9), .val (.int j10), .val (.int (0 : Int32)), .val (.int (1 : Int32)), .unset, .unset, .unset, .unset, .unset, .unset]) rfl k)
      refine Goal.step (T' := T1012) (g' := (mkF m 71 #[.val (.int p1), .val (.int p2), .val (.int p3), .val (.int p4), .val (.int p5), .val (.int p6), .val (.ref b1001), .val (.ref b1005), .val (.ref b1010), .val (.int i9), .val (.int j10), .val (.int (0 : Int32)), .val (.int (1 : Int32)), .unset, .unset, .unset, .unset, .unset, .unset] [(.int p6)])) ?_ (fun t k => XS.iload X1012.here hx rfl (hb hby at_69) rfl k)
      refine Goal.step (T' := T1012) (g' := (mkF m 72 #[.val (.int p1), .val (.int p2), .val (.int p3), .val (.int p4), .val (.int p5), .val (.int p6), .val (.ref b1001), .val (.ref b1005), .val (.ref b1010), .val (.int i9), .val (.int j10), .val (.int (0 : Int32)), .val (.int (1 : Int32)), .unset, .unset, .unset, .unset, .unset, .unset] [(.int (4 : Int32)), (.int p6)])) ?_ (fun t k => XS.iconst X1012.here hx rfl (hb hby at_71) k)
      refine Goal.step (T' := T1012) (g' := (mkF m 73 #[.val (.int p1), .val (.int p2), .val (.int p3), .val (.int p4), .val (.int p5), .val (.int p6), .val (.ref b1001), .val (.ref b1005), .val (.ref b1010), .val (.int i9), .val (.int j10), .val (.int (0 : Int32)), .val (.int (1 : Int32)), .unset, .unset, .unset, .unset, .unset, .unset] [(.int (p6 &&& (4 : Int32)))])) ?_ (fun t k => XS.iand X1012.here hx rfl (hb hby at_72) rfl k)
      by_cases c1032 : (p6 &&& (4 : Int32)) = (0 : Int32)
      · refine Goal.step (T' := T1012) (g' := (mkF m 80 #[.val (.int p1), .val (.int p2), .val (.int p3), .val (.int p4), .val (.int p5), .val (.int p6), .val (.ref b1001), .val (.ref b1005), .val (.ref b1010), .val (.int i9), .val (.int j10), .val (.int (0 : Int32)), .val (.int (1 : Int32)), .unset, .unset, .unset, .unset, .unset, .unset] [])) ?_ (fun t k => XS.ifYes X1012.here hx rfl (pc0 := 73) (pc' := 80) rfl (hb hby at_73) rfl ((if0 _ _).trans (teq c1032).1) (by decide) (by decide) k)
        refine Goal.step (T' := T1012) (g' := (mkF m 81 #[.val (.int p1), .val (.int p2), .val (.int p3), .val (.int p4), .val (.int p5), .val (.int p6), .val (.ref b1001), .val (.ref b1005), .val (.ref b1010), .val (.int i9), .val (.int j10), .val (.int (0 : Int32)), .val (.int (1 : Int32)), .unset, .unset, .unset, .unset, .unset, .unset] [(.int (0 : Int32))])) ?_ (fun t k => XS.iconst X1012.here hx rfl (hb hby at_80) k)
        refine Goal.step (T' := T1012) (g' := (mkF m 83 #[.val (.int p1), .val (.int p2), .val (.int p3), .val (.int p4), .val (.int p5), .val (.int p6), .val (.ref b1001), .val (.ref b1005), .val (.ref b1010), .val (.int i9), .val (.int j10), .val (.int (0 : Int32)), .val (.int (1 : Int32)), .val (.int (0 : Int32)), .unset, .unset, .unset, .unset, .unset] [])) ?_ (fun t k => XS.istore X1012.here hx rfl (hb hby at_81) rfl (l' := #[.val (.int p1), .val (.int p2), .val (.int p3), .val (.int p4), .val (.int p5), .val (.int p6), .val (.ref b1001), .val (.ref b1005), .val (.ref b1010), .val (.int i9), .val (.int j10), .val (.int (0 : Int32)), .val (.int (1 : Int32)), .val (.int (0 : Int32)), .unset, .unset, .unset, .unset, .unset]) rfl k)
        refine Goal.step (T' := T1012) (g' := (mkF m 85 #[.val (.int p1), .val (.int p2), .val (.int p3), .val (.int p4), .val (.int p5), .val (.int p6), .val (.ref b1001), .val (.ref b1005), .val (.ref b1010), .val (.int i9), .val (.int j10), .val (.int (0 : Int32)), .val (.int (1 : Int32)), .val (.int (0 : Int32)), .unset, .unset, .unset, .unset, .unset] [(.int p6)])) ?_ (fun t k => XS.iload X1012.here hx rfl (hb hby at_83) rfl k)
        refine Goal.step (T' := T1012) (g' := (mkF m 86 #[.val (.int p1), .val (.int p2), .val (.int p3), .val (.int p4), .val (.int p5), .val (.int p6), .val (.ref b1001), .val (.ref b1005), .val (.ref b1010), .val (.int i9), .val (.int j10), .val (.int (0 : Int32)), .val (.int (1 : Int32)), .val (.int (0 : Int32)), .unset, .unset, .unset, .unset, .unset] [(.int (3 : Int32)), (.int p6)])) ?_ (fun t k => XS.iconst X1012.here hx rfl (hb hby at_85) k)
        refine Goal.step (T' := T1012) (g' := (mkF m 87 #[.val (.int p1), .val (.int p2), .val (.int p3), .val (.int p4), .val (.int p5), .val (.int p6), .val (.ref b1001), .val (.ref b1005), .val (.ref b1010), .val (.int i9), .val (.int j10), .val (.int (0 : Int32)), .val (.int (1 : Int32)), .val (.int (0 : Int32)), .unset, .unset, .unset, .unset, .unset] [(.int ((p6.toUInt32 >>> ((3 : Int32) &&& 31).toUInt32).toInt32))])) ?_ (fun t k => XS.iushr X1012.here hx rfl (hb hby at_86) rfl k)
        refine Goal.step (T' := T1012) (g' := (mkF m 88 #[.val (.int p1), .val (.int p2), .val (.int p3), .val (.int p4), .val (.int p5), .val (.int p6), .val (.ref b1001), .val (.ref b1005), .val (.ref b1010), .val (.int i9), .val (.int j10), .val (.int (0 : Int32)), .val (.int (1 : Int32)), .val (.int (0 : Int32)), .unset, .unset, .unset, .unset, .unset] [(.int (3 : Int32)), (.int ((p6.toUInt32 >>> ((3 : Int32) &&& 31).toUInt32).toInt32))])) ?_ (fun t k => XS.iconst X1012.here hx rfl (hb hby at_87) k)
        refine Goal.step (T' := T1012) (g' := (mkF m 89 #[.val (.int p1), .val (.int p2), .val (.int p3), .val (.int p4), .val (.int p5), .val (.int p6), .val (.ref b1001), .val (.ref b1005), .val (.ref b1010), .val (.int i9), .val (.int j10), .val (.int (0 : Int32)), .val (.int (1 : Int32)), .val (.int (0 : Int32)), .unset, .unset, .unset, .unset, .unset] [(.int (((p6.toUInt32 >>> ((3 : Int32) &&& 31).toUInt32).toInt32) &&& (3 : Int32)))])) ?_ (fun t k => XS.iand X1012.here hx rfl (hb hby at_88) rfl k)
        refine Goal.step (T' := T1012) (g' := (mkF m 91 #[.val (.int p1), .val (.int p2), .val (.int p3), .val (.int p4), .val (.int p5), .val (.int p6), .val (.ref b1001), .val (.ref b1005), .val (.ref b1010), .val (.int i9), .val (.int j10), .val (.int (0 : Int32)), .val (.int (1 : Int32)), .val (.int (0 : Int32)), .val (.int (((p6.toUInt32 >>> ((3 : Int32) &&& 31).toUInt32).toInt32) &&& (3 : Int32))), .unset, .unset, .unset, .unset] [])) ?_ (fun t k => XS.istore X1012.here hx rfl (hb hby at_89) rfl (l' := #[.val (.int p1), .val (.int p2), .val (.int p3), .val (.int p4), .val (.int p5), .val (.int p6), .val (.ref b1001), .val (.ref b1005), .val (.ref b1010), .val (.int i9), .val (.int j10), .val (.int (0 : Int32)), .val (.int (1 : Int32)), .val (.int (0 : Int32)), .val (.int (((p6.toUInt32 >>> ((3 : Int32) &&& 31).toUInt32).toInt32) &&& (3 : Int32))), .unset, .unset, .unset, .unset]) rfl k)
        have f1033 : Fld Z h1012 b1001 "com/example/prove_permissions/provepermissions/model/XmiIds" "holders" "[Ljava/lang/Object;" (.ref b1) := ((((Fh1003.ext E1005).keep K1007 (ninS (nne (by omega)) nin0)).ext E1010).keep K1012 (ninS (nne (by omega)) nin0))
        have f1034 : Fld Z h1012 b1001 "com/example/prove_permissions/provepermissions/model/XmiIds" "places" "[I" (.ref b2) := ((((Fp1003.ext E1005).keep K1007 (ninS (nne (by omega)) nin0)).ext E1010).keep K1012 (ninS (nne (by omega)) nin0))
        have f1035 : Arh Z h1012 b1 k1 (.object "java/lang/Object") (1024 : Int32) [] [] .null := ((((Aa1003.ext E1005).keep K1007 (ninS (nne (by omega)) nin0)).ext E1010).keep K1012 (ninS (nne (by omega)) nin0))
        have f1036 : Arh Z h1012 b2 k2 .int (1024 : Int32) [] [] (.int (0 : Int32)) := ((((Ab1003.ext E1005).keep K1007 (ninS (nne (by omega)) nin0)).ext E1010).keep K1012 (ninS (nne (by omega)) nin0))
        have f1037 : Exa Z h1012 b1001 "com/example/prove_permissions/provepermissions/model/XmiIds" := (((((A1001.keep K1003).ext E1005).keep K1007).ext E1010).keep K1012)
        have f1038 : Exa Z h1012 b1005 "java/util/ArrayList" := (((A1005.keep K1007).ext E1010).keep K1012)
        have f1039 : Exa Z h1012 b1010 "java/util/ArrayList" := (A1010.keep K1012)
        exact seg91 hw C0 p1 p2 p3 p4 p5 p6 b1001 b1005 b1010 i9 j10 (0 : Int32) (1 : Int32) (0 : Int32) (((p6.toUInt32 >>> ((3 : Int32) &&& 31).toUInt32).toInt32) &&& (3 : Int32)) b1 b2 k1 k2 h1012 n0 (by omega) X1012 e1012 N1012 f1033 f1034 f1035 O1 f1036 f1037 f1038 f1039 hi hj (by omega)
      · refine Goal.step (T' := T1012) (g' := (mkF m 76 #[.val (.int p1), .val (.int p2), .val (.int p3), .val (.int p4), .val (.int p5), .val (.int p6), .val (.ref b1001), .val (.ref b1005), .val (.ref b1010), .val (.int i9), .val (.int j10), .val (.int (0 : Int32)), .val (.int (1 : Int32)), .unset, .unset, .unset, .unset, .unset, .unset] [])) ?_ (fun t k => XS.ifNo X1012.here hx rfl (hb hby at_73) rfl ((if0 _ _).trans (feq c1032).1) k)
        refine Goal.step (T' := T1012) (g' := (mkF m 77 #[.val (.int p1), .val (.int p2), .val (.int p3), .val (.int p4), .val (.int p5), .val (.int p6), .val (.ref b1001), .val (.ref b1005), .val (.ref b1010), .val (.int i9), .val (.int j10), .val (.int (0 : Int32)), .val (.int (1 : Int32)), .unset, .unset, .unset, .unset, .unset, .unset] [(.int (1 : Int32))])) ?_ (fun t k => XS.iconst X1012.here hx rfl (hb hby at_76) k)
        refine Goal.step (T' := T1012) (g' := (mkF m 81 #[.val (.int p1), .val (.int p2), .val (.int p3), .val (.int p4), .val (.int p5), .val (.int p6), .val (.ref b1001), .val (.ref b1005), .val (.ref b1010), .val (.int i9), .val (.int j10), .val (.int (0 : Int32)), .val (.int (1 : Int32)), .unset, .unset, .unset, .unset, .unset, .unset] [(.int (1 : Int32))])) ?_ (fun t k => XS.goto X1012.here hx rfl (pc0 := 77) (pc' := 81) rfl (hb hby at_77) (by decide) (by decide) k)
        refine Goal.step (T' := T1012) (g' := (mkF m 83 #[.val (.int p1), .val (.int p2), .val (.int p3), .val (.int p4), .val (.int p5), .val (.int p6), .val (.ref b1001), .val (.ref b1005), .val (.ref b1010), .val (.int i9), .val (.int j10), .val (.int (0 : Int32)), .val (.int (1 : Int32)), .val (.int (1 : Int32)), .unset, .unset, .unset, .unset, .unset] [])) ?_ (fun t k => XS.istore X1012.here hx rfl (hb hby at_81) rfl (l' := #[.val (.int p1), .val (.int p2), .val (.int p3), .val (.int p4), .val (.int p5), .val (.int p6), .val (.ref b1001), .val (.ref b1005), .val (.ref b1010), .val (.int i9), .val (.int j10), .val (.int (0 : Int32)), .val (.int (1 : Int32)), .val (.int (1 : Int32)), .unset, .unset, .unset, .unset, .unset]) rfl k)
        refine Goal.step (T' := T1012) (g' := (mkF m 85 #[.val (.int p1), .val (.int p2), .val (.int p3), .val (.int p4), .val (.int p5), .val (.int p6), .val (.ref b1001), .val (.ref b1005), .val (.ref b1010), .val (.int i9), .val (.int j10), .val (.int (0 : Int32)), .val (.int (1 : Int32)), .val (.int (1 : Int32)), .unset, .unset, .unset, .unset, .unset] [(.int p6)])) ?_ (fun t k => XS.iload X1012.here hx rfl (hb hby at_83) rfl k)
        refine Goal.step (T' := T1012) (g' := (mkF m 86 #[.val (.int p1), .val (.int p2), .val (.int p3), .val (.int p4), .val (.int p5), .val (.int p6), .val (.ref b1001), .val (.ref b1005), .val (.ref b1010), .val (.int i9), .val (.int j10), .val (.int (0 : Int32)), .val (.int (1 : Int32)), .val (.int (1 : Int32)), .unset, .unset, .unset, .unset, .unset] [(.int (3 : Int32)), (.int p6)])) ?_ (fun t k => XS.iconst X1012.here hx rfl (hb hby at_85) k)
        refine Goal.step (T' := T1012) (g' := (mkF m 87 #[.val (.int p1), .val (.int p2), .val (.int p3), .val (.int p4), .val (.int p5), .val (.int p6), .val (.ref b1001), .val (.ref b1005), .val (.ref b1010), .val (.int i9), .val (.int j10), .val (.int (0 : Int32)), .val (.int (1 : Int32)), .val (.int (1 : Int32)), .unset, .unset, .unset, .unset, .unset] [(.int ((p6.toUInt32 >>> ((3 : Int32) &&& 31).toUInt32).toInt32))])) ?_ (fun t k => XS.iushr X1012.here hx rfl (hb hby at_86) rfl k)
        refine Goal.step (T' := T1012) (g' := (mkF m 88 #[.val (.int p1), .val (.int p2), .val (.int p3), .val (.int p4), .val (.int p5), .val (.int p6), .val (.ref b1001), .val (.ref b1005), .val (.ref b1010), .val (.int i9), .val (.int j10), .val (.int (0 : Int32)), .val (.int (1 : Int32)), .val (.int (1 : Int32)), .unset, .unset, .unset, .unset, .unset] [(.int (3 : Int32)), (.int ((p6.toUInt32 >>> ((3 : Int32) &&& 31).toUInt32).toInt32))])) ?_ (fun t k => XS.iconst X1012.here hx rfl (hb hby at_87) k)
        refine Goal.step (T' := T1012) (g' := (mkF m 89 #[.val (.int p1), .val (.int p2), .val (.int p3), .val (.int p4), .val (.int p5), .val (.int p6), .val (.ref b1001), .val (.ref b1005), .val (.ref b1010), .val (.int i9), .val (.int j10), .val (.int (0 : Int32)), .val (.int (1 : Int32)), .val (.int (1 : Int32)), .unset, .unset, .unset, .unset, .unset] [(.int (((p6.toUInt32 >>> ((3 : Int32) &&& 31).toUInt32).toInt32) &&& (3 : Int32)))])) ?_ (fun t k => XS.iand X1012.here hx rfl (hb hby at_88) rfl k)
        refine Goal.step (T' := T1012) (g' := (mkF m 91 #[.val (.int p1), .val (.int p2), .val (.int p3), .val (.int p4), .val (.int p5), .val (.int p6), .val (.ref b1001), .val (.ref b1005), .val (.ref b1010), .val (.int i9), .val (.int j10), .val (.int (0 : Int32)), .val (.int (1 : Int32)), .val (.int (1 : Int32)), .val (.int (((p6.toUInt32 >>> ((3 : Int32) &&& 31).toUInt32).toInt32) &&& (3 : Int32))), .unset, .unset, .unset, .unset] [])) ?_ (fun t k => XS.istore X1012.here hx rfl (hb hby at_89) rfl (l' := #[.val (.int p1), .val (.int p2), .val (.int p3), .val (.int p4), .val (.int p5), .val (.int p6), .val (.ref b1001), .val (.ref b1005), .val (.ref b1010), .val (.int i9), .val (.int j10), .val (.int (0 : Int32)), .val (.int (1 : Int32)), .val (.int (1 : Int32)), .val (.int (((p6.toUInt32 >>> ((3 : Int32) &&& 31).toUInt32).toInt32) &&& (3 : Int32))), .unset, .unset, .unset, .unset]) rfl k)
        have f1040 : Fld Z h1012 b1001 "com/example/prove_permissions/provepermissions/model/XmiIds" "holders" "[Ljava/lang/Object;" (.ref b1) := ((((Fh1003.ext E1005).keep K1007 (ninS (nne (by omega)) nin0)).ext E1010).keep K1012 (ninS (nne (by omega)) nin0))
        have f1041 : Fld Z h1012 b1001 "com/example/prove_permissions/provepermissions/model/XmiIds" "places" "[I" (.ref b2) := ((((Fp1003.ext E1005).keep K1007 (ninS (nne (by omega)) nin0)).ext E1010).keep K1012 (ninS (nne (by omega)) nin0))
        have f1042 : Arh Z h1012 b1 k1 (.object "java/lang/Object") (1024 : Int32) [] [] .null := ((((Aa1003.ext E1005).keep K1007 (ninS (nne (by omega)) nin0)).ext E1010).keep K1012 (ninS (nne (by omega)) nin0))
        have f1043 : Arh Z h1012 b2 k2 .int (1024 : Int32) [] [] (.int (0 : Int32)) := ((((Ab1003.ext E1005).keep K1007 (ninS (nne (by omega)) nin0)).ext E1010).keep K1012 (ninS (nne (by omega)) nin0))
        have f1044 : Exa Z h1012 b1001 "com/example/prove_permissions/provepermissions/model/XmiIds" := (((((A1001.keep K1003).ext E1005).keep K1007).ext E1010).keep K1012)
        have f1045 : Exa Z h1012 b1005 "java/util/ArrayList" := (((A1005.keep K1007).ext E1010).keep K1012)
        have f1046 : Exa Z h1012 b1010 "java/util/ArrayList" := (A1010.keep K1012)
        exact seg91 hw C0 p1 p2 p3 p4 p5 p6 b1001 b1005 b1010 i9 j10 (0 : Int32) (1 : Int32) (1 : Int32) (((p6.toUInt32 >>> ((3 : Int32) &&& 31).toUInt32).toInt32) &&& (3 : Int32)) b1 b2 k1 k2 h1012 n0 (by omega) X1012 e1012 N1012 f1040 f1041 f1042 O1 f1043 f1044 f1045 f1046 hi hj (by omega)
  · refine Goal.step (T' := T1012) (g' := (mkF m 48 #[.val (.int p1), .val (.int p2), .val (.int p3), .val (.int p4), .val (.int p5), .val (.int p6), .val (.ref b1001), .val (.ref b1005), .val (.ref b1010), .val (.int i9), .val (.int j10), .unset, .unset, .unset, .unset, .unset, .unset, .unset, .unset] [])) ?_ (fun t k => XS.ifNo X1012.here hx rfl (hb hby at_45) rfl ((if0 _ _).trans (feq c1015).1) k)
    refine Goal.step (T' := T1012) (g' := (mkF m 49 #[.val (.int p1), .val (.int p2), .val (.int p3), .val (.int p4), .val (.int p5), .val (.int p6), .val (.ref b1001), .val (.ref b1005), .val (.ref b1010), .val (.int i9), .val (.int j10), .unset, .unset, .unset, .unset, .unset, .unset, .unset, .unset] [(.int (1 : Int32))])) ?_ (fun t k => XS.iconst X1012.here hx rfl (hb hby at_48) k)
    refine Goal.step (T' := T1012) (g' := (mkF m 53 #[.val (.int p1), .val (.int p2), .val (.int p3), .val (.int p4), .val (.int p5), .val (.int p6), .val (.ref b1001), .val (.ref b1005), .val (.ref b1010), .val (.int i9), .val (.int j10), .unset, .unset, .unset, .unset, .unset, .unset, .unset, .unset] [(.int (1 : Int32))])) ?_ (fun t k => XS.goto X1012.here hx rfl (pc0 := 49) (pc' := 53) rfl (hb hby at_49) (by decide) (by decide) k)
    refine Goal.step (T' := T1012) (g' := (mkF m 55 #[.val (.int p1), .val (.int p2), .val (.int p3), .val (.int p4), .val (.int p5), .val (.int p6), .val (.ref b1001), .val (.ref b1005), .val (.ref b1010), .val (.int i9), .val (.int j10), .val (.int (1 : Int32)), .unset, .unset, .unset, .unset, .unset, .unset, .unset] [])) ?_ (fun t k => XS.istore X1012.here hx rfl (hb hby at_53) rfl (l' := #[.val (.int p1), .val (.int p2), .val (.int p3), .val (.int p4), .val (.int p5), .val (.int p6), .val (.ref b1001), .val (.ref b1005), .val (.ref b1010), .val (.int i9), .val (.int j10), .val (.int (1 : Int32)), .unset, .unset, .unset, .unset, .unset, .unset, .unset]) rfl k)
    refine Goal.step (T' := T1012) (g' := (mkF m 57 #[.val (.int p1), .val (.int p2), .val (.int p3), .val (.int p4), .val (.int p5), .val (.int p6), .val (.ref b1001), .val (.ref b1005), .val (.ref b1010), .val (.int i9), .val (.int j10), .val (.int (1 : Int32)), .unset, .unset, .unset, .unset, .unset, .unset, .unset] [(.int p6)])) ?_ (fun t k => XS.iload X1012.here hx rfl (hb hby at_55) rfl k)
    refine Goal.step (T' := T1012) (g' := (mkF m 58 #[.val (.int p1), .val (.int p2), .val (.int p3), .val (.int p4), .val (.int p5), .val (.int p6), .val (.ref b1001), .val (.ref b1005), .val (.ref b1010), .val (.int i9), .val (.int j10), .val (.int (1 : Int32)), .unset, .unset, .unset, .unset, .unset, .unset, .unset] [(.int (2 : Int32)), (.int p6)])) ?_ (fun t k => XS.iconst X1012.here hx rfl (hb hby at_57) k)
    refine Goal.step (T' := T1012) (g' := (mkF m 59 #[.val (.int p1), .val (.int p2), .val (.int p3), .val (.int p4), .val (.int p5), .val (.int p6), .val (.ref b1001), .val (.ref b1005), .val (.ref b1010), .val (.int i9), .val (.int j10), .val (.int (1 : Int32)), .unset, .unset, .unset, .unset, .unset, .unset, .unset] [(.int (p6 &&& (2 : Int32)))])) ?_ (fun t k => XS.iand X1012.here hx rfl (hb hby at_58) rfl k)
    by_cases c1047 : (p6 &&& (2 : Int32)) = (0 : Int32)
    · refine Goal.step (T' := T1012) (g' := (mkF m 66 #[.val (.int p1), .val (.int p2), .val (.int p3), .val (.int p4), .val (.int p5), .val (.int p6), .val (.ref b1001), .val (.ref b1005), .val (.ref b1010), .val (.int i9), .val (.int j10), .val (.int (1 : Int32)), .unset, .unset, .unset, .unset, .unset, .unset, .unset] [])) ?_ (fun t k => XS.ifYes X1012.here hx rfl (pc0 := 59) (pc' := 66) rfl (hb hby at_59) rfl ((if0 _ _).trans (teq c1047).1) (by decide) (by decide) k)
      refine Goal.step (T' := T1012) (g' := (mkF m 67 #[.val (.int p1), .val (.int p2), .val (.int p3), .val (.int p4), .val (.int p5), .val (.int p6), .val (.ref b1001), .val (.ref b1005), .val (.ref b1010), .val (.int i9), .val (.int j10), .val (.int (1 : Int32)), .unset, .unset, .unset, .unset, .unset, .unset, .unset] [(.int (0 : Int32))])) ?_ (fun t k => XS.iconst X1012.here hx rfl (hb hby at_66) k)
      refine Goal.step (T' := T1012) (g' := (mkF m 69 #[.val (.int p1), .val (.int p2), .val (.int p3), .val (.int p4), .val (.int p5), .val (.int p6), .val (.ref b1001), .val (.ref b1005), .val (.ref b1010), .val (.int i9), .val (.int j10), .val (.int (1 : Int32)), .val (.int (0 : Int32)), .unset, .unset, .unset, .unset, .unset, .unset] [])) ?_ (fun t k => XS.istore X1012.here hx rfl (hb hby at_67) rfl (l' := #[.val (.int p1), .val (.int p2), .val (.int p3), .val (.int p4), .val (.int p5), .val (.int p6), .val (.ref b1001), .val (.ref b1005), .val (.ref b1010), .val (.int i9), .val (.int j10), .val (.int (1 : Int32)), .val (.int (0 : Int32)), .unset, .unset, .unset, .unset, .unset, .unset]) rfl k)
      refine Goal.step (T' := T1012) (g' := (mkF m 71 #[.val (.int p1), .val (.int p2), .val (.int p3), .val (.int p4), .val (.int p5), .val (.int p6), .val (.ref b1001), .val (.ref b1005), .val (.ref b1010), .val (.int i9), .val (.int j10), .val (.int (1 : Int32)), .val (.int (0 : Int32)), .unset, .unset, .unset, .unset, .unset, .unset] [(.int p6)])) ?_ (fun t k => XS.iload X1012.here hx rfl (hb hby at_69) rfl k)
      refine Goal.step (T' := T1012) (g' := (mkF m 72 #[.val (.int p1), .val (.int p2), .val (.int p3), .val (.int p4), .val (.int p5), .val (.int p6), .val (.ref b1001), .val (.ref b1005), .val (.ref b1010), .val (.int i9), .val (.int j10), .val (.int (1 : Int32)), .val (.int (0 : Int32)), .unset, .unset, .unset, .unset, .unset, .unset] [(.int (4 : Int32)), (.int p6)])) ?_ (fun t k => XS.iconst X1012.here hx rfl (hb hby at_71) k)
      refine Goal.step (T' := T1012) (g' := (mkF m 73 #[.val (.int p1), .val (.int p2), .val (.int p3), .val (.int p4), .val (.int p5), .val (.int p6), .val (.ref b1001), .val (.ref b1005), .val (.ref b1010), .val (.int i9), .val (.int j10), .val (.int (1 : Int32)), .val (.int (0 : Int32)), .unset, .unset, .unset, .unset, .unset, .unset] [(.int (p6 &&& (4 : Int32)))])) ?_ (fun t k => XS.iand X1012.here hx rfl (hb hby at_72) rfl k)
      by_cases c1048 : (p6 &&& (4 : Int32)) = (0 : Int32)
      · refine Goal.step (T' := T1012) (g' := (mkF m 80 #[.val (.int p1), .val (.int p2), .val (.int p3), .val (.int p4), .val (.int p5), .val (.int p6), .val (.ref b1001), .val (.ref b1005), .val (.ref b1010), .val (.int i9), .val (.int j10), .val (.int (1 : Int32)), .val (.int (0 : Int32)), .unset, .unset, .unset, .unset, .unset, .unset] [])) ?_ (fun t k => XS.ifYes X1012.here hx rfl (pc0 := 73) (pc' := 80) rfl (hb hby at_73) rfl ((if0 _ _).trans (teq c1048).1) (by decide) (by decide) k)
        refine Goal.step (T' := T1012) (g' := (mkF m 81 #[.val (.int p1), .val (.int p2), .val (.int p3), .val (.int p4), .val (.int p5), .val (.int p6), .val (.ref b1001), .val (.ref b1005), .val (.ref b1010), .val (.int i9), .val (.int j10), .val (.int (1 : Int32)), .val (.int (0 : Int32)), .unset, .unset, .unset, .unset, .unset, .unset] [(.int (0 : Int32))])) ?_ (fun t k => XS.iconst X1012.here hx rfl (hb hby at_80) k)
        refine Goal.step (T' := T1012) (g' := (mkF m 83 #[.val (.int p1), .val (.int p2), .val (.int p3), .val (.int p4), .val (.int p5), .val (.int p6), .val (.ref b1001), .val (.ref b1005), .val (.ref b1010), .val (.int i9), .val (.int j10), .val (.int (1 : Int32)), .val (.int (0 : Int32)), .val (.int (0 : Int32)), .unset, .unset, .unset, .unset, .unset] [])) ?_ (fun t k => XS.istore X1012.here hx rfl (hb hby at_81) rfl (l' := #[.val (.int p1), .val (.int p2), .val (.int p3), .val (.int p4), .val (.int p5), .val (.int p6), .val (.ref b1001), .val (.ref b1005), .val (.ref b1010), .val (.int i9), .val (.int j10), .val (.int (1 : Int32)), .val (.int (0 : Int32)), .val (.int (0 : Int32)), .unset, .unset, .unset, .unset, .unset]) rfl k)
        refine Goal.step (T' := T1012) (g' := (mkF m 85 #[.val (.int p1), .val (.int p2), .val (.int p3), .val (.int p4), .val (.int p5), .val (.int p6), .val (.ref b1001), .val (.ref b1005), .val (.ref b1010), .val (.int i9), .val (.int j10), .val (.int (1 : Int32)), .val (.int (0 : Int32)), .val (.int (0 : Int32)), .unset, .unset, .unset, .unset, .unset] [(.int p6)])) ?_ (fun t k => XS.iload X1012.here hx rfl (hb hby at_83) rfl k)
        refine Goal.step (T' := T1012) (g' := (mkF m 86 #[.val (.int p1), .val (.int p2), .val (.int p3), .val (.int p4), .val (.int p5), .val (.int p6), .val (.ref b1001), .val (.ref b1005), .val (.ref b1010), .val (.int i9), .val (.int j10), .val (.int (1 : Int32)), .val (.int (0 : Int32)), .val (.int (0 : Int32)), .unset, .unset, .unset, .unset, .unset] [(.int (3 : Int32)), (.int p6)])) ?_ (fun t k => XS.iconst X1012.here hx rfl (hb hby at_85) k)
        refine Goal.step (T' := T1012) (g' := (mkF m 87 #[.val (.int p1), .val (.int p2), .val (.int p3), .val (.int p4), .val (.int p5), .val (.int p6), .val (.ref b1001), .val (.ref b1005), .val (.ref b1010), .val (.int i9), .val (.int j10), .val (.int (1 : Int32)), .val (.int (0 : Int32)), .val (.int (0 : Int32)), .unset, .unset, .unset, .unset, .unset] [(.int ((p6.toUInt32 >>> ((3 : Int32) &&& 31).toUInt32).toInt32))])) ?_ (fun t k => XS.iushr X1012.here hx rfl (hb hby at_86) rfl k)
        refine Goal.step (T' := T1012) (g' := (mkF m 88 #[.val (.int p1), .val (.int p2), .val (.int p3), .val (.int p4), .val (.int p5), .val (.int p6), .val (.ref b1001), .val (.ref b1005), .val (.ref b1010), .val (.int i9), .val (.int j10), .val (.int (1 : Int32)), .val (.int (0 : Int32)), .val (.int (0 : Int32)), .unset, .unset, .unset, .unset, .unset] [(.int (3 : Int32)), (.int ((p6.toUInt32 >>> ((3 : Int32) &&& 31).toUInt32).toInt32))])) ?_ (fun t k => XS.iconst X1012.here hx rfl (hb hby at_87) k)
        refine Goal.step (T' := T1012) (g' := (mkF m 89 #[.val (.int p1), .val (.int p2), .val (.int p3), .val (.int p4), .val (.int p5), .val (.int p6), .val (.ref b1001), .val (.ref b1005), .val (.ref b1010), .val (.int i9), .val (.int j10), .val (.int (1 : Int32)), .val (.int (0 : Int32)), .val (.int (0 : Int32)), .unset, .unset, .unset, .unset, .unset] [(.int (((p6.toUInt32 >>> ((3 : Int32) &&& 31).toUInt32).toInt32) &&& (3 : Int32)))])) ?_ (fun t k => XS.iand X1012.here hx rfl (hb hby at_88) rfl k)
        refine Goal.step (T' := T1012) (g' := (mkF m 91 #[.val (.int p1), .val (.int p2), .val (.int p3), .val (.int p4), .val (.int p5), .val (.int p6), .val (.ref b1001), .val (.ref b1005), .val (.ref b1010), .val (.int i9), .val (.int j10), .val (.int (1 : Int32)), .val (.int (0 : Int32)), .val (.int (0 : Int32)), .val (.int (((p6.toUInt32 >>> ((3 : Int32) &&& 31).toUInt32).toInt32) &&& (3 : Int32))), .unset, .unset, .unset, .unset] [])) ?_ (fun t k => XS.istore X1012.here hx rfl (hb hby at_89) rfl (l' := #[.val (.int p1), .val (.int p2), .val (.int p3), .val (.int p4), .val (.int p5), .val (.int p6), .val (.ref b1001), .val (.ref b1005), .val (.ref b1010), .val (.int i9), .val (.int j10), .val (.int (1 : Int32)), .val (.int (0 : Int32)), .val (.int (0 : Int32)), .val (.int (((p6.toUInt32 >>> ((3 : Int32) &&& 31).toUInt32).toInt32) &&& (3 : Int32))), .unset, .unset, .unset, .unset]) rfl k)
        have f1049 : Fld Z h1012 b1001 "com/example/prove_permissions/provepermissions/model/XmiIds" "holders" "[Ljava/lang/Object;" (.ref b1) := ((((Fh1003.ext E1005).keep K1007 (ninS (nne (by omega)) nin0)).ext E1010).keep K1012 (ninS (nne (by omega)) nin0))
        have f1050 : Fld Z h1012 b1001 "com/example/prove_permissions/provepermissions/model/XmiIds" "places" "[I" (.ref b2) := ((((Fp1003.ext E1005).keep K1007 (ninS (nne (by omega)) nin0)).ext E1010).keep K1012 (ninS (nne (by omega)) nin0))
        have f1051 : Arh Z h1012 b1 k1 (.object "java/lang/Object") (1024 : Int32) [] [] .null := ((((Aa1003.ext E1005).keep K1007 (ninS (nne (by omega)) nin0)).ext E1010).keep K1012 (ninS (nne (by omega)) nin0))
        have f1052 : Arh Z h1012 b2 k2 .int (1024 : Int32) [] [] (.int (0 : Int32)) := ((((Ab1003.ext E1005).keep K1007 (ninS (nne (by omega)) nin0)).ext E1010).keep K1012 (ninS (nne (by omega)) nin0))
        have f1053 : Exa Z h1012 b1001 "com/example/prove_permissions/provepermissions/model/XmiIds" := (((((A1001.keep K1003).ext E1005).keep K1007).ext E1010).keep K1012)
        have f1054 : Exa Z h1012 b1005 "java/util/ArrayList" := (((A1005.keep K1007).ext E1010).keep K1012)
        have f1055 : Exa Z h1012 b1010 "java/util/ArrayList" := (A1010.keep K1012)
        exact seg91 hw C0 p1 p2 p3 p4 p5 p6 b1001 b1005 b1010 i9 j10 (1 : Int32) (0 : Int32) (0 : Int32) (((p6.toUInt32 >>> ((3 : Int32) &&& 31).toUInt32).toInt32) &&& (3 : Int32)) b1 b2 k1 k2 h1012 n0 (by omega) X1012 e1012 N1012 f1049 f1050 f1051 O1 f1052 f1053 f1054 f1055 hi hj (by omega)
      · refine Goal.step (T' := T1012) (g' := (mkF m 76 #[.val (.int p1), .val (.int p2), .val (.int p3), .val (.int p4), .val (.int p5), .val (.int p6), .val (.ref b1001), .val (.ref b1005), .val (.ref b1010), .val (.int i9), .val (.int j10), .val (.int (1 : Int32)), .val (.int (0 : Int32)), .unset, .unset, .unset, .unset, .unset, .unset] [])) ?_ (fun t k => XS.ifNo X1012.here hx rfl (hb hby at_73) rfl ((if0 _ _).trans (feq c1048).1) k)
        refine Goal.step (T' := T1012) (g' := (mkF m 77 #[.val (.int p1), .val (.int p2), .val (.int p3), .val (.int p4), .val (.int p5), .val (.int p6), .val (.ref b1001), .val (.ref b1005), .val (.ref b1010), .val (.int i9), .val (.int j10), .val (.int (1 : Int32)), .val (.int (0 : Int32)), .unset, .unset, .unset, .unset, .unset, .unset] [(.int (1 : Int32))])) ?_ (fun t k => XS.iconst X1012.here hx rfl (hb hby at_76) k)
        refine Goal.step (T' := T1012) (g' := (mkF m 81 #[.val (.int p1), .val (.int p2), .val (.int p3), .val (.int p4), .val (.int p5), .val (.int p6), .val (.ref b1001), .val (.ref b1005), .val (.ref b1010), .val (.int i9), .val (.int j10), .val (.int (1 : Int32)), .val (.int (0 : Int32)), .unset, .unset, .unset, .unset, .unset, .unset] [(.int (1 : Int32))])) ?_ (fun t k => XS.goto X1012.here hx rfl (pc0 := 77) (pc' := 81) rfl (hb hby at_77) (by decide) (by decide) k)
        refine Goal.step (T' := T1012) (g' := (mkF m 83 #[.val (.int p1), .val (.int p2), .val (.int p3), .val (.int p4), .val (.int p5), .val (.int p6), .val (.ref b1001), .val (.ref b1005), .val (.ref b1010), .val (.int i9), .val (.int j10), .val (.int (1 : Int32)), .val (.int (0 : Int32)), .val (.int (1 : Int32)), .unset, .unset, .unset, .unset, .unset] [])) ?_ (fun t k => XS.istore X1012.here hx rfl (hb hby at_81) rfl (l' := #[.val (.int p1), .val (.int p2), .val (.int p3), .val (.int p4), .val (.int p5), .val (.int p6), .val (.ref b1001), .val (.ref b1005), .val (.ref b1010), .val (.int i9), .val (.int j10), .val (.int (1 : Int32)), .val (.int (0 : Int32)), .val (.int (1 : Int32)), .unset, .unset, .unset, .unset, .unset]) rfl k)
        refine Goal.step (T' := T1012) (g' := (mkF m 85 #[.val (.int p1), .val (.int p2), .val (.int p3), .val (.int p4), .val (.int p5), .val (.int p6), .val (.ref b1001), .val (.ref b1005), .val (.ref b1010), .val (.int i9), .val (.int j10), .val (.int (1 : Int32)), .val (.int (0 : Int32)), .val (.int (1 : Int32)), .unset, .unset, .unset, .unset, .unset] [(.int p6)])) ?_ (fun t k => XS.iload X1012.here hx rfl (hb hby at_83) rfl k)
        refine Goal.step (T' := T1012) (g' := (mkF m 86 #[.val (.int p1), .val (.int p2), .val (.int p3), .val (.int p4), .val (.int p5), .val (.int p6), .val (.ref b1001), .val (.ref b1005), .val (.ref b1010), .val (.int i9), .val (.int j10), .val (.int (1 : Int32)), .val (.int (0 : Int32)), .val (.int (1 : Int32)), .unset, .unset, .unset, .unset, .unset] [(.int (3 : Int32)), (.int p6)])) ?_ (fun t k => XS.iconst X1012.here hx rfl (hb hby at_85) k)
        refine Goal.step (T' := T1012) (g' := (mkF m 87 #[.val (.int p1), .val (.int p2), .val (.int p3), .val (.int p4), .val (.int p5), .val (.int p6), .val (.ref b1001), .val (.ref b1005), .val (.ref b1010), .val (.int i9), .val (.int j10), .val (.int (1 : Int32)), .val (.int (0 : Int32)), .val (.int (1 : Int32)), .unset, .unset, .unset, .unset, .unset] [(.int ((p6.toUInt32 >>> ((3 : Int32) &&& 31).toUInt32).toInt32))])) ?_ (fun t k => XS.iushr X1012.here hx rfl (hb hby at_86) rfl k)
        refine Goal.step (T' := T1012) (g' := (mkF m 88 #[.val (.int p1), .val (.int p2), .val (.int p3), .val (.int p4), .val (.int p5), .val (.int p6), .val (.ref b1001), .val (.ref b1005), .val (.ref b1010), .val (.int i9), .val (.int j10), .val (.int (1 : Int32)), .val (.int (0 : Int32)), .val (.int (1 : Int32)), .unset, .unset, .unset, .unset, .unset] [(.int (3 : Int32)), (.int ((p6.toUInt32 >>> ((3 : Int32) &&& 31).toUInt32).toInt32))])) ?_ (fun t k => XS.iconst X1012.here hx rfl (hb hby at_87) k)
        refine Goal.step (T' := T1012) (g' := (mkF m 89 #[.val (.int p1), .val (.int p2), .val (.int p3), .val (.int p4), .val (.int p5), .val (.int p6), .val (.ref b1001), .val (.ref b1005), .val (.ref b1010), .val (.int i9), .val (.int j10), .val (.int (1 : Int32)), .val (.int (0 : Int32)), .val (.int (1 : Int32)), .unset, .unset, .unset, .unset, .unset] [(.int (((p6.toUInt32 >>> ((3 : Int32) &&& 31).toUInt32).toInt32) &&& (3 : Int32)))])) ?_ (fun t k => XS.iand X1012.here hx rfl (hb hby at_88) rfl k)
        refine Goal.step (T' := T1012) (g' := (mkF m 91 #[.val (.int p1), .val (.int p2), .val (.int p3), .val (.int p4), .val (.int p5), .val (.int p6), .val (.ref b1001), .val (.ref b1005), .val (.ref b1010), .val (.int i9), .val (.int j10), .val (.int (1 : Int32)), .val (.int (0 : Int32)), .val (.int (1 : Int32)), .val (.int (((p6.toUInt32 >>> ((3 : Int32) &&& 31).toUInt32).toInt32) &&& (3 : Int32))), .unset, .unset, .unset, .unset] [])) ?_ (fun t k => XS.istore X1012.here hx rfl (hb hby at_89) rfl (l' := #[.val (.int p1), .val (.int p2), .val (.int p3), .val (.int p4), .val (.int p5), .val (.int p6), .val (.ref b1001), .val (.ref b1005), .val (.ref b1010), .val (.int i9), .val (.int j10), .val (.int (1 : Int32)), .val (.int (0 : Int32)), .val (.int (1 : Int32)), .val (.int (((p6.toUInt32 >>> ((3 : Int32) &&& 31).toUInt32).toInt32) &&& (3 : Int32))), .unset, .unset, .unset, .unset]) rfl k)
        have f1056 : Fld Z h1012 b1001 "com/example/prove_permissions/provepermissions/model/XmiIds" "holders" "[Ljava/lang/Object;" (.ref b1) := ((((Fh1003.ext E1005).keep K1007 (ninS (nne (by omega)) nin0)).ext E1010).keep K1012 (ninS (nne (by omega)) nin0))
        have f1057 : Fld Z h1012 b1001 "com/example/prove_permissions/provepermissions/model/XmiIds" "places" "[I" (.ref b2) := ((((Fp1003.ext E1005).keep K1007 (ninS (nne (by omega)) nin0)).ext E1010).keep K1012 (ninS (nne (by omega)) nin0))
        have f1058 : Arh Z h1012 b1 k1 (.object "java/lang/Object") (1024 : Int32) [] [] .null := ((((Aa1003.ext E1005).keep K1007 (ninS (nne (by omega)) nin0)).ext E1010).keep K1012 (ninS (nne (by omega)) nin0))
        have f1059 : Arh Z h1012 b2 k2 .int (1024 : Int32) [] [] (.int (0 : Int32)) := ((((Ab1003.ext E1005).keep K1007 (ninS (nne (by omega)) nin0)).ext E1010).keep K1012 (ninS (nne (by omega)) nin0))
        have f1060 : Exa Z h1012 b1001 "com/example/prove_permissions/provepermissions/model/XmiIds" := (((((A1001.keep K1003).ext E1005).keep K1007).ext E1010).keep K1012)
        have f1061 : Exa Z h1012 b1005 "java/util/ArrayList" := (((A1005.keep K1007).ext E1010).keep K1012)
        have f1062 : Exa Z h1012 b1010 "java/util/ArrayList" := (A1010.keep K1012)
        exact seg91 hw C0 p1 p2 p3 p4 p5 p6 b1001 b1005 b1010 i9 j10 (1 : Int32) (0 : Int32) (1 : Int32) (((p6.toUInt32 >>> ((3 : Int32) &&& 31).toUInt32).toInt32) &&& (3 : Int32)) b1 b2 k1 k2 h1012 n0 (by omega) X1012 e1012 N1012 f1056 f1057 f1058 O1 f1059 f1060 f1061 f1062 hi hj (by omega)
    · refine Goal.step (T' := T1012) (g' := (mkF m 62 #[.val (.int p1), .val (.int p2), .val (.int p3), .val (.int p4), .val (.int p5), .val (.int p6), .val (.ref b1001), .val (.ref b1005), .val (.ref b1010), .val (.int i9), .val (.int j10), .val (.int (1 : Int32)), .unset, .unset, .unset, .unset, .unset, .unset, .unset] [])) ?_ (fun t k => XS.ifNo X1012.here hx rfl (hb hby at_59) rfl ((if0 _ _).trans (feq c1047).1) k)
      refine Goal.step (T' := T1012) (g' := (mkF m 63 #[.val (.int p1), .val (.int p2), .val (.int p3), .val (.int p4), .val (.int p5), .val (.int p6), .val (.ref b1001), .val (.ref b1005), .val (.ref b1010), .val (.int i9), .val (.int j10), .val (.int (1 : Int32)), .unset, .unset, .unset, .unset, .unset, .unset, .unset] [(.int (1 : Int32))])) ?_ (fun t k => XS.iconst X1012.here hx rfl (hb hby at_62) k)
      refine Goal.step (T' := T1012) (g' := (mkF m 67 #[.val (.int p1), .val (.int p2), .val (.int p3), .val (.int p4), .val (.int p5), .val (.int p6), .val (.ref b1001), .val (.ref b1005), .val (.ref b1010), .val (.int i9), .val (.int j10), .val (.int (1 : Int32)), .unset, .unset, .unset, .unset, .unset, .unset, .unset] [(.int (1 : Int32))])) ?_ (fun t k => XS.goto X1012.here hx rfl (pc0 := 63) (pc' := 67) rfl (hb hby at_63) (by decide) (by decide) k)
      refine Goal.step (T' := T1012) (g' := (mkF m 69 #[.val (.int p1), .val (.int p2), .val (.int p3), .val (.int p4), .val (.int p5), .val (.int p6), .val (.ref b1001), .val (.ref b1005), .val (.ref b1010), .val (.int i9), .val (.int j10), .val (.int (1 : Int32)), .val (.int (1 : Int32)), .unset, .unset, .unset, .unset, .unset, .unset] [])) ?_ (fun t k => XS.istore X1012.here hx rfl (hb hby at_67) rfl (l' := #[.val (.int p1), .val (.int p2), .val (.int p3), .val (.int p4), .val (.int p5), .val (.int p6), .val (.ref b1001), .val (.ref b1005), .val (.ref b1010), .val (.int i9), .val (.int j10), .val (.int (1 : Int32)), .val (.int (1 : Int32)), .unset, .unset, .unset, .unset, .unset, .unset]) rfl k)
      refine Goal.step (T' := T1012) (g' := (mkF m 71 #[.val (.int p1), .val (.int p2), .val (.int p3), .val (.int p4), .val (.int p5), .val (.int p6), .val (.ref b1001), .val (.ref b1005), .val (.ref b1010), .val (.int i9), .val (.int j10), .val (.int (1 : Int32)), .val (.int (1 : Int32)), .unset, .unset, .unset, .unset, .unset, .unset] [(.int p6)])) ?_ (fun t k => XS.iload X1012.here hx rfl (hb hby at_69) rfl k)
      refine Goal.step (T' := T1012) (g' := (mkF m 72 #[.val (.int p1), .val (.int p2), .val (.int p3), .val (.int p4), .val (.int p5), .val (.int p6), .val (.ref b1001), .val (.ref b1005), .val (.ref b1010), .val (.int i9), .val (.int j10), .val (.int (1 : Int32)), .val (.int (1 : Int32)), .unset, .unset, .unset, .unset, .unset, .unset] [(.int (4 : Int32)), (.int p6)])) ?_ (fun t k => XS.iconst X1012.here hx rfl (hb hby at_71) k)
      refine Goal.step (T' := T1012) (g' := (mkF m 73 #[.val (.int p1), .val (.int p2), .val (.int p3), .val (.int p4), .val (.int p5), .val (.int p6), .val (.ref b1001), .val (.ref b1005), .val (.ref b1010), .val (.int i9), .val (.int j10), .val (.int (1 : Int32)), .val (.int (1 : Int32)), .unset, .unset, .unset, .unset, .unset, .unset] [(.int (p6 &&& (4 : Int32)))])) ?_ (fun t k => XS.iand X1012.here hx rfl (hb hby at_72) rfl k)
      by_cases c1063 : (p6 &&& (4 : Int32)) = (0 : Int32)
      · refine Goal.step (T' := T1012) (g' := (mkF m 80 #[.val (.int p1), .val (.int p2), .val (.int p3), .val (.int p4), .val (.int p5), .val (.int p6), .val (.ref b1001), .val (.ref b1005), .val (.ref b1010), .val (.int i9), .val (.int j10), .val (.int (1 : Int32)), .val (.int (1 : Int32)), .unset, .unset, .unset, .unset, .unset, .unset] [])) ?_ (fun t k => XS.ifYes X1012.here hx rfl (pc0 := 73) (pc' := 80) rfl (hb hby at_73) rfl ((if0 _ _).trans (teq c1063).1) (by decide) (by decide) k)
        refine Goal.step (T' := T1012) (g' := (mkF m 81 #[.val (.int p1), .val (.int p2), .val (.int p3), .val (.int p4), .val (.int p5), .val (.int p6), .val (.ref b1001), .val (.ref b1005), .val (.ref b1010), .val (.int i9), .val (.int j10), .val (.int (1 : Int32)), .val (.int (1 : Int32)), .unset, .unset, .unset, .unset, .unset, .unset] [(.int (0 : Int32))])) ?_ (fun t k => XS.iconst X1012.here hx rfl (hb hby at_80) k)
        refine Goal.step (T' := T1012) (g' := (mkF m 83 #[.val (.int p1), .val (.int p2), .val (.int p3), .val (.int p4), .val (.int p5), .val (.int p6), .val (.ref b1001), .val (.ref b1005), .val (.ref b1010), .val (.int i9), .val (.int j10), .val (.int (1 : Int32)), .val (.int (1 : Int32)), .val (.int (0 : Int32)), .unset, .unset, .unset, .unset, .unset] [])) ?_ (fun t k => XS.istore X1012.here hx rfl (hb hby at_81) rfl (l' := #[.val (.int p1), .val (.int p2), .val (.int p3), .val (.int p4), .val (.int p5), .val (.int p6), .val (.ref b1001), .val (.ref b1005), .val (.ref b1010), .val (.int i9), .val (.int j10), .val (.int (1 : Int32)), .val (.int (1 : Int32)), .val (.int (0 : Int32)), .unset, .unset, .unset, .unset, .unset]) rfl k)
        refine Goal.step (T' := T1012) (g' := (mkF m 85 #[.val (.int p1), .val (.int p2), .val (.int p3), .val (.int p4), .val (.int p5), .val (.int p6), .val (.ref b1001), .val (.ref b1005), .val (.ref b1010), .val (.int i9), .val (.int j10), .val (.int (1 : Int32)), .val (.int (1 : Int32)), .val (.int (0 : Int32)), .unset, .unset, .unset, .unset, .unset] [(.int p6)])) ?_ (fun t k => XS.iload X1012.here hx rfl (hb hby at_83) rfl k)
        refine Goal.step (T' := T1012) (g' := (mkF m 86 #[.val (.int p1), .val (.int p2), .val (.int p3), .val (.int p4), .val (.int p5), .val (.int p6), .val (.ref b1001), .val (.ref b1005), .val (.ref b1010), .val (.int i9), .val (.int j10), .val (.int (1 : Int32)), .val (.int (1 : Int32)), .val (.int (0 : Int32)), .unset, .unset, .unset, .unset, .unset] [(.int (3 : Int32)), (.int p6)])) ?_ (fun t k => XS.iconst X1012.here hx rfl (hb hby at_85) k)
        refine Goal.step (T' := T1012) (g' := (mkF m 87 #[.val (.int p1), .val (.int p2), .val (.int p3), .val (.int p4), .val (.int p5), .val (.int p6), .val (.ref b1001), .val (.ref b1005), .val (.ref b1010), .val (.int i9), .val (.int j10), .val (.int (1 : Int32)), .val (.int (1 : Int32)), .val (.int (0 : Int32)), .unset, .unset, .unset, .unset, .unset] [(.int ((p6.toUInt32 >>> ((3 : Int32) &&& 31).toUInt32).toInt32))])) ?_ (fun t k => XS.iushr X1012.here hx rfl (hb hby at_86) rfl k)
        refine Goal.step (T' := T1012) (g' := (mkF m 88 #[.val (.int p1), .val (.int p2), .val (.int p3), .val (.int p4), .val (.int p5), .val (.int p6), .val (.ref b1001), .val (.ref b1005), .val (.ref b1010), .val (.int i9), .val (.int j10), .val (.int (1 : Int32)), .val (.int (1 : Int32)), .val (.int (0 : Int32)), .unset, .unset, .unset, .unset, .unset] [(.int (3 : Int32)), (.int ((p6.toUInt32 >>> ((3 : Int32) &&& 31).toUInt32).toInt32))])) ?_ (fun t k => XS.iconst X1012.here hx rfl (hb hby at_87) k)
        refine Goal.step (T' := T1012) (g' := (mkF m 89 #[.val (.int p1), .val (.int p2), .val (.int p3), .val (.int p4), .val (.int p5), .val (.int p6), .val (.ref b1001), .val (.ref b1005), .val (.ref b1010), .val (.int i9), .val (.int j10), .val (.int (1 : Int32)), .val (.int (1 : Int32)), .val (.int (0 : Int32)), .unset, .unset, .unset, .unset, .unset] [(.int (((p6.toUInt32 >>> ((3 : Int32) &&& 31).toUInt32).toInt32) &&& (3 : Int32)))])) ?_ (fun t k => XS.iand X1012.here hx rfl (hb hby at_88) rfl k)
        refine Goal.step (T' := T1012) (g' := (mkF m 91 #[.val (.int p1), .val (.int p2), .val (.int p3), .val (.int p4), .val (.int p5), .val (.int p6), .val (.ref b1001), .val (.ref b1005), .val (.ref b1010), .val (.int i9), .val (.int j10), .val (.int (1 : Int32)), .val (.int (1 : Int32)), .val (.int (0 : Int32)), .val (.int (((p6.toUInt32 >>> ((3 : Int32) &&& 31).toUInt32).toInt32) &&& (3 : Int32))), .unset, .unset, .unset, .unset] [])) ?_ (fun t k => XS.istore X1012.here hx rfl (hb hby at_89) rfl (l' := #[.val (.int p1), .val (.int p2), .val (.int p3), .val (.int p4), .val (.int p5), .val (.int p6), .val (.ref b1001), .val (.ref b1005), .val (.ref b1010), .val (.int i9), .val (.int j10), .val (.int (1 : Int32)), .val (.int (1 : Int32)), .val (.int (0 : Int32)), .val (.int (((p6.toUInt32 >>> ((3 : Int32) &&& 31).toUInt32).toInt32) &&& (3 : Int32))), .unset, .unset, .unset, .unset]) rfl k)
        have f1064 : Fld Z h1012 b1001 "com/example/prove_permissions/provepermissions/model/XmiIds" "holders" "[Ljava/lang/Object;" (.ref b1) := ((((Fh1003.ext E1005).keep K1007 (ninS (nne (by omega)) nin0)).ext E1010).keep K1012 (ninS (nne (by omega)) nin0))
        have f1065 : Fld Z h1012 b1001 "com/example/prove_permissions/provepermissions/model/XmiIds" "places" "[I" (.ref b2) := ((((Fp1003.ext E1005).keep K1007 (ninS (nne (by omega)) nin0)).ext E1010).keep K1012 (ninS (nne (by omega)) nin0))
        have f1066 : Arh Z h1012 b1 k1 (.object "java/lang/Object") (1024 : Int32) [] [] .null := ((((Aa1003.ext E1005).keep K1007 (ninS (nne (by omega)) nin0)).ext E1010).keep K1012 (ninS (nne (by omega)) nin0))
        have f1067 : Arh Z h1012 b2 k2 .int (1024 : Int32) [] [] (.int (0 : Int32)) := ((((Ab1003.ext E1005).keep K1007 (ninS (nne (by omega)) nin0)).ext E1010).keep K1012 (ninS (nne (by omega)) nin0))
        have f1068 : Exa Z h1012 b1001 "com/example/prove_permissions/provepermissions/model/XmiIds" := (((((A1001.keep K1003).ext E1005).keep K1007).ext E1010).keep K1012)
        have f1069 : Exa Z h1012 b1005 "java/util/ArrayList" := (((A1005.keep K1007).ext E1010).keep K1012)
        have f1070 : Exa Z h1012 b1010 "java/util/ArrayList" := (A1010.keep K1012)
        exact seg91 hw C0 p1 p2 p3 p4 p5 p6 b1001 b1005 b1010 i9 j10 (1 : Int32) (1 : Int32) (0 : Int32) (((p6.toUInt32 >>> ((3 : Int32) &&& 31).toUInt32).toInt32) &&& (3 : Int32)) b1 b2 k1 k2 h1012 n0 (by omega) X1012 e1012 N1012 f1064 f1065 f1066 O1 f1067 f1068 f1069 f1070 hi hj (by omega)
      · refine Goal.step (T' := T1012) (g' := (mkF m 76 #[.val (.int p1), .val (.int p2), .val (.int p3), .val (.int p4), .val (.int p5), .val (.int p6), .val (.ref b1001), .val (.ref b1005), .val (.ref b1010), .val (.int i9), .val (.int j10), .val (.int (1 : Int32)), .val (.int (1 : Int32)), .unset, .unset, .unset, .unset, .unset, .unset] [])) ?_ (fun t k => XS.ifNo X1012.here hx rfl (hb hby at_73) rfl ((if0 _ _).trans (feq c1063).1) k)
        refine Goal.step (T' := T1012) (g' := (mkF m 77 #[.val (.int p1), .val (.int p2), .val (.int p3), .val (.int p4), .val (.int p5), .val (.int p6), .val (.ref b1001), .val (.ref b1005), .val (.ref b1010), .val (.int i9), .val (.int j10), .val (.int (1 : Int32)), .val (.int (1 : Int32)), .unset, .unset, .unset, .unset, .unset, .unset] [(.int (1 : Int32))])) ?_ (fun t k => XS.iconst X1012.here hx rfl (hb hby at_76) k)
        refine Goal.step (T' := T1012) (g' := (mkF m 81 #[.val (.int p1), .val (.int p2), .val (.int p3), .val (.int p4), .val (.int p5), .val (.int p6), .val (.ref b1001), .val (.ref b1005), .val (.ref b1010), .val (.int i9), .val (.int j10), .val (.int (1 : Int32)), .val (.int (1 : Int32)), .unset, .unset, .unset, .unset, .unset, .unset] [(.int (1 : Int32))])) ?_ (fun t k => XS.goto X1012.here hx rfl (pc0 := 77) (pc' := 81) rfl (hb hby at_77) (by decide) (by decide) k)
        refine Goal.step (T' := T1012) (g' := (mkF m 83 #[.val (.int p1), .val (.int p2), .val (.int p3), .val (.int p4), .val (.int p5), .val (.int p6), .val (.ref b1001), .val (.ref b1005), .val (.ref b1010), .val (.int i9), .val (.int j10), .val (.int (1 : Int32)), .val (.int (1 : Int32)), .val (.int (1 : Int32)), .unset, .unset, .unset, .unset, .unset] [])) ?_ (fun t k => XS.istore X1012.here hx rfl (hb hby at_81) rfl (l' := #[.val (.int p1), .val (.int p2), .val (.int p3), .val (.int p4), .val (.int p5), .val (.int p6), .val (.ref b1001), .val (.ref b1005), .val (.ref b1010), .val (.int i9), .val (.int j10), .val (.int (1 : Int32)), .val (.int (1 : Int32)), .val (.int (1 : Int32)), .unset, .unset, .unset, .unset, .unset]) rfl k)
        refine Goal.step (T' := T1012) (g' := (mkF m 85 #[.val (.int p1), .val (.int p2), .val (.int p3), .val (.int p4), .val (.int p5), .val (.int p6), .val (.ref b1001), .val (.ref b1005), .val (.ref b1010), .val (.int i9), .val (.int j10), .val (.int (1 : Int32)), .val (.int (1 : Int32)), .val (.int (1 : Int32)), .unset, .unset, .unset, .unset, .unset] [(.int p6)])) ?_ (fun t k => XS.iload X1012.here hx rfl (hb hby at_83) rfl k)
        refine Goal.step (T' := T1012) (g' := (mkF m 86 #[.val (.int p1), .val (.int p2), .val (.int p3), .val (.int p4), .val (.int p5), .val (.int p6), .val (.ref b1001), .val (.ref b1005), .val (.ref b1010), .val (.int i9), .val (.int j10), .val (.int (1 : Int32)), .val (.int (1 : Int32)), .val (.int (1 : Int32)), .unset, .unset, .unset, .unset, .unset] [(.int (3 : Int32)), (.int p6)])) ?_ (fun t k => XS.iconst X1012.here hx rfl (hb hby at_85) k)
        refine Goal.step (T' := T1012) (g' := (mkF m 87 #[.val (.int p1), .val (.int p2), .val (.int p3), .val (.int p4), .val (.int p5), .val (.int p6), .val (.ref b1001), .val (.ref b1005), .val (.ref b1010), .val (.int i9), .val (.int j10), .val (.int (1 : Int32)), .val (.int (1 : Int32)), .val (.int (1 : Int32)), .unset, .unset, .unset, .unset, .unset] [(.int ((p6.toUInt32 >>> ((3 : Int32) &&& 31).toUInt32).toInt32))])) ?_ (fun t k => XS.iushr X1012.here hx rfl (hb hby at_86) rfl k)
        refine Goal.step (T' := T1012) (g' := (mkF m 88 #[.val (.int p1), .val (.int p2), .val (.int p3), .val (.int p4), .val (.int p5), .val (.int p6), .val (.ref b1001), .val (.ref b1005), .val (.ref b1010), .val (.int i9), .val (.int j10), .val (.int (1 : Int32)), .val (.int (1 : Int32)), .val (.int (1 : Int32)), .unset, .unset, .unset, .unset, .unset] [(.int (3 : Int32)), (.int ((p6.toUInt32 >>> ((3 : Int32) &&& 31).toUInt32).toInt32))])) ?_ (fun t k => XS.iconst X1012.here hx rfl (hb hby at_87) k)
        refine Goal.step (T' := T1012) (g' := (mkF m 89 #[.val (.int p1), .val (.int p2), .val (.int p3), .val (.int p4), .val (.int p5), .val (.int p6), .val (.ref b1001), .val (.ref b1005), .val (.ref b1010), .val (.int i9), .val (.int j10), .val (.int (1 : Int32)), .val (.int (1 : Int32)), .val (.int (1 : Int32)), .unset, .unset, .unset, .unset, .unset] [(.int (((p6.toUInt32 >>> ((3 : Int32) &&& 31).toUInt32).toInt32) &&& (3 : Int32)))])) ?_ (fun t k => XS.iand X1012.here hx rfl (hb hby at_88) rfl k)
        refine Goal.step (T' := T1012) (g' := (mkF m 91 #[.val (.int p1), .val (.int p2), .val (.int p3), .val (.int p4), .val (.int p5), .val (.int p6), .val (.ref b1001), .val (.ref b1005), .val (.ref b1010), .val (.int i9), .val (.int j10), .val (.int (1 : Int32)), .val (.int (1 : Int32)), .val (.int (1 : Int32)), .val (.int (((p6.toUInt32 >>> ((3 : Int32) &&& 31).toUInt32).toInt32) &&& (3 : Int32))), .unset, .unset, .unset, .unset] [])) ?_ (fun t k => XS.istore X1012.here hx rfl (hb hby at_89) rfl (l' := #[.val (.int p1), .val (.int p2), .val (.int p3), .val (.int p4), .val (.int p5), .val (.int p6), .val (.ref b1001), .val (.ref b1005), .val (.ref b1010), .val (.int i9), .val (.int j10), .val (.int (1 : Int32)), .val (.int (1 : Int32)), .val (.int (1 : Int32)), .val (.int (((p6.toUInt32 >>> ((3 : Int32) &&& 31).toUInt32).toInt32) &&& (3 : Int32))), .unset, .unset, .unset, .unset]) rfl k)
        have f1071 : Fld Z h1012 b1001 "com/example/prove_permissions/provepermissions/model/XmiIds" "holders" "[Ljava/lang/Object;" (.ref b1) := ((((Fh1003.ext E1005).keep K1007 (ninS (nne (by omega)) nin0)).ext E1010).keep K1012 (ninS (nne (by omega)) nin0))
        have f1072 : Fld Z h1012 b1001 "com/example/prove_permissions/provepermissions/model/XmiIds" "places" "[I" (.ref b2) := ((((Fp1003.ext E1005).keep K1007 (ninS (nne (by omega)) nin0)).ext E1010).keep K1012 (ninS (nne (by omega)) nin0))
        have f1073 : Arh Z h1012 b1 k1 (.object "java/lang/Object") (1024 : Int32) [] [] .null := ((((Aa1003.ext E1005).keep K1007 (ninS (nne (by omega)) nin0)).ext E1010).keep K1012 (ninS (nne (by omega)) nin0))
        have f1074 : Arh Z h1012 b2 k2 .int (1024 : Int32) [] [] (.int (0 : Int32)) := ((((Ab1003.ext E1005).keep K1007 (ninS (nne (by omega)) nin0)).ext E1010).keep K1012 (ninS (nne (by omega)) nin0))
        have f1075 : Exa Z h1012 b1001 "com/example/prove_permissions/provepermissions/model/XmiIds" := (((((A1001.keep K1003).ext E1005).keep K1007).ext E1010).keep K1012)
        have f1076 : Exa Z h1012 b1005 "java/util/ArrayList" := (((A1005.keep K1007).ext E1010).keep K1012)
        have f1077 : Exa Z h1012 b1010 "java/util/ArrayList" := (A1010.keep K1012)
        exact seg91 hw C0 p1 p2 p3 p4 p5 p6 b1001 b1005 b1010 i9 j10 (1 : Int32) (1 : Int32) (1 : Int32) (((p6.toUInt32 >>> ((3 : Int32) &&& 31).toUInt32).toInt32) &&& (3 : Int32)) b1 b2 k1 k2 h1012 n0 (by omega) X1012 e1012 N1012 f1071 f1072 f1073 O1 f1074 f1075 f1076 f1077 hi hj (by omega)
set_option maxRecDepth 65536 in
set_option maxHeartbeats 40000000 in
theorem comes_1 {Post : Tables → Env → Array Value → State → Outcome → State → Prop} (hpost : ∀ tb e args s v u, (limb_1_1.after args s (.returned v) u = true ∧ limb_1_2.after args s (.returned v) u = true ∧ True) → FrameEnd s (.returned v) u (Jvm.fieldLocs frame_1_writes args s ++ Jvm.arrayLocs frame_1_arrays args s ++ Jvm.staticLocs frame_1_statics s) 32 14464 → Post tb e args s (.returned v) u) :
    ArmFor flags0 classFile x code maxLocals ret World_1 tables_1 room_1 Calls_1 rest_1 Pre_1 Post := by
  intro l hfl _ _ p e ha hc hk s m args below hf hA hF happ hP
  obtain ⟨hcalls, hrest, hpre⟩ := hP
  obtain ⟨-, -, -, hnamed, -, -, -, hat⟩ := (Spec.applies_iff hf).mp happ
  obtain ⟨hg, hn⟩ := and_e (Cond.before_iff.mp (show (Jvm.Cond.and given_1 narrow_1).before args s = true from hpre))
  obtain ⟨gc, gr0⟩ := and_e hg
  obtain ⟨ga0, gr1⟩ := and_e gr0
  obtain ⟨ga1, gr2⟩ := and_e gr1
  obtain ⟨ga2, gr3⟩ := and_e gr2
  obtain ⟨ga3, gr4⟩ := and_e gr3
  obtain ⟨ga4, gr5⟩ := and_e gr4
  obtain ⟨w0, w1, w2, w3, w4, w5, rfl⟩ : ∃ w0 w1 w2 w3 w4 w5 : Value, args = #[w0, w1, w2, w3, w4, w5] := by
    have hs : args.size = 6 := by simpa [Cond.value, given_1] using gc
    obtain ⟨L⟩ := args
    match L, hs with
    | [w0, w1, w2, w3, w4, w5], _ => exact ⟨w0, w1, w2, w3, w4, w5, rfl⟩
  have hw := fun d (hd : d ∈ tables_1) => atoms_spec (ws := Jvm.Cond.code x code maxLocals ret :: tables_1) hat d (List.mem_cons_of_mem _ hd)
  have hfit : Fit s := fun {y c} hc i hi => by
    obtain ⟨ha, rfl⟩ := Array.getElem?_eq_some_iff.mp hc
    have q := List.all_eq_true.mp ((Array.all_eq_true_iff_forall_mem.mp hF) _ (Array.getElem_mem ha)) i (List.mem_range.mpr hi)
    simpa [Array.getElem?_eq_getElem hi] using q
  obtain ⟨hsets, hown0⟩ := atoms_of _ (rest_1_c_eq ▸ (show rest_1_c.before _ s = true from hrest))
  have hr0 := Cond.before_iff.mp hown0
  obtain ⟨i0, ei0⟩ := is_v ga0
  obtain rfl : w0 = (.int i0) := Option.some.inj ei0
  obtain ⟨i1, ei1⟩ := is_v ga1
  obtain rfl : w1 = (.int i1) := Option.some.inj ei1
  obtain ⟨i2, ei2⟩ := is_v ga2
  obtain rfl : w2 = (.int i2) := Option.some.inj ei2
  obtain ⟨i3, ei3⟩ := is_v ga3
  obtain rfl : w3 = (.int i3) := Option.some.inj ei3
  obtain ⟨i4, ei4⟩ := is_v ga4
  obtain rfl : w4 = (.int i4) := Option.some.inj ei4
  obtain ⟨i5, ei5⟩ := is_v gr5
  obtain rfl : w5 = (.int i5) := Option.some.inj ei5
  obtain ⟨da, _, _, _, e1, -⟩ := Cond.exactly_spec (hsets _ (List.mem_of_getElem? (i := 7) rfl))
  have S0 := Sta.start e1 (Or.inr ⟨(hw _ (List.mem_of_getElem? (i := 48) rfl)), hsets _ (List.mem_of_getElem? (i := 2) rfl)⟩)
  obtain ⟨n, o, h1, h2, h3, _, L, rfl, ⟨rfl, N⟩, hq⟩ := rm0 l s _ hw i0 i1 i2 i3 i4 i5 da s.heap s.heap.size (Nat.le_refl _) S0 (Old.start s) p e ha hc hk s m _ below hf ((Spec.applies_iff_loose hf).mp happ).1 ⟨rfl, State.Warmed39.refl s, rfl⟩ trivial
  refine ⟨n, _, h1, h2, h3, hpost _ _ _ _ _ _ ⟨Cond.after_iff.mpr rfl, Cond.after_iff.mpr (eq_i res_at (Term.int_eval (1)) rfl), trivial⟩ ⟨hq.1, hq.2.1, (hq.2.2.sift fun y hy => Or.inr (N y hy)).mono (by decide) (by decide)⟩⟩
theorem main_1_1 : Claimed_1_1 := comes_1 fun _ _ _ _ _ _ h hF => ⟨h.1, hF⟩
theorem main_1_2 : Claimed_1_2 := comes_1 fun _ _ _ _ _ _ h hF => ⟨h.2.1, hF⟩
end Jvm.Pilot.@@N@@
namespace Jvm.Pilot.@@N@@
open Jvm Jvm.ClassFile Sem Op Lib Jvm.Free Jvm.Stand Jvm.Pilot.@@N@@.Jvm.D
/-! MADE BY PROGRAM (witnessworld.py) out of the Statement's table words and the real class files: 27 classes; the members and pool entries that the words name. The judged class is class 1, her method 1. -/
namespace start1
open Jvm.ClassFile
def u (s : String) : CpInfo := .utf8 (stringToUtf16 s)
/-- a pool by its gaps: so many unusable entries, then the entry; so many at the end -/
def gap : Nat → List CpInfo → List CpInfo
  | 0, r => r
  | n + 1, r => .unusable :: gap n r
def poolList (es : List (Nat × CpInfo)) (last : Nat) : List CpInfo := es.foldr (fun e r => gap e.1 (e.2 :: r)) (gap last [])
def pool (es : List (Nat × CpInfo)) (last : Nat) : Array CpInfo := ⟨poolList es last⟩
def fileOf (pool : Array CpInfo) (this : Nat) (attrs : Array Attribute := #[]) (ms : Array MethodInfo := #[]) (fl : Nat := 33) (sup : Nat := 0) (ifs : Array Nat := #[]) (fds : Array FieldInfo := #[]) : ClassFile where
  minorVersion := 0
  majorVersion := 65
  constantPool := pool
  accessFlags := fl
  thisClass := this
  superClass := sup
  interfaces := ifs
  fields := fds
  methods := ms
  attributes := attrs
def plain (name : String) (sup : Option ClassId) : Class where
  name := name
  kind := .ordinary
  loader := none
  accessFlags := 33
  super := sup
  interfaces := #[]
  cf := none
  fields := #[]
  methods := #[]
  instanceTypes := #[]
  staticTypes := #[]
  resolved := #[]
  callSites := []
  init := .initialized
  statics := none
  mirror := none

def pool0 : Array CpInfo := pool [(5, u "<init>"), (0, u "()V"), (1, .class_ 10), (1, u "java/lang/Object")] 113

def k0c0 : Code := { maxStack := 0, maxLocals := 1, code := object_method_1_code, exceptionTable := #[], attributes := #[] }
def k0m0 : Method := { name := "<init>", desc := "()V", sig := { parameters := [], returnType := none }, accessFlags := 1, code := some k0c0 }
/-- java/lang/Object -/
def k0 : Class := { plain "java/lang/Object" none with
  accessFlags := 33
  interfaces := #[]
  cf := some (fileOf pool0 8 #[] #[{ accessFlags := 1, nameIndex := 5, descriptorIndex := 6, attributes := #[] }] 33 0 #[] #[])
  fields := #[]
  methods := #[k0m0]
  instanceTypes := #[]
  staticTypes := #[]
  resolved := Array.replicate 124 none
  statics := none }

def pool1 : Array CpInfo := pool [(2, .class_ 4), (0, .nameAndType 5 6), (0, u "java/lang/Object"), (0, u "<init>"), (0, u "()V"), (0, .class_ 8), (0, u "com/example/prove_permissions/provepermissions/model/XmiIds"), (0, .methodref 7 3), (0, .class_ 11), (0, u "java/util/ArrayList"), (0, .methodref 10 3), (0, .methodref 7 14), (0, .nameAndType 15 16), (0, u "hold"), (0, u "(ILjava/lang/Object;I)V"), (2, .integer 2147483648), (0, .methodref 7 21), (0, .nameAndType 22 23), (0, u "placeIn"), (0, u "(ILjava/lang/Object;)I"), (0, .class_ 25), (0, u "com/example/prove_permissions/provepermissions/model/XmiIdsPlaceInPinLaw"), (2, u "law"), (0, u "(IIIIII)Z")] 3

def k1m0 : Method := { name := "<init>", desc := "()V", sig := { parameters := [], returnType := none }, accessFlags := 1, code := none }
def k1c1 : Code := { maxStack := 4, maxLocals := 19, code := code, exceptionTable := #[], attributes := #[] }
def k1m1 : Method := { name := "law", desc := "(IIIIII)Z", sig := { parameters := [.int, .int, .int, .int, .int, .int], returnType := some .boolean }, accessFlags := 9, code := some k1c1 }
/-- com/example/prove_permissions/provepermissions/model/XmiIdsPlaceInPinLaw -/
def k1 : Class := { plain "com/example/prove_permissions/provepermissions/model/XmiIdsPlaceInPinLaw" (some 0) with
  accessFlags := 49
  interfaces := #[]
  cf := some (fileOf pool1 24 #[] #[{ accessFlags := 1, nameIndex := 5, descriptorIndex := 6, attributes := #[] }, { accessFlags := 9, nameIndex := 28, descriptorIndex := 29, attributes := #[] }] 49 2 #[] #[])
  fields := #[]
  methods := #[k1m0, k1m1]
  instanceTypes := #[]
  staticTypes := #[]
  resolved := Array.replicate 33 none
  statics := none }

def pool2 : Array CpInfo := pool [(1, .methodref 2 3), (0, .class_ 4), (0, .nameAndType 5 6), (0, u "java/lang/Object"), (0, u "<init>"), (0, u "()V"), (0, .class_ 8), (0, u "com/example/prove_permissions/provepermissions/model/XmiIds"), (0, .class_ 10), (0, u "java/lang/String"), (0, .fieldref 7 12), (0, .nameAndType 13 14), (0, u "slots"), (0, u "[Ljava/lang/String;"), (0, .fieldref 7 16), (0, .nameAndType 17 18), (0, u "slotNumbers"), (0, u "[I"), (0, .class_ 20), (0, u "java/util/HashMap"), (0, .methodref 19 3), (0, .fieldref 7 23), (0, .nameAndType 24 25), (0, u "overflow"), (0, u "Ljava/util/Map;"), (0, .fieldref 7 27), (0, .nameAndType 28 14), (0, u "ids"), (0, .fieldref 7 30), (0, .nameAndType 31 14), (0, u "elementKinds"), (0, .fieldref 7 33), (0, .nameAndType 34 14), (0, u "types"), (0, .fieldref 7 36), (0, .nameAndType 37 38), (0, u "holders"), (0, u "[Ljava/lang/Object;"), (0, .fieldref 7 40), (0, .nameAndType 41 18), (0, u "places"), (12, u "size"), (0, u "I"), (60, u "MAX_PROBES"), (2, u "MIN_SLOTS"), (15, u "hold"), (0, u "(ILjava/lang/Object;I)V"), (0, u "placeIn"), (0, u "(ILjava/lang/Object;)I")] 2

def k2c0 : Code := { maxStack := 3, maxLocals := 1, code := prog_40_method_1_code, exceptionTable := #[], attributes := #[] }
def k2m0 : Method := { name := "<init>", desc := "()V", sig := { parameters := [], returnType := none }, accessFlags := 0, code := some k2c0 }
def k2c1 : Code := { maxStack := 3, maxLocals := 4, code := prog_40_method_9_code, exceptionTable := #[], attributes := #[] }
def k2m1 : Method := { name := "hold", desc := "(ILjava/lang/Object;I)V", sig := { parameters := [.int, (.object "java/lang/Object"), .int], returnType := none }, accessFlags := 0, code := some k2c1 }
def k2c2 : Code := { maxStack := 2, maxLocals := 3, code := prog_40_method_10_code, exceptionTable := #[], attributes := #[] }
def k2m2 : Method := { name := "placeIn", desc := "(ILjava/lang/Object;)I", sig := { parameters := [.int, (.object "java/lang/Object")], returnType := some .int }, accessFlags := 0, code := some k2c2 }
/-- com/example/prove_permissions/provepermissions/model/XmiIds -/
def k2 : Class := { plain "com/example/prove_permissions/provepermissions/model/XmiIds" (some 0) with
  accessFlags := 32
  interfaces := #[]
  cf := some (fileOf pool2 7 #[] #[{ accessFlags := 0, nameIndex := 5, descriptorIndex := 6, attributes := #[] }, { accessFlags := 0, nameIndex := 135, descriptorIndex := 136, attributes := #[] }, { accessFlags := 0, nameIndex := 137, descriptorIndex := 138, attributes := #[] }] 32 2 #[] #[{ accessFlags := 24, nameIndex := 116, descriptorIndex := 55, attributes := #[] }, { accessFlags := 26, nameIndex := 119, descriptorIndex := 55, attributes := #[] }, { accessFlags := 2, nameIndex := 13, descriptorIndex := 14, attributes := #[] }, { accessFlags := 2, nameIndex := 17, descriptorIndex := 18, attributes := #[] }, { accessFlags := 18, nameIndex := 24, descriptorIndex := 25, attributes := #[] }, { accessFlags := 2, nameIndex := 28, descriptorIndex := 14, attributes := #[] }, { accessFlags := 2, nameIndex := 31, descriptorIndex := 14, attributes := #[] }, { accessFlags := 2, nameIndex := 34, descriptorIndex := 14, attributes := #[] }, { accessFlags := 2, nameIndex := 37, descriptorIndex := 38, attributes := #[] }, { accessFlags := 2, nameIndex := 41, descriptorIndex := 18, attributes := #[] }, { accessFlags := 2, nameIndex := 54, descriptorIndex := 55, attributes := #[] }])
  fields := #[{ name := "MAX_PROBES", type := .int, accessFlags := 24, slot := 0, constantValue := 0 }, { name := "MIN_SLOTS", type := .int, accessFlags := 26, slot := 1, constantValue := 0 }, { name := "slots", type := (.array (.object "java/lang/String")), accessFlags := 2, slot := 0, constantValue := 0 }, { name := "slotNumbers", type := (.array .int), accessFlags := 2, slot := 1, constantValue := 0 }, { name := "overflow", type := (.object "java/util/Map"), accessFlags := 18, slot := 2, constantValue := 0 }, { name := "ids", type := (.array (.object "java/lang/String")), accessFlags := 2, slot := 3, constantValue := 0 }, { name := "elementKinds", type := (.array (.object "java/lang/String")), accessFlags := 2, slot := 4, constantValue := 0 }, { name := "types", type := (.array (.object "java/lang/String")), accessFlags := 2, slot := 5, constantValue := 0 }, { name := "holders", type := (.array (.object "java/lang/Object")), accessFlags := 2, slot := 6, constantValue := 0 }, { name := "places", type := (.array .int), accessFlags := 2, slot := 7, constantValue := 0 }, { name := "size", type := .int, accessFlags := 2, slot := 8, constantValue := 0 }]
  methods := #[k2m0, k2m1, k2m2]
  instanceTypes := #[(.array (.object "java/lang/String")), (.array .int), (.object "java/util/Map"), (.array (.object "java/lang/String")), (.array (.object "java/lang/String")), (.array (.object "java/lang/String")), (.array (.object "java/lang/Object")), (.array .int), .int]
  staticTypes := #[.int, .int]
  resolved := Array.replicate 141 none
  statics := none }

def pool3 : Array CpInfo := pool [(1, .class_ 2), (0, u "java/io/Serializable"), (0, .class_ 4), (0, u "java/lang/Object")] 2

/-- java/io/Serializable -/
def k3 : Class := { plain "java/io/Serializable" (some 0) with
  accessFlags := 1537
  interfaces := #[]
  cf := some (fileOf pool3 1 #[] #[] 1537 3 #[] #[])
  fields := #[]
  methods := #[]
  instanceTypes := #[]
  staticTypes := #[]
  resolved := Array.replicate 7 none
  statics := none }

def pool4 : Array CpInfo := pool [(1, .class_ 2), (0, u "java/lang/Comparable"), (0, .class_ 4), (0, u "java/lang/Object")] 7

/-- java/lang/Comparable -/
def k4 : Class := { plain "java/lang/Comparable" (some 0) with
  accessFlags := 1537
  interfaces := #[]
  cf := some (fileOf pool4 1 #[] #[] 1537 3 #[] #[])
  fields := #[]
  methods := #[]
  instanceTypes := #[]
  staticTypes := #[]
  resolved := Array.replicate 12 none
  statics := none }

def pool5 : Array CpInfo := pool [(2, .class_ 4), (1, u "java/lang/CharSequence"), (42, .class_ 48), (0, u "java/lang/CharSequence$1CodePointIterator"), (10, .class_ 60), (0, u "java/lang/CharSequence$1CharIterator"), (5, .class_ 67), (0, u "java/lang/Object")] 63

/-- java/lang/CharSequence -/
def k5 : Class := { plain "java/lang/CharSequence" (some 0) with
  accessFlags := 1537
  interfaces := #[]
  cf := some (fileOf pool5 2 #[.nestMembers #[47, 59]] #[] 1537 66 #[] #[])
  fields := #[]
  methods := #[]
  instanceTypes := #[]
  staticTypes := #[]
  resolved := Array.replicate 131 none
  statics := none }

def pool6 : Array CpInfo := pool [(1, .class_ 2), (0, u "java/lang/constant/Constable"), (0, .class_ 4), (0, u "java/lang/Object")] 6

/-- java/lang/constant/Constable -/
def k6 : Class := { plain "java/lang/constant/Constable" (some 0) with
  accessFlags := 1537
  interfaces := #[]
  cf := some (fileOf pool6 1 #[] #[] 1537 3 #[] #[])
  fields := #[]
  methods := #[]
  instanceTypes := #[]
  staticTypes := #[]
  resolved := Array.replicate 11 none
  statics := none }

def pool7 : Array CpInfo := pool [(1, .class_ 2), (0, u "java/lang/constant/ConstantDesc"), (0, .class_ 4), (0, u "java/lang/Object")] 32

/-- java/lang/constant/ConstantDesc -/
def k7 : Class := { plain "java/lang/constant/ConstantDesc" (some 0) with
  accessFlags := 1537
  interfaces := #[]
  cf := some (fileOf pool7 1 #[] #[] 1537 3 #[] #[])
  fields := #[]
  methods := #[]
  instanceTypes := #[]
  staticTypes := #[]
  resolved := Array.replicate 37 none
  statics := none }

def pool8 : Array CpInfo := pool [(2, .class_ 4), (1, u "java/lang/Object"), (0, u "<init>"), (0, u "()V"), (3, .class_ 12), (1, u "java/lang/String"), (0, u "value"), (0, u "[B"), (2, u "coder"), (0, u "B"), (2, u "hash"), (0, u "I"), (2, u "hashIsZero"), (0, u "Z"), (13, u "COMPACT_STRINGS"), (534, .class_ 576), (0, u "java/lang/CharSequence"), (22, u "CASE_INSENSITIVE_ORDER"), (0, u "Ljava/util/Comparator;"), (500, u "serialPersistentFields"), (0, u "[Ljava/io/ObjectStreamField;"), (0, .class_ 1104), (0, u "java/lang/String$CaseInsensitiveComparator"), (1, .class_ 1107), (0, u "java/io/Serializable"), (0, .class_ 1109), (0, u "java/lang/Comparable"), (0, .class_ 1111), (0, u "java/lang/constant/Constable"), (0, .class_ 1113), (0, u "java/lang/constant/ConstantDesc"), (2, u "serialVersionUID"), (0, u "J"), (3, u "REPL"), (0, u "C"), (2, u "LATIN1"), (1, u "UTF16")] 323

def k8m0 : Method := { name := "<init>", desc := "()V", sig := { parameters := [], returnType := none }, accessFlags := 1, code := none }
/-- java/lang/String -/
def k8 : Class := { plain "java/lang/String" (some 0) with
  accessFlags := 49
  interfaces := #[3, 4, 5, 6, 7]
  cf := some (fileOf pool8 10 #[.nestMembers #[1103]] #[{ accessFlags := 1, nameIndex := 5, descriptorIndex := 6, attributes := #[] }] 49 2 #[1106, 1108, 575, 1110, 1112] #[{ accessFlags := 18, nameIndex := 13, descriptorIndex := 14, attributes := #[] }, { accessFlags := 18, nameIndex := 17, descriptorIndex := 18, attributes := #[] }, { accessFlags := 2, nameIndex := 21, descriptorIndex := 22, attributes := #[] }, { accessFlags := 2, nameIndex := 25, descriptorIndex := 26, attributes := #[] }, { accessFlags := 26, nameIndex := 1116, descriptorIndex := 1117, attributes := #[] }, { accessFlags := 24, nameIndex := 40, descriptorIndex := 26, attributes := #[] }, { accessFlags := 26, nameIndex := 1101, descriptorIndex := 1102, attributes := #[] }, { accessFlags := 26, nameIndex := 1121, descriptorIndex := 1122, attributes := #[] }, { accessFlags := 25, nameIndex := 599, descriptorIndex := 600, attributes := #[] }, { accessFlags := 24, nameIndex := 1125, descriptorIndex := 18, attributes := #[] }, { accessFlags := 24, nameIndex := 1127, descriptorIndex := 18, attributes := #[] }])
  fields := #[{ name := "value", type := (.array .byte), accessFlags := 18, slot := 0, constantValue := 0 }, { name := "coder", type := .byte, accessFlags := 18, slot := 1, constantValue := 0 }, { name := "hash", type := .int, accessFlags := 2, slot := 2, constantValue := 0 }, { name := "hashIsZero", type := .boolean, accessFlags := 2, slot := 3, constantValue := 0 }, { name := "serialVersionUID", type := .long, accessFlags := 26, slot := 0, constantValue := 0 }, { name := "COMPACT_STRINGS", type := .boolean, accessFlags := 24, slot := 1, constantValue := 0 }, { name := "serialPersistentFields", type := (.array (.object "java/io/ObjectStreamField")), accessFlags := 26, slot := 2, constantValue := 0 }, { name := "REPL", type := .char, accessFlags := 26, slot := 3, constantValue := 0 }, { name := "CASE_INSENSITIVE_ORDER", type := (.object "java/util/Comparator"), accessFlags := 25, slot := 4, constantValue := 0 }, { name := "LATIN1", type := .byte, accessFlags := 24, slot := 5, constantValue := 0 }, { name := "UTF16", type := .byte, accessFlags := 24, slot := 6, constantValue := 0 }]
  methods := #[k8m0]
  instanceTypes := #[(.array .byte), .byte, .int, .boolean]
  staticTypes := #[.long, .boolean, (.array (.object "java/io/ObjectStreamField")), .char, (.object "java/util/Comparator"), .byte, .byte]
  resolved := Array.replicate 1451 none
  statics := none }

def pool9 : Array CpInfo := pool [(2, .class_ 4), (1, u "java/util/Map"), (31, .class_ 37), (0, u "java/util/Map$Entry"), (55, .class_ 94), (0, u "java/lang/Object")] 168

/-- java/util/Map -/
def k9 : Class := { plain "java/util/Map" (some 0) with
  accessFlags := 1537
  interfaces := #[]
  cf := some (fileOf pool9 2 #[.nestMembers #[36]] #[] 1537 93 #[] #[])
  fields := #[]
  methods := #[]
  instanceTypes := #[]
  staticTypes := #[]
  resolved := Array.replicate 263 none
  statics := none }

def pool10 : Array CpInfo := pool [(1, .methodref 2 3), (0, .class_ 4), (0, .nameAndType 5 6), (0, u "java/lang/Object"), (0, u "<init>"), (0, u "()V"), (1, .class_ 10), (1, u "java/util/AbstractMap"), (42, .class_ 54), (0, u "java/util/Map"), (9, u "keySet"), (0, u "Ljava/util/Set;"), (0, .class_ 67), (0, u "java/util/AbstractMap$1"), (5, u "values"), (0, u "Ljava/util/Collection;"), (0, .class_ 76), (0, u "java/util/AbstractMap$2"), (104, .class_ 182), (0, u "java/util/AbstractMap$ViewCollection"), (0, .class_ 184), (0, u "java/util/AbstractMap$SimpleImmutableEntry"), (0, .class_ 186), (0, u "java/util/AbstractMap$SimpleEntry"), (0, .class_ 188), (0, u "java/util/AbstractMap$2$1"), (0, .class_ 190), (0, u "java/util/AbstractMap$1$1")] 5

def k10c0 : Code := { maxStack := 1, maxLocals := 1, code := jdk_71_method_1_code, exceptionTable := #[], attributes := #[] }
def k10m0 : Method := { name := "<init>", desc := "()V", sig := { parameters := [], returnType := none }, accessFlags := 4, code := some k10c0 }
/-- java/util/AbstractMap -/
def k10 : Class := { plain "java/util/AbstractMap" (some 0) with
  accessFlags := 1057
  interfaces := #[9]
  cf := some (fileOf pool10 8 #[.nestMembers #[181, 183, 185, 75, 187, 66, 189]] #[{ accessFlags := 4, nameIndex := 5, descriptorIndex := 6, attributes := #[] }] 1057 2 #[53] #[{ accessFlags := 128, nameIndex := 64, descriptorIndex := 65, attributes := #[] }, { accessFlags := 128, nameIndex := 73, descriptorIndex := 74, attributes := #[] }])
  fields := #[{ name := "keySet", type := (.object "java/util/Set"), accessFlags := 128, slot := 0, constantValue := 0 }, { name := "values", type := (.object "java/util/Collection"), accessFlags := 128, slot := 1, constantValue := 0 }]
  methods := #[k10m0]
  instanceTypes := #[(.object "java/util/Set"), (.object "java/util/Collection")]
  staticTypes := #[]
  resolved := Array.replicate 196 none
  statics := none }

def pool11 : Array CpInfo := pool [(1, .class_ 2), (0, u "java/lang/Cloneable"), (0, .class_ 4), (0, u "java/lang/Object")] 2

/-- java/lang/Cloneable -/
def k11 : Class := { plain "java/lang/Cloneable" (some 0) with
  accessFlags := 1537
  interfaces := #[]
  cf := some (fileOf pool11 1 #[] #[] 1537 3 #[] #[])
  fields := #[]
  methods := #[]
  instanceTypes := #[]
  staticTypes := #[]
  resolved := Array.replicate 7 none
  statics := none }

def pool12 : Array CpInfo := pool [(40, .class_ 41), (0, u "java/util/HashMap"), (1, .methodref 44 45), (0, .class_ 46), (0, .nameAndType 47 48), (0, u "java/util/AbstractMap"), (0, u "<init>"), (0, u "()V"), (32, .fieldref 40 82), (0, .nameAndType 83 84), (0, u "loadFactor"), (0, u "F"), (5, u "threshold"), (0, u "I"), (0, .float 1061158912), (8, .class_ 103), (1, u "java/util/Map"), (0, u "size"), (2, u "table"), (0, u "[Ljava/util/HashMap$Node;"), (14, u "entrySet"), (39, .class_ 165), (1, u "java/util/HashMap$Node"), (14, .class_ 181), (0, u "java/util/HashMap$TreeNode"), (22, u "modCount"), (37, u "Ljava/util/Set;"), (0, .class_ 244), (0, u "java/util/HashMap$KeySet"), (18, .class_ 264), (0, u "java/util/HashMap$Values"), (3, .class_ 269), (0, u "java/util/HashMap$EntrySet"), (76, .class_ 348), (1, u "java/util/HashMap$UnsafeHolder"), (43, .class_ 393), (0, u "java/lang/Cloneable"), (0, .class_ 395), (0, u "java/io/Serializable"), (0, u "serialVersionUID"), (0, u "J"), (3, u "DEFAULT_INITIAL_CAPACITY"), (1, u "MAXIMUM_CAPACITY"), (0, u "DEFAULT_LOAD_FACTOR"), (0, u "TREEIFY_THRESHOLD"), (1, u "UNTREEIFY_THRESHOLD"), (1, u "MIN_TREEIFY_CAPACITY"), (186, .class_ 597), (0, u "java/util/HashMap$EntrySpliterator"), (0, .class_ 599), (0, u "java/util/HashMap$ValueSpliterator"), (0, .class_ 601), (0, u "java/util/HashMap$KeySpliterator"), (0, .class_ 603), (0, u "java/util/HashMap$HashMapSpliterator"), (0, .class_ 605), (0, u "java/util/HashMap$EntryIterator"), (0, .class_ 607), (0, u "java/util/HashMap$ValueIterator"), (0, .class_ 609), (0, u "java/util/HashMap$KeyIterator"), (0, .class_ 611), (0, u "java/util/HashMap$HashIterator")] 17

def k12c0 : Code := { maxStack := 2, maxLocals := 1, code := jdk_69_method_7_code, exceptionTable := #[], attributes := #[] }
def k12m0 : Method := { name := "<init>", desc := "()V", sig := { parameters := [], returnType := none }, accessFlags := 1, code := some k12c0 }
/-- java/util/HashMap -/
def k12 : Class := { plain "java/util/HashMap" (some 10) with
  accessFlags := 33
  interfaces := #[9, 11, 3]
  cf := some (fileOf pool12 40 #[.nestMembers #[180, 596, 598, 600, 602, 604, 606, 608, 610, 346, 268, 263, 243, 163]] #[{ accessFlags := 1, nameIndex := 47, descriptorIndex := 48, attributes := #[] }] 33 44 #[101, 392, 394] #[{ accessFlags := 26, nameIndex := 396, descriptorIndex := 397, attributes := #[] }, { accessFlags := 24, nameIndex := 401, descriptorIndex := 91, attributes := #[] }, { accessFlags := 24, nameIndex := 403, descriptorIndex := 91, attributes := #[] }, { accessFlags := 24, nameIndex := 404, descriptorIndex := 84, attributes := #[] }, { accessFlags := 24, nameIndex := 405, descriptorIndex := 91, attributes := #[] }, { accessFlags := 24, nameIndex := 407, descriptorIndex := 91, attributes := #[] }, { accessFlags := 24, nameIndex := 409, descriptorIndex := 91, attributes := #[] }, { accessFlags := 128, nameIndex := 107, descriptorIndex := 108, attributes := #[] }, { accessFlags := 128, nameIndex := 123, descriptorIndex := 242, attributes := #[] }, { accessFlags := 128, nameIndex := 104, descriptorIndex := 91, attributes := #[] }, { accessFlags := 128, nameIndex := 204, descriptorIndex := 91, attributes := #[] }, { accessFlags := 0, nameIndex := 90, descriptorIndex := 91, attributes := #[] }, { accessFlags := 16, nameIndex := 83, descriptorIndex := 84, attributes := #[] }])
  fields := #[{ name := "serialVersionUID", type := .long, accessFlags := 26, slot := 0, constantValue := 0 }, { name := "DEFAULT_INITIAL_CAPACITY", type := .int, accessFlags := 24, slot := 1, constantValue := 0 }, { name := "MAXIMUM_CAPACITY", type := .int, accessFlags := 24, slot := 2, constantValue := 0 }, { name := "DEFAULT_LOAD_FACTOR", type := .float, accessFlags := 24, slot := 3, constantValue := 0 }, { name := "TREEIFY_THRESHOLD", type := .int, accessFlags := 24, slot := 4, constantValue := 0 }, { name := "UNTREEIFY_THRESHOLD", type := .int, accessFlags := 24, slot := 5, constantValue := 0 }, { name := "MIN_TREEIFY_CAPACITY", type := .int, accessFlags := 24, slot := 6, constantValue := 0 }, { name := "table", type := (.array (.object "java/util/HashMap$Node")), accessFlags := 128, slot := 2, constantValue := 0 }, { name := "entrySet", type := (.object "java/util/Set"), accessFlags := 128, slot := 3, constantValue := 0 }, { name := "size", type := .int, accessFlags := 128, slot := 4, constantValue := 0 }, { name := "modCount", type := .int, accessFlags := 128, slot := 5, constantValue := 0 }, { name := "threshold", type := .int, accessFlags := 0, slot := 6, constantValue := 0 }, { name := "loadFactor", type := .float, accessFlags := 16, slot := 7, constantValue := 0 }]
  methods := #[k12m0]
  instanceTypes := #[(.object "java/util/Set"), (.object "java/util/Collection"), (.array (.object "java/util/HashMap$Node")), (.object "java/util/Set"), .int, .int, .int, .float]
  staticTypes := #[.long, .int, .int, .float, .int, .int, .int]
  resolved := Array.replicate 629 none
  statics := none }

def pool13 : Array CpInfo := pool [(8, .class_ 10), (1, u "java/lang/Iterable"), (24, .class_ 36), (0, u "java/lang/Object")] 25

/-- java/lang/Iterable -/
def k13 : Class := { plain "java/lang/Iterable" (some 0) with
  accessFlags := 1537
  interfaces := #[]
  cf := some (fileOf pool13 8 #[] #[] 1537 35 #[] #[])
  fields := #[]
  methods := #[]
  instanceTypes := #[]
  staticTypes := #[]
  resolved := Array.replicate 62 none
  statics := none }

def pool14 : Array CpInfo := pool [(10, .class_ 12), (1, u "java/util/Collection"), (47, .class_ 61), (0, u "java/lang/Object"), (0, .class_ 63), (0, u "java/lang/Iterable")] 51

/-- java/util/Collection -/
def k14 : Class := { plain "java/util/Collection" (some 0) with
  accessFlags := 1537
  interfaces := #[13]
  cf := some (fileOf pool14 10 #[] #[] 1537 60 #[62] #[])
  fields := #[]
  methods := #[]
  instanceTypes := #[]
  staticTypes := #[]
  resolved := Array.replicate 115 none
  statics := none }

def pool15 : Array CpInfo := pool [(1, .methodref 2 3), (0, .class_ 4), (0, .nameAndType 5 6), (0, u "java/lang/Object"), (0, u "<init>"), (0, u "()V"), (1, .class_ 10), (1, u "java/util/AbstractCollection"), (66, .class_ 78), (0, u "java/util/Collection")] 81

def k15c0 : Code := { maxStack := 1, maxLocals := 1, code := jdk_22_method_1_code, exceptionTable := #[], attributes := #[] }
def k15m0 : Method := { name := "<init>", desc := "()V", sig := { parameters := [], returnType := none }, accessFlags := 4, code := some k15c0 }
/-- java/util/AbstractCollection -/
def k15 : Class := { plain "java/util/AbstractCollection" (some 0) with
  accessFlags := 1057
  interfaces := #[14]
  cf := some (fileOf pool15 8 #[] #[{ accessFlags := 4, nameIndex := 5, descriptorIndex := 6, attributes := #[] }] 1057 2 #[77] #[])
  fields := #[]
  methods := #[k15m0]
  instanceTypes := #[]
  staticTypes := #[]
  resolved := Array.replicate 160 none
  statics := none }

def pool16 : Array CpInfo := pool [(8, .class_ 10), (1, u "java/util/SequencedCollection"), (15, .class_ 27), (0, u "java/lang/Object"), (0, .class_ 29), (0, u "java/util/Collection")] 27

/-- java/util/SequencedCollection -/
def k16 : Class := { plain "java/util/SequencedCollection" (some 0) with
  accessFlags := 1537
  interfaces := #[14]
  cf := some (fileOf pool16 8 #[] #[] 1537 26 #[28] #[])
  fields := #[]
  methods := #[]
  instanceTypes := #[]
  staticTypes := #[]
  resolved := Array.replicate 57 none
  statics := none }

def pool17 : Array CpInfo := pool [(8, .class_ 10), (1, u "java/util/List"), (92, .class_ 104), (0, u "java/lang/Object"), (15, .class_ 121), (0, u "java/util/SequencedCollection")] 129

/-- java/util/List -/
def k17 : Class := { plain "java/util/List" (some 0) with
  accessFlags := 1537
  interfaces := #[16]
  cf := some (fileOf pool17 8 #[] #[] 1537 103 #[120] #[])
  fields := #[]
  methods := #[]
  instanceTypes := #[]
  staticTypes := #[]
  resolved := Array.replicate 251 none
  statics := none }

def pool18 : Array CpInfo := pool [(1, .methodref 2 3), (0, .class_ 4), (0, .nameAndType 5 6), (0, u "java/util/AbstractCollection"), (0, u "<init>"), (0, u "()V"), (0, .fieldref 8 9), (0, .class_ 10), (0, .nameAndType 11 12), (0, u "java/util/AbstractList"), (0, u "modCount"), (0, u "I"), (64, .class_ 78), (0, u "java/util/AbstractList$Itr"), (3, .class_ 83), (0, u "java/util/AbstractList$ListItr"), (9, .class_ 94), (0, u "java/util/AbstractList$RandomAccessSubList"), (3, .class_ 99), (0, u "java/util/AbstractList$SubList"), (33, .class_ 134), (0, u "java/util/List"), (73, .class_ 209), (0, u "java/util/AbstractList$SubList$1"), (0, .class_ 211), (0, u "java/util/AbstractList$RandomAccessSpliterator")] 6

def k18c0 : Code := { maxStack := 2, maxLocals := 1, code := jdk_39_method_1_code, exceptionTable := #[], attributes := #[] }
def k18m0 : Method := { name := "<init>", desc := "()V", sig := { parameters := [], returnType := none }, accessFlags := 4, code := some k18c0 }
/-- java/util/AbstractList -/
def k18 : Class := { plain "java/util/AbstractList" (some 15) with
  accessFlags := 1057
  interfaces := #[17]
  cf := some (fileOf pool18 8 #[.nestMembers #[93, 98, 208, 210, 82, 77]] #[{ accessFlags := 4, nameIndex := 5, descriptorIndex := 6, attributes := #[] }] 1057 2 #[133] #[{ accessFlags := 132, nameIndex := 11, descriptorIndex := 12, attributes := #[] }])
  fields := #[{ name := "modCount", type := .int, accessFlags := 132, slot := 0, constantValue := 0 }]
  methods := #[k18m0]
  instanceTypes := #[.int]
  staticTypes := #[]
  resolved := Array.replicate 218 none
  statics := none }

def pool19 : Array CpInfo := pool [(1, .class_ 2), (0, u "java/util/RandomAccess"), (0, .class_ 4), (0, u "java/lang/Object")] 2

/-- java/util/RandomAccess -/
def k19 : Class := { plain "java/util/RandomAccess" (some 0) with
  accessFlags := 1537
  interfaces := #[]
  cf := some (fileOf pool19 1 #[] #[] 1537 3 #[] #[])
  fields := #[]
  methods := #[]
  instanceTypes := #[]
  staticTypes := #[]
  resolved := Array.replicate 7 none
  statics := none }

def pool20 : Array CpInfo := pool [(1, .methodref 2 3), (0, .class_ 4), (0, .nameAndType 5 6), (0, u "java/util/AbstractList"), (0, u "<init>"), (0, u "()V"), (2, .fieldref 10 11), (0, .class_ 12), (0, .nameAndType 13 14), (0, u "java/util/ArrayList"), (0, u "elementData"), (0, u "[Ljava/lang/Object;"), (2, u "EMPTY_ELEMENTDATA"), (21, .fieldref 10 40), (0, .nameAndType 41 14), (0, u "DEFAULTCAPACITY_EMPTY_ELEMENTDATA"), (8, u "size"), (0, u "I"), (96, .class_ 149), (0, u "java/util/List"), (112, .class_ 263), (0, u "java/util/ArrayList$ListItr"), (3, .class_ 268), (0, u "java/util/ArrayList$Itr"), (7, .class_ 277), (0, u "java/util/ArrayList$SubList"), (12, .class_ 291), (0, u "java/util/ArrayList$ArrayListSpliterator"), (37, .class_ 330), (0, u "java/util/RandomAccess"), (0, .class_ 332), (0, u "java/lang/Cloneable"), (0, .class_ 334), (0, u "java/io/Serializable"), (0, u "serialVersionUID"), (0, u "J"), (3, u "DEFAULT_CAPACITY"), (159, .class_ 501), (0, u "java/util/ArrayList$SubList$2"), (0, .class_ 503), (0, u "java/util/ArrayList$SubList$1")] 5

def k20c0 : Code := { maxStack := 2, maxLocals := 1, code := jdk_38_method_2_code, exceptionTable := #[], attributes := #[] }
def k20m0 : Method := { name := "<init>", desc := "()V", sig := { parameters := [], returnType := none }, accessFlags := 1, code := some k20c0 }
/-- java/util/ArrayList -/
def k20 : Class := { plain "java/util/ArrayList" (some 18) with
  accessFlags := 33
  interfaces := #[17, 19, 11, 3]
  cf := some (fileOf pool20 10 #[.nestMembers #[290, 276, 500, 502, 262, 267]] #[{ accessFlags := 1, nameIndex := 5, descriptorIndex := 6, attributes := #[] }] 33 2 #[148, 329, 331, 333] #[{ accessFlags := 26, nameIndex := 335, descriptorIndex := 336, attributes := #[] }, { accessFlags := 26, nameIndex := 340, descriptorIndex := 51, attributes := #[] }, { accessFlags := 26, nameIndex := 17, descriptorIndex := 14, attributes := #[] }, { accessFlags := 26, nameIndex := 41, descriptorIndex := 14, attributes := #[] }, { accessFlags := 128, nameIndex := 13, descriptorIndex := 14, attributes := #[] }, { accessFlags := 2, nameIndex := 50, descriptorIndex := 51, attributes := #[] }])
  fields := #[{ name := "serialVersionUID", type := .long, accessFlags := 26, slot := 0, constantValue := 0 }, { name := "DEFAULT_CAPACITY", type := .int, accessFlags := 26, slot := 1, constantValue := 0 }, { name := "EMPTY_ELEMENTDATA", type := (.array (.object "java/lang/Object")), accessFlags := 26, slot := 2, constantValue := 0 }, { name := "DEFAULTCAPACITY_EMPTY_ELEMENTDATA", type := (.array (.object "java/lang/Object")), accessFlags := 26, slot := 3, constantValue := 0 }, { name := "elementData", type := (.array (.object "java/lang/Object")), accessFlags := 128, slot := 1, constantValue := 0 }, { name := "size", type := .int, accessFlags := 2, slot := 2, constantValue := 0 }]
  methods := #[k20m0]
  instanceTypes := #[.int, (.array (.object "java/lang/Object")), .int]
  staticTypes := #[.long, .int, (.array (.object "java/lang/Object")), (.array (.object "java/lang/Object"))]
  resolved := Array.replicate 509 none
  statics := some 0 }

/-- the primitive byte -/
def k21 : Class := { plain "byte" none with kind := .primitive 'B', accessFlags := 0x411 }
/-- [B -/
def k22 : Class := { plain "[B" (some 0) with kind := .array 21 .byte, interfaces := #[11, 3], accessFlags := 1041 }

/-- the primitive int -/
def k23 : Class := { plain "int" none with kind := .primitive 'I', accessFlags := 0x411 }
/-- [I -/
def k24 : Class := { plain "[I" (some 0) with kind := .array 23 .int, interfaces := #[11, 3], accessFlags := 1041 }

/-- [Ljava/lang/Object; -/
def k25 : Class := { plain "[Ljava/lang/Object;" (some 0) with kind := .array 0 (.object "java/lang/Object"), interfaces := #[11, 3], accessFlags := 1041 }

/-- [Ljava/lang/String; -/
def k26 : Class := { plain "[Ljava/lang/String;" (some 0) with kind := .array 8 (.object "java/lang/String"), interfaces := #[11, 3], accessFlags := 1041 }

def heap : Heap := #[{ cls := 20, slots := #[.long 0, .int 0, .ref 1, .ref 2], vm := .statics 20 },
  { cls := 25, slots := #[], vm := .none },
  { cls := 25, slots := #[], vm := .none }]
def classes : Array Class := #[k0, k1, k2, k3, k4, k5, k6, k7, k8, k9, k10, k11, k12, k13, k14, k15, k16, k17, k18, k19, k20, k21, k22, k23, k24, k25, k26]
def interned : List (Array UInt16 × Addr) := []
def slotsUsed : Nat := 4
def theMethod : MethodId := ⟨1, 1⟩
def args0 : Array Value := #[.int 5, .int 6, .int 7, .int 8, .int 9, .int 10]
def aboutOver (below : List Frame) : State where
  vm := { classes := classes, interned := interned.toArray }
  heap := heap
  slotsUsed := slotsUsed
  threads := #[{ frames := .invoking theMethod args0 :: below }]
def below0 : List Frame := [.native { method := ⟨0, 0⟩, args := #[] }]
def about1 : State := aboutOver below0
def p0 : Program := .bare "" "" ""
def e0 : Env := launch0.env 0 0 0
theorem w_frames : about1.frames = Frame.invoking theMethod args0 :: below0 := rfl
set_option maxRecDepth 65536 in
theorem w_args : argsFit about1.vm theMethod args0 = true := by decide +kernel
set_option maxRecDepth 65536 in
theorem w_heap : heapFits about1 = true := by decide +kernel
set_option maxRecDepth 65536 in
theorem w_runnable : about1.curStatus? = some .runnable := by decide +kernel
set_option maxRecDepth 65536 in
theorem w_alone : about1.alone = true := by decide +kernel
set_option maxRecDepth 65536 in
theorem w_named : about1.methodNamed? x = some theMethod := by decide +kernel
set_option maxRecDepth 65536 in
theorem w_hears : about1.hears theMethod below0 = true := by decide +kernel
set_option maxRecDepth 65536 in
theorem w_ripe : about1.ripe theMethod args0 below0 = true := by decide +kernel
theorem w_running : about1.status = .running := rfl
set_option maxRecDepth 65536 in
theorem w_room : about1.hasRoom e0.platform room_1 = true :=
  launch0.hasRoom_least _ room_1 (by decide +kernel) (by decide +kernel) (by decide +kernel) (by decide +kernel) (by decide +kernel) (by decide +kernel)
theorem allAtoms_all (ts : List Jvm.Cond) (a : Array Jvm.Value) (st : Jvm.State) : (allAtoms ts).before a st = ts.all (fun c => c.before a st) := by
  induction ts with
  | nil => rfl
  | cons c t ih =>
    show (Jvm.Cond.and c (allAtoms t)).before a st = _
    rw [Jvm.Cond.before_and, ih, List.all_cons]
def words1 : List Jvm.Cond := Jvm.Cond.code x code maxLocals ret :: tables_1
/-- a 'code' word, met by the world's own term for the bytes: nothing is compared byte by byte -/
theorem code_word {y : MethodName} {bytes : ByteArray} {mx : Nat} {rt : Option FieldType} {a : Array Value} {s : State} {m : MethodId} {meth : Method} {c : Code} (h1 : s.methodNamed? y = some m) (h2 : s.vm.method? m = some meth) (h3 : meth.code = some c) (h4 : c.code = bytes)
    (h5 : (c.maxLocals == mx && c.exceptionTable.isEmpty && decide (c.maxStack ≤ mostOperands) && decide (meth.sig.returnType = rt) && !meth.locks && decide (parseMethodDescriptor y.desc = some meth.sig)) = true) : (Jvm.Cond.code y bytes mx rt).before a s = true := by
  simp only [Bool.and_eq_true, beq_iff_eq, Bool.not_eq_true', decide_eq_true_eq] at h5
  obtain ⟨⟨⟨⟨⟨g1, g2⟩, g3⟩, g4⟩, g5⟩, g6⟩ := h5
  simp [Cond.before, Cond.holds, Cond.value, h1, h2, h3, h4, g1, g2, g3, g4, g5, g6]
def isCode : Jvm.Cond → Bool
  | .code _ _ _ _ => true
  | _ => false
theorem all_split {L : List Jvm.Cond} {P : Jvm.Cond → Bool} (h1 : L.all (fun c => isCode c || P c) = true) (h2 : ∀ c ∈ L.filter isCode, P c = true) : L.all P = true := by
  refine List.all_eq_true.mpr fun c hc => ?_
  have h := List.all_eq_true.mp h1 c hc
  rcases Bool.eq_false_or_eq_true (isCode c) with hi | hi
  · exact h2 c (List.mem_filter.mpr ⟨hc, hi⟩)
  · simpa [hi] using h
set_option maxRecDepth 65536 in
theorem w_c0 : (Jvm.Cond.code x code maxLocals ret).before args0 about1 = true := code_word (m := ⟨1, 1⟩) (meth := k1m1) (c := k1c1) (by decide +kernel) rfl rfl rfl (by decide +kernel)
set_option maxRecDepth 65536 in
theorem w_c1 : (Jvm.Cond.code ({ cls := "com/example/prove_permissions/provepermissions/model/XmiIds", name := "<init>", desc := "()V" } : Jvm.MethodName) prog_40_method_1_code (1 : Nat) (Option.none : Option Jvm.ClassFile.FieldType)).before args0 about1 = true := code_word (m := ⟨2, 0⟩) (meth := k2m0) (c := k2c0) (by decide +kernel) rfl rfl rfl (by decide +kernel)
set_option maxRecDepth 65536 in
theorem w_c2 : (Jvm.Cond.code ({ cls := "java/lang/Object", name := "<init>", desc := "()V" } : Jvm.MethodName) object_method_1_code (1 : Nat) (Option.none : Option Jvm.ClassFile.FieldType)).before args0 about1 = true := code_word (m := ⟨0, 0⟩) (meth := k0m0) (c := k0c0) (by decide +kernel) rfl rfl rfl (by decide +kernel)
set_option maxRecDepth 65536 in
theorem w_c3 : (Jvm.Cond.code ({ cls := "java/util/HashMap", name := "<init>", desc := "()V" } : Jvm.MethodName) jdk_69_method_7_code (1 : Nat) (Option.none : Option Jvm.ClassFile.FieldType)).before args0 about1 = true := code_word (m := ⟨12, 0⟩) (meth := k12m0) (c := k12c0) (by decide +kernel) rfl rfl rfl (by decide +kernel)
set_option maxRecDepth 65536 in
theorem w_c4 : (Jvm.Cond.code ({ cls := "java/util/AbstractMap", name := "<init>", desc := "()V" } : Jvm.MethodName) jdk_71_method_1_code (1 : Nat) (Option.none : Option Jvm.ClassFile.FieldType)).before args0 about1 = true := code_word (m := ⟨10, 0⟩) (meth := k10m0) (c := k10c0) (by decide +kernel) rfl rfl rfl (by decide +kernel)
set_option maxRecDepth 65536 in
theorem w_c5 : (Jvm.Cond.code ({ cls := "java/util/ArrayList", name := "<init>", desc := "()V" } : Jvm.MethodName) jdk_38_method_2_code (1 : Nat) (Option.none : Option Jvm.ClassFile.FieldType)).before args0 about1 = true := code_word (m := ⟨20, 0⟩) (meth := k20m0) (c := k20c0) (by decide +kernel) rfl rfl rfl (by decide +kernel)
set_option maxRecDepth 65536 in
theorem w_c6 : (Jvm.Cond.code ({ cls := "java/util/AbstractList", name := "<init>", desc := "()V" } : Jvm.MethodName) jdk_39_method_1_code (1 : Nat) (Option.none : Option Jvm.ClassFile.FieldType)).before args0 about1 = true := code_word (m := ⟨18, 0⟩) (meth := k18m0) (c := k18c0) (by decide +kernel) rfl rfl rfl (by decide +kernel)
set_option maxRecDepth 65536 in
theorem w_c7 : (Jvm.Cond.code ({ cls := "java/util/AbstractCollection", name := "<init>", desc := "()V" } : Jvm.MethodName) jdk_22_method_1_code (1 : Nat) (Option.none : Option Jvm.ClassFile.FieldType)).before args0 about1 = true := code_word (m := ⟨15, 0⟩) (meth := k15m0) (c := k15c0) (by decide +kernel) rfl rfl rfl (by decide +kernel)
set_option maxRecDepth 65536 in
theorem w_c8 : (Jvm.Cond.code ({ cls := "com/example/prove_permissions/provepermissions/model/XmiIds", name := "hold", desc := "(ILjava/lang/Object;I)V" } : Jvm.MethodName) prog_40_method_9_code (4 : Nat) (Option.none : Option Jvm.ClassFile.FieldType)).before args0 about1 = true := code_word (m := ⟨2, 1⟩) (meth := k2m1) (c := k2c1) (by decide +kernel) rfl rfl rfl (by decide +kernel)
set_option maxRecDepth 65536 in
theorem w_c9 : (Jvm.Cond.code ({ cls := "com/example/prove_permissions/provepermissions/model/XmiIds", name := "placeIn", desc := "(ILjava/lang/Object;)I" } : Jvm.MethodName) prog_40_method_10_code (3 : Nat) (Option.some Jvm.ClassFile.FieldType.int)).before args0 about1 = true := code_word (m := ⟨2, 2⟩) (meth := k2m2) (c := k2c2) (by decide +kernel) rfl rfl rfl (by decide +kernel)
def codes1 : List Jvm.Cond := [Jvm.Cond.code x code maxLocals ret, Jvm.Cond.code ({ cls := "com/example/prove_permissions/provepermissions/model/XmiIds", name := "<init>", desc := "()V" } : Jvm.MethodName) prog_40_method_1_code (1 : Nat) (Option.none : Option Jvm.ClassFile.FieldType), Jvm.Cond.code ({ cls := "java/lang/Object", name := "<init>", desc := "()V" } : Jvm.MethodName) object_method_1_code (1 : Nat) (Option.none : Option Jvm.ClassFile.FieldType), Jvm.Cond.code ({ cls := "java/util/HashMap", name := "<init>", desc := "()V" } : Jvm.MethodName) jdk_69_method_7_code (1 : Nat) (Option.none : Option Jvm.ClassFile.FieldType), Jvm.Cond.code ({ cls := "java/util/AbstractMap", name := "<init>", desc := "()V" } : Jvm.MethodName) jdk_71_method_1_code (1 : Nat) (Option.none : Option Jvm.ClassFile.FieldType), Jvm.Cond.code ({ cls := "java/util/ArrayList", name := "<init>", desc := "()V" } : Jvm.MethodName) jdk_38_method_2_code (1 : Nat) (Option.none : Option Jvm.ClassFile.FieldType), Jvm.Cond.code ({ cls := "java/util/AbstractList", name := "<init>", desc := "()V" } : Jvm.MethodName) jdk_39_method_1_code (1 : Nat) (Option.none : Option Jvm.ClassFile.FieldType), Jvm.Cond.code ({ cls := "java/util/AbstractCollection", name := "<init>", desc := "()V" } : Jvm.MethodName) jdk_22_method_1_code (1 : Nat) (Option.none : Option Jvm.ClassFile.FieldType), Jvm.Cond.code ({ cls := "com/example/prove_permissions/provepermissions/model/XmiIds", name := "hold", desc := "(ILjava/lang/Object;I)V" } : Jvm.MethodName) prog_40_method_9_code (4 : Nat) (Option.none : Option Jvm.ClassFile.FieldType), Jvm.Cond.code ({ cls := "com/example/prove_permissions/provepermissions/model/XmiIds", name := "placeIn", desc := "(ILjava/lang/Object;)I" } : Jvm.MethodName) prog_40_method_10_code (3 : Nat) (Option.some Jvm.ClassFile.FieldType.int)]
set_option maxRecDepth 65536 in
theorem codes_eq : words1.filter isCode = codes1 := rfl
theorem w_codes : ∀ c ∈ words1.filter isCode, c.before args0 about1 = true := by
  rw [codes_eq]
  intro c hc
  simp only [codes1, List.mem_cons, List.not_mem_nil, or_false] at hc
  rcases hc with rfl | rfl | rfl | rfl | rfl | rfl | rfl | rfl | rfl | rfl
  · exact w_c0
  · exact w_c1
  · exact w_c2
  · exact w_c3
  · exact w_c4
  · exact w_c5
  · exact w_c6
  · exact w_c7
  · exact w_c8
  · exact w_c9
set_option maxRecDepth 65536 in
theorem w_t1 : (words1.take 24).all (fun c => isCode c || c.before args0 about1) = true := by decide +kernel
set_option maxRecDepth 65536 in
theorem w_t2 : ((words1.drop 24).take 24).all (fun c => isCode c || c.before args0 about1) = true := by decide +kernel
set_option maxRecDepth 65536 in
theorem w_t3 : (((words1.drop 24).drop 24).take 24).all (fun c => isCode c || c.before args0 about1) = true := by decide +kernel
set_option maxRecDepth 65536 in
theorem w_t4 : (((words1.drop 24).drop 24).drop 24).all (fun c => isCode c || c.before args0 about1) = true := by decide +kernel
theorem w_tables : (allAtoms (Jvm.Cond.code x code maxLocals ret :: tables_1)).before args0 about1 = true := by
  rw [allAtoms_all]
  show words1.all (fun c => c.before args0 about1) = true
  refine all_split ?_ w_codes
  rw [← List.take_append_drop 24 words1, List.all_append, w_t1, ← List.take_append_drop 24 (words1.drop 24), List.all_append, w_t2, ← List.take_append_drop 24 ((words1.drop 24).drop 24), List.all_append, w_t3, w_t4]
  rfl
set_option maxRecDepth 65536 in
theorem w_rest : rest_1_c.before args0 about1 = true := by decide +kernel
set_option maxRecDepth 65536 in
theorem w_case : (Jvm.Cond.and given_1 narrow_1).before args0 about1 = true := by decide +kernel
theorem w_applies : (headSpec (Jvm.Cond.code x code maxLocals ret :: tables_1) room_1).applies x e0.platform about1 = true :=
  (Spec.applies_iff w_frames).mpr ⟨w_running, w_runnable, w_alone, w_named, w_hears, w_ripe, w_room, w_tables⟩
theorem atStart : AtStart classFile x code maxLocals ret World_1 tables_1 room_1 Calls_1 rest_1 Pre_1 launch0 p0 e0 about1 theMethod args0 below0 :=
  ⟨lists_1, trivial, launch0.admits_env _ _ _, launch0.least_env, fairChoices_fair.cas, fairChoices_fair.clock, w_frames, w_args, w_heap, w_applies, trivial, w_rest, w_case⟩
end start1
theorem witness_1 : WitnessClaimed_1 := ⟨start1.p0, start1.e0, start1.about1, start1.theMethod, start1.args0, start1.below0, start1.atStart⟩
end Jvm.Pilot.@@N@@
