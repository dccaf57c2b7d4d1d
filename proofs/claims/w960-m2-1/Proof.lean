import JvmDerived
import JvmDerived.Pilot.@@N@@Statement
import JvmDerived.Pilot.@@N@@Code
set_option linter.unusedVariables false
set_option linter.unusedSimpArgs false
namespace Jvm.OwnKit
open Sem ClassFile Op Lib Jvm.Stand Jvm.Free Jvm.LawKit Jvm.RoadKit
section Own
variable {p : Program} {l : Launch} {e : Env} {R : Room} {s : State} {m : MethodId} {args : Array Value} {below : List Frame} {meth : Method} {c : Code} {T : State} {locs : List Loc} {cells slots : Nat} {Z : State} {a0 : Array Value} {h : Heap}
/-- a walk comes to its return; Q says what it leaves -/
def Done (p : Program) (e : Env) (below : List Frame) (s : State) (R : Room) (Q : Option Value → Heap → List Loc → Prop) (U : State) : Prop :=
  ∃ s₂ o, Steps p.tables e below U s₂ ∧ s₂.status = .running ∧ Ended s₂ below o ∧ ∃ v L, o = .returned v ∧ Q v s₂.heap L ∧ FrameEnd s o s₂ L R.cells R.slots
variable {Q : Option Value → Heap → List Loc → Prop} {U U' : State}
theorem Done.step (k : ∀ t, Steps p.tables e below U' t → Steps p.tables e below U t) (h : Done p e below s R Q U') : Done p e below s R Q U := by
  obtain ⟨s₂, o, h1, r⟩ := h
  exact ⟨s₂, o, k _ h1, r⟩
theorem Done.go (k : Steps p.tables e below U U') (h : Done p e below s R Q U') : Done p e below s R Q U := by
  obtain ⟨s₂, o, h1, r⟩ := h
  exact ⟨s₂, o, k.trans h1, r⟩
theorem Done.mono {Q' : Option Value → Heap → List Loc → Prop} (q : ∀ v h L, Q v h L → Q' v h L) (h : Done p e below s R Q U) : Done p e below s R Q' U := by
  obtain ⟨s₂, o, h1, h2, h3, v, L, h4, h5, h6⟩ := h
  exact ⟨s₂, o, h1, h2, h3, v, L, h4, q _ _ _ h5, h6⟩
theorem Done.retI (X : Stand p l e R s m args below meth c T locs cells slots) (hx : p.tables.exec = Jvm.exec) (hlk : meth.locks = false) {pc : Nat} {Ls : Array Slot} {z : Int32} {rest : List Value} (hret : meth.sig.returnType = some .int) (hd : decode c.code pc = .ok (.ireturn, 1))
    (hc : cells ≤ R.cells) (hs : slots ≤ R.slots) (hq : Q (some (.int z)) T.heap locs) : Done p e below s R Q (T.setTop (mkF m pc Ls (.int z :: rest))) := by
  obtain ⟨fs, hr, hrun, hended, hW, hsame⟩ := X.leave (v := some (.int z)) (fun h => by rw [hret] at h; cases h) hlk
  exact ⟨_, _, retOut X hx hret rfl (Or.inl ⟨rfl, Or.inl rfl, z, rfl⟩) hd hr, hrun, hended, _, _, rfl, hq, ⟨_, rfl⟩, hW, hsame.mono hc hs⟩
theorem Done.retJ (X : Stand p l e R s m args below meth c T locs cells slots) (hx : p.tables.exec = Jvm.exec) (hlk : meth.locks = false) {pc : Nat} {Ls : Array Slot} {z : Int64} {rest : List Value} (hret : meth.sig.returnType = some .long) (hd : decode c.code pc = .ok (.lreturn, 1))
    (hc : cells ≤ R.cells) (hs : slots ≤ R.slots) (hq : Q (some (.long z)) T.heap locs) : Done p e below s R Q (T.setTop (mkF m pc Ls (.long z :: rest))) := by
  obtain ⟨fs, hr, hrun, hended, hW, hsame⟩ := X.leave (v := some (.long z)) (fun h => by rw [hret] at h; cases h) hlk
  exact ⟨_, _, retOut X hx hret rfl (Or.inr (Or.inl ⟨rfl, rfl, z, rfl⟩)) hd hr, hrun, hended, _, _, rfl, hq, ⟨_, rfl⟩, hW, hsame.mono hc hs⟩
theorem Done.retD (X : Stand p l e R s m args below meth c T locs cells slots) (hx : p.tables.exec = Jvm.exec) (hlk : meth.locks = false) {pc : Nat} {Ls : Array Slot} {z : UInt64} {rest : List Value} (hret : meth.sig.returnType = some .double) (hd : decode c.code pc = .ok (.dreturn, 1))
    (hc : cells ≤ R.cells) (hs : slots ≤ R.slots) (hq : Q (some (.double z)) T.heap locs) : Done p e below s R Q (T.setTop (mkF m pc Ls (.double z :: rest))) := by
  obtain ⟨fs, hr, hrun, hended, hW, hsame⟩ := X.leave (v := some (.double z)) (fun h => by rw [hret] at h; cases h) hlk
  exact ⟨_, _, retOut X hx hret rfl (Or.inr (Or.inr (Or.inl ⟨rfl, rfl, z, rfl⟩))) hd hr, hrun, hended, _, _, rfl, hq, ⟨_, rfl⟩, hW, hsame.mono hc hs⟩
theorem Done.retA (X : Stand p l e R s m args below meth c T locs cells slots) (hx : p.tables.exec = Jvm.exec) (hlk : meth.locks = false) {pc : Nat} {Ls : Array Slot} {w : Value} {t : FieldType} {rest : List Value} (hret : meth.sig.returnType = some t) (ht : t.isReference = true) (hw : w.isRef = true) (hd : decode c.code pc = .ok (.areturn, 1))
    (hc : cells ≤ R.cells) (hs : slots ≤ R.slots) (hq : Q (some w) T.heap locs) : Done p e below s R Q (T.setTop (mkF m pc Ls (w :: rest))) := by
  obtain ⟨fs, hr, hrun, hended, hW, hsame⟩ := X.leave (v := some w) (fun h => by rw [hret] at h; cases h) hlk
  have hn : narrow t w = w := by rcases ref_cases hw with rfl | ⟨a, rfl⟩ <;> cases t <;> rfl
  exact ⟨_, _, retOut X hx hret hn (Or.inr (Or.inr (Or.inr (Or.inr ⟨rfl, ht, hw⟩)))) hd hr, hrun, hended, _, _, rfl, hq, ⟨_, rfl⟩, hW, hsame.mono hc hs⟩
theorem Done.retN (X : Stand p l e R s m args below meth c T locs cells slots) (hx : p.tables.exec = Jvm.exec) (hlk : meth.locks = false) {pc : Nat} {Ls : Array Slot} {z : Int32} {t : FieldType} {rest : List Value} (hret : meth.sig.returnType = some t) (ht : t = .boolean ∨ t = .byte ∨ t = .char ∨ t = .short) (hd : decode c.code pc = .ok (.ireturn, 1))
    (hc : cells ≤ R.cells) (hs : slots ≤ R.slots) (hq : Q (some (.int (nar t z))) T.heap locs) : Done p e below s R Q (T.setTop (mkF m pc Ls (.int z :: rest))) := by
  obtain ⟨fs, hr, hrun, hended, hW, hsame⟩ := X.leave (v := some (.int (nar t z))) (fun h => by rw [hret] at h; cases h) hlk
  exact ⟨_, _, Jvm.RoadKit.retN X hx hret ht hd hr, hrun, hended, _, _, rfl, hq, ⟨_, rfl⟩, hW, hsame.mono hc hs⟩
theorem Done.retV (X : Stand p l e R s m args below meth c T locs cells slots) (hx : p.tables.exec = Jvm.exec) (hlk : meth.locks = false) {pc : Nat} {Ls : Array Slot} (hret : meth.sig.returnType = none) (hd : decode c.code pc = .ok (.return_, 1))
    (hc : cells ≤ R.cells) (hs : slots ≤ R.slots) (hq : Q none T.heap locs) : Done p e below s R Q (T.setTop (mkF m pc Ls [])) := by
  obtain ⟨fs, hr, hrun, hended, hW, hsame⟩ := X.leave (v := none) (fun _ => rfl) hlk
  exact ⟨_, _, X.returnOut hx hret hd hr, hrun, hended, _, _, rfl, hq, ⟨_, rfl⟩, hW, hsame.mono hc hs⟩
/-- a body's contract: from the arguments as' and the heap h0 it returns, and Q holds -/
def Ctr (l : Launch) (Z : State) (y : MethodName) (code : ByteArray) (ml : Nat) (rt : Option FieldType) (ws : List Jvm.Cond) (rm : Room) (as' : Array Value) (h0 : Heap) (Q : Option Value → Heap → List Loc → Prop) : Prop :=
  MetFree l y (head1 (Jvm.Cond.code y code ml rt :: ws) rm) (fun a U => a = as' ∧ Z.Warmed39 U.vm ∧ U.heap = h0) (fun _ _ _ _ _ => True) (fun _ U o U' => ∃ v L, o = .returned v ∧ Q v U'.heap L ∧ FrameEnd U o U' L rm.cells rm.slots)
theorem Ctr.mono {y : MethodName} {code : ByteArray} {ml : Nat} {rt : Option FieldType} {ws : List Jvm.Cond} {rm : Room} {as' : Array Value} {h0 : Heap} {Q' : Option Value → Heap → List Loc → Prop} (H : Ctr l Z y code ml rt ws rm as' h0 Q) (q : ∀ v h L, Q v h L → Q' v h L) : Ctr l Z y code ml rt ws rm as' h0 Q' := by
  intro p e ha hc hk s m args below hf happ hP hK
  obtain ⟨n, o, h1, h2, h3, v, L, h4, h5, h6⟩ := H p e ha hc hk s m args below hf happ hP hK
  exact ⟨n, o, h1, h2, h3, v, L, h4, q _ _ _ h5, h6⟩
theorem Ctr.intro {y : MethodName} {code : ByteArray} {ml : Nat} {rt : Option FieldType} {ws : List Jvm.Cond} {rm : Room} {as' : Array Value} {h0 : Heap} {Ls : Array Slot} (hpl : plainFor y = true) (hf : ∀ m, entryFrame m as' ml = mkF m 0 Ls [])
    (body : ∀ (p : Program) (e : Env) (s : State) (m : MethodId) (below : List Frame) (meth : Method) (c : Code) (T : State), p.tables.exec = Jvm.exec → c.code = code → c.maxLocals = ml → s.vm.findClass y.cls = some m.cls → meth.name = y.name → meth.sig.returnType = rt → meth.locks = false → Z.Warmed39 s.vm → T.heap = h0 →
      Stand p l e rm s m as' below meth c T [] 0 0 → Done p e below s rm Q (T.setTop (mkF m 0 Ls []))) : Ctr l Z y code ml rt ws rm as' h0 Q := by
  refine MetFree.of_bodySF hpl hisR ?_
  intro p e s m args below meth c s₁ Bd hml0 hP hK
  obtain ⟨rfl, hZ, hh⟩ := hP
  have X0 : Stand p l e rm s m args below meth c s₁ [] 0 0 := Stand.of_body Bd
  have e0 : s₁.heap = h0 := by rw [← hh, Bd.state]; rfl
  obtain ⟨s₂, o, h1, r⟩ := body p e s m below meth c s₁ Bd.exec Bd.bytes hml0 (findClass_of_methodNamed Bd.named) (name_of_methodNamed Bd.named Bd.method).1 Bd.returns Bd.notSynchronized hZ e0 X0
  exact ⟨s₂, o, castTop (hf m) h1, r⟩
theorem Ctr.back {y : MethodName} {bytes : ByteArray} {maxL : Nat} {ret : Option FieldType} {rm : Room} {len W : Nat} {as' : Array Value} (hM : Ctr l Z y bytes maxL ret [] rm as' h Q)
    (hZ : Z.Warmed39 s.vm) (wc : (Jvm.Cond.code y bytes maxL ret).before a0 Z = true) (wz : (Jvm.Cond.initialized y.cls).before a0 Z = true) (hf : rm.frames + 1 ≤ R.frames) (hl : W + (maxL + 11) + rm.locals ≤ R.locals) :
    Back l R p e below s args y len W (fun A a => a = as' ∧ A.U.heap = h ∧ A.cells + rm.cells ≤ R.cells ∧ A.slots + rm.slots ≤ R.slots)
      (fun A _ v B => ∃ L, Q v B.U.heap L ∧ B.locs = A.locs ++ L ∧ B.cells = A.cells + rm.cells ∧ B.slots = A.slots + rm.slots) := backOf (Q := Q) hM hZ wc wz hf hl
theorem wAt {ws : List Jvm.Cond} (hw : ∀ d ∈ ws, d.before a0 Z = true) (k : Nat) {d : Jvm.Cond} (q : ws[k]? = some d) : d.before a0 Z = true := hw _ (List.mem_of_getElem? q)
theorem int_eq_v {first s : State} {o : Option Outcome} {idx : List Nat} {t : Term} {k : Int32} (q : (Jvm.Cond.eq t (.int k)).value args first o s idx = some true) : t.eval args first o idx s = some (.int k) := by
  cases ht : t.eval args first o idx s with
  | none => simp [Cond.value, ht] at q
  | some x => cases x <;> simp [Cond.value, Term.eval, ht] at q ⊢; exact q
/-- a truth value as the JVM returns it -/
def bP (P : Prop) [Decidable P] : Int32 := if P then 1 else 0
theorem bP_t {P : Prop} [Decidable P] (q : P) : bP P = 1 := if_pos q
theorem bP_f {P : Prop} [Decidable P] (q : ¬ P) : bP P = 0 := if_neg q
/-- what a law leaves: it returns 1, and wrote in new cells alone -/
def LawQ (n0 : Nat) : Option Value → Heap → List Loc → Prop := fun v _ L => v = some (.int 1) ∧ Fr n0 L
/-- what a body leaves that writes and makes nothing -/
def PureQ (r : Option Value) (h0 : Heap) : Option Value → Heap → List Loc → Prop := fun v h L => v = r ∧ h = h0 ∧ L = []
/-- what a constructor leaves of which no more is wanted: it wrote in ws and in new cells alone -/
def QW (n0 : Nat) (h0 : Heap) (ws : List Addr) : Option Value → Heap → List Loc → Prop := fun v h L => v = none ∧ Fr n0 L ∧ Keep h0 h ws
variable {Qc : Option Value → Heap → List Loc → Prop}
theorem Done.callS (X : Stand p l e R s m args below meth c T locs cells slots) (hx : p.tables.exec = Jvm.exec) (hZ : Z.Warmed39 s.vm) {own : String} {index : Nat} {y : MethodName} {bytes : ByteArray} {maxL : Nat} {ret : Option FieldType} {rm : Room} {as' : Array Value}
    (hown : s.vm.findClass own = some m.cls) (w1 : (Jvm.Cond.methodLink own index y).before a0 Z = true) (w2 : (Jvm.Cond.static y).before a0 Z = true) (w3 : (Jvm.Cond.initialized y.cls).before a0 Z = true) (w4 : (Jvm.Cond.code y bytes maxL ret).before a0 Z = true)
    (hy : y.cls ≠ "java/lang/invoke/MethodHandle" ∧ y.cls ≠ "java/lang/invoke/VarHandle") (hM : Ctr l Z y bytes maxL ret [] rm as' h Qc) (eT : T.heap = h)
    {g : JFrame} (hg : g.method = m) (hsize : g.locals.size = c.maxLocals) (argsL rest : List Value) (W : Nat) (hlen : ∀ sig, parseMethodDescriptor y.desc = some sig → argsL.length = sig.parameters.length)
    (hstack : g.stack = argsL.reverse ++ rest) (has : argsL.toArray = as') (hW : 2 * g.monitorRoom + (rest.map fun v => v.category).sum ≤ W) (hdg : decode c.code g.pc = .ok (.invokestatic index, 3))
    (hf : rm.frames + 1 ≤ R.frames) (hl : W + (maxL + 11) + rm.locals ≤ R.locals) (hc : cells + rm.cells ≤ R.cells) (hs : slots + rm.slots ≤ R.slots)
    (k : ∀ (T' : State) (v : Option Value) (L : List Loc), Stand p l e R s m args below meth c T' (locs ++ L) (cells + rm.cells) (slots + rm.slots) → Qc v T'.heap L → Done p e below s R Q (T'.setTop { g with pc := g.pc + 3, stack := v.toList ++ rest })) :
    Done p e below s R Q (T.setTop g) := by
  subst has
  obtain ⟨v, vm₁, ⟨T', L', k', n'⟩, -, X', ⟨L, hq, e1, e2, e3⟩, st⟩ := Jvm.LawKit.callS X hx (y := y) hown (mvT hZ w1) (mvT hZ w2) (mvT hZ w3) (mvT hZ w4) hy (hM.back (W := W) hZ w4 w3 hf hl) hg hsize (argsL := argsL) (rest := rest) hlen hstack hW hdg (fun _ _ => ⟨rfl, eT, hc, hs⟩)
  dsimp only [Pt.U, Pt.locs, Pt.cells, Pt.slots] at X' e1 e2 e3 st hq
  subst e1 e2 e3
  exact Done.step st (k _ _ _ X' hq)
theorem Done.callSP (X : Stand p l e R s m args below meth c T locs cells slots) (hx : p.tables.exec = Jvm.exec) (hZ : Z.Warmed39 s.vm) {own : String} {index : Nat} {y : MethodName} {bytes : ByteArray} {maxL : Nat} {ret : Option FieldType} {rm : Room} {as' : Array Value} {r : Option Value}
    (hown : s.vm.findClass own = some m.cls) (w1 : (Jvm.Cond.methodLink own index y).before a0 Z = true) (w2 : (Jvm.Cond.static y).before a0 Z = true) (w3 : (Jvm.Cond.initialized y.cls).before a0 Z = true) (w4 : (Jvm.Cond.code y bytes maxL ret).before a0 Z = true)
    (hy : y.cls ≠ "java/lang/invoke/MethodHandle" ∧ y.cls ≠ "java/lang/invoke/VarHandle") (hM : Ctr l Z y bytes maxL ret [] rm as' h (PureQ r h)) (eT : T.heap = h)
    {g : JFrame} (hg : g.method = m) (hsize : g.locals.size = c.maxLocals) (argsL rest : List Value) (W : Nat) (hlen : ∀ sig, parseMethodDescriptor y.desc = some sig → argsL.length = sig.parameters.length)
    (hstack : g.stack = argsL.reverse ++ rest) (has : argsL.toArray = as') (hW : 2 * g.monitorRoom + (rest.map fun v => v.category).sum ≤ W) (hdg : decode c.code g.pc = .ok (.invokestatic index, 3))
    (hf : rm.frames + 1 ≤ R.frames) (hl : W + (maxL + 11) + rm.locals ≤ R.locals) (hc : cells ≤ R.cells) (hs : slots ≤ R.slots) (rc : rm.cells = 0) (rs : rm.slots = 0)
    (k : ∀ (T' : State), Stand p l e R s m args below meth c T' locs cells slots → T'.heap = h → Done p e below s R Q (T'.setTop { g with pc := g.pc + 3, stack := r.toList ++ rest })) :
    Done p e below s R Q (T.setTop g) := by
  refine Done.callS X hx hZ hown w1 w2 w3 w4 hy hM eT hg hsize argsL rest W hlen hstack has hW hdg hf hl (by rw [rc]; exact hc) (by rw [rs]; exact hs) ?_
  intro T' v L X' q
  obtain ⟨rfl, e1, rfl⟩ := q
  rw [List.append_nil, rc, rs] at X'
  exact k T' X' e1
theorem Done.callI (X : Stand p l e R s m args below meth c T locs cells slots) (hx : p.tables.exec = Jvm.exec) (hZ : Z.Warmed39 s.vm) {own : String} {index : Nat} {y : MethodName} {bytes : ByteArray} {maxL : Nat} {rm : Room} {as' : Array Value} (hy1 : y.name = "<init>")
    (hown : s.vm.findClass own = some m.cls) (w1 : (Jvm.Cond.methodLink own index y).before a0 Z = true) (w2 : (Jvm.Cond.instanceMethod y).before a0 Z = true) (w3 : (Jvm.Cond.initialized y.cls).before a0 Z = true) (w4 : (Jvm.Cond.code y bytes maxL none).before a0 Z = true)
    (hy : y.cls ≠ "java/lang/invoke/MethodHandle" ∧ y.cls ≠ "java/lang/invoke/VarHandle") (hM : Ctr l Z y bytes maxL none [] rm as' h Qc) (eT : T.heap = h)
    {g : JFrame} (hg : g.method = m) (hsize : g.locals.size = c.maxLocals) (a : Addr) (argsL rest : List Value) (W : Nat) (hlen : ∀ sig, parseMethodDescriptor y.desc = some sig → argsL.length = sig.parameters.length)
    (hstack : g.stack = argsL.reverse ++ .ref a :: rest) (has : (Value.ref a :: argsL).toArray = as') (hW : 2 * g.monitorRoom + (rest.map fun v => v.category).sum ≤ W) (hdg : decode c.code g.pc = .ok (.invokespecial index, 3))
    (hf : rm.frames + 1 ≤ R.frames) (hl : W + (maxL + 11) + rm.locals ≤ R.locals) (hc : cells + rm.cells ≤ R.cells) (hs : slots + rm.slots ≤ R.slots)
    (k : ∀ (T' : State) (v : Option Value) (L : List Loc), Stand p l e R s m args below meth c T' (locs ++ L) (cells + rm.cells) (slots + rm.slots) → Qc v T'.heap L → Done p e below s R Q (T'.setTop { g with pc := g.pc + 3, stack := v.toList ++ rest })) :
    Done p e below s R Q (T.setTop g) := by
  subst has
  obtain ⟨v, vm₁, ⟨T', L', k', n'⟩, -, X', ⟨L, hq, e1, e2, e3⟩, st⟩ := X.specialBack hx (y := y) hy1 hown (mvT hZ w1) (mvT hZ w2) (mvT hZ w4) hy (hM.back (W := W) hZ w4 w3 hf hl) hg hsize (Steps.refl _) (a := a) (argsL := argsL) (rest := rest) hlen hstack hW hdg (fun _ _ => ⟨rfl, eT, hc, hs⟩)
  dsimp only [Pt.U, Pt.locs, Pt.cells, Pt.slots] at X' e1 e2 e3 st hq
  subst e1 e2 e3
  exact Done.go st (k _ _ _ X' hq)
theorem Done.callV (X : Stand p l e R s m args below meth c T locs cells slots) (hx : p.tables.exec = Jvm.exec) (hZ : Z.Warmed39 s.vm) {own C : String} {index : Nat} {y z : MethodName} {bytes : ByteArray} {maxL : Nat} {ret : Option FieldType} {rm : Room} {as' : Array Value}
    (hown : s.vm.findClass own = some m.cls) (w1 : (Jvm.Cond.methodLink own index y).before a0 Z = true) (w2 : (Jvm.Cond.declares y).before a0 Z = true) (hnf : NotFace s y) (w5 : (Jvm.Cond.selects C y z).before a0 Z = true) (w6 : (Jvm.Cond.instanceMethod z).before a0 Z = true)
    (w3 : (Jvm.Cond.initialized z.cls).before a0 Z = true) (w4 : (Jvm.Cond.code z bytes maxL ret).before a0 Z = true)
    (hy : y.cls ≠ "java/lang/invoke/MethodHandle" ∧ y.cls ≠ "java/lang/invoke/VarHandle") (hM : Ctr l Z z bytes maxL ret [] rm as' h Qc) (eT : T.heap = h) {b : Addr} (E : Exa Z h b C)
    {g : JFrame} (hg : g.method = m) (hsize : g.locals.size = c.maxLocals) (argsL rest : List Value) (W : Nat) (hlen : ∀ sig, parseMethodDescriptor y.desc = some sig → argsL.length = sig.parameters.length)
    (hstack : g.stack = argsL.reverse ++ .ref b :: rest) (has : (Value.ref b :: argsL).toArray = as') (hW : 2 * g.monitorRoom + (rest.map fun v => v.category).sum ≤ W) (hdg : decode c.code g.pc = .ok (.invokevirtual index, 3))
    (hf : rm.frames + 1 ≤ R.frames) (hl : W + (maxL + 11) + rm.locals ≤ R.locals) (hc : cells + rm.cells ≤ R.cells) (hs : slots + rm.slots ≤ R.slots)
    (k : ∀ (T' : State) (v : Option Value) (L : List Loc), Stand p l e R s m args below meth c T' (locs ++ L) (cells + rm.cells) (slots + rm.slots) → Qc v T'.heap L → Done p e below s R Q (T'.setTop { g with pc := g.pc + 3, stack := v.toList ++ rest })) :
    Done p e below s R Q (T.setTop g) := by
  subst has
  obtain ⟨cq, kq, qa, qb, qc⟩ := isOf (T := T) hZ eT E
  obtain ⟨v, vm₁, ⟨T', L', k', n'⟩, -, X', ⟨L, hq, e1, e2, e3⟩, st⟩ := X.virtualBack hx (y := y) (z := z) hown (mvT hZ w1) (mvT hZ w2) hnf (mvT hZ w5) (mvT hZ w6) hy (hM.back (W := W) hZ w4 w3 hf hl) qa qc hg hsize (Steps.refl _) (argsL := argsL) (rest := rest) hlen hstack hW hdg (fun _ _ => ⟨rfl, eT, hc, hs⟩)
  dsimp only [Pt.U, Pt.locs, Pt.cells, Pt.slots] at X' e1 e2 e3 st hq
  subst e1 e2 e3
  exact Done.go st (k _ _ _ X' hq)
theorem Done.callVP (X : Stand p l e R s m args below meth c T locs cells slots) (hx : p.tables.exec = Jvm.exec) (hZ : Z.Warmed39 s.vm) {own C : String} {index : Nat} {y z : MethodName} {bytes : ByteArray} {maxL : Nat} {ret : Option FieldType} {rm : Room} {as' : Array Value} {r : Option Value}
    (hown : s.vm.findClass own = some m.cls) (w1 : (Jvm.Cond.methodLink own index y).before a0 Z = true) (w2 : (Jvm.Cond.declares y).before a0 Z = true) (hnf : NotFace s y) (w5 : (Jvm.Cond.selects C y z).before a0 Z = true) (w6 : (Jvm.Cond.instanceMethod z).before a0 Z = true)
    (w3 : (Jvm.Cond.initialized z.cls).before a0 Z = true) (w4 : (Jvm.Cond.code z bytes maxL ret).before a0 Z = true)
    (hy : y.cls ≠ "java/lang/invoke/MethodHandle" ∧ y.cls ≠ "java/lang/invoke/VarHandle") (hM : Ctr l Z z bytes maxL ret [] rm as' h (PureQ r h)) (eT : T.heap = h) {b : Addr} (E : Exa Z h b C)
    {g : JFrame} (hg : g.method = m) (hsize : g.locals.size = c.maxLocals) (argsL rest : List Value) (W : Nat) (hlen : ∀ sig, parseMethodDescriptor y.desc = some sig → argsL.length = sig.parameters.length)
    (hstack : g.stack = argsL.reverse ++ .ref b :: rest) (has : (Value.ref b :: argsL).toArray = as') (hW : 2 * g.monitorRoom + (rest.map fun v => v.category).sum ≤ W) (hdg : decode c.code g.pc = .ok (.invokevirtual index, 3))
    (hf : rm.frames + 1 ≤ R.frames) (hl : W + (maxL + 11) + rm.locals ≤ R.locals) (hc : cells ≤ R.cells) (hs : slots ≤ R.slots) (rc : rm.cells = 0) (rs : rm.slots = 0)
    (k : ∀ (T' : State), Stand p l e R s m args below meth c T' locs cells slots → T'.heap = h → Done p e below s R Q (T'.setTop { g with pc := g.pc + 3, stack := r.toList ++ rest })) :
    Done p e below s R Q (T.setTop g) := by
  refine Done.callV X hx hZ hown w1 w2 hnf w5 w6 w3 w4 hy hM eT E hg hsize argsL rest W hlen hstack has hW hdg hf hl (by rw [rc]; exact hc) (by rw [rs]; exact hs) ?_
  intro T' v L X' q
  obtain ⟨rfl, e1, rfl⟩ := q
  rw [List.append_nil, rc, rs] at X'
  exact k T' X' e1
end Own
end Jvm.OwnKit
@@BLOCK:NumsL.lean.txt@@
namespace Jvm.Pilot.@@N@@
open Jvm Jvm.ClassFile Sem Op Lib Jvm.Free Jvm.Stand Jvm.LawKit Jvm.RoadKit Jvm.OwnKit Bundle Jvm.Pilot.@@N@@.Jvm.D
theorem own_mask (x : Int64) : 0 ≤ (x &&& (4294967295 : Int64)).toInt ∧ (x &&& (4294967295 : Int64)).toInt ≤ 4294967295 := by
  have q : (x &&& (4294967295 : Int64)).toInt = x.toInt % 2 ^ 32 := Jvm.Kit.i64_mask x _ (k := 32) (by decide) (by decide)
  rw [q]; omega
theorem own_ge (x : Int64) : ¬ (x &&& (4294967295 : Int64)) < (0 : Int64) := by
  rw [Int64.lt_iff_toInt_lt]; have := own_mask x; simp only [Int64.toInt_zero]; omega
theorem own_le (x : Int64) : ¬ (4294967295 : Int64) < (x &&& (4294967295 : Int64)) := by
  rw [Int64.lt_iff_toInt_lt]; have := own_mask x
  have q : (4294967295 : Int64).toInt = 4294967295 := by decide
  rw [q]; omega
def own_cmp (x y : Int64) : Int32 := if x < y then -1 else if x = y then 0 else 1
theorem own_cmp_pos (x y : Int64) : (0 : Int32) < own_cmp x y ↔ y < x := by
  unfold own_cmp
  split
  · rename_i h; constructor
    · intro q; exact absurd q (by decide)
    · intro q; exact absurd q (Int64.lt_asymm h)
  · rename_i h; split
    · rename_i g; constructor
      · intro q; exact absurd q (by decide)
      · intro q; rw [g] at q; exact absurd q (Int64.lt_irrefl)
    · rename_i g; constructor
      · intro _; rw [Int64.lt_iff_toInt_lt] at h ⊢; have : x.toInt ≠ y.toInt := fun z => g (Int64.toInt_inj.mp z); omega
      · intro _; decide
theorem own_shift (x : Int64) : (x + (-9223372036854775808 : Int64)).toInt = if x < (0 : Int64) then x.toInt + 9223372036854775808 else x.toInt - 9223372036854775808 := by
  have h1 := x.toInt_lt
  have h2 := x.le_toInt
  have q : (-9223372036854775808 : Int64).toInt = -9223372036854775808 := by decide
  have z : (x < (0 : Int64)) ↔ x.toInt < 0 := by rw [Int64.lt_iff_toInt_lt]; simp
  rw [Int64.toInt_add, q]
  by_cases hx : x < (0 : Int64)
  · rw [if_pos hx]; have := z.mp hx; rw [Int.bmod_def]; omega
  · rw [if_neg hx]; have : ¬ x.toInt < 0 := fun q => hx (z.mpr q); rw [Int.bmod_def]; omega
theorem own_ug (a b : Int64) : ((b + (-9223372036854775808 : Int64)) < (a + (-9223372036854775808 : Int64))) ↔ ((a < (0 : Int64) ∧ ¬ b < (0 : Int64)) ∨ ((a < (0 : Int64) ↔ b < (0 : Int64)) ∧ b < a)) := by
  have za : (a < (0 : Int64)) ↔ a.toInt < 0 := by rw [Int64.lt_iff_toInt_lt]; simp
  have zb : (b < (0 : Int64)) ↔ b.toInt < 0 := by rw [Int64.lt_iff_toInt_lt]; simp
  rw [Int64.lt_iff_toInt_lt, own_shift, own_shift, Int64.lt_iff_toInt_lt (x := b) (y := a)]
  have a1 := a.toInt_lt
  have a2 := a.le_toInt
  have b1 := b.toInt_lt
  have b2 := b.le_toInt
  by_cases ha : a < (0 : Int64) <;> by_cases hb : b < (0 : Int64) <;> simp only [ha, hb, if_true, if_false, true_and, false_and, not_true_eq_false, not_false_eq_true, iff_self, iff_true, iff_false, true_iff, false_iff, or_false, false_or, or_true, true_or] <;> (have ha' := ha; have hb' := hb; rw [za] at ha'; rw [zb] at hb'; omega)
theorem pn_java_lang_Record : plainName "java/lang/Record" = true := by first | (simp [plainName, overriddenIn]; done) | decide +kernel
theorem d2_0 : decode jdk_30_method_1_code 0 = .ok (.aload_n 0, 1) := by decide +kernel
theorem d2_1 : decode jdk_30_method_1_code 1 = .ok (.invokespecial 1, 3) := by decide +kernel
theorem d2_4 : decode jdk_30_method_1_code 4 = .ok (.return_, 1) := by decide +kernel
set_option maxRecDepth 65536 in
set_option maxHeartbeats 40000000 in
theorem rmR (l : Launch) (Z : State) (a0 : Array Value) (hw : ∀ d ∈ tables_1, d.before a0 Z = true) (ws : List Jvm.Cond) (a : Addr) (h0 : Heap) (n0 : Nat) (Z0 : n0 ≤ h0.size)  :
    Ctr l Z (⟨"java/lang/Record", "<init>", "()V"⟩ : MethodName) jdk_30_method_1_code 1 none ws ({ frames := 1, cells := 0, slots := 0, locals := 12 } : Room) #[(.ref a)] h0 (PureQ none h0) := by
  refine Ctr.intro (plainFor_of_name pn_java_lang_Record) (Ls := #[.val (.ref a)]) (fun m => by first | (simp [entryFrame, mkF, argsToLocals, Value.category]; done) | rfl) ?_
  intro p e s m below meth c T0 hx hby hml hown hnm hret hlk hZ e0 X0
  have N0 := Fr.nil n0
  show Done p e below s _ _ (T0.setTop (mkF m 0 #[.val (.ref a)] []))
  refine Done.step (fun _ => XS.aloadN X0.here hx rfl (hb hby d2_0) rfl rfl) ?_
  show Done p e below s _ _ (T0.setTop (mkF m 1 #[.val (.ref a)] [(.ref a)]))
  obtain ⟨T1, X1, e1, st1⟩ := initO X0 hx hZ hown (wAt hw 12 rfl) (wAt hw 13 rfl) (wAt hw 14 rfl) e0 (g := (mkF m 1 #[.val (.ref a)] [(.ref a)])) rfl (by rw [hml]; rfl) rfl (hb hby d2_1) (by decide) (W := 0) (by show 2 * 0 + _ ≤ _; exact Nat.le_of_eq rfl) (by decide)
  refine Done.step st1 ?_
  show Done p e below s _ _ (T1.setTop (mkF m 4 #[.val (.ref a)] []))
  exact Done.retV X1 hx hlk hret (hb hby d2_4) (by decide) (by decide) ⟨rfl, e1, rfl⟩
def QT (Z : State) (n0 : Nat) (h0 : Heap) (a : Addr) (i : Int64) (v : Option Value) (h : Heap) (L : List Loc) : Prop := v = none ∧ Fr n0 L ∧ Keep h0 h [a] ∧ Exa Z h a "com/example/requeue/requeue/TxSequence" ∧ Fld Z h a "com/example/requeue/requeue/TxSequence" "id" "J" (.long i)
theorem pn_com_example_requeue_requeue_TxSequence : plainName "com/example/requeue/requeue/TxSequence" = true := by first | (simp [plainName, overriddenIn]; done) | decide +kernel
theorem d1_0 : decode prog_20_method_1_code 0 = .ok (.aload_n 0, 1) := by decide +kernel
theorem d1_1 : decode prog_20_method_1_code 1 = .ok (.invokespecial 1, 3) := by decide +kernel
theorem pd_0 : parseMethodDescriptor "()V" = some ⟨[], none⟩ := by decide +kernel
theorem d1_4 : decode prog_20_method_1_code 4 = .ok (.lload_n 3, 1) := by decide +kernel
theorem d1_5 : decode prog_20_method_1_code 5 = .ok (.lconst 0, 1) := by decide +kernel
theorem d1_6 : decode prog_20_method_1_code 6 = .ok (.lcmp, 1) := by decide +kernel
theorem d1_7 : decode prog_20_method_1_code 7 = .ok (.ifCond .lt 27, 3) := by decide +kernel
theorem d1_10 : decode prog_20_method_1_code 10 = .ok (.lload_n 3, 1) := by decide +kernel
theorem d1_11 : decode prog_20_method_1_code 11 = .ok (.ldc2_w 9, 3) := by decide +kernel
theorem d1_14 : decode prog_20_method_1_code 14 = .ok (.lcmp, 1) := by decide +kernel
theorem d1_15 : decode prog_20_method_1_code 15 = .ok (.ifCond .gt 19, 3) := by decide +kernel
theorem d1_18 : decode prog_20_method_1_code 18 = .ok (.lload 5, 2) := by decide +kernel
theorem d1_20 : decode prog_20_method_1_code 20 = .ok (.lconst 0, 1) := by decide +kernel
theorem d1_21 : decode prog_20_method_1_code 21 = .ok (.lcmp, 1) := by decide +kernel
theorem d1_22 : decode prog_20_method_1_code 22 = .ok (.ifCond .lt 12, 3) := by decide +kernel
theorem d1_25 : decode prog_20_method_1_code 25 = .ok (.lload 5, 2) := by decide +kernel
theorem d1_27 : decode prog_20_method_1_code 27 = .ok (.ldc2_w 9, 3) := by decide +kernel
theorem d1_30 : decode prog_20_method_1_code 30 = .ok (.lcmp, 1) := by decide +kernel
theorem d1_31 : decode prog_20_method_1_code 31 = .ok (.ifCond .le 19, 3) := by decide +kernel
theorem d1_50 : decode prog_20_method_1_code 50 = .ok (.aload_n 0, 1) := by decide +kernel
theorem d1_51 : decode prog_20_method_1_code 51 = .ok (.lload_n 1, 1) := by decide +kernel
theorem d1_52 : decode prog_20_method_1_code 52 = .ok (.putfield 20, 3) := by decide +kernel
theorem d1_55 : decode prog_20_method_1_code 55 = .ok (.aload_n 0, 1) := by decide +kernel
theorem d1_56 : decode prog_20_method_1_code 56 = .ok (.lload_n 3, 1) := by decide +kernel
theorem d1_57 : decode prog_20_method_1_code 57 = .ok (.putfield 24, 3) := by decide +kernel
theorem d1_60 : decode prog_20_method_1_code 60 = .ok (.aload_n 0, 1) := by decide +kernel
theorem d1_61 : decode prog_20_method_1_code 61 = .ok (.lload 5, 2) := by decide +kernel
theorem d1_63 : decode prog_20_method_1_code 63 = .ok (.putfield 27, 3) := by decide +kernel
theorem d1_66 : decode prog_20_method_1_code 66 = .ok (.return_, 1) := by decide +kernel
set_option maxRecDepth 65536 in
set_option maxHeartbeats 40000000 in
theorem rmT (l : Launch) (Z : State) (a0 : Array Value) (hw : ∀ d ∈ tables_1, d.before a0 Z = true) (ws : List Jvm.Cond) (a : Addr) (i n p' : Int64) (h0 : Heap) (n0 : Nat) (Z0 : n0 ≤ h0.size) (Ea : Exa Z h0 a "com/example/requeue/requeue/TxSequence") (F_id : Fld Z h0 a "com/example/requeue/requeue/TxSequence" "id" "J" (.long (0 : Int64))) (F_number : Fld Z h0 a "com/example/requeue/requeue/TxSequence" "number" "J" (.long (0 : Int64))) (F_previous : Fld Z h0 a "com/example/requeue/requeue/TxSequence" "previous" "J" (.long (0 : Int64))) (ga : n0 ≤ a) (hn1 : ¬ n < (0 : Int64)) (hn2 : ¬ (4294967295 : Int64) < n) (hp1 : ¬ p' < (0 : Int64)) (hp2 : ¬ (4294967295 : Int64) < p') :
    Ctr l Z (⟨"com/example/requeue/requeue/TxSequence", "<init>", "(JJJ)V"⟩ : MethodName) prog_20_method_1_code 7 none ws ({ frames := 2, cells := 0, slots := 0, locals := 24 } : Room) #[(.ref a), (.long i), (.long n), (.long p')] h0 (QT Z n0 h0 a i) := by
  refine Ctr.intro (plainFor_of_name pn_com_example_requeue_requeue_TxSequence) (Ls := #[.val (.ref a), .val (.long i), .second, .val (.long n), .second, .val (.long p'), .second]) (fun m => by first | (simp [entryFrame, mkF, argsToLocals, Value.category]; done) | rfl) ?_
  intro p e s m below meth c T0 hx hby hml hown hnm hret hlk hZ e0 X0
  have N0 := Fr.nil n0
  show Done p e below s _ _ (T0.setTop (mkF m 0 #[.val (.ref a), .val (.long i), .second, .val (.long n), .second, .val (.long p'), .second] []))
  refine Done.step (fun _ => XS.aloadN X0.here hx rfl (hb hby d1_0) rfl rfl) ?_
  show Done p e below s _ _ (T0.setTop (mkF m 1 #[.val (.ref a), .val (.long i), .second, .val (.long n), .second, .val (.long p'), .second] [(.ref a)]))
  refine Done.callI X0 hx hZ rfl hown (wAt hw 7 rfl) (wAt hw 8 rfl) (wAt hw 10 rfl) (wAt hw 11 rfl) (by decide) (rmR l Z a0 hw [] a  h0 n0 Z0 ) e0 (g := (mkF m 1 #[.val (.ref a), .val (.long i), .second, .val (.long n), .second, .val (.long p'), .second] [(.ref a)])) rfl (by rw [hml]; rfl) a [] [] 0 (lenOf pd_0 rfl) rfl rfl (by show 2 * 0 + _ ≤ _; exact Nat.le_of_eq rfl) (hb hby d1_1) (by decide) (by decide) (by decide) (by decide) ?_
  intro T1 v1 L1 X1 q1
  obtain ⟨rfl, e1, rfl⟩ := q1
  rw [List.append_nil] at X1
  show Done p e below s _ _ (T1.setTop (mkF m 4 #[.val (.ref a), .val (.long i), .second, .val (.long n), .second, .val (.long p'), .second] []))
  refine Done.step (fun _ => XT.lloadN X1.here hx rfl (hb hby d1_4) rfl) ?_
  show Done p e below s _ _ (T1.setTop (mkF m 5 #[.val (.ref a), .val (.long i), .second, .val (.long n), .second, .val (.long p'), .second] [(.long n)]))
  refine Done.step (fun _ => XT.lconstV X1.here hx rfl (0 : Int64) (hb hby d1_5) (by decide)) ?_
  show Done p e below s _ _ (T1.setTop (mkF m 6 #[.val (.ref a), .val (.long i), .second, .val (.long n), .second, .val (.long p'), .second] [(.long (0 : Int64)), (.long n)]))
  refine Done.step (fun _ => XT.lcmp X1.here hx rfl (hb hby d1_6) rfl) ?_
  show Done p e below s _ _ (T1.setTop (mkF m 7 #[.val (.ref a), .val (.long i), .second, .val (.long n), .second, .val (.long p'), .second] [(.int (XT.cmpL n (0 : Int64)))]))
  refine Done.step (fun _ => XS.ifNo X1.here hx rfl (hb hby d1_7) rfl (XT.ll_lt_f hn1)) ?_
  show Done p e below s _ _ (T1.setTop (mkF m 10 #[.val (.ref a), .val (.long i), .second, .val (.long n), .second, .val (.long p'), .second] []))
  refine Done.step (fun _ => XT.lloadN X1.here hx rfl (hb hby d1_10) rfl) ?_
  show Done p e below s _ _ (T1.setTop (mkF m 11 #[.val (.ref a), .val (.long i), .second, .val (.long n), .second, .val (.long p'), .second] [(.long n)]))
  refine Done.step (fun _ => Stand.ldc2J X1 hx hown (mvT hZ (wAt hw 15 rfl)) (g := (mkF m 11 #[.val (.ref a), .val (.long i), .second, .val (.long n), .second, .val (.long p'), .second] [(.long n)])) rfl (hb hby d1_11)) ?_
  show Done p e below s _ _ (T1.setTop (mkF m 14 #[.val (.ref a), .val (.long i), .second, .val (.long n), .second, .val (.long p'), .second] [(.long (4294967295 : Int64)), (.long n)]))
  refine Done.step (fun _ => XT.lcmp X1.here hx rfl (hb hby d1_14) rfl) ?_
  show Done p e below s _ _ (T1.setTop (mkF m 15 #[.val (.ref a), .val (.long i), .second, .val (.long n), .second, .val (.long p'), .second] [(.int (XT.cmpL n (4294967295 : Int64)))]))
  refine Done.step (fun _ => XS.ifNo X1.here hx rfl (hb hby d1_15) rfl (XT.ll_gt_f hn2)) ?_
  show Done p e below s _ _ (T1.setTop (mkF m 18 #[.val (.ref a), .val (.long i), .second, .val (.long n), .second, .val (.long p'), .second] []))
  refine Done.step (fun _ => XT.lload X1.here hx rfl (hb hby d1_18) rfl) ?_
  show Done p e below s _ _ (T1.setTop (mkF m 20 #[.val (.ref a), .val (.long i), .second, .val (.long n), .second, .val (.long p'), .second] [(.long p')]))
  refine Done.step (fun _ => XT.lconstV X1.here hx rfl (0 : Int64) (hb hby d1_20) (by decide)) ?_
  show Done p e below s _ _ (T1.setTop (mkF m 21 #[.val (.ref a), .val (.long i), .second, .val (.long n), .second, .val (.long p'), .second] [(.long (0 : Int64)), (.long p')]))
  refine Done.step (fun _ => XT.lcmp X1.here hx rfl (hb hby d1_21) rfl) ?_
  show Done p e below s _ _ (T1.setTop (mkF m 22 #[.val (.ref a), .val (.long i), .second, .val (.long n), .second, .val (.long p'), .second] [(.int (XT.cmpL p' (0 : Int64)))]))
  refine Done.step (fun _ => XS.ifNo X1.here hx rfl (hb hby d1_22) rfl (XT.ll_lt_f hp1)) ?_
  show Done p e below s _ _ (T1.setTop (mkF m 25 #[.val (.ref a), .val (.long i), .second, .val (.long n), .second, .val (.long p'), .second] []))
  refine Done.step (fun _ => XT.lload X1.here hx rfl (hb hby d1_25) rfl) ?_
  show Done p e below s _ _ (T1.setTop (mkF m 27 #[.val (.ref a), .val (.long i), .second, .val (.long n), .second, .val (.long p'), .second] [(.long p')]))
  refine Done.step (fun _ => Stand.ldc2J X1 hx hown (mvT hZ (wAt hw 15 rfl)) (g := (mkF m 27 #[.val (.ref a), .val (.long i), .second, .val (.long n), .second, .val (.long p'), .second] [(.long p')])) rfl (hb hby d1_27)) ?_
  show Done p e below s _ _ (T1.setTop (mkF m 30 #[.val (.ref a), .val (.long i), .second, .val (.long n), .second, .val (.long p'), .second] [(.long (4294967295 : Int64)), (.long p')]))
  refine Done.step (fun _ => XT.lcmp X1.here hx rfl (hb hby d1_30) rfl) ?_
  show Done p e below s _ _ (T1.setTop (mkF m 31 #[.val (.ref a), .val (.long i), .second, .val (.long n), .second, .val (.long p'), .second] [(.int (XT.cmpL p' (4294967295 : Int64)))]))
  refine Done.step (fun _ => XS.ifYes X1.here hx rfl (pc0 := 31) (pc' := 50) rfl (hb hby d1_31) rfl (XT.ll_le_t hp2) (by decide) (by decide)) ?_
  show Done p e below s _ _ (T1.setTop (mkF m 50 #[.val (.ref a), .val (.long i), .second, .val (.long n), .second, .val (.long p'), .second] []))
  refine Done.step (fun _ => XS.aloadN X1.here hx rfl (hb hby d1_50) rfl rfl) ?_
  show Done p e below s _ _ (T1.setTop (mkF m 51 #[.val (.ref a), .val (.long i), .second, .val (.long n), .second, .val (.long p'), .second] [(.ref a)]))
  refine Done.step (fun _ => XT.lloadN X1.here hx rfl (hb hby d1_51) rfl) ?_
  show Done p e below s _ _ (T1.setTop (mkF m 52 #[.val (.ref a), .val (.long i), .second, .val (.long n), .second, .val (.long p'), .second] [(.long i), (.ref a)]))
  obtain ⟨T2, h2, X2, e2, W2, st2⟩ := putF X1 hx hZ hown (host := "") (Or.inl (wAt hw 16 rfl)) Via.refl e1 F_id Ea (Or.inr ⟨(wAt hw 17 rfl), rfl, hnm⟩) (wAt hw 2 rfl) (ty := .long) (by decide) rfl rfl (g := (mkF m 52 #[.val (.ref a), .val (.long i), .second, .val (.long n), .second, .val (.long p'), .second] [(.long i), (.ref a)])) rfl rfl (hb hby d1_52)
  have F2 := F_id.same W2
  have N2 := Fr.snoc X2 N0 ga
  have Zs2 := Nat.le_trans Z0 (Keep.of_wr W2).1
  have K2 := (Keep.refl h0 [a]).wr W2 (Or.inl (List.mem_of_getElem? (i := 0) rfl))
  refine Done.step st2 ?_
  show Done p e below s _ _ (T2.setTop (mkF m 55 #[.val (.ref a), .val (.long i), .second, .val (.long n), .second, .val (.long p'), .second] []))
  refine Done.step (fun _ => XS.aloadN X2.here hx rfl (hb hby d1_55) rfl rfl) ?_
  show Done p e below s _ _ (T2.setTop (mkF m 56 #[.val (.ref a), .val (.long i), .second, .val (.long n), .second, .val (.long p'), .second] [(.ref a)]))
  refine Done.step (fun _ => XT.lloadN X2.here hx rfl (hb hby d1_56) rfl) ?_
  show Done p e below s _ _ (T2.setTop (mkF m 57 #[.val (.ref a), .val (.long i), .second, .val (.long n), .second, .val (.long p'), .second] [(.long n), (.ref a)]))
  obtain ⟨T3, h3, X3, e3, W3, st3⟩ := putF X2 hx hZ hown (host := "") (Or.inl (wAt hw 18 rfl)) Via.refl e2 (F_number.other W2 (Or.inr (slot_ne (Or.inr (wAt hw 19 rfl)) (Or.inr (wAt hw 17 rfl)) (by decide) (t := .long) (t' := .long) (by decide) (by decide)))) (Ea.wr W2) (Or.inr ⟨(wAt hw 19 rfl), rfl, hnm⟩) (wAt hw 2 rfl) (ty := .long) (by decide) rfl rfl (g := (mkF m 57 #[.val (.ref a), .val (.long i), .second, .val (.long n), .second, .val (.long p'), .second] [(.long n), (.ref a)])) rfl rfl (hb hby d1_57)
  have F3 := (F_number.other W2 (Or.inr (slot_ne (Or.inr (wAt hw 19 rfl)) (Or.inr (wAt hw 17 rfl)) (by decide) (t := .long) (t' := .long) (by decide) (by decide)))).same W3
  have N3 := Fr.snoc X3 N2 ga
  have Zs3 := Nat.le_trans Zs2 (Keep.of_wr W3).1
  have K3 := K2.wr W3 (Or.inl (List.mem_of_getElem? (i := 0) rfl))
  refine Done.step st3 ?_
  show Done p e below s _ _ (T3.setTop (mkF m 60 #[.val (.ref a), .val (.long i), .second, .val (.long n), .second, .val (.long p'), .second] []))
  refine Done.step (fun _ => XS.aloadN X3.here hx rfl (hb hby d1_60) rfl rfl) ?_
  show Done p e below s _ _ (T3.setTop (mkF m 61 #[.val (.ref a), .val (.long i), .second, .val (.long n), .second, .val (.long p'), .second] [(.ref a)]))
  refine Done.step (fun _ => XT.lload X3.here hx rfl (hb hby d1_61) rfl) ?_
  show Done p e below s _ _ (T3.setTop (mkF m 63 #[.val (.ref a), .val (.long i), .second, .val (.long n), .second, .val (.long p'), .second] [(.long p'), (.ref a)]))
  obtain ⟨T4, h4, X4, e4, W4, st4⟩ := putF X3 hx hZ hown (host := "") (Or.inl (wAt hw 20 rfl)) Via.refl e3 ((F_previous.other W2 (Or.inr (slot_ne (Or.inr (wAt hw 21 rfl)) (Or.inr (wAt hw 17 rfl)) (by decide) (t := .long) (t' := .long) (by decide) (by decide)))).other W3 (Or.inr (slot_ne (Or.inr (wAt hw 21 rfl)) (Or.inr (wAt hw 19 rfl)) (by decide) (t := .long) (t' := .long) (by decide) (by decide)))) ((Ea.wr W2).wr W3) (Or.inr ⟨(wAt hw 21 rfl), rfl, hnm⟩) (wAt hw 2 rfl) (ty := .long) (by decide) rfl rfl (g := (mkF m 63 #[.val (.ref a), .val (.long i), .second, .val (.long n), .second, .val (.long p'), .second] [(.long p'), (.ref a)])) rfl rfl (hb hby d1_63)
  have F4 := ((F_previous.other W2 (Or.inr (slot_ne (Or.inr (wAt hw 21 rfl)) (Or.inr (wAt hw 17 rfl)) (by decide) (t := .long) (t' := .long) (by decide) (by decide)))).other W3 (Or.inr (slot_ne (Or.inr (wAt hw 21 rfl)) (Or.inr (wAt hw 19 rfl)) (by decide) (t := .long) (t' := .long) (by decide) (by decide)))).same W4
  have N4 := Fr.snoc X4 N3 ga
  have Zs4 := Nat.le_trans Zs3 (Keep.of_wr W4).1
  have K4 := K3.wr W4 (Or.inl (List.mem_of_getElem? (i := 0) rfl))
  refine Done.step st4 ?_
  show Done p e below s _ _ (T4.setTop (mkF m 66 #[.val (.ref a), .val (.long i), .second, .val (.long n), .second, .val (.long p'), .second] []))
  refine Done.retV X4 hx hlk hret (hb hby d1_66) (by decide) (by decide) ?_
  rw [e4]
  exact ⟨rfl, N4, K4, (((Ea.wr W2).wr W3).wr W4), ((F2.other W3 (Or.inr (slot_ne (Or.inr (wAt hw 17 rfl)) (Or.inr (wAt hw 19 rfl)) (by decide) (t := .long) (t' := .long) (by decide) (by decide)))).other W4 (Or.inr (slot_ne (Or.inr (wAt hw 17 rfl)) (Or.inr (wAt hw 21 rfl)) (by decide) (t := .long) (t' := .long) (by decide) (by decide))))⟩
theorem pn_java_lang_Long : plainName "java/lang/Long" = true := by first | (simp [plainName, overriddenIn]; done) | decide +kernel
theorem d6_0 : decode jdk_35_method_42_code 0 = .ok (.lload_n 0, 1) := by decide +kernel
theorem d6_1 : decode jdk_35_method_42_code 1 = .ok (.lload_n 2, 1) := by decide +kernel
theorem d6_2 : decode jdk_35_method_42_code 2 = .ok (.lcmp, 1) := by decide +kernel
theorem d6_3 : decode jdk_35_method_42_code 3 = .ok (.ifCond .ge 7, 3) := by decide +kernel
theorem d6_6 : decode jdk_35_method_42_code 6 = .ok (.iconst (-1), 1) := by decide +kernel
theorem d6_7 : decode jdk_35_method_42_code 7 = .ok (.goto 14, 3) := by decide +kernel
theorem d6_21 : decode jdk_35_method_42_code 21 = .ok (.ireturn, 1) := by decide +kernel
theorem d6_10 : decode jdk_35_method_42_code 10 = .ok (.lload_n 0, 1) := by decide +kernel
theorem d6_11 : decode jdk_35_method_42_code 11 = .ok (.lload_n 2, 1) := by decide +kernel
theorem d6_12 : decode jdk_35_method_42_code 12 = .ok (.lcmp, 1) := by decide +kernel
theorem d6_13 : decode jdk_35_method_42_code 13 = .ok (.ifCond .ne 7, 3) := by decide +kernel
theorem d6_16 : decode jdk_35_method_42_code 16 = .ok (.iconst 0, 1) := by decide +kernel
theorem d6_17 : decode jdk_35_method_42_code 17 = .ok (.goto 4, 3) := by decide +kernel
theorem d6_20 : decode jdk_35_method_42_code 20 = .ok (.iconst 1, 1) := by decide +kernel
set_option maxRecDepth 65536 in
set_option maxHeartbeats 40000000 in
theorem rmC (l : Launch) (Z : State) (a0 : Array Value) (hw : ∀ d ∈ tables_1, d.before a0 Z = true) (ws : List Jvm.Cond) (x y : Int64) (h0 : Heap) (n0 : Nat) (Z0 : n0 ≤ h0.size)  :
    Ctr l Z (⟨"java/lang/Long", "compare", "(JJ)I"⟩ : MethodName) jdk_35_method_42_code 4 (some .int) ws ({ frames := 0, cells := 0, slots := 0, locals := 0 } : Room) #[(.long x), (.long y)] h0 (PureQ (some (.int (own_cmp x y))) h0) := by
  refine Ctr.intro (plainFor_of_name pn_java_lang_Long) (Ls := #[.val (.long x), .second, .val (.long y), .second]) (fun m => by first | (simp [entryFrame, mkF, argsToLocals, Value.category]; done) | rfl) ?_
  intro p e s m below meth c T0 hx hby hml hown hnm hret hlk hZ e0 X0
  have N0 := Fr.nil n0
  show Done p e below s _ _ (T0.setTop (mkF m 0 #[.val (.long x), .second, .val (.long y), .second] []))
  refine Done.step (fun _ => XT.lloadN X0.here hx rfl (hb hby d6_0) rfl) ?_
  show Done p e below s _ _ (T0.setTop (mkF m 1 #[.val (.long x), .second, .val (.long y), .second] [(.long x)]))
  refine Done.step (fun _ => XT.lloadN X0.here hx rfl (hb hby d6_1) rfl) ?_
  show Done p e below s _ _ (T0.setTop (mkF m 2 #[.val (.long x), .second, .val (.long y), .second] [(.long y), (.long x)]))
  refine Done.step (fun _ => XT.lcmp X0.here hx rfl (hb hby d6_2) rfl) ?_
  show Done p e below s _ _ (T0.setTop (mkF m 3 #[.val (.long x), .second, .val (.long y), .second] [(.int (XT.cmpL x y))]))
  by_cases hc1 : x < y
  · refine Done.step (fun _ => XS.ifNo X0.here hx rfl (hb hby d6_3) rfl (XT.ll_ge_f hc1)) ?_
    show Done p e below s _ _ (T0.setTop (mkF m 6 #[.val (.long x), .second, .val (.long y), .second] []))
    refine Done.step (fun _ => XT.iconstV X0.here hx rfl (-1 : Int32) (hb hby d6_6) (by decide)) ?_
    show Done p e below s _ _ (T0.setTop (mkF m 7 #[.val (.long x), .second, .val (.long y), .second] [(.int (-1 : Int32))]))
    refine Done.step (fun _ => XS.goto X0.here hx rfl (pc0 := 7) (pc' := 21) rfl (hb hby d6_7) (by decide) (by decide)) ?_
    show Done p e below s _ _ (T0.setTop (mkF m 21 #[.val (.long x), .second, .val (.long y), .second] [(.int (-1 : Int32))]))
    exact Done.retI X0 hx hlk hret (hb hby d6_21) (by decide) (by decide) ⟨by unfold own_cmp; rw [if_pos hc1], e0, rfl⟩
  · refine Done.step (fun _ => XS.ifYes X0.here hx rfl (pc0 := 3) (pc' := 10) rfl (hb hby d6_3) rfl (XT.ll_ge_t hc1) (by decide) (by decide)) ?_
    show Done p e below s _ _ (T0.setTop (mkF m 10 #[.val (.long x), .second, .val (.long y), .second] []))
    refine Done.step (fun _ => XT.lloadN X0.here hx rfl (hb hby d6_10) rfl) ?_
    show Done p e below s _ _ (T0.setTop (mkF m 11 #[.val (.long x), .second, .val (.long y), .second] [(.long x)]))
    refine Done.step (fun _ => XT.lloadN X0.here hx rfl (hb hby d6_11) rfl) ?_
    show Done p e below s _ _ (T0.setTop (mkF m 12 #[.val (.long x), .second, .val (.long y), .second] [(.long y), (.long x)]))
    refine Done.step (fun _ => XT.lcmp X0.here hx rfl (hb hby d6_12) rfl) ?_
    show Done p e below s _ _ (T0.setTop (mkF m 13 #[.val (.long x), .second, .val (.long y), .second] [(.int (XT.cmpL x y))]))
    by_cases hc2 : x = y
    · refine Done.step (fun _ => XS.ifNo X0.here hx rfl (hb hby d6_13) rfl (XT.ll_ne_f hc2)) ?_
      show Done p e below s _ _ (T0.setTop (mkF m 16 #[.val (.long x), .second, .val (.long y), .second] []))
      refine Done.step (fun _ => XT.iconstV X0.here hx rfl (0 : Int32) (hb hby d6_16) (by decide)) ?_
      show Done p e below s _ _ (T0.setTop (mkF m 17 #[.val (.long x), .second, .val (.long y), .second] [(.int (0 : Int32))]))
      refine Done.step (fun _ => XS.goto X0.here hx rfl (pc0 := 17) (pc' := 21) rfl (hb hby d6_17) (by decide) (by decide)) ?_
      show Done p e below s _ _ (T0.setTop (mkF m 21 #[.val (.long x), .second, .val (.long y), .second] [(.int (0 : Int32))]))
      exact Done.retI X0 hx hlk hret (hb hby d6_21) (by decide) (by decide) ⟨by unfold own_cmp; rw [if_neg hc1, if_pos hc2], e0, rfl⟩
    · refine Done.step (fun _ => XS.ifYes X0.here hx rfl (pc0 := 13) (pc' := 20) rfl (hb hby d6_13) rfl (XT.ll_ne_t hc2) (by decide) (by decide)) ?_
      show Done p e below s _ _ (T0.setTop (mkF m 20 #[.val (.long x), .second, .val (.long y), .second] []))
      refine Done.step (fun _ => XT.iconstV X0.here hx rfl (1 : Int32) (hb hby d6_20) (by decide)) ?_
      show Done p e below s _ _ (T0.setTop (mkF m 21 #[.val (.long x), .second, .val (.long y), .second] [(.int (1 : Int32))]))
      exact Done.retI X0 hx hlk hret (hb hby d6_21) (by decide) (by decide) ⟨by unfold own_cmp; rw [if_neg hc1, if_neg hc2], e0, rfl⟩
theorem d5_0 : decode jdk_35_method_43_code 0 = .ok (.lload_n 0, 1) := by decide +kernel
theorem d5_1 : decode jdk_35_method_43_code 1 = .ok (.ldc2_w 168, 3) := by decide +kernel
theorem d5_4 : decode jdk_35_method_43_code 4 = .ok (.ladd, 1) := by decide +kernel
theorem d5_5 : decode jdk_35_method_43_code 5 = .ok (.lload_n 2, 1) := by decide +kernel
theorem d5_6 : decode jdk_35_method_43_code 6 = .ok (.ldc2_w 168, 3) := by decide +kernel
theorem d5_9 : decode jdk_35_method_43_code 9 = .ok (.ladd, 1) := by decide +kernel
theorem d5_10 : decode jdk_35_method_43_code 10 = .ok (.invokestatic 302, 3) := by decide +kernel
theorem pd_1 : parseMethodDescriptor "(JJ)I" = some ⟨[.long, .long], some .int⟩ := by decide +kernel
theorem d5_13 : decode jdk_35_method_43_code 13 = .ok (.ireturn, 1) := by decide +kernel
set_option maxRecDepth 65536 in
set_option maxHeartbeats 40000000 in
theorem rmU (l : Launch) (Z : State) (a0 : Array Value) (hw : ∀ d ∈ tables_1, d.before a0 Z = true) (ws : List Jvm.Cond) (x y : Int64) (h0 : Heap) (n0 : Nat) (Z0 : n0 ≤ h0.size)  :
    Ctr l Z (⟨"java/lang/Long", "compareUnsigned", "(JJ)I"⟩ : MethodName) jdk_35_method_43_code 4 (some .int) ws ({ frames := 1, cells := 0, slots := 0, locals := 15 } : Room) #[(.long x), (.long y)] h0 (PureQ (some (.int (own_cmp (x + (-9223372036854775808 : Int64)) (y + (-9223372036854775808 : Int64))))) h0) := by
  refine Ctr.intro (plainFor_of_name pn_java_lang_Long) (Ls := #[.val (.long x), .second, .val (.long y), .second]) (fun m => by first | (simp [entryFrame, mkF, argsToLocals, Value.category]; done) | rfl) ?_
  intro p e s m below meth c T0 hx hby hml hown hnm hret hlk hZ e0 X0
  have N0 := Fr.nil n0
  show Done p e below s _ _ (T0.setTop (mkF m 0 #[.val (.long x), .second, .val (.long y), .second] []))
  refine Done.step (fun _ => XT.lloadN X0.here hx rfl (hb hby d5_0) rfl) ?_
  show Done p e below s _ _ (T0.setTop (mkF m 1 #[.val (.long x), .second, .val (.long y), .second] [(.long x)]))
  refine Done.step (fun _ => Stand.ldc2J X0 hx hown (mvT hZ (wAt hw 31 rfl)) (g := (mkF m 1 #[.val (.long x), .second, .val (.long y), .second] [(.long x)])) rfl (hb hby d5_1)) ?_
  show Done p e below s _ _ (T0.setTop (mkF m 4 #[.val (.long x), .second, .val (.long y), .second] [(.long (-9223372036854775808 : Int64)), (.long x)]))
  refine Done.step (fun _ => XT.ladd X0.here hx rfl (hb hby d5_4) rfl) ?_
  show Done p e below s _ _ (T0.setTop (mkF m 5 #[.val (.long x), .second, .val (.long y), .second] [(.long (x + (-9223372036854775808 : Int64)))]))
  refine Done.step (fun _ => XT.lloadN X0.here hx rfl (hb hby d5_5) rfl) ?_
  show Done p e below s _ _ (T0.setTop (mkF m 6 #[.val (.long x), .second, .val (.long y), .second] [(.long y), (.long (x + (-9223372036854775808 : Int64)))]))
  refine Done.step (fun _ => Stand.ldc2J X0 hx hown (mvT hZ (wAt hw 31 rfl)) (g := (mkF m 6 #[.val (.long x), .second, .val (.long y), .second] [(.long y), (.long (x + (-9223372036854775808 : Int64)))])) rfl (hb hby d5_6)) ?_
  show Done p e below s _ _ (T0.setTop (mkF m 9 #[.val (.long x), .second, .val (.long y), .second] [(.long (-9223372036854775808 : Int64)), (.long y), (.long (x + (-9223372036854775808 : Int64)))]))
  refine Done.step (fun _ => XT.ladd X0.here hx rfl (hb hby d5_9) rfl) ?_
  show Done p e below s _ _ (T0.setTop (mkF m 10 #[.val (.long x), .second, .val (.long y), .second] [(.long (y + (-9223372036854775808 : Int64))), (.long (x + (-9223372036854775808 : Int64)))]))
  refine Done.callSP X0 hx hZ hown (wAt hw 32 rfl) (wAt hw 33 rfl) (wAt hw 29 rfl) (wAt hw 34 rfl) (by decide) (rmC l Z a0 hw [] (x + (-9223372036854775808 : Int64)) (y + (-9223372036854775808 : Int64)) h0 n0 Z0) e0 (g := (mkF m 10 #[.val (.long x), .second, .val (.long y), .second] [(.long (y + (-9223372036854775808 : Int64))), (.long (x + (-9223372036854775808 : Int64)))])) rfl (by rw [hml]; rfl) [(.long (x + (-9223372036854775808 : Int64))), (.long (y + (-9223372036854775808 : Int64)))] [] 0 (lenOf pd_1 rfl) rfl rfl (by show 2 * 0 + _ ≤ _; exact Nat.le_of_eq rfl) (hb hby d5_10) (by decide) (by decide) (by decide) (by decide) rfl rfl ?_
  intro T1 X1 e1
  show Done p e below s _ _ (T1.setTop (mkF m 13 #[.val (.long x), .second, .val (.long y), .second] [(.int (own_cmp (x + (-9223372036854775808 : Int64)) (y + (-9223372036854775808 : Int64))))]))
  exact Done.retI X1 hx hlk hret (hb hby d5_13) (by decide) (by decide) ⟨rfl, e1, rfl⟩
theorem d4_0 : decode prog_20_method_2_code 0 = .ok (.aload_n 0, 1) := by decide +kernel
theorem d4_1 : decode prog_20_method_2_code 1 = .ok (.getfield 20, 3) := by decide +kernel
theorem d4_4 : decode prog_20_method_2_code 4 = .ok (.lload_n 1, 1) := by decide +kernel
theorem d4_5 : decode prog_20_method_2_code 5 = .ok (.invokestatic 30, 3) := by decide +kernel
theorem d4_8 : decode prog_20_method_2_code 8 = .ok (.ifCond .le 7, 3) := by decide +kernel
theorem d4_11 : decode prog_20_method_2_code 11 = .ok (.iconst 1, 1) := by decide +kernel
theorem d4_12 : decode prog_20_method_2_code 12 = .ok (.goto 4, 3) := by decide +kernel
theorem d4_16 : decode prog_20_method_2_code 16 = .ok (.ireturn, 1) := by decide +kernel
theorem d4_15 : decode prog_20_method_2_code 15 = .ok (.iconst 0, 1) := by decide +kernel
set_option maxRecDepth 65536 in
set_option maxHeartbeats 40000000 in
theorem rmA (l : Launch) (Z : State) (a0 : Array Value) (hw : ∀ d ∈ tables_1, d.before a0 Z = true) (ws : List Jvm.Cond) (a : Addr) (o i : Int64) (r : Int32) (h0 : Heap) (n0 : Nat) (Z0 : n0 ≤ h0.size) (F_id : Fld Z h0 a "com/example/requeue/requeue/TxSequence" "id" "J" (.long i)) (hr : r = bP ((o + (-9223372036854775808 : Int64)) < (i + (-9223372036854775808 : Int64)))) :
    Ctr l Z (⟨"com/example/requeue/requeue/TxSequence", "isAfter", "(J)Z"⟩ : MethodName) prog_20_method_2_code 3 (some .boolean) ws ({ frames := 2, cells := 0, slots := 0, locals := 30 } : Room) #[(.ref a), (.long o)] h0 (PureQ (some (.int r)) h0) := by
  refine Ctr.intro (plainFor_of_name pn_com_example_requeue_requeue_TxSequence) (Ls := #[.val (.ref a), .val (.long o), .second]) (fun m => by first | (simp [entryFrame, mkF, argsToLocals, Value.category]; done) | rfl) ?_
  intro p e s m below meth c T0 hx hby hml hown hnm hret hlk hZ e0 X0
  have N0 := Fr.nil n0
  show Done p e below s _ _ (T0.setTop (mkF m 0 #[.val (.ref a), .val (.long o), .second] []))
  refine Done.step (fun _ => XS.aloadN X0.here hx rfl (hb hby d4_0) rfl rfl) ?_
  show Done p e below s _ _ (T0.setTop (mkF m 1 #[.val (.ref a), .val (.long o), .second] [(.ref a)]))
  obtain ⟨T1, X1, e1, st1⟩ := getF X0 hx hZ hown (host := "") (Or.inl (wAt hw 16 rfl)) Via.refl e0 F_id (g := (mkF m 1 #[.val (.ref a), .val (.long o), .second] [(.ref a)])) rfl rfl (hb hby d4_1)
  refine Done.step st1 ?_
  show Done p e below s _ _ (T1.setTop (mkF m 4 #[.val (.ref a), .val (.long o), .second] [(.long i)]))
  refine Done.step (fun _ => XT.lloadN X1.here hx rfl (hb hby d4_4) rfl) ?_
  show Done p e below s _ _ (T1.setTop (mkF m 5 #[.val (.ref a), .val (.long o), .second] [(.long o), (.long i)]))
  refine Done.callSP X1 hx hZ hown (wAt hw 27 rfl) (wAt hw 28 rfl) (wAt hw 29 rfl) (wAt hw 30 rfl) (by decide) (rmU l Z a0 hw [] i o h0 n0 Z0) e1 (g := (mkF m 5 #[.val (.ref a), .val (.long o), .second] [(.long o), (.long i)])) rfl (by rw [hml]; rfl) [(.long i), (.long o)] [] 0 (lenOf pd_1 rfl) rfl rfl (by show 2 * 0 + _ ≤ _; exact Nat.le_of_eq rfl) (hb hby d4_5) (by decide) (by decide) (by decide) (by decide) rfl rfl ?_
  intro T2 X2 e2
  show Done p e below s _ _ (T2.setTop (mkF m 8 #[.val (.ref a), .val (.long o), .second] [(.int (own_cmp (i + (-9223372036854775808 : Int64)) (o + (-9223372036854775808 : Int64))))]))
  by_cases hc3 : (0 : Int32) < (own_cmp (i + (-9223372036854775808 : Int64)) (o + (-9223372036854775808 : Int64)))
  · refine Done.step (fun _ => XS.ifNo X2.here hx rfl (hb hby d4_8) rfl (XT.i0_le_f hc3)) ?_
    show Done p e below s _ _ (T2.setTop (mkF m 11 #[.val (.ref a), .val (.long o), .second] []))
    refine Done.step (fun _ => XT.iconstV X2.here hx rfl (1 : Int32) (hb hby d4_11) (by decide)) ?_
    show Done p e below s _ _ (T2.setTop (mkF m 12 #[.val (.ref a), .val (.long o), .second] [(.int (1 : Int32))]))
    refine Done.step (fun _ => XS.goto X2.here hx rfl (pc0 := 12) (pc' := 16) rfl (hb hby d4_12) (by decide) (by decide)) ?_
    show Done p e below s _ _ (T2.setTop (mkF m 16 #[.val (.ref a), .val (.long o), .second] [(.int (1 : Int32))]))
    exact Done.retN X2 hx hlk (t := .boolean) hret (by simp) (hb hby d4_16) (by decide) (by decide) ⟨by rw [hr, bP_t ((own_cmp_pos _ _).mp hc3)]; rfl, e2, rfl⟩
  · refine Done.step (fun _ => XS.ifYes X2.here hx rfl (pc0 := 8) (pc' := 15) rfl (hb hby d4_8) rfl (XT.i0_le_t hc3) (by decide) (by decide)) ?_
    show Done p e below s _ _ (T2.setTop (mkF m 15 #[.val (.ref a), .val (.long o), .second] []))
    refine Done.step (fun _ => XT.iconstV X2.here hx rfl (0 : Int32) (hb hby d4_15) (by decide)) ?_
    show Done p e below s _ _ (T2.setTop (mkF m 16 #[.val (.ref a), .val (.long o), .second] [(.int (0 : Int32))]))
    exact Done.retN X2 hx hlk (t := .boolean) hret (by simp) (hb hby d4_16) (by decide) (by decide) ⟨by rw [hr, bP_f (fun q => hc3 ((own_cmp_pos _ _).mpr q))]; rfl, e2, rfl⟩
theorem pn_com_example_requeue_requeue_TxSequenceIsAfterPinLaw : plainName "com/example/requeue/requeue/TxSequenceIsAfterPinLaw" = true := by first | (simp [plainName, overriddenIn]; done) | decide +kernel
theorem d7_0 : decode method_2_code 0 = .ok (.lload_n 0, 1) := by decide +kernel
theorem d7_1 : decode method_2_code 1 = .ok (.lconst 0, 1) := by decide +kernel
theorem d7_2 : decode method_2_code 2 = .ok (.lcmp, 1) := by decide +kernel
theorem d7_3 : decode method_2_code 3 = .ok (.ifCond .ge 7, 3) := by decide +kernel
theorem d7_6 : decode method_2_code 6 = .ok (.iconst 1, 1) := by decide +kernel
theorem d7_7 : decode method_2_code 7 = .ok (.goto 4, 3) := by decide +kernel
theorem d7_11 : decode method_2_code 11 = .ok (.istore 4, 2) := by decide +kernel
theorem d7_13 : decode method_2_code 13 = .ok (.lload_n 2, 1) := by decide +kernel
theorem d7_14 : decode method_2_code 14 = .ok (.lconst 0, 1) := by decide +kernel
theorem d7_15 : decode method_2_code 15 = .ok (.lcmp, 1) := by decide +kernel
theorem d7_16 : decode method_2_code 16 = .ok (.ifCond .ge 7, 3) := by decide +kernel
theorem d7_19 : decode method_2_code 19 = .ok (.iconst 1, 1) := by decide +kernel
theorem d7_20 : decode method_2_code 20 = .ok (.goto 4, 3) := by decide +kernel
theorem d7_24 : decode method_2_code 24 = .ok (.istore 5, 2) := by decide +kernel
theorem d7_26 : decode method_2_code 26 = .ok (.iload 4, 2) := by decide +kernel
theorem d7_28 : decode method_2_code 28 = .ok (.iload 5, 2) := by decide +kernel
theorem d7_30 : decode method_2_code 30 = .ok (.if_icmp .ne 15, 3) := by decide +kernel
theorem d7_33 : decode method_2_code 33 = .ok (.lload_n 0, 1) := by decide +kernel
theorem d7_34 : decode method_2_code 34 = .ok (.lload_n 2, 1) := by decide +kernel
theorem d7_35 : decode method_2_code 35 = .ok (.lcmp, 1) := by decide +kernel
theorem d7_36 : decode method_2_code 36 = .ok (.ifCond .le 7, 3) := by decide +kernel
theorem d7_39 : decode method_2_code 39 = .ok (.iconst 1, 1) := by decide +kernel
theorem d7_40 : decode method_2_code 40 = .ok (.goto 4, 3) := by decide +kernel
theorem d7_44 : decode method_2_code 44 = .ok (.ireturn, 1) := by decide +kernel
theorem d7_43 : decode method_2_code 43 = .ok (.iconst 0, 1) := by decide +kernel
theorem d7_23 : decode method_2_code 23 = .ok (.iconst 0, 1) := by decide +kernel
theorem d7_45 : decode method_2_code 45 = .ok (.iload 4, 2) := by decide +kernel
theorem d7_47 : decode method_2_code 47 = .ok (.ireturn, 1) := by decide +kernel
theorem d7_10 : decode method_2_code 10 = .ok (.iconst 0, 1) := by decide +kernel
set_option maxRecDepth 65536 in
set_option maxHeartbeats 40000000 in
theorem rmG (l : Launch) (Z : State) (a0 : Array Value) (hw : ∀ d ∈ tables_1, d.before a0 Z = true) (ws : List Jvm.Cond) (a b : Int64) (r : Int32) (h0 : Heap) (n0 : Nat) (Z0 : n0 ≤ h0.size) (hr : r = bP ((b + (-9223372036854775808 : Int64)) < (a + (-9223372036854775808 : Int64)))) :
    Ctr l Z (⟨"com/example/requeue/requeue/TxSequenceIsAfterPinLaw", "unsignedGreater", "(JJ)Z"⟩ : MethodName) method_2_code 6 (some .boolean) ws ({ frames := 0, cells := 0, slots := 0, locals := 0 } : Room) #[(.long a), (.long b)] h0 (PureQ (some (.int r)) h0) := by
  refine Ctr.intro (plainFor_of_name pn_com_example_requeue_requeue_TxSequenceIsAfterPinLaw) (Ls := #[.val (.long a), .second, .val (.long b), .second, .unset, .unset]) (fun m => by first | (simp [entryFrame, mkF, argsToLocals, Value.category]; done) | rfl) ?_
  intro p e s m below meth c T0 hx hby hml hown hnm hret hlk hZ e0 X0
  have N0 := Fr.nil n0
  show Done p e below s _ _ (T0.setTop (mkF m 0 #[.val (.long a), .second, .val (.long b), .second, .unset, .unset] []))
  refine Done.step (fun _ => XT.lloadN X0.here hx rfl (hb hby d7_0) rfl) ?_
  show Done p e below s _ _ (T0.setTop (mkF m 1 #[.val (.long a), .second, .val (.long b), .second, .unset, .unset] [(.long a)]))
  refine Done.step (fun _ => XT.lconstV X0.here hx rfl (0 : Int64) (hb hby d7_1) (by decide)) ?_
  show Done p e below s _ _ (T0.setTop (mkF m 2 #[.val (.long a), .second, .val (.long b), .second, .unset, .unset] [(.long (0 : Int64)), (.long a)]))
  refine Done.step (fun _ => XT.lcmp X0.here hx rfl (hb hby d7_2) rfl) ?_
  show Done p e below s _ _ (T0.setTop (mkF m 3 #[.val (.long a), .second, .val (.long b), .second, .unset, .unset] [(.int (XT.cmpL a (0 : Int64)))]))
  by_cases hc1 : a < (0 : Int64)
  · refine Done.step (fun _ => XS.ifNo X0.here hx rfl (hb hby d7_3) rfl (XT.ll_ge_f hc1)) ?_
    show Done p e below s _ _ (T0.setTop (mkF m 6 #[.val (.long a), .second, .val (.long b), .second, .unset, .unset] []))
    refine Done.step (fun _ => XT.iconstV X0.here hx rfl (1 : Int32) (hb hby d7_6) (by decide)) ?_
    show Done p e below s _ _ (T0.setTop (mkF m 7 #[.val (.long a), .second, .val (.long b), .second, .unset, .unset] [(.int (1 : Int32))]))
    refine Done.step (fun _ => XS.goto X0.here hx rfl (pc0 := 7) (pc' := 11) rfl (hb hby d7_7) (by decide) (by decide)) ?_
    show Done p e below s _ _ (T0.setTop (mkF m 11 #[.val (.long a), .second, .val (.long b), .second, .unset, .unset] [(.int (1 : Int32))]))
    refine Done.step (fun _ => XS.istore X0.here hx rfl (hb hby d7_11) rfl (l' := #[.val (.long a), .second, .val (.long b), .second, .val (.int (1 : Int32)), .unset]) rfl) ?_
    show Done p e below s _ _ (T0.setTop (mkF m 13 #[.val (.long a), .second, .val (.long b), .second, .val (.int (1 : Int32)), .unset] []))
    refine Done.step (fun _ => XT.lloadN X0.here hx rfl (hb hby d7_13) rfl) ?_
    show Done p e below s _ _ (T0.setTop (mkF m 14 #[.val (.long a), .second, .val (.long b), .second, .val (.int (1 : Int32)), .unset] [(.long b)]))
    refine Done.step (fun _ => XT.lconstV X0.here hx rfl (0 : Int64) (hb hby d7_14) (by decide)) ?_
    show Done p e below s _ _ (T0.setTop (mkF m 15 #[.val (.long a), .second, .val (.long b), .second, .val (.int (1 : Int32)), .unset] [(.long (0 : Int64)), (.long b)]))
    refine Done.step (fun _ => XT.lcmp X0.here hx rfl (hb hby d7_15) rfl) ?_
    show Done p e below s _ _ (T0.setTop (mkF m 16 #[.val (.long a), .second, .val (.long b), .second, .val (.int (1 : Int32)), .unset] [(.int (XT.cmpL b (0 : Int64)))]))
    by_cases hc2 : b < (0 : Int64)
    · refine Done.step (fun _ => XS.ifNo X0.here hx rfl (hb hby d7_16) rfl (XT.ll_ge_f hc2)) ?_
      show Done p e below s _ _ (T0.setTop (mkF m 19 #[.val (.long a), .second, .val (.long b), .second, .val (.int (1 : Int32)), .unset] []))
      refine Done.step (fun _ => XT.iconstV X0.here hx rfl (1 : Int32) (hb hby d7_19) (by decide)) ?_
      show Done p e below s _ _ (T0.setTop (mkF m 20 #[.val (.long a), .second, .val (.long b), .second, .val (.int (1 : Int32)), .unset] [(.int (1 : Int32))]))
      refine Done.step (fun _ => XS.goto X0.here hx rfl (pc0 := 20) (pc' := 24) rfl (hb hby d7_20) (by decide) (by decide)) ?_
      show Done p e below s _ _ (T0.setTop (mkF m 24 #[.val (.long a), .second, .val (.long b), .second, .val (.int (1 : Int32)), .unset] [(.int (1 : Int32))]))
      refine Done.step (fun _ => XS.istore X0.here hx rfl (hb hby d7_24) rfl (l' := #[.val (.long a), .second, .val (.long b), .second, .val (.int (1 : Int32)), .val (.int (1 : Int32))]) rfl) ?_
      show Done p e below s _ _ (T0.setTop (mkF m 26 #[.val (.long a), .second, .val (.long b), .second, .val (.int (1 : Int32)), .val (.int (1 : Int32))] []))
      refine Done.step (fun _ => XS.iload X0.here hx rfl (hb hby d7_26) rfl) ?_
      show Done p e below s _ _ (T0.setTop (mkF m 28 #[.val (.long a), .second, .val (.long b), .second, .val (.int (1 : Int32)), .val (.int (1 : Int32))] [(.int (1 : Int32))]))
      refine Done.step (fun _ => XS.iload X0.here hx rfl (hb hby d7_28) rfl) ?_
      show Done p e below s _ _ (T0.setTop (mkF m 30 #[.val (.long a), .second, .val (.long b), .second, .val (.int (1 : Int32)), .val (.int (1 : Int32))] [(.int (1 : Int32)), (.int (1 : Int32))]))
      refine Done.step (fun _ => XS.icmpNo X0.here hx rfl (hb hby d7_30) rfl (XT.ii_ne_f rfl)) ?_
      show Done p e below s _ _ (T0.setTop (mkF m 33 #[.val (.long a), .second, .val (.long b), .second, .val (.int (1 : Int32)), .val (.int (1 : Int32))] []))
      refine Done.step (fun _ => XT.lloadN X0.here hx rfl (hb hby d7_33) rfl) ?_
      show Done p e below s _ _ (T0.setTop (mkF m 34 #[.val (.long a), .second, .val (.long b), .second, .val (.int (1 : Int32)), .val (.int (1 : Int32))] [(.long a)]))
      refine Done.step (fun _ => XT.lloadN X0.here hx rfl (hb hby d7_34) rfl) ?_
      show Done p e below s _ _ (T0.setTop (mkF m 35 #[.val (.long a), .second, .val (.long b), .second, .val (.int (1 : Int32)), .val (.int (1 : Int32))] [(.long b), (.long a)]))
      refine Done.step (fun _ => XT.lcmp X0.here hx rfl (hb hby d7_35) rfl) ?_
      show Done p e below s _ _ (T0.setTop (mkF m 36 #[.val (.long a), .second, .val (.long b), .second, .val (.int (1 : Int32)), .val (.int (1 : Int32))] [(.int (XT.cmpL a b))]))
      by_cases hc3 : b < a
      · refine Done.step (fun _ => XS.ifNo X0.here hx rfl (hb hby d7_36) rfl (XT.ll_le_f hc3)) ?_
        show Done p e below s _ _ (T0.setTop (mkF m 39 #[.val (.long a), .second, .val (.long b), .second, .val (.int (1 : Int32)), .val (.int (1 : Int32))] []))
        refine Done.step (fun _ => XT.iconstV X0.here hx rfl (1 : Int32) (hb hby d7_39) (by decide)) ?_
        show Done p e below s _ _ (T0.setTop (mkF m 40 #[.val (.long a), .second, .val (.long b), .second, .val (.int (1 : Int32)), .val (.int (1 : Int32))] [(.int (1 : Int32))]))
        refine Done.step (fun _ => XS.goto X0.here hx rfl (pc0 := 40) (pc' := 44) rfl (hb hby d7_40) (by decide) (by decide)) ?_
        show Done p e below s _ _ (T0.setTop (mkF m 44 #[.val (.long a), .second, .val (.long b), .second, .val (.int (1 : Int32)), .val (.int (1 : Int32))] [(.int (1 : Int32))]))
        exact Done.retN X0 hx hlk (t := .boolean) hret (by simp) (hb hby d7_44) (by decide) (by decide) ⟨by rw [hr, bP_t ((own_ug a b).mpr (by simp [hc1, hc2, hc3]))]; rfl, e0, rfl⟩
      · refine Done.step (fun _ => XS.ifYes X0.here hx rfl (pc0 := 36) (pc' := 43) rfl (hb hby d7_36) rfl (XT.ll_le_t hc3) (by decide) (by decide)) ?_
        show Done p e below s _ _ (T0.setTop (mkF m 43 #[.val (.long a), .second, .val (.long b), .second, .val (.int (1 : Int32)), .val (.int (1 : Int32))] []))
        refine Done.step (fun _ => XT.iconstV X0.here hx rfl (0 : Int32) (hb hby d7_43) (by decide)) ?_
        show Done p e below s _ _ (T0.setTop (mkF m 44 #[.val (.long a), .second, .val (.long b), .second, .val (.int (1 : Int32)), .val (.int (1 : Int32))] [(.int (0 : Int32))]))
        exact Done.retN X0 hx hlk (t := .boolean) hret (by simp) (hb hby d7_44) (by decide) (by decide) ⟨by rw [hr, bP_f (fun q => absurd ((own_ug a b).mp q) (by simp [hc1, hc2, hc3]))]; rfl, e0, rfl⟩
    · refine Done.step (fun _ => XS.ifYes X0.here hx rfl (pc0 := 16) (pc' := 23) rfl (hb hby d7_16) rfl (XT.ll_ge_t hc2) (by decide) (by decide)) ?_
      show Done p e below s _ _ (T0.setTop (mkF m 23 #[.val (.long a), .second, .val (.long b), .second, .val (.int (1 : Int32)), .unset] []))
      refine Done.step (fun _ => XT.iconstV X0.here hx rfl (0 : Int32) (hb hby d7_23) (by decide)) ?_
      show Done p e below s _ _ (T0.setTop (mkF m 24 #[.val (.long a), .second, .val (.long b), .second, .val (.int (1 : Int32)), .unset] [(.int (0 : Int32))]))
      refine Done.step (fun _ => XS.istore X0.here hx rfl (hb hby d7_24) rfl (l' := #[.val (.long a), .second, .val (.long b), .second, .val (.int (1 : Int32)), .val (.int (0 : Int32))]) rfl) ?_
      show Done p e below s _ _ (T0.setTop (mkF m 26 #[.val (.long a), .second, .val (.long b), .second, .val (.int (1 : Int32)), .val (.int (0 : Int32))] []))
      refine Done.step (fun _ => XS.iload X0.here hx rfl (hb hby d7_26) rfl) ?_
      show Done p e below s _ _ (T0.setTop (mkF m 28 #[.val (.long a), .second, .val (.long b), .second, .val (.int (1 : Int32)), .val (.int (0 : Int32))] [(.int (1 : Int32))]))
      refine Done.step (fun _ => XS.iload X0.here hx rfl (hb hby d7_28) rfl) ?_
      show Done p e below s _ _ (T0.setTop (mkF m 30 #[.val (.long a), .second, .val (.long b), .second, .val (.int (1 : Int32)), .val (.int (0 : Int32))] [(.int (0 : Int32)), (.int (1 : Int32))]))
      refine Done.step (fun _ => XS.icmpYes X0.here hx rfl (pc0 := 30) (pc' := 45) rfl (hb hby d7_30) rfl (XT.ii_ne_t (by decide)) (by decide) (by decide)) ?_
      show Done p e below s _ _ (T0.setTop (mkF m 45 #[.val (.long a), .second, .val (.long b), .second, .val (.int (1 : Int32)), .val (.int (0 : Int32))] []))
      refine Done.step (fun _ => XS.iload X0.here hx rfl (hb hby d7_45) rfl) ?_
      show Done p e below s _ _ (T0.setTop (mkF m 47 #[.val (.long a), .second, .val (.long b), .second, .val (.int (1 : Int32)), .val (.int (0 : Int32))] [(.int (1 : Int32))]))
      exact Done.retN X0 hx hlk (t := .boolean) hret (by simp) (hb hby d7_47) (by decide) (by decide) ⟨by rw [hr, bP_t ((own_ug a b).mpr (by simp [hc1, hc2]))]; rfl, e0, rfl⟩
  · refine Done.step (fun _ => XS.ifYes X0.here hx rfl (pc0 := 3) (pc' := 10) rfl (hb hby d7_3) rfl (XT.ll_ge_t hc1) (by decide) (by decide)) ?_
    show Done p e below s _ _ (T0.setTop (mkF m 10 #[.val (.long a), .second, .val (.long b), .second, .unset, .unset] []))
    refine Done.step (fun _ => XT.iconstV X0.here hx rfl (0 : Int32) (hb hby d7_10) (by decide)) ?_
    show Done p e below s _ _ (T0.setTop (mkF m 11 #[.val (.long a), .second, .val (.long b), .second, .unset, .unset] [(.int (0 : Int32))]))
    refine Done.step (fun _ => XS.istore X0.here hx rfl (hb hby d7_11) rfl (l' := #[.val (.long a), .second, .val (.long b), .second, .val (.int (0 : Int32)), .unset]) rfl) ?_
    show Done p e below s _ _ (T0.setTop (mkF m 13 #[.val (.long a), .second, .val (.long b), .second, .val (.int (0 : Int32)), .unset] []))
    refine Done.step (fun _ => XT.lloadN X0.here hx rfl (hb hby d7_13) rfl) ?_
    show Done p e below s _ _ (T0.setTop (mkF m 14 #[.val (.long a), .second, .val (.long b), .second, .val (.int (0 : Int32)), .unset] [(.long b)]))
    refine Done.step (fun _ => XT.lconstV X0.here hx rfl (0 : Int64) (hb hby d7_14) (by decide)) ?_
    show Done p e below s _ _ (T0.setTop (mkF m 15 #[.val (.long a), .second, .val (.long b), .second, .val (.int (0 : Int32)), .unset] [(.long (0 : Int64)), (.long b)]))
    refine Done.step (fun _ => XT.lcmp X0.here hx rfl (hb hby d7_15) rfl) ?_
    show Done p e below s _ _ (T0.setTop (mkF m 16 #[.val (.long a), .second, .val (.long b), .second, .val (.int (0 : Int32)), .unset] [(.int (XT.cmpL b (0 : Int64)))]))
    by_cases hc4 : b < (0 : Int64)
    · refine Done.step (fun _ => XS.ifNo X0.here hx rfl (hb hby d7_16) rfl (XT.ll_ge_f hc4)) ?_
      show Done p e below s _ _ (T0.setTop (mkF m 19 #[.val (.long a), .second, .val (.long b), .second, .val (.int (0 : Int32)), .unset] []))
      refine Done.step (fun _ => XT.iconstV X0.here hx rfl (1 : Int32) (hb hby d7_19) (by decide)) ?_
      show Done p e below s _ _ (T0.setTop (mkF m 20 #[.val (.long a), .second, .val (.long b), .second, .val (.int (0 : Int32)), .unset] [(.int (1 : Int32))]))
      refine Done.step (fun _ => XS.goto X0.here hx rfl (pc0 := 20) (pc' := 24) rfl (hb hby d7_20) (by decide) (by decide)) ?_
      show Done p e below s _ _ (T0.setTop (mkF m 24 #[.val (.long a), .second, .val (.long b), .second, .val (.int (0 : Int32)), .unset] [(.int (1 : Int32))]))
      refine Done.step (fun _ => XS.istore X0.here hx rfl (hb hby d7_24) rfl (l' := #[.val (.long a), .second, .val (.long b), .second, .val (.int (0 : Int32)), .val (.int (1 : Int32))]) rfl) ?_
      show Done p e below s _ _ (T0.setTop (mkF m 26 #[.val (.long a), .second, .val (.long b), .second, .val (.int (0 : Int32)), .val (.int (1 : Int32))] []))
      refine Done.step (fun _ => XS.iload X0.here hx rfl (hb hby d7_26) rfl) ?_
      show Done p e below s _ _ (T0.setTop (mkF m 28 #[.val (.long a), .second, .val (.long b), .second, .val (.int (0 : Int32)), .val (.int (1 : Int32))] [(.int (0 : Int32))]))
      refine Done.step (fun _ => XS.iload X0.here hx rfl (hb hby d7_28) rfl) ?_
      show Done p e below s _ _ (T0.setTop (mkF m 30 #[.val (.long a), .second, .val (.long b), .second, .val (.int (0 : Int32)), .val (.int (1 : Int32))] [(.int (1 : Int32)), (.int (0 : Int32))]))
      refine Done.step (fun _ => XS.icmpYes X0.here hx rfl (pc0 := 30) (pc' := 45) rfl (hb hby d7_30) rfl (XT.ii_ne_t (by decide)) (by decide) (by decide)) ?_
      show Done p e below s _ _ (T0.setTop (mkF m 45 #[.val (.long a), .second, .val (.long b), .second, .val (.int (0 : Int32)), .val (.int (1 : Int32))] []))
      refine Done.step (fun _ => XS.iload X0.here hx rfl (hb hby d7_45) rfl) ?_
      show Done p e below s _ _ (T0.setTop (mkF m 47 #[.val (.long a), .second, .val (.long b), .second, .val (.int (0 : Int32)), .val (.int (1 : Int32))] [(.int (0 : Int32))]))
      exact Done.retN X0 hx hlk (t := .boolean) hret (by simp) (hb hby d7_47) (by decide) (by decide) ⟨by rw [hr, bP_f (fun q => absurd ((own_ug a b).mp q) (by simp [hc1, hc4]))]; rfl, e0, rfl⟩
    · refine Done.step (fun _ => XS.ifYes X0.here hx rfl (pc0 := 16) (pc' := 23) rfl (hb hby d7_16) rfl (XT.ll_ge_t hc4) (by decide) (by decide)) ?_
      show Done p e below s _ _ (T0.setTop (mkF m 23 #[.val (.long a), .second, .val (.long b), .second, .val (.int (0 : Int32)), .unset] []))
      refine Done.step (fun _ => XT.iconstV X0.here hx rfl (0 : Int32) (hb hby d7_23) (by decide)) ?_
      show Done p e below s _ _ (T0.setTop (mkF m 24 #[.val (.long a), .second, .val (.long b), .second, .val (.int (0 : Int32)), .unset] [(.int (0 : Int32))]))
      refine Done.step (fun _ => XS.istore X0.here hx rfl (hb hby d7_24) rfl (l' := #[.val (.long a), .second, .val (.long b), .second, .val (.int (0 : Int32)), .val (.int (0 : Int32))]) rfl) ?_
      show Done p e below s _ _ (T0.setTop (mkF m 26 #[.val (.long a), .second, .val (.long b), .second, .val (.int (0 : Int32)), .val (.int (0 : Int32))] []))
      refine Done.step (fun _ => XS.iload X0.here hx rfl (hb hby d7_26) rfl) ?_
      show Done p e below s _ _ (T0.setTop (mkF m 28 #[.val (.long a), .second, .val (.long b), .second, .val (.int (0 : Int32)), .val (.int (0 : Int32))] [(.int (0 : Int32))]))
      refine Done.step (fun _ => XS.iload X0.here hx rfl (hb hby d7_28) rfl) ?_
      show Done p e below s _ _ (T0.setTop (mkF m 30 #[.val (.long a), .second, .val (.long b), .second, .val (.int (0 : Int32)), .val (.int (0 : Int32))] [(.int (0 : Int32)), (.int (0 : Int32))]))
      refine Done.step (fun _ => XS.icmpNo X0.here hx rfl (hb hby d7_30) rfl (XT.ii_ne_f rfl)) ?_
      show Done p e below s _ _ (T0.setTop (mkF m 33 #[.val (.long a), .second, .val (.long b), .second, .val (.int (0 : Int32)), .val (.int (0 : Int32))] []))
      refine Done.step (fun _ => XT.lloadN X0.here hx rfl (hb hby d7_33) rfl) ?_
      show Done p e below s _ _ (T0.setTop (mkF m 34 #[.val (.long a), .second, .val (.long b), .second, .val (.int (0 : Int32)), .val (.int (0 : Int32))] [(.long a)]))
      refine Done.step (fun _ => XT.lloadN X0.here hx rfl (hb hby d7_34) rfl) ?_
      show Done p e below s _ _ (T0.setTop (mkF m 35 #[.val (.long a), .second, .val (.long b), .second, .val (.int (0 : Int32)), .val (.int (0 : Int32))] [(.long b), (.long a)]))
      refine Done.step (fun _ => XT.lcmp X0.here hx rfl (hb hby d7_35) rfl) ?_
      show Done p e below s _ _ (T0.setTop (mkF m 36 #[.val (.long a), .second, .val (.long b), .second, .val (.int (0 : Int32)), .val (.int (0 : Int32))] [(.int (XT.cmpL a b))]))
      by_cases hc5 : b < a
      · refine Done.step (fun _ => XS.ifNo X0.here hx rfl (hb hby d7_36) rfl (XT.ll_le_f hc5)) ?_
        show Done p e below s _ _ (T0.setTop (mkF m 39 #[.val (.long a), .second, .val (.long b), .second, .val (.int (0 : Int32)), .val (.int (0 : Int32))] []))
        refine Done.step (fun _ => XT.iconstV X0.here hx rfl (1 : Int32) (hb hby d7_39) (by decide)) ?_
        show Done p e below s _ _ (T0.setTop (mkF m 40 #[.val (.long a), .second, .val (.long b), .second, .val (.int (0 : Int32)), .val (.int (0 : Int32))] [(.int (1 : Int32))]))
        refine Done.step (fun _ => XS.goto X0.here hx rfl (pc0 := 40) (pc' := 44) rfl (hb hby d7_40) (by decide) (by decide)) ?_
        show Done p e below s _ _ (T0.setTop (mkF m 44 #[.val (.long a), .second, .val (.long b), .second, .val (.int (0 : Int32)), .val (.int (0 : Int32))] [(.int (1 : Int32))]))
        exact Done.retN X0 hx hlk (t := .boolean) hret (by simp) (hb hby d7_44) (by decide) (by decide) ⟨by rw [hr, bP_t ((own_ug a b).mpr (by simp [hc1, hc4, hc5]))]; rfl, e0, rfl⟩
      · refine Done.step (fun _ => XS.ifYes X0.here hx rfl (pc0 := 36) (pc' := 43) rfl (hb hby d7_36) rfl (XT.ll_le_t hc5) (by decide) (by decide)) ?_
        show Done p e below s _ _ (T0.setTop (mkF m 43 #[.val (.long a), .second, .val (.long b), .second, .val (.int (0 : Int32)), .val (.int (0 : Int32))] []))
        refine Done.step (fun _ => XT.iconstV X0.here hx rfl (0 : Int32) (hb hby d7_43) (by decide)) ?_
        show Done p e below s _ _ (T0.setTop (mkF m 44 #[.val (.long a), .second, .val (.long b), .second, .val (.int (0 : Int32)), .val (.int (0 : Int32))] [(.int (0 : Int32))]))
        exact Done.retN X0 hx hlk (t := .boolean) hret (by simp) (hb hby d7_44) (by decide) (by decide) ⟨by rw [hr, bP_f (fun q => absurd ((own_ug a b).mp q) (by simp [hc1, hc4, hc5]))]; rfl, e0, rfl⟩
theorem pd_2 : parseMethodDescriptor "(JJJ)V" = some ⟨[.long, .long, .long], none⟩ := by decide +kernel
theorem pd_3 : parseMethodDescriptor "(J)Z" = some ⟨[.long], some .boolean⟩ := by decide +kernel
theorem pd_4 : parseMethodDescriptor "(JJ)Z" = some ⟨[.long, .long], some .boolean⟩ := by decide +kernel
set_option maxRecDepth 65536 in
set_option maxHeartbeats 40000000 in
theorem rm0 (l : Launch) (Z : State) (a0 : Array Value) (hw : ∀ d ∈ tables_1, d.before a0 Z = true) (ws : List Jvm.Cond) (i oR nu pr : Int64) (md : Int32) (h0 : Heap) (n0 : Nat) (Z0 : n0 ≤ h0.size)  :
    Ctr l Z x code maxLocals ret ws room_1 #[(.long i), (.long oR), (.long nu), (.long pr), (.int md)] h0 (LawQ n0) := by
  refine Ctr.intro (plainFor_of_name pn_com_example_requeue_requeue_TxSequenceIsAfterPinLaw) (Ls := #[.val (.long i), .second, .val (.long oR), .second, .val (.long nu), .second, .val (.long pr), .second, .val (.int md), .unset, .unset, .unset, .unset, .unset, .unset, .unset, .unset, .unset, .unset]) (fun m => by first | (simp [entryFrame, mkF, argsToLocals, Value.category, maxLocals]; done) | rfl) ?_
  intro p e s m below meth c T0 hx hby hml hown hnm hret hlk hZ e0 X0
  have N0 := Fr.nil n0
  have hown : s.vm.findClass "com/example/requeue/requeue/TxSequenceIsAfterPinLaw" = some m.cls := hown
  have hret : meth.sig.returnType = (some .boolean) := hret
  have hml : c.maxLocals = 19 := hml
  show Done p e below s _ _ (T0.setTop (mkF m 0 #[.val (.long i), .second, .val (.long oR), .second, .val (.long nu), .second, .val (.long pr), .second, .val (.int md), .unset, .unset, .unset, .unset, .unset, .unset, .unset, .unset, .unset, .unset] []))
  refine Done.step (fun _ => XT.lload X0.here hx rfl (hb hby at_0) rfl) ?_
  show Done p e below s _ _ (T0.setTop (mkF m 2 #[.val (.long i), .second, .val (.long oR), .second, .val (.long nu), .second, .val (.long pr), .second, .val (.int md), .unset, .unset, .unset, .unset, .unset, .unset, .unset, .unset, .unset, .unset] [(.long nu)]))
  refine Done.step (fun _ => Stand.ldc2J X0 hx hown (mvT hZ (wAt hw 0 rfl)) (g := (mkF m 2 #[.val (.long i), .second, .val (.long oR), .second, .val (.long nu), .second, .val (.long pr), .second, .val (.int md), .unset, .unset, .unset, .unset, .unset, .unset, .unset, .unset, .unset, .unset] [(.long nu)])) rfl (hb hby at_2)) ?_
  show Done p e below s _ _ (T0.setTop (mkF m 5 #[.val (.long i), .second, .val (.long oR), .second, .val (.long nu), .second, .val (.long pr), .second, .val (.int md), .unset, .unset, .unset, .unset, .unset, .unset, .unset, .unset, .unset, .unset] [(.long (4294967295 : Int64)), (.long nu)]))
  refine Done.step (fun _ => XT.land X0.here hx rfl (hb hby at_5) rfl) ?_
  show Done p e below s _ _ (T0.setTop (mkF m 6 #[.val (.long i), .second, .val (.long oR), .second, .val (.long nu), .second, .val (.long pr), .second, .val (.int md), .unset, .unset, .unset, .unset, .unset, .unset, .unset, .unset, .unset, .unset] [(.long (nu &&& (4294967295 : Int64)))]))
  refine Done.step (fun _ => XT.lstore X0.here hx rfl (hb hby at_6) rfl (l' := #[.val (.long i), .second, .val (.long oR), .second, .val (.long nu), .second, .val (.long pr), .second, .val (.int md), .val (.long (nu &&& (4294967295 : Int64))), .second, .unset, .unset, .unset, .unset, .unset, .unset, .unset, .unset]) rfl) ?_
  show Done p e below s _ _ (T0.setTop (mkF m 8 #[.val (.long i), .second, .val (.long oR), .second, .val (.long nu), .second, .val (.long pr), .second, .val (.int md), .val (.long (nu &&& (4294967295 : Int64))), .second, .unset, .unset, .unset, .unset, .unset, .unset, .unset, .unset] []))
  refine Done.step (fun _ => XT.lload X0.here hx rfl (hb hby at_8) rfl) ?_
  show Done p e below s _ _ (T0.setTop (mkF m 10 #[.val (.long i), .second, .val (.long oR), .second, .val (.long nu), .second, .val (.long pr), .second, .val (.int md), .val (.long (nu &&& (4294967295 : Int64))), .second, .unset, .unset, .unset, .unset, .unset, .unset, .unset, .unset] [(.long pr)]))
  refine Done.step (fun _ => Stand.ldc2J X0 hx hown (mvT hZ (wAt hw 0 rfl)) (g := (mkF m 10 #[.val (.long i), .second, .val (.long oR), .second, .val (.long nu), .second, .val (.long pr), .second, .val (.int md), .val (.long (nu &&& (4294967295 : Int64))), .second, .unset, .unset, .unset, .unset, .unset, .unset, .unset, .unset] [(.long pr)])) rfl (hb hby at_10)) ?_
  show Done p e below s _ _ (T0.setTop (mkF m 13 #[.val (.long i), .second, .val (.long oR), .second, .val (.long nu), .second, .val (.long pr), .second, .val (.int md), .val (.long (nu &&& (4294967295 : Int64))), .second, .unset, .unset, .unset, .unset, .unset, .unset, .unset, .unset] [(.long (4294967295 : Int64)), (.long pr)]))
  refine Done.step (fun _ => XT.land X0.here hx rfl (hb hby at_13) rfl) ?_
  show Done p e below s _ _ (T0.setTop (mkF m 14 #[.val (.long i), .second, .val (.long oR), .second, .val (.long nu), .second, .val (.long pr), .second, .val (.int md), .val (.long (nu &&& (4294967295 : Int64))), .second, .unset, .unset, .unset, .unset, .unset, .unset, .unset, .unset] [(.long (pr &&& (4294967295 : Int64)))]))
  refine Done.step (fun _ => XT.lstore X0.here hx rfl (hb hby at_14) rfl (l' := #[.val (.long i), .second, .val (.long oR), .second, .val (.long nu), .second, .val (.long pr), .second, .val (.int md), .val (.long (nu &&& (4294967295 : Int64))), .second, .val (.long (pr &&& (4294967295 : Int64))), .second, .unset, .unset, .unset, .unset, .unset, .unset]) rfl) ?_
  show Done p e below s _ _ (T0.setTop (mkF m 16 #[.val (.long i), .second, .val (.long oR), .second, .val (.long nu), .second, .val (.long pr), .second, .val (.int md), .val (.long (nu &&& (4294967295 : Int64))), .second, .val (.long (pr &&& (4294967295 : Int64))), .second, .unset, .unset, .unset, .unset, .unset, .unset] []))
  refine Done.step (fun _ => XS.iload X0.here hx rfl (hb hby at_16) rfl) ?_
  show Done p e below s _ _ (T0.setTop (mkF m 18 #[.val (.long i), .second, .val (.long oR), .second, .val (.long nu), .second, .val (.long pr), .second, .val (.int md), .val (.long (nu &&& (4294967295 : Int64))), .second, .val (.long (pr &&& (4294967295 : Int64))), .second, .unset, .unset, .unset, .unset, .unset, .unset] [(.int md)]))
  refine Done.step (fun _ => XT.iconstV X0.here hx rfl (3 : Int32) (hb hby at_18) (by decide)) ?_
  show Done p e below s _ _ (T0.setTop (mkF m 19 #[.val (.long i), .second, .val (.long oR), .second, .val (.long nu), .second, .val (.long pr), .second, .val (.int md), .val (.long (nu &&& (4294967295 : Int64))), .second, .val (.long (pr &&& (4294967295 : Int64))), .second, .unset, .unset, .unset, .unset, .unset, .unset] [(.int (3 : Int32)), (.int md)]))
  refine Done.step (fun _ => XS.iand X0.here hx rfl (hb hby at_19) rfl) ?_
  show Done p e below s _ _ (T0.setTop (mkF m 20 #[.val (.long i), .second, .val (.long oR), .second, .val (.long nu), .second, .val (.long pr), .second, .val (.int md), .val (.long (nu &&& (4294967295 : Int64))), .second, .val (.long (pr &&& (4294967295 : Int64))), .second, .unset, .unset, .unset, .unset, .unset, .unset] [(.int (md &&& (3 : Int32)))]))
  refine Done.step (fun _ => XS.istore X0.here hx rfl (hb hby at_20) rfl (l' := #[.val (.long i), .second, .val (.long oR), .second, .val (.long nu), .second, .val (.long pr), .second, .val (.int md), .val (.long (nu &&& (4294967295 : Int64))), .second, .val (.long (pr &&& (4294967295 : Int64))), .second, .unset, .unset, .val (.int (md &&& (3 : Int32))), .unset, .unset, .unset]) rfl) ?_
  show Done p e below s _ _ (T0.setTop (mkF m 22 #[.val (.long i), .second, .val (.long oR), .second, .val (.long nu), .second, .val (.long pr), .second, .val (.int md), .val (.long (nu &&& (4294967295 : Int64))), .second, .val (.long (pr &&& (4294967295 : Int64))), .second, .unset, .unset, .val (.int (md &&& (3 : Int32))), .unset, .unset, .unset] []))
  have K64 : ∀ (ot : Int64), Done p e below s room_1 (LawQ n0) (T0.setTop (mkF m 64 #[.val (.long i), .second, .val (.long oR), .second, .val (.long nu), .second, .val (.long pr), .second, .val (.int md), .val (.long (nu &&& (4294967295 : Int64))), .second, .val (.long (pr &&& (4294967295 : Int64))), .second, .val (.long ot), .second, .val (.int (md &&& (3 : Int32))), .unset, .unset, .unset] [])) := by
    intro ot
    show Done p e below s _ _ (T0.setTop (mkF m 64 #[.val (.long i), .second, .val (.long oR), .second, .val (.long nu), .second, .val (.long pr), .second, .val (.int md), .val (.long (nu &&& (4294967295 : Int64))), .second, .val (.long (pr &&& (4294967295 : Int64))), .second, .val (.long ot), .second, .val (.int (md &&& (3 : Int32))), .unset, .unset, .unset] []))
    obtain ⟨T1, h1, X1, e1, E1, A1, D1, -, st1⟩ := newO X0 hx hZ hown (wAt hw 1 rfl) (wAt hw 2 rfl) (wAt hw 3 rfl) e0 (g := (mkF m 64 #[.val (.long i), .second, .val (.long oR), .second, .val (.long nu), .second, .val (.long pr), .second, .val (.int md), .val (.long (nu &&& (4294967295 : Int64))), .second, .val (.long (pr &&& (4294967295 : Int64))), .second, .val (.long ot), .second, .val (.int (md &&& (3 : Int32))), .unset, .unset, .unset] [])) rfl (hb hby at_64) (by decide) (by decide)
    obtain ⟨b1, g1⟩ : ∃ z, z = h0.size := ⟨_, rfl⟩
    rw [← g1] at A1 D1 st1
    have n0_b1 : n0 ≤ b1 := by rw [g1]; exact Z0
    have Zs1 := Nat.le_trans Z0 E1.1
    have F_id_b1 : Fld Z h1 b1 "com/example/requeue/requeue/TxSequence" "id" "J" (.long (0 : Int64)) := D1 (Or.inr (wAt hw 17 rfl)) (ty := .long) (by decide)
    have F_number_b1 : Fld Z h1 b1 "com/example/requeue/requeue/TxSequence" "number" "J" (.long (0 : Int64)) := D1 (Or.inr (wAt hw 19 rfl)) (ty := .long) (by decide)
    have F_previous_b1 : Fld Z h1 b1 "com/example/requeue/requeue/TxSequence" "previous" "J" (.long (0 : Int64)) := D1 (Or.inr (wAt hw 21 rfl)) (ty := .long) (by decide)
    refine Done.step st1 ?_
    show Done p e below s _ _ (T1.setTop (mkF m 67 #[.val (.long i), .second, .val (.long oR), .second, .val (.long nu), .second, .val (.long pr), .second, .val (.int md), .val (.long (nu &&& (4294967295 : Int64))), .second, .val (.long (pr &&& (4294967295 : Int64))), .second, .val (.long ot), .second, .val (.int (md &&& (3 : Int32))), .unset, .unset, .unset] [(.ref b1)]))
    refine Done.step (fun _ => XS.dup X1.here hx rfl (hb hby at_67) rfl rfl) ?_
    show Done p e below s _ _ (T1.setTop (mkF m 68 #[.val (.long i), .second, .val (.long oR), .second, .val (.long nu), .second, .val (.long pr), .second, .val (.int md), .val (.long (nu &&& (4294967295 : Int64))), .second, .val (.long (pr &&& (4294967295 : Int64))), .second, .val (.long ot), .second, .val (.int (md &&& (3 : Int32))), .unset, .unset, .unset] [(.ref b1), (.ref b1)]))
    refine Done.step (fun _ => XT.lloadN X1.here hx rfl (hb hby at_68) rfl) ?_
    show Done p e below s _ _ (T1.setTop (mkF m 69 #[.val (.long i), .second, .val (.long oR), .second, .val (.long nu), .second, .val (.long pr), .second, .val (.int md), .val (.long (nu &&& (4294967295 : Int64))), .second, .val (.long (pr &&& (4294967295 : Int64))), .second, .val (.long ot), .second, .val (.int (md &&& (3 : Int32))), .unset, .unset, .unset] [(.long i), (.ref b1), (.ref b1)]))
    refine Done.step (fun _ => XT.lload X1.here hx rfl (hb hby at_69) rfl) ?_
    show Done p e below s _ _ (T1.setTop (mkF m 71 #[.val (.long i), .second, .val (.long oR), .second, .val (.long nu), .second, .val (.long pr), .second, .val (.int md), .val (.long (nu &&& (4294967295 : Int64))), .second, .val (.long (pr &&& (4294967295 : Int64))), .second, .val (.long ot), .second, .val (.int (md &&& (3 : Int32))), .unset, .unset, .unset] [(.long (nu &&& (4294967295 : Int64))), (.long i), (.ref b1), (.ref b1)]))
    refine Done.step (fun _ => XT.lload X1.here hx rfl (hb hby at_71) rfl) ?_
    show Done p e below s _ _ (T1.setTop (mkF m 73 #[.val (.long i), .second, .val (.long oR), .second, .val (.long nu), .second, .val (.long pr), .second, .val (.int md), .val (.long (nu &&& (4294967295 : Int64))), .second, .val (.long (pr &&& (4294967295 : Int64))), .second, .val (.long ot), .second, .val (.int (md &&& (3 : Int32))), .unset, .unset, .unset] [(.long (pr &&& (4294967295 : Int64))), (.long (nu &&& (4294967295 : Int64))), (.long i), (.ref b1), (.ref b1)]))
    refine Done.callI X1 hx hZ rfl hown (wAt hw 4 rfl) (wAt hw 5 rfl) (wAt hw 3 rfl) (wAt hw 6 rfl) (by decide) (rmT l Z a0 hw [] b1 i (nu &&& (4294967295 : Int64)) (pr &&& (4294967295 : Int64)) h1 n0 Zs1 A1 F_id_b1 F_number_b1 F_previous_b1 n0_b1 (own_ge nu) (own_le nu) (own_ge pr) (own_le pr)) e1 (g := (mkF m 73 #[.val (.long i), .second, .val (.long oR), .second, .val (.long nu), .second, .val (.long pr), .second, .val (.int md), .val (.long (nu &&& (4294967295 : Int64))), .second, .val (.long (pr &&& (4294967295 : Int64))), .second, .val (.long ot), .second, .val (.int (md &&& (3 : Int32))), .unset, .unset, .unset] [(.long (pr &&& (4294967295 : Int64))), (.long (nu &&& (4294967295 : Int64))), (.long i), (.ref b1), (.ref b1)])) rfl (by rw [hml]; rfl) b1 [(.long i), (.long (nu &&& (4294967295 : Int64))), (.long (pr &&& (4294967295 : Int64)))] [(.ref b1)] 1 (lenOf pd_2 rfl) rfl rfl (by show 2 * 0 + _ ≤ _; exact Nat.le_of_eq rfl) (hb hby at_73) (by decide) (by decide) (by decide) (by decide) ?_
    intro T2 v2 L2 X2 q2
    obtain ⟨rfl, Nq2, K2q, f2_0, f2_1⟩ := q2
    have N2 := Fr.app N0 Nq2
    have Zs2 := Nat.le_trans Zs1 K2q.1
    show Done p e below s _ _ (T2.setTop (mkF m 76 #[.val (.long i), .second, .val (.long oR), .second, .val (.long nu), .second, .val (.long pr), .second, .val (.int md), .val (.long (nu &&& (4294967295 : Int64))), .second, .val (.long (pr &&& (4294967295 : Int64))), .second, .val (.long ot), .second, .val (.int (md &&& (3 : Int32))), .unset, .unset, .unset] [(.ref b1)]))
    refine Done.step (fun _ => XS.astore X2.here hx rfl (hb hby at_76) rfl rfl (l' := #[.val (.long i), .second, .val (.long oR), .second, .val (.long nu), .second, .val (.long pr), .second, .val (.int md), .val (.long (nu &&& (4294967295 : Int64))), .second, .val (.long (pr &&& (4294967295 : Int64))), .second, .val (.long ot), .second, .val (.int (md &&& (3 : Int32))), .val (.ref b1), .unset, .unset]) rfl) ?_
    show Done p e below s _ _ (T2.setTop (mkF m 78 #[.val (.long i), .second, .val (.long oR), .second, .val (.long nu), .second, .val (.long pr), .second, .val (.int md), .val (.long (nu &&& (4294967295 : Int64))), .second, .val (.long (pr &&& (4294967295 : Int64))), .second, .val (.long ot), .second, .val (.int (md &&& (3 : Int32))), .val (.ref b1), .unset, .unset] []))
    refine Done.step (fun _ => XS.aload X2.here hx rfl (hb hby at_78) rfl rfl) ?_
    show Done p e below s _ _ (T2.setTop (mkF m 80 #[.val (.long i), .second, .val (.long oR), .second, .val (.long nu), .second, .val (.long pr), .second, .val (.int md), .val (.long (nu &&& (4294967295 : Int64))), .second, .val (.long (pr &&& (4294967295 : Int64))), .second, .val (.long ot), .second, .val (.int (md &&& (3 : Int32))), .val (.ref b1), .unset, .unset] [(.ref b1)]))
    refine Done.step (fun _ => XT.lload X2.here hx rfl (hb hby at_80) rfl) ?_
    show Done p e below s _ _ (T2.setTop (mkF m 82 #[.val (.long i), .second, .val (.long oR), .second, .val (.long nu), .second, .val (.long pr), .second, .val (.int md), .val (.long (nu &&& (4294967295 : Int64))), .second, .val (.long (pr &&& (4294967295 : Int64))), .second, .val (.long ot), .second, .val (.int (md &&& (3 : Int32))), .val (.ref b1), .unset, .unset] [(.long ot), (.ref b1)]))
    by_cases hc3 : (ot + (-9223372036854775808 : Int64)) < (i + (-9223372036854775808 : Int64))
    · refine Done.callVP X2 hx hZ (C := "com/example/requeue/requeue/TxSequence") hown (wAt hw 22 rfl) (wAt hw 23 rfl) (notFace_of_selects (args := #[]) (mvT hZ (wAt hw 25 rfl))) (wAt hw 25 rfl) (wAt hw 24 rfl) (wAt hw 3 rfl) (wAt hw 26 rfl) (by decide) (rmA l Z a0 hw [] b1 ot i (1 : Int32) T2.heap n0 Zs2 f2_1 (bP_t hc3).symm) rfl f2_0 (g := (mkF m 82 #[.val (.long i), .second, .val (.long oR), .second, .val (.long nu), .second, .val (.long pr), .second, .val (.int md), .val (.long (nu &&& (4294967295 : Int64))), .second, .val (.long (pr &&& (4294967295 : Int64))), .second, .val (.long ot), .second, .val (.int (md &&& (3 : Int32))), .val (.ref b1), .unset, .unset] [(.long ot), (.ref b1)])) rfl (by rw [hml]; rfl) [(.long ot)] [] 0 (lenOf pd_3 rfl) rfl rfl (by show 2 * 0 + _ ≤ _; exact Nat.le_of_eq rfl) (hb hby at_82) (by decide) (by decide) (by decide) (by decide) rfl rfl ?_
      intro T4 X4 e4
      show Done p e below s _ _ (T4.setTop (mkF m 85 #[.val (.long i), .second, .val (.long oR), .second, .val (.long nu), .second, .val (.long pr), .second, .val (.int md), .val (.long (nu &&& (4294967295 : Int64))), .second, .val (.long (pr &&& (4294967295 : Int64))), .second, .val (.long ot), .second, .val (.int (md &&& (3 : Int32))), .val (.ref b1), .unset, .unset] [(.int (1 : Int32))]))
      refine Done.step (fun _ => XS.istore X4.here hx rfl (hb hby at_85) rfl (l' := #[.val (.long i), .second, .val (.long oR), .second, .val (.long nu), .second, .val (.long pr), .second, .val (.int md), .val (.long (nu &&& (4294967295 : Int64))), .second, .val (.long (pr &&& (4294967295 : Int64))), .second, .val (.long ot), .second, .val (.int (md &&& (3 : Int32))), .val (.ref b1), .val (.int (1 : Int32)), .unset]) rfl) ?_
      show Done p e below s _ _ (T4.setTop (mkF m 87 #[.val (.long i), .second, .val (.long oR), .second, .val (.long nu), .second, .val (.long pr), .second, .val (.int md), .val (.long (nu &&& (4294967295 : Int64))), .second, .val (.long (pr &&& (4294967295 : Int64))), .second, .val (.long ot), .second, .val (.int (md &&& (3 : Int32))), .val (.ref b1), .val (.int (1 : Int32)), .unset] []))
      refine Done.step (fun _ => XT.lloadN X4.here hx rfl (hb hby at_87) rfl) ?_
      show Done p e below s _ _ (T4.setTop (mkF m 88 #[.val (.long i), .second, .val (.long oR), .second, .val (.long nu), .second, .val (.long pr), .second, .val (.int md), .val (.long (nu &&& (4294967295 : Int64))), .second, .val (.long (pr &&& (4294967295 : Int64))), .second, .val (.long ot), .second, .val (.int (md &&& (3 : Int32))), .val (.ref b1), .val (.int (1 : Int32)), .unset] [(.long i)]))
      refine Done.step (fun _ => XT.lload X4.here hx rfl (hb hby at_88) rfl) ?_
      show Done p e below s _ _ (T4.setTop (mkF m 90 #[.val (.long i), .second, .val (.long oR), .second, .val (.long nu), .second, .val (.long pr), .second, .val (.int md), .val (.long (nu &&& (4294967295 : Int64))), .second, .val (.long (pr &&& (4294967295 : Int64))), .second, .val (.long ot), .second, .val (.int (md &&& (3 : Int32))), .val (.ref b1), .val (.int (1 : Int32)), .unset] [(.long ot), (.long i)]))
      refine Done.callSP X4 hx hZ hown (wAt hw 35 rfl) (wAt hw 36 rfl) (wAt hw 37 rfl) (wAt hw 38 rfl) (by decide) (rmG l Z a0 hw [] i ot (1 : Int32) T2.heap n0 Zs2 (bP_t hc3).symm) e4 (g := (mkF m 90 #[.val (.long i), .second, .val (.long oR), .second, .val (.long nu), .second, .val (.long pr), .second, .val (.int md), .val (.long (nu &&& (4294967295 : Int64))), .second, .val (.long (pr &&& (4294967295 : Int64))), .second, .val (.long ot), .second, .val (.int (md &&& (3 : Int32))), .val (.ref b1), .val (.int (1 : Int32)), .unset] [(.long ot), (.long i)])) rfl (by rw [hml]; rfl) [(.long i), (.long ot)] [] 0 (lenOf pd_4 rfl) rfl rfl (by show 2 * 0 + _ ≤ _; exact Nat.le_of_eq rfl) (hb hby at_90) (by decide) (by decide) (by decide) (by decide) rfl rfl ?_
      intro T5 X5 e5
      show Done p e below s _ _ (T5.setTop (mkF m 93 #[.val (.long i), .second, .val (.long oR), .second, .val (.long nu), .second, .val (.long pr), .second, .val (.int md), .val (.long (nu &&& (4294967295 : Int64))), .second, .val (.long (pr &&& (4294967295 : Int64))), .second, .val (.long ot), .second, .val (.int (md &&& (3 : Int32))), .val (.ref b1), .val (.int (1 : Int32)), .unset] [(.int (1 : Int32))]))
      refine Done.step (fun _ => XS.istore X5.here hx rfl (hb hby at_93) rfl (l' := #[.val (.long i), .second, .val (.long oR), .second, .val (.long nu), .second, .val (.long pr), .second, .val (.int md), .val (.long (nu &&& (4294967295 : Int64))), .second, .val (.long (pr &&& (4294967295 : Int64))), .second, .val (.long ot), .second, .val (.int (md &&& (3 : Int32))), .val (.ref b1), .val (.int (1 : Int32)), .val (.int (1 : Int32))]) rfl) ?_
      show Done p e below s _ _ (T5.setTop (mkF m 95 #[.val (.long i), .second, .val (.long oR), .second, .val (.long nu), .second, .val (.long pr), .second, .val (.int md), .val (.long (nu &&& (4294967295 : Int64))), .second, .val (.long (pr &&& (4294967295 : Int64))), .second, .val (.long ot), .second, .val (.int (md &&& (3 : Int32))), .val (.ref b1), .val (.int (1 : Int32)), .val (.int (1 : Int32))] []))
      refine Done.step (fun _ => XS.iload X5.here hx rfl (hb hby at_95) rfl) ?_
      show Done p e below s _ _ (T5.setTop (mkF m 97 #[.val (.long i), .second, .val (.long oR), .second, .val (.long nu), .second, .val (.long pr), .second, .val (.int md), .val (.long (nu &&& (4294967295 : Int64))), .second, .val (.long (pr &&& (4294967295 : Int64))), .second, .val (.long ot), .second, .val (.int (md &&& (3 : Int32))), .val (.ref b1), .val (.int (1 : Int32)), .val (.int (1 : Int32))] [(.int (1 : Int32))]))
      refine Done.step (fun _ => XS.iload X5.here hx rfl (hb hby at_97) rfl) ?_
      show Done p e below s _ _ (T5.setTop (mkF m 99 #[.val (.long i), .second, .val (.long oR), .second, .val (.long nu), .second, .val (.long pr), .second, .val (.int md), .val (.long (nu &&& (4294967295 : Int64))), .second, .val (.long (pr &&& (4294967295 : Int64))), .second, .val (.long ot), .second, .val (.int (md &&& (3 : Int32))), .val (.ref b1), .val (.int (1 : Int32)), .val (.int (1 : Int32))] [(.int (1 : Int32)), (.int (1 : Int32))]))
      refine Done.step (fun _ => XS.icmpNo X5.here hx rfl (hb hby at_99) rfl (XT.ii_ne_f rfl)) ?_
      show Done p e below s _ _ (T5.setTop (mkF m 102 #[.val (.long i), .second, .val (.long oR), .second, .val (.long nu), .second, .val (.long pr), .second, .val (.int md), .val (.long (nu &&& (4294967295 : Int64))), .second, .val (.long (pr &&& (4294967295 : Int64))), .second, .val (.long ot), .second, .val (.int (md &&& (3 : Int32))), .val (.ref b1), .val (.int (1 : Int32)), .val (.int (1 : Int32))] []))
      refine Done.step (fun _ => XT.iconstV X5.here hx rfl (1 : Int32) (hb hby at_102) (by decide)) ?_
      show Done p e below s _ _ (T5.setTop (mkF m 103 #[.val (.long i), .second, .val (.long oR), .second, .val (.long nu), .second, .val (.long pr), .second, .val (.int md), .val (.long (nu &&& (4294967295 : Int64))), .second, .val (.long (pr &&& (4294967295 : Int64))), .second, .val (.long ot), .second, .val (.int (md &&& (3 : Int32))), .val (.ref b1), .val (.int (1 : Int32)), .val (.int (1 : Int32))] [(.int (1 : Int32))]))
      refine Done.step (fun _ => XS.goto X5.here hx rfl (pc0 := 103) (pc' := 107) rfl (hb hby at_103) (by decide) (by decide)) ?_
      show Done p e below s _ _ (T5.setTop (mkF m 107 #[.val (.long i), .second, .val (.long oR), .second, .val (.long nu), .second, .val (.long pr), .second, .val (.int md), .val (.long (nu &&& (4294967295 : Int64))), .second, .val (.long (pr &&& (4294967295 : Int64))), .second, .val (.long ot), .second, .val (.int (md &&& (3 : Int32))), .val (.ref b1), .val (.int (1 : Int32)), .val (.int (1 : Int32))] [(.int (1 : Int32))]))
      exact Done.retN X5 hx hlk (t := .boolean) hret (by simp) (hb hby at_107) (by decide) (by decide) ⟨rfl, N2⟩
    · refine Done.callVP X2 hx hZ (C := "com/example/requeue/requeue/TxSequence") hown (wAt hw 22 rfl) (wAt hw 23 rfl) (notFace_of_selects (args := #[]) (mvT hZ (wAt hw 25 rfl))) (wAt hw 25 rfl) (wAt hw 24 rfl) (wAt hw 3 rfl) (wAt hw 26 rfl) (by decide) (rmA l Z a0 hw [] b1 ot i (0 : Int32) T2.heap n0 Zs2 f2_1 (bP_f hc3).symm) rfl f2_0 (g := (mkF m 82 #[.val (.long i), .second, .val (.long oR), .second, .val (.long nu), .second, .val (.long pr), .second, .val (.int md), .val (.long (nu &&& (4294967295 : Int64))), .second, .val (.long (pr &&& (4294967295 : Int64))), .second, .val (.long ot), .second, .val (.int (md &&& (3 : Int32))), .val (.ref b1), .unset, .unset] [(.long ot), (.ref b1)])) rfl (by rw [hml]; rfl) [(.long ot)] [] 0 (lenOf pd_3 rfl) rfl rfl (by show 2 * 0 + _ ≤ _; exact Nat.le_of_eq rfl) (hb hby at_82) (by decide) (by decide) (by decide) (by decide) rfl rfl ?_
      intro T6 X6 e6
      show Done p e below s _ _ (T6.setTop (mkF m 85 #[.val (.long i), .second, .val (.long oR), .second, .val (.long nu), .second, .val (.long pr), .second, .val (.int md), .val (.long (nu &&& (4294967295 : Int64))), .second, .val (.long (pr &&& (4294967295 : Int64))), .second, .val (.long ot), .second, .val (.int (md &&& (3 : Int32))), .val (.ref b1), .unset, .unset] [(.int (0 : Int32))]))
      refine Done.step (fun _ => XS.istore X6.here hx rfl (hb hby at_85) rfl (l' := #[.val (.long i), .second, .val (.long oR), .second, .val (.long nu), .second, .val (.long pr), .second, .val (.int md), .val (.long (nu &&& (4294967295 : Int64))), .second, .val (.long (pr &&& (4294967295 : Int64))), .second, .val (.long ot), .second, .val (.int (md &&& (3 : Int32))), .val (.ref b1), .val (.int (0 : Int32)), .unset]) rfl) ?_
      show Done p e below s _ _ (T6.setTop (mkF m 87 #[.val (.long i), .second, .val (.long oR), .second, .val (.long nu), .second, .val (.long pr), .second, .val (.int md), .val (.long (nu &&& (4294967295 : Int64))), .second, .val (.long (pr &&& (4294967295 : Int64))), .second, .val (.long ot), .second, .val (.int (md &&& (3 : Int32))), .val (.ref b1), .val (.int (0 : Int32)), .unset] []))
      refine Done.step (fun _ => XT.lloadN X6.here hx rfl (hb hby at_87) rfl) ?_
      show Done p e below s _ _ (T6.setTop (mkF m 88 #[.val (.long i), .second, .val (.long oR), .second, .val (.long nu), .second, .val (.long pr), .second, .val (.int md), .val (.long (nu &&& (4294967295 : Int64))), .second, .val (.long (pr &&& (4294967295 : Int64))), .second, .val (.long ot), .second, .val (.int (md &&& (3 : Int32))), .val (.ref b1), .val (.int (0 : Int32)), .unset] [(.long i)]))
      refine Done.step (fun _ => XT.lload X6.here hx rfl (hb hby at_88) rfl) ?_
      show Done p e below s _ _ (T6.setTop (mkF m 90 #[.val (.long i), .second, .val (.long oR), .second, .val (.long nu), .second, .val (.long pr), .second, .val (.int md), .val (.long (nu &&& (4294967295 : Int64))), .second, .val (.long (pr &&& (4294967295 : Int64))), .second, .val (.long ot), .second, .val (.int (md &&& (3 : Int32))), .val (.ref b1), .val (.int (0 : Int32)), .unset] [(.long ot), (.long i)]))
      refine Done.callSP X6 hx hZ hown (wAt hw 35 rfl) (wAt hw 36 rfl) (wAt hw 37 rfl) (wAt hw 38 rfl) (by decide) (rmG l Z a0 hw [] i ot (0 : Int32) T2.heap n0 Zs2 (bP_f hc3).symm) e6 (g := (mkF m 90 #[.val (.long i), .second, .val (.long oR), .second, .val (.long nu), .second, .val (.long pr), .second, .val (.int md), .val (.long (nu &&& (4294967295 : Int64))), .second, .val (.long (pr &&& (4294967295 : Int64))), .second, .val (.long ot), .second, .val (.int (md &&& (3 : Int32))), .val (.ref b1), .val (.int (0 : Int32)), .unset] [(.long ot), (.long i)])) rfl (by rw [hml]; rfl) [(.long i), (.long ot)] [] 0 (lenOf pd_4 rfl) rfl rfl (by show 2 * 0 + _ ≤ _; exact Nat.le_of_eq rfl) (hb hby at_90) (by decide) (by decide) (by decide) (by decide) rfl rfl ?_
      intro T7 X7 e7
      show Done p e below s _ _ (T7.setTop (mkF m 93 #[.val (.long i), .second, .val (.long oR), .second, .val (.long nu), .second, .val (.long pr), .second, .val (.int md), .val (.long (nu &&& (4294967295 : Int64))), .second, .val (.long (pr &&& (4294967295 : Int64))), .second, .val (.long ot), .second, .val (.int (md &&& (3 : Int32))), .val (.ref b1), .val (.int (0 : Int32)), .unset] [(.int (0 : Int32))]))
      refine Done.step (fun _ => XS.istore X7.here hx rfl (hb hby at_93) rfl (l' := #[.val (.long i), .second, .val (.long oR), .second, .val (.long nu), .second, .val (.long pr), .second, .val (.int md), .val (.long (nu &&& (4294967295 : Int64))), .second, .val (.long (pr &&& (4294967295 : Int64))), .second, .val (.long ot), .second, .val (.int (md &&& (3 : Int32))), .val (.ref b1), .val (.int (0 : Int32)), .val (.int (0 : Int32))]) rfl) ?_
      show Done p e below s _ _ (T7.setTop (mkF m 95 #[.val (.long i), .second, .val (.long oR), .second, .val (.long nu), .second, .val (.long pr), .second, .val (.int md), .val (.long (nu &&& (4294967295 : Int64))), .second, .val (.long (pr &&& (4294967295 : Int64))), .second, .val (.long ot), .second, .val (.int (md &&& (3 : Int32))), .val (.ref b1), .val (.int (0 : Int32)), .val (.int (0 : Int32))] []))
      refine Done.step (fun _ => XS.iload X7.here hx rfl (hb hby at_95) rfl) ?_
      show Done p e below s _ _ (T7.setTop (mkF m 97 #[.val (.long i), .second, .val (.long oR), .second, .val (.long nu), .second, .val (.long pr), .second, .val (.int md), .val (.long (nu &&& (4294967295 : Int64))), .second, .val (.long (pr &&& (4294967295 : Int64))), .second, .val (.long ot), .second, .val (.int (md &&& (3 : Int32))), .val (.ref b1), .val (.int (0 : Int32)), .val (.int (0 : Int32))] [(.int (0 : Int32))]))
      refine Done.step (fun _ => XS.iload X7.here hx rfl (hb hby at_97) rfl) ?_
      show Done p e below s _ _ (T7.setTop (mkF m 99 #[.val (.long i), .second, .val (.long oR), .second, .val (.long nu), .second, .val (.long pr), .second, .val (.int md), .val (.long (nu &&& (4294967295 : Int64))), .second, .val (.long (pr &&& (4294967295 : Int64))), .second, .val (.long ot), .second, .val (.int (md &&& (3 : Int32))), .val (.ref b1), .val (.int (0 : Int32)), .val (.int (0 : Int32))] [(.int (0 : Int32)), (.int (0 : Int32))]))
      refine Done.step (fun _ => XS.icmpNo X7.here hx rfl (hb hby at_99) rfl (XT.ii_ne_f rfl)) ?_
      show Done p e below s _ _ (T7.setTop (mkF m 102 #[.val (.long i), .second, .val (.long oR), .second, .val (.long nu), .second, .val (.long pr), .second, .val (.int md), .val (.long (nu &&& (4294967295 : Int64))), .second, .val (.long (pr &&& (4294967295 : Int64))), .second, .val (.long ot), .second, .val (.int (md &&& (3 : Int32))), .val (.ref b1), .val (.int (0 : Int32)), .val (.int (0 : Int32))] []))
      refine Done.step (fun _ => XT.iconstV X7.here hx rfl (1 : Int32) (hb hby at_102) (by decide)) ?_
      show Done p e below s _ _ (T7.setTop (mkF m 103 #[.val (.long i), .second, .val (.long oR), .second, .val (.long nu), .second, .val (.long pr), .second, .val (.int md), .val (.long (nu &&& (4294967295 : Int64))), .second, .val (.long (pr &&& (4294967295 : Int64))), .second, .val (.long ot), .second, .val (.int (md &&& (3 : Int32))), .val (.ref b1), .val (.int (0 : Int32)), .val (.int (0 : Int32))] [(.int (1 : Int32))]))
      refine Done.step (fun _ => XS.goto X7.here hx rfl (pc0 := 103) (pc' := 107) rfl (hb hby at_103) (by decide) (by decide)) ?_
      show Done p e below s _ _ (T7.setTop (mkF m 107 #[.val (.long i), .second, .val (.long oR), .second, .val (.long nu), .second, .val (.long pr), .second, .val (.int md), .val (.long (nu &&& (4294967295 : Int64))), .second, .val (.long (pr &&& (4294967295 : Int64))), .second, .val (.long ot), .second, .val (.int (md &&& (3 : Int32))), .val (.ref b1), .val (.int (0 : Int32)), .val (.int (0 : Int32))] [(.int (1 : Int32))]))
      exact Done.retN X7 hx hlk (t := .boolean) hret (by simp) (hb hby at_107) (by decide) (by decide) ⟨rfl, N2⟩
  refine Done.step (fun _ => XS.iload X0.here hx rfl (hb hby at_22) rfl) ?_
  show Done p e below s _ _ (T0.setTop (mkF m 24 #[.val (.long i), .second, .val (.long oR), .second, .val (.long nu), .second, .val (.long pr), .second, .val (.int md), .val (.long (nu &&& (4294967295 : Int64))), .second, .val (.long (pr &&& (4294967295 : Int64))), .second, .unset, .unset, .val (.int (md &&& (3 : Int32))), .unset, .unset, .unset] [(.int (md &&& (3 : Int32)))]))
  by_cases hc8 : (md &&& (3 : Int32)) = (0 : Int32)
  · refine Done.step (fun _ => XS.ifNo X0.here hx rfl (hb hby at_24) rfl (XT.i0_ne_f hc8)) ?_
    show Done p e below s _ _ (T0.setTop (mkF m 27 #[.val (.long i), .second, .val (.long oR), .second, .val (.long nu), .second, .val (.long pr), .second, .val (.int md), .val (.long (nu &&& (4294967295 : Int64))), .second, .val (.long (pr &&& (4294967295 : Int64))), .second, .unset, .unset, .val (.int (md &&& (3 : Int32))), .unset, .unset, .unset] []))
    refine Done.step (fun _ => XT.lloadN X0.here hx rfl (hb hby at_27) rfl) ?_
    show Done p e below s _ _ (T0.setTop (mkF m 28 #[.val (.long i), .second, .val (.long oR), .second, .val (.long nu), .second, .val (.long pr), .second, .val (.int md), .val (.long (nu &&& (4294967295 : Int64))), .second, .val (.long (pr &&& (4294967295 : Int64))), .second, .unset, .unset, .val (.int (md &&& (3 : Int32))), .unset, .unset, .unset] [(.long oR)]))
    refine Done.step (fun _ => XT.lstore X0.here hx rfl (hb hby at_28) rfl (l' := #[.val (.long i), .second, .val (.long oR), .second, .val (.long nu), .second, .val (.long pr), .second, .val (.int md), .val (.long (nu &&& (4294967295 : Int64))), .second, .val (.long (pr &&& (4294967295 : Int64))), .second, .val (.long oR), .second, .val (.int (md &&& (3 : Int32))), .unset, .unset, .unset]) rfl) ?_
    show Done p e below s _ _ (T0.setTop (mkF m 30 #[.val (.long i), .second, .val (.long oR), .second, .val (.long nu), .second, .val (.long pr), .second, .val (.int md), .val (.long (nu &&& (4294967295 : Int64))), .second, .val (.long (pr &&& (4294967295 : Int64))), .second, .val (.long oR), .second, .val (.int (md &&& (3 : Int32))), .unset, .unset, .unset] []))
    refine Done.step (fun _ => XS.goto X0.here hx rfl (pc0 := 30) (pc' := 64) rfl (hb hby at_30) (by decide) (by decide)) ?_
    show Done p e below s _ _ (T0.setTop (mkF m 64 #[.val (.long i), .second, .val (.long oR), .second, .val (.long nu), .second, .val (.long pr), .second, .val (.int md), .val (.long (nu &&& (4294967295 : Int64))), .second, .val (.long (pr &&& (4294967295 : Int64))), .second, .val (.long oR), .second, .val (.int (md &&& (3 : Int32))), .unset, .unset, .unset] []))
    exact K64 oR
  · refine Done.step (fun _ => XS.ifYes X0.here hx rfl (pc0 := 24) (pc' := 33) rfl (hb hby at_24) rfl (XT.i0_ne_t hc8) (by decide) (by decide)) ?_
    show Done p e below s _ _ (T0.setTop (mkF m 33 #[.val (.long i), .second, .val (.long oR), .second, .val (.long nu), .second, .val (.long pr), .second, .val (.int md), .val (.long (nu &&& (4294967295 : Int64))), .second, .val (.long (pr &&& (4294967295 : Int64))), .second, .unset, .unset, .val (.int (md &&& (3 : Int32))), .unset, .unset, .unset] []))
    refine Done.step (fun _ => XS.iload X0.here hx rfl (hb hby at_33) rfl) ?_
    show Done p e below s _ _ (T0.setTop (mkF m 35 #[.val (.long i), .second, .val (.long oR), .second, .val (.long nu), .second, .val (.long pr), .second, .val (.int md), .val (.long (nu &&& (4294967295 : Int64))), .second, .val (.long (pr &&& (4294967295 : Int64))), .second, .unset, .unset, .val (.int (md &&& (3 : Int32))), .unset, .unset, .unset] [(.int (md &&& (3 : Int32)))]))
    refine Done.step (fun _ => XT.iconstV X0.here hx rfl (1 : Int32) (hb hby at_35) (by decide)) ?_
    show Done p e below s _ _ (T0.setTop (mkF m 36 #[.val (.long i), .second, .val (.long oR), .second, .val (.long nu), .second, .val (.long pr), .second, .val (.int md), .val (.long (nu &&& (4294967295 : Int64))), .second, .val (.long (pr &&& (4294967295 : Int64))), .second, .unset, .unset, .val (.int (md &&& (3 : Int32))), .unset, .unset, .unset] [(.int (1 : Int32)), (.int (md &&& (3 : Int32)))]))
    by_cases hc9 : (md &&& (3 : Int32)) = (1 : Int32)
    · refine Done.step (fun _ => XS.icmpNo X0.here hx rfl (hb hby at_36) rfl (XT.ii_ne_f hc9)) ?_
      show Done p e below s _ _ (T0.setTop (mkF m 39 #[.val (.long i), .second, .val (.long oR), .second, .val (.long nu), .second, .val (.long pr), .second, .val (.int md), .val (.long (nu &&& (4294967295 : Int64))), .second, .val (.long (pr &&& (4294967295 : Int64))), .second, .unset, .unset, .val (.int (md &&& (3 : Int32))), .unset, .unset, .unset] []))
      refine Done.step (fun _ => XT.lloadN X0.here hx rfl (hb hby at_39) rfl) ?_
      show Done p e below s _ _ (T0.setTop (mkF m 40 #[.val (.long i), .second, .val (.long oR), .second, .val (.long nu), .second, .val (.long pr), .second, .val (.int md), .val (.long (nu &&& (4294967295 : Int64))), .second, .val (.long (pr &&& (4294967295 : Int64))), .second, .unset, .unset, .val (.int (md &&& (3 : Int32))), .unset, .unset, .unset] [(.long i)]))
      refine Done.step (fun _ => XT.lstore X0.here hx rfl (hb hby at_40) rfl (l' := #[.val (.long i), .second, .val (.long oR), .second, .val (.long nu), .second, .val (.long pr), .second, .val (.int md), .val (.long (nu &&& (4294967295 : Int64))), .second, .val (.long (pr &&& (4294967295 : Int64))), .second, .val (.long i), .second, .val (.int (md &&& (3 : Int32))), .unset, .unset, .unset]) rfl) ?_
      show Done p e below s _ _ (T0.setTop (mkF m 42 #[.val (.long i), .second, .val (.long oR), .second, .val (.long nu), .second, .val (.long pr), .second, .val (.int md), .val (.long (nu &&& (4294967295 : Int64))), .second, .val (.long (pr &&& (4294967295 : Int64))), .second, .val (.long i), .second, .val (.int (md &&& (3 : Int32))), .unset, .unset, .unset] []))
      refine Done.step (fun _ => XS.goto X0.here hx rfl (pc0 := 42) (pc' := 64) rfl (hb hby at_42) (by decide) (by decide)) ?_
      show Done p e below s _ _ (T0.setTop (mkF m 64 #[.val (.long i), .second, .val (.long oR), .second, .val (.long nu), .second, .val (.long pr), .second, .val (.int md), .val (.long (nu &&& (4294967295 : Int64))), .second, .val (.long (pr &&& (4294967295 : Int64))), .second, .val (.long i), .second, .val (.int (md &&& (3 : Int32))), .unset, .unset, .unset] []))
      exact K64 i
    · refine Done.step (fun _ => XS.icmpYes X0.here hx rfl (pc0 := 36) (pc' := 45) rfl (hb hby at_36) rfl (XT.ii_ne_t hc9) (by decide) (by decide)) ?_
      show Done p e below s _ _ (T0.setTop (mkF m 45 #[.val (.long i), .second, .val (.long oR), .second, .val (.long nu), .second, .val (.long pr), .second, .val (.int md), .val (.long (nu &&& (4294967295 : Int64))), .second, .val (.long (pr &&& (4294967295 : Int64))), .second, .unset, .unset, .val (.int (md &&& (3 : Int32))), .unset, .unset, .unset] []))
      refine Done.step (fun _ => XS.iload X0.here hx rfl (hb hby at_45) rfl) ?_
      show Done p e below s _ _ (T0.setTop (mkF m 47 #[.val (.long i), .second, .val (.long oR), .second, .val (.long nu), .second, .val (.long pr), .second, .val (.int md), .val (.long (nu &&& (4294967295 : Int64))), .second, .val (.long (pr &&& (4294967295 : Int64))), .second, .unset, .unset, .val (.int (md &&& (3 : Int32))), .unset, .unset, .unset] [(.int (md &&& (3 : Int32)))]))
      refine Done.step (fun _ => XT.iconstV X0.here hx rfl (2 : Int32) (hb hby at_47) (by decide)) ?_
      show Done p e below s _ _ (T0.setTop (mkF m 48 #[.val (.long i), .second, .val (.long oR), .second, .val (.long nu), .second, .val (.long pr), .second, .val (.int md), .val (.long (nu &&& (4294967295 : Int64))), .second, .val (.long (pr &&& (4294967295 : Int64))), .second, .unset, .unset, .val (.int (md &&& (3 : Int32))), .unset, .unset, .unset] [(.int (2 : Int32)), (.int (md &&& (3 : Int32)))]))
      by_cases hc10 : (md &&& (3 : Int32)) = (2 : Int32)
      · refine Done.step (fun _ => XS.icmpNo X0.here hx rfl (hb hby at_48) rfl (XT.ii_ne_f hc10)) ?_
        show Done p e below s _ _ (T0.setTop (mkF m 51 #[.val (.long i), .second, .val (.long oR), .second, .val (.long nu), .second, .val (.long pr), .second, .val (.int md), .val (.long (nu &&& (4294967295 : Int64))), .second, .val (.long (pr &&& (4294967295 : Int64))), .second, .unset, .unset, .val (.int (md &&& (3 : Int32))), .unset, .unset, .unset] []))
        refine Done.step (fun _ => XT.lloadN X0.here hx rfl (hb hby at_51) rfl) ?_
        show Done p e below s _ _ (T0.setTop (mkF m 52 #[.val (.long i), .second, .val (.long oR), .second, .val (.long nu), .second, .val (.long pr), .second, .val (.int md), .val (.long (nu &&& (4294967295 : Int64))), .second, .val (.long (pr &&& (4294967295 : Int64))), .second, .unset, .unset, .val (.int (md &&& (3 : Int32))), .unset, .unset, .unset] [(.long i)]))
        refine Done.step (fun _ => XT.lconstV X0.here hx rfl (1 : Int64) (hb hby at_52) (by decide)) ?_
        show Done p e below s _ _ (T0.setTop (mkF m 53 #[.val (.long i), .second, .val (.long oR), .second, .val (.long nu), .second, .val (.long pr), .second, .val (.int md), .val (.long (nu &&& (4294967295 : Int64))), .second, .val (.long (pr &&& (4294967295 : Int64))), .second, .unset, .unset, .val (.int (md &&& (3 : Int32))), .unset, .unset, .unset] [(.long (1 : Int64)), (.long i)]))
        refine Done.step (fun _ => XT.ladd X0.here hx rfl (hb hby at_53) rfl) ?_
        show Done p e below s _ _ (T0.setTop (mkF m 54 #[.val (.long i), .second, .val (.long oR), .second, .val (.long nu), .second, .val (.long pr), .second, .val (.int md), .val (.long (nu &&& (4294967295 : Int64))), .second, .val (.long (pr &&& (4294967295 : Int64))), .second, .unset, .unset, .val (.int (md &&& (3 : Int32))), .unset, .unset, .unset] [(.long (i + (1 : Int64)))]))
        refine Done.step (fun _ => XT.lstore X0.here hx rfl (hb hby at_54) rfl (l' := #[.val (.long i), .second, .val (.long oR), .second, .val (.long nu), .second, .val (.long pr), .second, .val (.int md), .val (.long (nu &&& (4294967295 : Int64))), .second, .val (.long (pr &&& (4294967295 : Int64))), .second, .val (.long (i + (1 : Int64))), .second, .val (.int (md &&& (3 : Int32))), .unset, .unset, .unset]) rfl) ?_
        show Done p e below s _ _ (T0.setTop (mkF m 56 #[.val (.long i), .second, .val (.long oR), .second, .val (.long nu), .second, .val (.long pr), .second, .val (.int md), .val (.long (nu &&& (4294967295 : Int64))), .second, .val (.long (pr &&& (4294967295 : Int64))), .second, .val (.long (i + (1 : Int64))), .second, .val (.int (md &&& (3 : Int32))), .unset, .unset, .unset] []))
        refine Done.step (fun _ => XS.goto X0.here hx rfl (pc0 := 56) (pc' := 64) rfl (hb hby at_56) (by decide) (by decide)) ?_
        show Done p e below s _ _ (T0.setTop (mkF m 64 #[.val (.long i), .second, .val (.long oR), .second, .val (.long nu), .second, .val (.long pr), .second, .val (.int md), .val (.long (nu &&& (4294967295 : Int64))), .second, .val (.long (pr &&& (4294967295 : Int64))), .second, .val (.long (i + (1 : Int64))), .second, .val (.int (md &&& (3 : Int32))), .unset, .unset, .unset] []))
        exact K64 (i + (1 : Int64))
      · refine Done.step (fun _ => XS.icmpYes X0.here hx rfl (pc0 := 48) (pc' := 59) rfl (hb hby at_48) rfl (XT.ii_ne_t hc10) (by decide) (by decide)) ?_
        show Done p e below s _ _ (T0.setTop (mkF m 59 #[.val (.long i), .second, .val (.long oR), .second, .val (.long nu), .second, .val (.long pr), .second, .val (.int md), .val (.long (nu &&& (4294967295 : Int64))), .second, .val (.long (pr &&& (4294967295 : Int64))), .second, .unset, .unset, .val (.int (md &&& (3 : Int32))), .unset, .unset, .unset] []))
        refine Done.step (fun _ => XT.lloadN X0.here hx rfl (hb hby at_59) rfl) ?_
        show Done p e below s _ _ (T0.setTop (mkF m 60 #[.val (.long i), .second, .val (.long oR), .second, .val (.long nu), .second, .val (.long pr), .second, .val (.int md), .val (.long (nu &&& (4294967295 : Int64))), .second, .val (.long (pr &&& (4294967295 : Int64))), .second, .unset, .unset, .val (.int (md &&& (3 : Int32))), .unset, .unset, .unset] [(.long i)]))
        refine Done.step (fun _ => XT.lconstV X0.here hx rfl (1 : Int64) (hb hby at_60) (by decide)) ?_
        show Done p e below s _ _ (T0.setTop (mkF m 61 #[.val (.long i), .second, .val (.long oR), .second, .val (.long nu), .second, .val (.long pr), .second, .val (.int md), .val (.long (nu &&& (4294967295 : Int64))), .second, .val (.long (pr &&& (4294967295 : Int64))), .second, .unset, .unset, .val (.int (md &&& (3 : Int32))), .unset, .unset, .unset] [(.long (1 : Int64)), (.long i)]))
        refine Done.step (fun _ => XT.lsub X0.here hx rfl (hb hby at_61) rfl) ?_
        show Done p e below s _ _ (T0.setTop (mkF m 62 #[.val (.long i), .second, .val (.long oR), .second, .val (.long nu), .second, .val (.long pr), .second, .val (.int md), .val (.long (nu &&& (4294967295 : Int64))), .second, .val (.long (pr &&& (4294967295 : Int64))), .second, .unset, .unset, .val (.int (md &&& (3 : Int32))), .unset, .unset, .unset] [(.long (i - (1 : Int64)))]))
        refine Done.step (fun _ => XT.lstore X0.here hx rfl (hb hby at_62) rfl (l' := #[.val (.long i), .second, .val (.long oR), .second, .val (.long nu), .second, .val (.long pr), .second, .val (.int md), .val (.long (nu &&& (4294967295 : Int64))), .second, .val (.long (pr &&& (4294967295 : Int64))), .second, .val (.long (i - (1 : Int64))), .second, .val (.int (md &&& (3 : Int32))), .unset, .unset, .unset]) rfl) ?_
        show Done p e below s _ _ (T0.setTop (mkF m 64 #[.val (.long i), .second, .val (.long oR), .second, .val (.long nu), .second, .val (.long pr), .second, .val (.int md), .val (.long (nu &&& (4294967295 : Int64))), .second, .val (.long (pr &&& (4294967295 : Int64))), .second, .val (.long (i - (1 : Int64))), .second, .val (.int (md &&& (3 : Int32))), .unset, .unset, .unset] []))
        exact K64 (i - (1 : Int64))
set_option maxRecDepth 65536 in
set_option maxHeartbeats 40000000 in
theorem comes_1 {Post : Tables → Env → Array Value → State → Outcome → State → Prop} (hpost : ∀ tb e args s v u, (limb_1_1.after args s (.returned v) u = true ∧ limb_1_2.after args s (.returned v) u = true ∧ True) → FrameEnd s (.returned v) u (Jvm.fieldLocs frame_1_writes args s ++ Jvm.arrayLocs frame_1_arrays args s ++ Jvm.staticLocs frame_1_statics s) 16 128 → Post tb e args s (.returned v) u) :
    ArmFor flags0 classFile x code maxLocals ret World_1 tables_1 room_1 Calls_1 rest_1 Pre_1 Post := by
  intro l hfl _ _ p e ha hc hk s m args below hf hA hF happ hP
  obtain ⟨hcalls, hrest, hpre⟩ := hP
  obtain ⟨-, -, -, hnamed, -, -, -, hat⟩ := (Spec.applies_iff hf).mp happ
  obtain ⟨hg, hn⟩ := and_e (Cond.before_iff.mp (show (Jvm.Cond.and given_1 narrow_1).before args s = true from hpre))
  obtain ⟨w0, w1, w2, w3, w4, rfl⟩ : ∃ w0 w1 w2 w3 w4 : Value, args = #[w0, w1, w2, w3, w4] := by
    have hs : args.size = 5 := by simpa [Cond.value] using (and_e hg).1
    obtain ⟨L⟩ := args
    match L, hs with
    | [w0, w1, w2, w3, w4], _ => exact ⟨w0, w1, w2, w3, w4, rfl⟩
  have hw := fun d (hd : d ∈ tables_1) => atoms_spec (ws := Jvm.Cond.code x code maxLocals ret :: tables_1) hat d (List.mem_cons_of_mem _ hd)
  have hfit : Fit s := fun {y c} hc i hi => by
    obtain ⟨ha, rfl⟩ := Array.getElem?_eq_some_iff.mp hc
    have q := List.all_eq_true.mp ((Array.all_eq_true_iff_forall_mem.mp hF) _ (Array.getElem_mem ha)) i (List.mem_range.mpr hi)
    simpa [Array.getElem?_eq_getElem hi] using q
  obtain ⟨_, hg0⟩ := and_e hg
  obtain ⟨ga0, hg1⟩ := and_e hg0
  obtain ⟨i0, ei0⟩ := isL_v ga0
  obtain rfl : w0 = (.long i0) := Option.some.inj ei0
  obtain ⟨ga1, hg2⟩ := and_e hg1
  obtain ⟨i1, ei1⟩ := isL_v ga1
  obtain rfl : w1 = (.long i1) := Option.some.inj ei1
  obtain ⟨ga2, hg3⟩ := and_e hg2
  obtain ⟨i2, ei2⟩ := isL_v ga2
  obtain rfl : w2 = (.long i2) := Option.some.inj ei2
  obtain ⟨ga3, hg4⟩ := and_e hg3
  obtain ⟨i3, ei3⟩ := isL_v ga3
  obtain rfl : w3 = (.long i3) := Option.some.inj ei3
  obtain ⟨i4, ei4⟩ := is_v hg4
  obtain rfl : w4 = (.int i4) := Option.some.inj ei4
  obtain ⟨n, o, h1, h2, h3, _, L, rfl, ⟨rfl, N⟩, hq⟩ := rm0 l s _ hw tables_1 i0 i1 i2 i3 i4 s.heap s.heap.size (Nat.le_refl _)  p e ha hc hk s m _ below hf ((Spec.applies_iff_loose hf).mp happ).1 ⟨rfl, State.Warmed39.refl s, rfl⟩ trivial
  refine ⟨n, _, h1, h2, h3, hpost _ _ _ _ _ _ ⟨Cond.after_iff.mpr rfl, Cond.after_iff.mpr (eq_i res_at (Term.int_eval (1)) rfl), trivial⟩ ⟨hq.1, hq.2.1, (hq.2.2.sift fun y hy => Or.inr (N y hy)).mono (by decide) (by decide)⟩⟩
theorem main_1_1 : Claimed_1_1 := comes_1 fun _ _ _ _ _ _ h hF => ⟨h.1, hF⟩
theorem main_1_2 : Claimed_1_2 := comes_1 fun _ _ _ _ _ _ h hF => ⟨h.2.1, hF⟩
end Jvm.Pilot.@@N@@
namespace Jvm.Pilot.@@N@@
open Jvm Jvm.ClassFile Sem Op Lib Jvm.Free Jvm.Stand Jvm.Pilot.@@N@@.Jvm.D
/-! MADE BY PROGRAM (witnessworld.py) out of the Statement's table words and the real class files: 15 classes; the members and pool entries that the words name. The judged class is class 1, her method 2. -/
namespace start1
open Jvm.ClassFile
def u (s : String) : CpInfo := .utf8 (stringToUtf16 s)
/-- a pool by its gaps: so many unusable entries, then the entry; so many at the end -/
def gap : Nat → List CpInfo → List CpInfo
  | 0, r => r
  | n + 1, r => .unusable :: gap n r
def poolList (es : List (Nat × CpInfo)) (last : Nat) : List CpInfo := es.foldr (fun e r => gap e.1 (e.2 :: r)) (gap last [])
def pool (es : List (Nat × CpInfo)) (last : Nat) : Array CpInfo := ⟨poolList es last⟩
def fileOf (pool : Array CpInfo) (this : Nat) (attrs : Array Attribute := #[]) (ms : Array MethodInfo := #[]) (fl : Nat := 33) (sup : Nat := 0) (ifs : Array Nat := #[]) (fds : Array FieldInfo := #[]) : ClassFile where
  minorVersion := 0
  majorVersion := 65
  constantPool := pool
  accessFlags := fl
  thisClass := this
  superClass := sup
  interfaces := ifs
  fields := fds
  methods := ms
  attributes := attrs
def plain (name : String) (sup : Option ClassId) : Class where
  name := name
  kind := .ordinary
  loader := none
  accessFlags := 33
  super := sup
  interfaces := #[]
  cf := none
  fields := #[]
  methods := #[]
  instanceTypes := #[]
  staticTypes := #[]
  resolved := #[]
  callSites := []
  init := .initialized
  statics := none
  mirror := none

def pool0 : Array CpInfo := pool [(5, u "<init>"), (0, u "()V"), (1, .class_ 10), (1, u "java/lang/Object")] 113

def k0c0 : Code := { maxStack := 0, maxLocals := 1, code := object_method_1_code, exceptionTable := #[], attributes := #[] }
def k0m0 : Method := { name := "<init>", desc := "()V", sig := { parameters := [], returnType := none }, accessFlags := 1, code := some k0c0 }
/-- java/lang/Object -/
def k0 : Class := { plain "java/lang/Object" none with
  accessFlags := 33
  interfaces := #[]
  cf := some (fileOf pool0 8 #[] #[{ accessFlags := 1, nameIndex := 5, descriptorIndex := 6, attributes := #[] }] 33 0 #[] #[])
  fields := #[]
  methods := #[k0m0]
  instanceTypes := #[]
  staticTypes := #[]
  resolved := Array.replicate 124 none
  statics := none }

def pool1 : Array CpInfo := pool [(2, .class_ 4), (1, u "java/lang/Object"), (0, u "<init>"), (0, u "()V"), (0, .long 4294967295), (1, .class_ 10), (0, u "com/example/requeue/requeue/TxSequence"), (0, .methodref 9 12), (0, .nameAndType 5 13), (0, u "(JJJ)V"), (0, .methodref 9 15), (0, .nameAndType 16 17), (0, u "isAfter"), (0, u "(J)Z"), (0, .methodref 19 20), (0, .class_ 21), (0, .nameAndType 22 23), (0, u "com/example/requeue/requeue/TxSequenceIsAfterPinLaw"), (0, u "unsignedGreater"), (0, u "(JJ)Z"), (3, u "law"), (0, u "(JJJJI)Z")] 2

def k1m0 : Method := { name := "<init>", desc := "()V", sig := { parameters := [], returnType := none }, accessFlags := 1, code := none }
def k1c1 : Code := { maxStack := 4, maxLocals := 6, code := method_2_code, exceptionTable := #[], attributes := #[] }
def k1m1 : Method := { name := "unsignedGreater", desc := "(JJ)Z", sig := { parameters := [.long, .long], returnType := some .boolean }, accessFlags := 10, code := some k1c1 }
def k1c2 : Code := { maxStack := 8, maxLocals := 19, code := code, exceptionTable := #[], attributes := #[] }
def k1m2 : Method := { name := "law", desc := "(JJJJI)Z", sig := { parameters := [.long, .long, .long, .long, .int], returnType := some .boolean }, accessFlags := 9, code := some k1c2 }
/-- com/example/requeue/requeue/TxSequenceIsAfterPinLaw -/
def k1 : Class := { plain "com/example/requeue/requeue/TxSequenceIsAfterPinLaw" (some 0) with
  accessFlags := 49
  interfaces := #[]
  cf := some (fileOf pool1 19 #[] #[{ accessFlags := 1, nameIndex := 5, descriptorIndex := 6, attributes := #[] }, { accessFlags := 10, nameIndex := 22, descriptorIndex := 23, attributes := #[] }, { accessFlags := 9, nameIndex := 27, descriptorIndex := 28, attributes := #[] }] 49 2 #[] #[])
  fields := #[]
  methods := #[k1m0, k1m1, k1m2]
  instanceTypes := #[]
  staticTypes := #[]
  resolved := Array.replicate 31 none
  statics := none }

def pool2 : Array CpInfo := pool [(1, .methodref 2 3), (0, .class_ 4), (0, .nameAndType 5 6), (0, u "java/lang/Object"), (0, u "<init>"), (0, u "()V"), (0, .class_ 8), (0, u "java/lang/Record")] 13

def k2c0 : Code := { maxStack := 1, maxLocals := 1, code := jdk_30_method_1_code, exceptionTable := #[], attributes := #[] }
def k2m0 : Method := { name := "<init>", desc := "()V", sig := { parameters := [], returnType := none }, accessFlags := 4, code := some k2c0 }
/-- java/lang/Record -/
def k2 : Class := { plain "java/lang/Record" (some 0) with
  accessFlags := 1057
  interfaces := #[]
  cf := some (fileOf pool2 7 #[] #[{ accessFlags := 4, nameIndex := 5, descriptorIndex := 6, attributes := #[] }] 1057 2 #[] #[])
  fields := #[]
  methods := #[k2m0]
  instanceTypes := #[]
  staticTypes := #[]
  resolved := Array.replicate 22 none
  statics := none }

def pool3 : Array CpInfo := pool [(1, .methodref 2 3), (0, .class_ 4), (0, .nameAndType 5 6), (0, u "java/lang/Record"), (0, u "<init>"), (0, u "()V"), (0, .class_ 8), (0, u "com/example/requeue/requeue/TxSequence"), (0, .long 4294967295), (10, .fieldref 7 21), (0, .nameAndType 22 23), (0, u "id"), (0, u "J"), (0, .fieldref 7 25), (0, .nameAndType 26 23), (0, u "number"), (0, .fieldref 7 28), (0, .nameAndType 29 23), (0, u "previous"), (0, .methodref 31 32), (0, .class_ 33), (0, .nameAndType 34 35), (0, u "java/lang/Long"), (0, u "compareUnsigned"), (0, u "(JJ)I"), (12, u "MAX_NUMBER"), (1, u "(JJJ)V"), (4, u "isAfter"), (0, u "(J)Z")] 34

def k3c0 : Code := { maxStack := 6, maxLocals := 7, code := prog_20_method_1_code, exceptionTable := #[], attributes := #[] }
def k3m0 : Method := { name := "<init>", desc := "(JJJ)V", sig := { parameters := [.long, .long, .long], returnType := none }, accessFlags := 1, code := some k3c0 }
def k3c1 : Code := { maxStack := 4, maxLocals := 3, code := prog_20_method_2_code, exceptionTable := #[], attributes := #[] }
def k3m1 : Method := { name := "isAfter", desc := "(J)Z", sig := { parameters := [.long], returnType := some .boolean }, accessFlags := 1, code := some k3c1 }
/-- com/example/requeue/requeue/TxSequence -/
def k3 : Class := { plain "com/example/requeue/requeue/TxSequence" (some 2) with
  accessFlags := 49
  interfaces := #[]
  cf := some (fileOf pool3 7 #[] #[{ accessFlags := 1, nameIndex := 5, descriptorIndex := 50, attributes := #[] }, { accessFlags := 1, nameIndex := 55, descriptorIndex := 56, attributes := #[] }] 49 2 #[] #[{ accessFlags := 18, nameIndex := 22, descriptorIndex := 23, attributes := #[] }, { accessFlags := 18, nameIndex := 26, descriptorIndex := 23, attributes := #[] }, { accessFlags := 18, nameIndex := 29, descriptorIndex := 23, attributes := #[] }, { accessFlags := 25, nameIndex := 48, descriptorIndex := 23, attributes := #[] }])
  fields := #[{ name := "id", type := .long, accessFlags := 18, slot := 0, constantValue := 0 }, { name := "number", type := .long, accessFlags := 18, slot := 1, constantValue := 0 }, { name := "previous", type := .long, accessFlags := 18, slot := 2, constantValue := 0 }, { name := "MAX_NUMBER", type := .long, accessFlags := 25, slot := 0, constantValue := 0 }]
  methods := #[k3m0, k3m1]
  instanceTypes := #[.long, .long, .long]
  staticTypes := #[.long]
  resolved := Array.replicate 91 none
  statics := none }

def pool4 : Array CpInfo := pool [(1, .class_ 2), (0, u "java/io/Serializable"), (0, .class_ 4), (0, u "java/lang/Object")] 2

/-- java/io/Serializable -/
def k4 : Class := { plain "java/io/Serializable" (some 0) with
  accessFlags := 1537
  interfaces := #[]
  cf := some (fileOf pool4 1 #[] #[] 1537 3 #[] #[])
  fields := #[]
  methods := #[]
  instanceTypes := #[]
  staticTypes := #[]
  resolved := Array.replicate 7 none
  statics := none }

def pool5 : Array CpInfo := pool [(2, .class_ 4), (1, u "java/lang/Object"), (0, u "<init>"), (0, u "()V"), (1, .class_ 10), (1, u "java/lang/Number"), (2, .class_ 14), (0, u "java/io/Serializable"), (0, u "serialVersionUID"), (0, u "J")] 20

def k5m0 : Method := { name := "<init>", desc := "()V", sig := { parameters := [], returnType := none }, accessFlags := 1, code := none }
/-- java/lang/Number -/
def k5 : Class := { plain "java/lang/Number" (some 0) with
  accessFlags := 1057
  interfaces := #[4]
  cf := some (fileOf pool5 8 #[] #[{ accessFlags := 1, nameIndex := 5, descriptorIndex := 6, attributes := #[] }] 1057 2 #[13] #[{ accessFlags := 26, nameIndex := 15, descriptorIndex := 16, attributes := #[] }])
  fields := #[{ name := "serialVersionUID", type := .long, accessFlags := 26, slot := 0, constantValue := 0 }]
  methods := #[k5m0]
  instanceTypes := #[]
  staticTypes := #[.long]
  resolved := Array.replicate 37 none
  statics := none }

def pool6 : Array CpInfo := pool [(1, .class_ 2), (0, u "java/lang/Comparable"), (0, .class_ 4), (0, u "java/lang/Object")] 7

/-- java/lang/Comparable -/
def k6 : Class := { plain "java/lang/Comparable" (some 0) with
  accessFlags := 1537
  interfaces := #[]
  cf := some (fileOf pool6 1 #[] #[] 1537 3 #[] #[])
  fields := #[]
  methods := #[]
  instanceTypes := #[]
  staticTypes := #[]
  resolved := Array.replicate 12 none
  statics := none }

def pool7 : Array CpInfo := pool [(1, .class_ 2), (0, u "java/lang/constant/Constable"), (0, .class_ 4), (0, u "java/lang/Object")] 6

/-- java/lang/constant/Constable -/
def k7 : Class := { plain "java/lang/constant/Constable" (some 0) with
  accessFlags := 1537
  interfaces := #[]
  cf := some (fileOf pool7 1 #[] #[] 1537 3 #[] #[])
  fields := #[]
  methods := #[]
  instanceTypes := #[]
  staticTypes := #[]
  resolved := Array.replicate 11 none
  statics := none }

def pool8 : Array CpInfo := pool [(1, .class_ 2), (0, u "java/lang/constant/ConstantDesc"), (0, .class_ 4), (0, u "java/lang/Object")] 32

/-- java/lang/constant/ConstantDesc -/
def k8 : Class := { plain "java/lang/constant/ConstantDesc" (some 0) with
  accessFlags := 1537
  interfaces := #[]
  cf := some (fileOf pool8 1 #[] #[] 1537 3 #[] #[])
  fields := #[]
  methods := #[]
  instanceTypes := #[]
  staticTypes := #[]
  resolved := Array.replicate 37 none
  statics := none }

def pool9 : Array CpInfo := pool [(1, .class_ 2), (0, u "java/lang/Long"), (165, .long 9223372036854775808), (66, .class_ 237), (1, u "java/lang/Long$LongCache"), (33, .class_ 272), (0, u "java/lang/Number"), (2, u "value"), (0, u "J"), (25, .methodref 1 303), (0, .nameAndType 304 305), (0, u "compare"), (0, u "(JJ)I"), (55, u "TYPE"), (0, u "Ljava/lang/Class;"), (0, .class_ 364), (0, u "java/lang/Comparable"), (0, .class_ 366), (0, u "java/lang/constant/Constable"), (0, .class_ 368), (0, u "java/lang/constant/ConstantDesc"), (0, u "MIN_VALUE"), (1, u "MAX_VALUE"), (4, u "SIZE"), (0, u "I"), (1, u "BYTES"), (1, u "serialVersionUID"), (87, u "compareUnsigned")] 54

def k9c0 : Code := { maxStack := 4, maxLocals := 4, code := jdk_35_method_42_code, exceptionTable := #[], attributes := #[] }
def k9m0 : Method := { name := "compare", desc := "(JJ)I", sig := { parameters := [.long, .long], returnType := some .int }, accessFlags := 9, code := some k9c0 }
def k9c1 : Code := { maxStack := 6, maxLocals := 4, code := jdk_35_method_43_code, exceptionTable := #[], attributes := #[] }
def k9m1 : Method := { name := "compareUnsigned", desc := "(JJ)I", sig := { parameters := [.long, .long], returnType := some .int }, accessFlags := 9, code := some k9c1 }
/-- java/lang/Long -/
def k9 : Class := { plain "java/lang/Long" (some 5) with
  accessFlags := 49
  interfaces := #[6, 7, 8]
  cf := some (fileOf pool9 1 #[.nestMembers #[235]] #[{ accessFlags := 9, nameIndex := 304, descriptorIndex := 305, attributes := #[] }, { accessFlags := 9, nameIndex := 469, descriptorIndex := 305, attributes := #[] }] 49 271 #[363, 365, 367] #[{ accessFlags := 25, nameIndex := 369, descriptorIndex := 276, attributes := #[] }, { accessFlags := 25, nameIndex := 371, descriptorIndex := 276, attributes := #[] }, { accessFlags := 25, nameIndex := 361, descriptorIndex := 362, attributes := #[] }, { accessFlags := 18, nameIndex := 275, descriptorIndex := 276, attributes := #[] }, { accessFlags := 25, nameIndex := 376, descriptorIndex := 377, attributes := #[] }, { accessFlags := 25, nameIndex := 379, descriptorIndex := 377, attributes := #[] }, { accessFlags := 26, nameIndex := 381, descriptorIndex := 276, attributes := #[] }])
  fields := #[{ name := "MIN_VALUE", type := .long, accessFlags := 25, slot := 0, constantValue := 0 }, { name := "MAX_VALUE", type := .long, accessFlags := 25, slot := 1, constantValue := 0 }, { name := "TYPE", type := (.object "java/lang/Class"), accessFlags := 25, slot := 2, constantValue := 0 }, { name := "value", type := .long, accessFlags := 18, slot := 0, constantValue := 0 }, { name := "SIZE", type := .int, accessFlags := 25, slot := 3, constantValue := 0 }, { name := "BYTES", type := .int, accessFlags := 25, slot := 4, constantValue := 0 }, { name := "serialVersionUID", type := .long, accessFlags := 26, slot := 5, constantValue := 0 }]
  methods := #[k9m0, k9m1]
  instanceTypes := #[.long]
  staticTypes := #[.long, .long, (.object "java/lang/Class"), .int, .int, .long]
  resolved := Array.replicate 524 none
  statics := none }

def pool10 : Array CpInfo := pool [(1, u "java/lang/Cloneable"), (0, .class_ 1), (0, u "java/lang/Object"), (0, .class_ 3)] 3

/-- java/lang/Cloneable -/
def k10 : Class := { plain "java/lang/Cloneable" (some 0) with
  accessFlags := 1537
  interfaces := #[]
  cf := some (fileOf pool10 2 #[] #[] 1537 4 #[] #[])
  fields := #[]
  methods := #[]
  instanceTypes := #[]
  staticTypes := #[]
  resolved := Array.replicate 8 none
  statics := none }

/-- the primitive byte -/
def k11 : Class := { plain "byte" none with kind := .primitive 'B', accessFlags := 0x411 }
/-- [B -/
def k12 : Class := { plain "[B" (some 0) with kind := .array 11 .byte, interfaces := #[10, 4], accessFlags := 1041 }

/-- the primitive int -/
def k13 : Class := { plain "int" none with kind := .primitive 'I', accessFlags := 0x411 }
/-- [I -/
def k14 : Class := { plain "[I" (some 0) with kind := .array 13 .int, interfaces := #[10, 4], accessFlags := 1041 }

def heap : Heap := #[]
def classes : Array Class := #[k0, k1, k2, k3, k4, k5, k6, k7, k8, k9, k10, k11, k12, k13, k14]
def interned : List (Array UInt16 × Addr) := []
def slotsUsed : Nat := 0
def theMethod : MethodId := ⟨1, 2⟩
def args0 : Array Value := #[.long 5, .long 6, .long 7, .long 8, .int 1]
def aboutOver (below : List Frame) : State where
  vm := { classes := classes, interned := interned.toArray }
  heap := heap
  slotsUsed := slotsUsed
  threads := #[{ frames := .invoking theMethod args0 :: below }]
def below0 : List Frame := [.native { method := ⟨0, 0⟩, args := #[] }]
def about1 : State := aboutOver below0
def p0 : Program := .bare "" "" ""
def e0 : Env := launch0.env 0 0 0
theorem w_frames : about1.frames = Frame.invoking theMethod args0 :: below0 := rfl
set_option maxRecDepth 65536 in
theorem w_args : argsFit about1.vm theMethod args0 = true := by decide +kernel
set_option maxRecDepth 65536 in
theorem w_heap : heapFits about1 = true := by decide +kernel
set_option maxRecDepth 65536 in
theorem w_runnable : about1.curStatus? = some .runnable := by decide +kernel
set_option maxRecDepth 65536 in
theorem w_alone : about1.alone = true := by decide +kernel
set_option maxRecDepth 65536 in
theorem w_named : about1.methodNamed? x = some theMethod := by decide +kernel
set_option maxRecDepth 65536 in
theorem w_hears : about1.hears theMethod below0 = true := by decide +kernel
set_option maxRecDepth 65536 in
theorem w_ripe : about1.ripe theMethod args0 below0 = true := by decide +kernel
theorem w_running : about1.status = .running := rfl
set_option maxRecDepth 65536 in
theorem w_room : about1.hasRoom e0.platform room_1 = true :=
  launch0.hasRoom_least _ room_1 (by decide +kernel) (by decide +kernel) (by decide +kernel) (by decide +kernel) (by decide +kernel) (by decide +kernel)
theorem allAtoms_all (ts : List Jvm.Cond) (a : Array Jvm.Value) (st : Jvm.State) : (allAtoms ts).before a st = ts.all (fun c => c.before a st) := by
  induction ts with
  | nil => rfl
  | cons c t ih =>
    show (Jvm.Cond.and c (allAtoms t)).before a st = _
    rw [Jvm.Cond.before_and, ih, List.all_cons]
def words1 : List Jvm.Cond := Jvm.Cond.code x code maxLocals ret :: tables_1
/-- a 'code' word, met by the world's own term for the bytes: nothing is compared byte by byte -/
theorem code_word {y : MethodName} {bytes : ByteArray} {mx : Nat} {rt : Option FieldType} {a : Array Value} {s : State} {m : MethodId} {meth : Method} {c : Code} (h1 : s.methodNamed? y = some m) (h2 : s.vm.method? m = some meth) (h3 : meth.code = some c) (h4 : c.code = bytes)
    (h5 : (c.maxLocals == mx && c.exceptionTable.isEmpty && decide (c.maxStack ≤ mostOperands) && decide (meth.sig.returnType = rt) && !meth.locks && decide (parseMethodDescriptor y.desc = some meth.sig)) = true) : (Jvm.Cond.code y bytes mx rt).before a s = true := by
  simp only [Bool.and_eq_true, beq_iff_eq, Bool.not_eq_true', decide_eq_true_eq] at h5
  obtain ⟨⟨⟨⟨⟨g1, g2⟩, g3⟩, g4⟩, g5⟩, g6⟩ := h5
  simp [Cond.before, Cond.holds, Cond.value, h1, h2, h3, h4, g1, g2, g3, g4, g5, g6]
def isCode : Jvm.Cond → Bool
  | .code _ _ _ _ => true
  | _ => false
theorem all_split {L : List Jvm.Cond} {P : Jvm.Cond → Bool} (h1 : L.all (fun c => isCode c || P c) = true) (h2 : ∀ c ∈ L.filter isCode, P c = true) : L.all P = true := by
  refine List.all_eq_true.mpr fun c hc => ?_
  have h := List.all_eq_true.mp h1 c hc
  rcases Bool.eq_false_or_eq_true (isCode c) with hi | hi
  · exact h2 c (List.mem_filter.mpr ⟨hc, hi⟩)
  · simpa [hi] using h
set_option maxRecDepth 65536 in
theorem w_c0 : (Jvm.Cond.code x code maxLocals ret).before args0 about1 = true := code_word (m := ⟨1, 2⟩) (meth := k1m2) (c := k1c2) (by decide +kernel) rfl rfl rfl (by decide +kernel)
set_option maxRecDepth 65536 in
theorem w_c1 : (Jvm.Cond.code ({ cls := "com/example/requeue/requeue/TxSequence", name := "<init>", desc := "(JJJ)V" } : Jvm.MethodName) prog_20_method_1_code (7 : Nat) (Option.none : Option Jvm.ClassFile.FieldType)).before args0 about1 = true := code_word (m := ⟨3, 0⟩) (meth := k3m0) (c := k3c0) (by decide +kernel) rfl rfl rfl (by decide +kernel)
set_option maxRecDepth 65536 in
theorem w_c2 : (Jvm.Cond.code ({ cls := "java/lang/Record", name := "<init>", desc := "()V" } : Jvm.MethodName) jdk_30_method_1_code (1 : Nat) (Option.none : Option Jvm.ClassFile.FieldType)).before args0 about1 = true := code_word (m := ⟨2, 0⟩) (meth := k2m0) (c := k2c0) (by decide +kernel) rfl rfl rfl (by decide +kernel)
set_option maxRecDepth 65536 in
theorem w_c3 : (Jvm.Cond.code ({ cls := "java/lang/Object", name := "<init>", desc := "()V" } : Jvm.MethodName) object_method_1_code (1 : Nat) (Option.none : Option Jvm.ClassFile.FieldType)).before args0 about1 = true := code_word (m := ⟨0, 0⟩) (meth := k0m0) (c := k0c0) (by decide +kernel) rfl rfl rfl (by decide +kernel)
set_option maxRecDepth 65536 in
theorem w_c4 : (Jvm.Cond.code ({ cls := "com/example/requeue/requeue/TxSequence", name := "isAfter", desc := "(J)Z" } : Jvm.MethodName) prog_20_method_2_code (3 : Nat) (Option.some Jvm.ClassFile.FieldType.boolean)).before args0 about1 = true := code_word (m := ⟨3, 1⟩) (meth := k3m1) (c := k3c1) (by decide +kernel) rfl rfl rfl (by decide +kernel)
set_option maxRecDepth 65536 in
theorem w_c5 : (Jvm.Cond.code ({ cls := "java/lang/Long", name := "compareUnsigned", desc := "(JJ)I" } : Jvm.MethodName) jdk_35_method_43_code (4 : Nat) (Option.some Jvm.ClassFile.FieldType.int)).before args0 about1 = true := code_word (m := ⟨9, 1⟩) (meth := k9m1) (c := k9c1) (by decide +kernel) rfl rfl rfl (by decide +kernel)
set_option maxRecDepth 65536 in
theorem w_c6 : (Jvm.Cond.code ({ cls := "java/lang/Long", name := "compare", desc := "(JJ)I" } : Jvm.MethodName) jdk_35_method_42_code (4 : Nat) (Option.some Jvm.ClassFile.FieldType.int)).before args0 about1 = true := code_word (m := ⟨9, 0⟩) (meth := k9m0) (c := k9c0) (by decide +kernel) rfl rfl rfl (by decide +kernel)
set_option maxRecDepth 65536 in
theorem w_c7 : (Jvm.Cond.code ({ cls := "com/example/requeue/requeue/TxSequenceIsAfterPinLaw", name := "unsignedGreater", desc := "(JJ)Z" } : Jvm.MethodName) method_2_code (6 : Nat) (Option.some Jvm.ClassFile.FieldType.boolean)).before args0 about1 = true := code_word (m := ⟨1, 1⟩) (meth := k1m1) (c := k1c1) (by decide +kernel) rfl rfl rfl (by decide +kernel)
def codes1 : List Jvm.Cond := [Jvm.Cond.code x code maxLocals ret, Jvm.Cond.code ({ cls := "com/example/requeue/requeue/TxSequence", name := "<init>", desc := "(JJJ)V" } : Jvm.MethodName) prog_20_method_1_code (7 : Nat) (Option.none : Option Jvm.ClassFile.FieldType), Jvm.Cond.code ({ cls := "java/lang/Record", name := "<init>", desc := "()V" } : Jvm.MethodName) jdk_30_method_1_code (1 : Nat) (Option.none : Option Jvm.ClassFile.FieldType), Jvm.Cond.code ({ cls := "java/lang/Object", name := "<init>", desc := "()V" } : Jvm.MethodName) object_method_1_code (1 : Nat) (Option.none : Option Jvm.ClassFile.FieldType), Jvm.Cond.code ({ cls := "com/example/requeue/requeue/TxSequence", name := "isAfter", desc := "(J)Z" } : Jvm.MethodName) prog_20_method_2_code (3 : Nat) (Option.some Jvm.ClassFile.FieldType.boolean), Jvm.Cond.code ({ cls := "java/lang/Long", name := "compareUnsigned", desc := "(JJ)I" } : Jvm.MethodName) jdk_35_method_43_code (4 : Nat) (Option.some Jvm.ClassFile.FieldType.int), Jvm.Cond.code ({ cls := "java/lang/Long", name := "compare", desc := "(JJ)I" } : Jvm.MethodName) jdk_35_method_42_code (4 : Nat) (Option.some Jvm.ClassFile.FieldType.int), Jvm.Cond.code ({ cls := "com/example/requeue/requeue/TxSequenceIsAfterPinLaw", name := "unsignedGreater", desc := "(JJ)Z" } : Jvm.MethodName) method_2_code (6 : Nat) (Option.some Jvm.ClassFile.FieldType.boolean)]
set_option maxRecDepth 65536 in
theorem codes_eq : words1.filter isCode = codes1 := rfl
theorem w_codes : ∀ c ∈ words1.filter isCode, c.before args0 about1 = true := by
  rw [codes_eq]
  intro c hc
  simp only [codes1, List.mem_cons, List.not_mem_nil, or_false] at hc
  rcases hc with rfl | rfl | rfl | rfl | rfl | rfl | rfl | rfl
  · exact w_c0
  · exact w_c1
  · exact w_c2
  · exact w_c3
  · exact w_c4
  · exact w_c5
  · exact w_c6
  · exact w_c7
set_option maxRecDepth 65536 in
theorem w_t1 : (words1.take 24).all (fun c => isCode c || c.before args0 about1) = true := by decide +kernel
set_option maxRecDepth 65536 in
theorem w_t2 : (words1.drop 24).all (fun c => isCode c || c.before args0 about1) = true := by decide +kernel
theorem w_tables : (allAtoms (Jvm.Cond.code x code maxLocals ret :: tables_1)).before args0 about1 = true := by
  rw [allAtoms_all]
  show words1.all (fun c => c.before args0 about1) = true
  refine all_split ?_ w_codes
  rw [← List.take_append_drop 24 words1, List.all_append, w_t1, w_t2]
  rfl
set_option maxRecDepth 65536 in
theorem w_case : (Jvm.Cond.and given_1 narrow_1).before args0 about1 = true := by decide +kernel
theorem w_applies : (headSpec (Jvm.Cond.code x code maxLocals ret :: tables_1) room_1).applies x e0.platform about1 = true :=
  (Spec.applies_iff w_frames).mpr ⟨w_running, w_runnable, w_alone, w_named, w_hears, w_ripe, w_room, w_tables⟩
theorem atStart : AtStart classFile x code maxLocals ret World_1 tables_1 room_1 Calls_1 rest_1 Pre_1 launch0 p0 e0 about1 theMethod args0 below0 :=
  ⟨lists_1, trivial, launch0.admits_env _ _ _, launch0.least_env, fairChoices_fair.cas, fairChoices_fair.clock, w_frames, w_args, w_heap, w_applies, trivial, trivial, w_case⟩
end start1
theorem witness_1 : WitnessClaimed_1 := ⟨start1.p0, start1.e0, start1.about1, start1.theMethod, start1.args0, start1.below0, start1.atStart⟩
end Jvm.Pilot.@@N@@
