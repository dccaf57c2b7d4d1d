import JvmDerived
import JvmDerived.Pilot.@@N@@Statement
import JvmDerived.Pilot.@@N@@Code
set_option linter.unusedVariables false
set_option linter.unusedSimpArgs false
namespace Jvm.OwnKit
open Sem ClassFile Op Lib Jvm.Stand Jvm.Free Jvm.LawKit Jvm.RoadKit
section Own
variable {p : Program} {l : Launch} {e : Env} {R : Room} {s : State} {m : MethodId} {args : Array Value} {below : List Frame} {meth : Method} {c : Code} {T : State} {locs : List Loc} {cells slots : Nat} {Z : State} {a0 : Array Value} {h : Heap}
/-- a walk comes to its return; Q says what it leaves -/
def Done (p : Program) (e : Env) (below : List Frame) (s : State) (R : Room) (Q : Option Value → Heap → List Loc → Prop) (U : State) : Prop :=
  ∃ s₂ o, Steps p.tables e below U s₂ ∧ s₂.status = .running ∧ Ended s₂ below o ∧ ∃ v L, o = .returned v ∧ Q v s₂.heap L ∧ FrameEnd s o s₂ L R.cells R.slots
variable {Q : Option Value → Heap → List Loc → Prop} {U U' : State}
theorem Done.step (k : ∀ t, Steps p.tables e below U' t → Steps p.tables e below U t) (h : Done p e below s R Q U') : Done p e below s R Q U := by
  obtain ⟨s₂, o, h1, r⟩ := h
  exact ⟨s₂, o, k _ h1, r⟩
theorem Done.go (k : Steps p.tables e below U U') (h : Done p e below s R Q U') : Done p e below s R Q U := by
  obtain ⟨s₂, o, h1, r⟩ := h
  exact ⟨s₂, o, k.trans h1, r⟩
theorem Done.mono {Q' : Option Value → Heap → List Loc → Prop} (q : ∀ v h L, Q v h L → Q' v h L) (h : Done p e below s R Q U) : Done p e below s R Q' U := by
  obtain ⟨s₂, o, h1, h2, h3, v, L, h4, h5, h6⟩ := h
  exact ⟨s₂, o, h1, h2, h3, v, L, h4, q _ _ _ h5, h6⟩
theorem Done.retI (X : Stand p l e R s m args below meth c T locs cells slots) (hx : p.tables.exec = Jvm.exec) (hlk : meth.locks = false) {pc : Nat} {Ls : Array Slot} {z : Int32} {rest : List Value} (hret : meth.sig.returnType = some .int) (hd : decode c.code pc = .ok (.ireturn, 1))
    (hc : cells ≤ R.cells) (hs : slots ≤ R.slots) (hq : Q (some (.int z)) T.heap locs) : Done p e below s R Q (T.setTop (mkF m pc Ls (.int z :: rest))) := by
  obtain ⟨fs, hr, hrun, hended, hW, hsame⟩ := X.leave (v := some (.int z)) (fun h => by rw [hret] at h; cases h) hlk
  exact ⟨_, _, retOut X hx hret rfl (Or.inl ⟨rfl, Or.inl rfl, z, rfl⟩) hd hr, hrun, hended, _, _, rfl, hq, ⟨_, rfl⟩, hW, hsame.mono hc hs⟩
theorem Done.retJ (X : Stand p l e R s m args below meth c T locs cells slots) (hx : p.tables.exec = Jvm.exec) (hlk : meth.locks = false) {pc : Nat} {Ls : Array Slot} {z : Int64} {rest : List Value} (hret : meth.sig.returnType = some .long) (hd : decode c.code pc = .ok (.lreturn, 1))
    (hc : cells ≤ R.cells) (hs : slots ≤ R.slots) (hq : Q (some (.long z)) T.heap locs) : Done p e below s R Q (T.setTop (mkF m pc Ls (.long z :: rest))) := by
  obtain ⟨fs, hr, hrun, hended, hW, hsame⟩ := X.leave (v := some (.long z)) (fun h => by rw [hret] at h; cases h) hlk
  exact ⟨_, _, retOut X hx hret rfl (Or.inr (Or.inl ⟨rfl, rfl, z, rfl⟩)) hd hr, hrun, hended, _, _, rfl, hq, ⟨_, rfl⟩, hW, hsame.mono hc hs⟩
theorem Done.retD (X : Stand p l e R s m args below meth c T locs cells slots) (hx : p.tables.exec = Jvm.exec) (hlk : meth.locks = false) {pc : Nat} {Ls : Array Slot} {z : UInt64} {rest : List Value} (hret : meth.sig.returnType = some .double) (hd : decode c.code pc = .ok (.dreturn, 1))
    (hc : cells ≤ R.cells) (hs : slots ≤ R.slots) (hq : Q (some (.double z)) T.heap locs) : Done p e below s R Q (T.setTop (mkF m pc Ls (.double z :: rest))) := by
  obtain ⟨fs, hr, hrun, hended, hW, hsame⟩ := X.leave (v := some (.double z)) (fun h => by rw [hret] at h; cases h) hlk
  exact ⟨_, _, retOut X hx hret rfl (Or.inr (Or.inr (Or.inl ⟨rfl, rfl, z, rfl⟩))) hd hr, hrun, hended, _, _, rfl, hq, ⟨_, rfl⟩, hW, hsame.mono hc hs⟩
theorem Done.retA (X : Stand p l e R s m args below meth c T locs cells slots) (hx : p.tables.exec = Jvm.exec) (hlk : meth.locks = false) {pc : Nat} {Ls : Array Slot} {w : Value} {t : FieldType} {rest : List Value} (hret : meth.sig.returnType = some t) (ht : t.isReference = true) (hw : w.isRef = true) (hd : decode c.code pc = .ok (.areturn, 1))
    (hc : cells ≤ R.cells) (hs : slots ≤ R.slots) (hq : Q (some w) T.heap locs) : Done p e below s R Q (T.setTop (mkF m pc Ls (w :: rest))) := by
  obtain ⟨fs, hr, hrun, hended, hW, hsame⟩ := X.leave (v := some w) (fun h => by rw [hret] at h; cases h) hlk
  have hn : narrow t w = w := by rcases ref_cases hw with rfl | ⟨a, rfl⟩ <;> cases t <;> rfl
  exact ⟨_, _, retOut X hx hret hn (Or.inr (Or.inr (Or.inr (Or.inr ⟨rfl, ht, hw⟩)))) hd hr, hrun, hended, _, _, rfl, hq, ⟨_, rfl⟩, hW, hsame.mono hc hs⟩
theorem Done.retN (X : Stand p l e R s m args below meth c T locs cells slots) (hx : p.tables.exec = Jvm.exec) (hlk : meth.locks = false) {pc : Nat} {Ls : Array Slot} {z : Int32} {t : FieldType} {rest : List Value} (hret : meth.sig.returnType = some t) (ht : t = .boolean ∨ t = .byte ∨ t = .char ∨ t = .short) (hd : decode c.code pc = .ok (.ireturn, 1))
    (hc : cells ≤ R.cells) (hs : slots ≤ R.slots) (hq : Q (some (.int (nar t z))) T.heap locs) : Done p e below s R Q (T.setTop (mkF m pc Ls (.int z :: rest))) := by
  obtain ⟨fs, hr, hrun, hended, hW, hsame⟩ := X.leave (v := some (.int (nar t z))) (fun h => by rw [hret] at h; cases h) hlk
  exact ⟨_, _, Jvm.RoadKit.retN X hx hret ht hd hr, hrun, hended, _, _, rfl, hq, ⟨_, rfl⟩, hW, hsame.mono hc hs⟩
theorem Done.retV (X : Stand p l e R s m args below meth c T locs cells slots) (hx : p.tables.exec = Jvm.exec) (hlk : meth.locks = false) {pc : Nat} {Ls : Array Slot} (hret : meth.sig.returnType = none) (hd : decode c.code pc = .ok (.return_, 1))
    (hc : cells ≤ R.cells) (hs : slots ≤ R.slots) (hq : Q none T.heap locs) : Done p e below s R Q (T.setTop (mkF m pc Ls [])) := by
  obtain ⟨fs, hr, hrun, hended, hW, hsame⟩ := X.leave (v := none) (fun _ => rfl) hlk
  exact ⟨_, _, X.returnOut hx hret hd hr, hrun, hended, _, _, rfl, hq, ⟨_, rfl⟩, hW, hsame.mono hc hs⟩
/-- a body's contract: from the arguments as' and the heap h0 it returns, and Q holds -/
def Ctr (l : Launch) (Z : State) (y : MethodName) (code : ByteArray) (ml : Nat) (rt : Option FieldType) (ws : List Jvm.Cond) (rm : Room) (as' : Array Value) (h0 : Heap) (Q : Option Value → Heap → List Loc → Prop) : Prop :=
  MetFree l y (head1 (Jvm.Cond.code y code ml rt :: ws) rm) (fun a U => a = as' ∧ Z.Warmed39 U.vm ∧ U.heap = h0) (fun _ _ _ _ _ => True) (fun _ U o U' => ∃ v L, o = .returned v ∧ Q v U'.heap L ∧ FrameEnd U o U' L rm.cells rm.slots)
theorem Ctr.mono {y : MethodName} {code : ByteArray} {ml : Nat} {rt : Option FieldType} {ws : List Jvm.Cond} {rm : Room} {as' : Array Value} {h0 : Heap} {Q' : Option Value → Heap → List Loc → Prop} (H : Ctr l Z y code ml rt ws rm as' h0 Q) (q : ∀ v h L, Q v h L → Q' v h L) : Ctr l Z y code ml rt ws rm as' h0 Q' := by
  intro p e ha hc hk s m args below hf happ hP hK
  obtain ⟨n, o, h1, h2, h3, v, L, h4, h5, h6⟩ := H p e ha hc hk s m args below hf happ hP hK
  exact ⟨n, o, h1, h2, h3, v, L, h4, q _ _ _ h5, h6⟩
theorem Ctr.intro {y : MethodName} {code : ByteArray} {ml : Nat} {rt : Option FieldType} {ws : List Jvm.Cond} {rm : Room} {as' : Array Value} {h0 : Heap} {Ls : Array Slot} (hpl : plainFor y = true) (hf : ∀ m, entryFrame m as' ml = mkF m 0 Ls [])
    (body : ∀ (p : Program) (e : Env) (s : State) (m : MethodId) (below : List Frame) (meth : Method) (c : Code) (T : State), p.tables.exec = Jvm.exec → c.code = code → c.maxLocals = ml → s.vm.findClass y.cls = some m.cls → meth.name = y.name → meth.sig.returnType = rt → meth.locks = false → Z.Warmed39 s.vm → T.heap = h0 →
      Stand p l e rm s m as' below meth c T [] 0 0 → Done p e below s rm Q (T.setTop (mkF m 0 Ls []))) : Ctr l Z y code ml rt ws rm as' h0 Q := by
  refine MetFree.of_bodySF hpl hisR ?_
  intro p e s m args below meth c s₁ Bd hml0 hP hK
  obtain ⟨rfl, hZ, hh⟩ := hP
  have X0 : Stand p l e rm s m args below meth c s₁ [] 0 0 := Stand.of_body Bd
  have e0 : s₁.heap = h0 := by rw [← hh, Bd.state]; rfl
  obtain ⟨s₂, o, h1, r⟩ := body p e s m below meth c s₁ Bd.exec Bd.bytes hml0 (findClass_of_methodNamed Bd.named) (name_of_methodNamed Bd.named Bd.method).1 Bd.returns Bd.notSynchronized hZ e0 X0
  exact ⟨s₂, o, castTop (hf m) h1, r⟩
theorem Ctr.back {y : MethodName} {bytes : ByteArray} {maxL : Nat} {ret : Option FieldType} {rm : Room} {len W : Nat} {as' : Array Value} (hM : Ctr l Z y bytes maxL ret [] rm as' h Q)
    (hZ : Z.Warmed39 s.vm) (wc : (Jvm.Cond.code y bytes maxL ret).before a0 Z = true) (wz : (Jvm.Cond.initialized y.cls).before a0 Z = true) (hf : rm.frames + 1 ≤ R.frames) (hl : W + (maxL + 11) + rm.locals ≤ R.locals) :
    Back l R p e below s args y len W (fun A a => a = as' ∧ A.U.heap = h ∧ A.cells + rm.cells ≤ R.cells ∧ A.slots + rm.slots ≤ R.slots)
      (fun A _ v B => ∃ L, Q v B.U.heap L ∧ B.locs = A.locs ++ L ∧ B.cells = A.cells + rm.cells ∧ B.slots = A.slots + rm.slots) := backOf (Q := Q) hM hZ wc wz hf hl
theorem wAt {ws : List Jvm.Cond} (hw : ∀ d ∈ ws, d.before a0 Z = true) (k : Nat) {d : Jvm.Cond} (q : ws[k]? = some d) : d.before a0 Z = true := hw _ (List.mem_of_getElem? q)
theorem int_eq_v {first s : State} {o : Option Outcome} {idx : List Nat} {t : Term} {k : Int32} (q : (Jvm.Cond.eq t (.int k)).value args first o s idx = some true) : t.eval args first o idx s = some (.int k) := by
  cases ht : t.eval args first o idx s with
  | none => simp [Cond.value, ht] at q
  | some x => cases x <;> simp [Cond.value, Term.eval, ht] at q ⊢; exact q
/-- a truth value as the JVM returns it -/
def bP (P : Prop) [Decidable P] : Int32 := if P then 1 else 0
theorem bP_t {P : Prop} [Decidable P] (q : P) : bP P = 1 := if_pos q
theorem bP_f {P : Prop} [Decidable P] (q : ¬ P) : bP P = 0 := if_neg q
/-- what a law leaves: it returns 1, and wrote in new cells alone -/
def LawQ (n0 : Nat) : Option Value → Heap → List Loc → Prop := fun v _ L => v = some (.int 1) ∧ Fr n0 L
/-- what a body leaves that writes and makes nothing -/
def PureQ (r : Option Value) (h0 : Heap) : Option Value → Heap → List Loc → Prop := fun v h L => v = r ∧ h = h0 ∧ L = []
/-- what a constructor leaves of which no more is wanted: it wrote in ws and in new cells alone -/
def QW (n0 : Nat) (h0 : Heap) (ws : List Addr) : Option Value → Heap → List Loc → Prop := fun v h L => v = none ∧ Fr n0 L ∧ Keep h0 h ws
variable {Qc : Option Value → Heap → List Loc → Prop}
theorem Done.callS (X : Stand p l e R s m args below meth c T locs cells slots) (hx : p.tables.exec = Jvm.exec) (hZ : Z.Warmed39 s.vm) {own : String} {index : Nat} {y : MethodName} {bytes : ByteArray} {maxL : Nat} {ret : Option FieldType} {rm : Room} {as' : Array Value}
    (hown : s.vm.findClass own = some m.cls) (w1 : (Jvm.Cond.methodLink own index y).before a0 Z = true) (w2 : (Jvm.Cond.static y).before a0 Z = true) (w3 : (Jvm.Cond.initialized y.cls).before a0 Z = true) (w4 : (Jvm.Cond.code y bytes maxL ret).before a0 Z = true)
    (hy : y.cls ≠ "java/lang/invoke/MethodHandle" ∧ y.cls ≠ "java/lang/invoke/VarHandle") (hM : Ctr l Z y bytes maxL ret [] rm as' h Qc) (eT : T.heap = h)
    {g : JFrame} (hg : g.method = m) (hsize : g.locals.size = c.maxLocals) (argsL rest : List Value) (W : Nat) (hlen : ∀ sig, parseMethodDescriptor y.desc = some sig → argsL.length = sig.parameters.length)
    (hstack : g.stack = argsL.reverse ++ rest) (has : argsL.toArray = as') (hW : 2 * g.monitorRoom + (rest.map fun v => v.category).sum ≤ W) (hdg : decode c.code g.pc = .ok (.invokestatic index, 3))
    (hf : rm.frames + 1 ≤ R.frames) (hl : W + (maxL + 11) + rm.locals ≤ R.locals) (hc : cells + rm.cells ≤ R.cells) (hs : slots + rm.slots ≤ R.slots)
    (k : ∀ (T' : State) (v : Option Value) (L : List Loc), Stand p l e R s m args below meth c T' (locs ++ L) (cells + rm.cells) (slots + rm.slots) → Qc v T'.heap L → Done p e below s R Q (T'.setTop { g with pc := g.pc + 3, stack := v.toList ++ rest })) :
    Done p e below s R Q (T.setTop g) := by
  subst has
  obtain ⟨v, vm₁, ⟨T', L', k', n'⟩, -, X', ⟨L, hq, e1, e2, e3⟩, st⟩ := Jvm.LawKit.callS X hx (y := y) hown (mvT hZ w1) (mvT hZ w2) (mvT hZ w3) (mvT hZ w4) hy (hM.back (W := W) hZ w4 w3 hf hl) hg hsize (argsL := argsL) (rest := rest) hlen hstack hW hdg (fun _ _ => ⟨rfl, eT, hc, hs⟩)
  dsimp only [Pt.U, Pt.locs, Pt.cells, Pt.slots] at X' e1 e2 e3 st hq
  subst e1 e2 e3
  exact Done.step st (k _ _ _ X' hq)
theorem Done.callSP (X : Stand p l e R s m args below meth c T locs cells slots) (hx : p.tables.exec = Jvm.exec) (hZ : Z.Warmed39 s.vm) {own : String} {index : Nat} {y : MethodName} {bytes : ByteArray} {maxL : Nat} {ret : Option FieldType} {rm : Room} {as' : Array Value} {r : Option Value}
    (hown : s.vm.findClass own = some m.cls) (w1 : (Jvm.Cond.methodLink own index y).before a0 Z = true) (w2 : (Jvm.Cond.static y).before a0 Z = true) (w3 : (Jvm.Cond.initialized y.cls).before a0 Z = true) (w4 : (Jvm.Cond.code y bytes maxL ret).before a0 Z = true)
    (hy : y.cls ≠ "java/lang/invoke/MethodHandle" ∧ y.cls ≠ "java/lang/invoke/VarHandle") (hM : Ctr l Z y bytes maxL ret [] rm as' h (PureQ r h)) (eT : T.heap = h)
    {g : JFrame} (hg : g.method = m) (hsize : g.locals.size = c.maxLocals) (argsL rest : List Value) (W : Nat) (hlen : ∀ sig, parseMethodDescriptor y.desc = some sig → argsL.length = sig.parameters.length)
    (hstack : g.stack = argsL.reverse ++ rest) (has : argsL.toArray = as') (hW : 2 * g.monitorRoom + (rest.map fun v => v.category).sum ≤ W) (hdg : decode c.code g.pc = .ok (.invokestatic index, 3))
    (hf : rm.frames + 1 ≤ R.frames) (hl : W + (maxL + 11) + rm.locals ≤ R.locals) (hc : cells ≤ R.cells) (hs : slots ≤ R.slots) (rc : rm.cells = 0) (rs : rm.slots = 0)
    (k : ∀ (T' : State), Stand p l e R s m args below meth c T' locs cells slots → T'.heap = h → Done p e below s R Q (T'.setTop { g with pc := g.pc + 3, stack := r.toList ++ rest })) :
    Done p e below s R Q (T.setTop g) := by
  refine Done.callS X hx hZ hown w1 w2 w3 w4 hy hM eT hg hsize argsL rest W hlen hstack has hW hdg hf hl (by rw [rc]; exact hc) (by rw [rs]; exact hs) ?_
  intro T' v L X' q
  obtain ⟨rfl, e1, rfl⟩ := q
  rw [List.append_nil, rc, rs] at X'
  exact k T' X' e1
theorem Done.callI (X : Stand p l e R s m args below meth c T locs cells slots) (hx : p.tables.exec = Jvm.exec) (hZ : Z.Warmed39 s.vm) {own : String} {index : Nat} {y : MethodName} {bytes : ByteArray} {maxL : Nat} {rm : Room} {as' : Array Value} (hy1 : y.name = "<init>")
    (hown : s.vm.findClass own = some m.cls) (w1 : (Jvm.Cond.methodLink own index y).before a0 Z = true) (w2 : (Jvm.Cond.instanceMethod y).before a0 Z = true) (w3 : (Jvm.Cond.initialized y.cls).before a0 Z = true) (w4 : (Jvm.Cond.code y bytes maxL none).before a0 Z = true)
    (hy : y.cls ≠ "java/lang/invoke/MethodHandle" ∧ y.cls ≠ "java/lang/invoke/VarHandle") (hM : Ctr l Z y bytes maxL none [] rm as' h Qc) (eT : T.heap = h)
    {g : JFrame} (hg : g.method = m) (hsize : g.locals.size = c.maxLocals) (a : Addr) (argsL rest : List Value) (W : Nat) (hlen : ∀ sig, parseMethodDescriptor y.desc = some sig → argsL.length = sig.parameters.length)
    (hstack : g.stack = argsL.reverse ++ .ref a :: rest) (has : (Value.ref a :: argsL).toArray = as') (hW : 2 * g.monitorRoom + (rest.map fun v => v.category).sum ≤ W) (hdg : decode c.code g.pc = .ok (.invokespecial index, 3))
    (hf : rm.frames + 1 ≤ R.frames) (hl : W + (maxL + 11) + rm.locals ≤ R.locals) (hc : cells + rm.cells ≤ R.cells) (hs : slots + rm.slots ≤ R.slots)
    (k : ∀ (T' : State) (v : Option Value) (L : List Loc), Stand p l e R s m args below meth c T' (locs ++ L) (cells + rm.cells) (slots + rm.slots) → Qc v T'.heap L → Done p e below s R Q (T'.setTop { g with pc := g.pc + 3, stack := v.toList ++ rest })) :
    Done p e below s R Q (T.setTop g) := by
  subst has
  obtain ⟨v, vm₁, ⟨T', L', k', n'⟩, -, X', ⟨L, hq, e1, e2, e3⟩, st⟩ := X.specialBack hx (y := y) hy1 hown (mvT hZ w1) (mvT hZ w2) (mvT hZ w4) hy (hM.back (W := W) hZ w4 w3 hf hl) hg hsize (Steps.refl _) (a := a) (argsL := argsL) (rest := rest) hlen hstack hW hdg (fun _ _ => ⟨rfl, eT, hc, hs⟩)
  dsimp only [Pt.U, Pt.locs, Pt.cells, Pt.slots] at X' e1 e2 e3 st hq
  subst e1 e2 e3
  exact Done.go st (k _ _ _ X' hq)
theorem Done.callV (X : Stand p l e R s m args below meth c T locs cells slots) (hx : p.tables.exec = Jvm.exec) (hZ : Z.Warmed39 s.vm) {own C : String} {index : Nat} {y z : MethodName} {bytes : ByteArray} {maxL : Nat} {ret : Option FieldType} {rm : Room} {as' : Array Value}
    (hown : s.vm.findClass own = some m.cls) (w1 : (Jvm.Cond.methodLink own index y).before a0 Z = true) (w2 : (Jvm.Cond.declares y).before a0 Z = true) (hnf : NotFace s y) (w5 : (Jvm.Cond.selects C y z).before a0 Z = true) (w6 : (Jvm.Cond.instanceMethod z).before a0 Z = true)
    (w3 : (Jvm.Cond.initialized z.cls).before a0 Z = true) (w4 : (Jvm.Cond.code z bytes maxL ret).before a0 Z = true)
    (hy : y.cls ≠ "java/lang/invoke/MethodHandle" ∧ y.cls ≠ "java/lang/invoke/VarHandle") (hM : Ctr l Z z bytes maxL ret [] rm as' h Qc) (eT : T.heap = h) {b : Addr} (E : Exa Z h b C)
    {g : JFrame} (hg : g.method = m) (hsize : g.locals.size = c.maxLocals) (argsL rest : List Value) (W : Nat) (hlen : ∀ sig, parseMethodDescriptor y.desc = some sig → argsL.length = sig.parameters.length)
    (hstack : g.stack = argsL.reverse ++ .ref b :: rest) (has : (Value.ref b :: argsL).toArray = as') (hW : 2 * g.monitorRoom + (rest.map fun v => v.category).sum ≤ W) (hdg : decode c.code g.pc = .ok (.invokevirtual index, 3))
    (hf : rm.frames + 1 ≤ R.frames) (hl : W + (maxL + 11) + rm.locals ≤ R.locals) (hc : cells + rm.cells ≤ R.cells) (hs : slots + rm.slots ≤ R.slots)
    (k : ∀ (T' : State) (v : Option Value) (L : List Loc), Stand p l e R s m args below meth c T' (locs ++ L) (cells + rm.cells) (slots + rm.slots) → Qc v T'.heap L → Done p e below s R Q (T'.setTop { g with pc := g.pc + 3, stack := v.toList ++ rest })) :
    Done p e below s R Q (T.setTop g) := by
  subst has
  obtain ⟨cq, kq, qa, qb, qc⟩ := isOf (T := T) hZ eT E
  obtain ⟨v, vm₁, ⟨T', L', k', n'⟩, -, X', ⟨L, hq, e1, e2, e3⟩, st⟩ := X.virtualBack hx (y := y) (z := z) hown (mvT hZ w1) (mvT hZ w2) hnf (mvT hZ w5) (mvT hZ w6) hy (hM.back (W := W) hZ w4 w3 hf hl) qa qc hg hsize (Steps.refl _) (argsL := argsL) (rest := rest) hlen hstack hW hdg (fun _ _ => ⟨rfl, eT, hc, hs⟩)
  dsimp only [Pt.U, Pt.locs, Pt.cells, Pt.slots] at X' e1 e2 e3 st hq
  subst e1 e2 e3
  exact Done.go st (k _ _ _ X' hq)
theorem Done.callVP (X : Stand p l e R s m args below meth c T locs cells slots) (hx : p.tables.exec = Jvm.exec) (hZ : Z.Warmed39 s.vm) {own C : String} {index : Nat} {y z : MethodName} {bytes : ByteArray} {maxL : Nat} {ret : Option FieldType} {rm : Room} {as' : Array Value} {r : Option Value}
    (hown : s.vm.findClass own = some m.cls) (w1 : (Jvm.Cond.methodLink own index y).before a0 Z = true) (w2 : (Jvm.Cond.declares y).before a0 Z = true) (hnf : NotFace s y) (w5 : (Jvm.Cond.selects C y z).before a0 Z = true) (w6 : (Jvm.Cond.instanceMethod z).before a0 Z = true)
    (w3 : (Jvm.Cond.initialized z.cls).before a0 Z = true) (w4 : (Jvm.Cond.code z bytes maxL ret).before a0 Z = true)
    (hy : y.cls ≠ "java/lang/invoke/MethodHandle" ∧ y.cls ≠ "java/lang/invoke/VarHandle") (hM : Ctr l Z z bytes maxL ret [] rm as' h (PureQ r h)) (eT : T.heap = h) {b : Addr} (E : Exa Z h b C)
    {g : JFrame} (hg : g.method = m) (hsize : g.locals.size = c.maxLocals) (argsL rest : List Value) (W : Nat) (hlen : ∀ sig, parseMethodDescriptor y.desc = some sig → argsL.length = sig.parameters.length)
    (hstack : g.stack = argsL.reverse ++ .ref b :: rest) (has : (Value.ref b :: argsL).toArray = as') (hW : 2 * g.monitorRoom + (rest.map fun v => v.category).sum ≤ W) (hdg : decode c.code g.pc = .ok (.invokevirtual index, 3))
    (hf : rm.frames + 1 ≤ R.frames) (hl : W + (maxL + 11) + rm.locals ≤ R.locals) (hc : cells ≤ R.cells) (hs : slots ≤ R.slots) (rc : rm.cells = 0) (rs : rm.slots = 0)
    (k : ∀ (T' : State), Stand p l e R s m args below meth c T' locs cells slots → T'.heap = h → Done p e below s R Q (T'.setTop { g with pc := g.pc + 3, stack := r.toList ++ rest })) :
    Done p e below s R Q (T.setTop g) := by
  refine Done.callV X hx hZ hown w1 w2 hnf w5 w6 w3 w4 hy hM eT E hg hsize argsL rest W hlen hstack has hW hdg hf hl (by rw [rc]; exact hc) (by rw [rs]; exact hs) ?_
  intro T' v L X' q
  obtain ⟨rfl, e1, rfl⟩ := q
  rw [List.append_nil, rc, rs] at X'
  exact k T' X' e1
end Own
end Jvm.OwnKit
namespace Jvm.Pilot.@@N@@
open Jvm Jvm.ClassFile Sem Op Lib Jvm.Free Jvm.Stand Jvm.LawKit Jvm.RoadKit Jvm.OwnKit Bundle Jvm.Pilot.@@N@@.Jvm.D
theorem own_nlt64 {x y : Int32} (h : ¬ x.toInt64 < y.toInt64) : ¬ x < y := fun q => h (by rw [Int64.lt_iff_toInt_lt, Int32.toInt_toInt64, Int32.toInt_toInt64]; rw [Int32.lt_iff_toInt_lt] at q; exact q)
theorem own_b53 (x : Int32) : B53 x.toInt64 := by
  have h1 := x.toInt_lt
  have h2 := x.le_toInt
  unfold B53
  rw [Int32.toInt_toInt64]; omega
theorem own_lt64 (x y : Int32) : x.toInt64 < y.toInt64 ↔ x < y := by rw [Int64.lt_iff_toInt_lt, Int32.lt_iff_toInt_lt, Int32.toInt_toInt64, Int32.toInt_toInt64]
theorem pn_com_example_ithuriel_ithuriel_search_Ranking : plainName "com/example/ithuriel/ithuriel/search/Ranking" = true := by first | (simp [plainName, overriddenIn]; done) | decide +kernel
theorem d1_0 : decode prog_140_method_5_code 0 = .ok (.aload_n 0, 1) := by decide +kernel
theorem d1_1 : decode prog_140_method_5_code 1 = .ok (.getstatic 3, 3) := by decide +kernel
theorem d1_4 : decode prog_140_method_5_code 4 = .ok (.if_acmp .ne 17, 3) := by decide +kernel
theorem d1_7 : decode prog_140_method_5_code 7 = .ok (.dload_n 1, 1) := by decide +kernel
theorem d1_8 : decode prog_140_method_5_code 8 = .ok (.dload_n 3, 1) := by decide +kernel
theorem d1_9 : decode prog_140_method_5_code 9 = .ok (.dcmp .g, 1) := by decide +kernel
theorem d1_10 : decode prog_140_method_5_code 10 = .ok (.ifCond .gt 7, 3) := by decide +kernel
theorem d1_17 : decode prog_140_method_5_code 17 = .ok (.iconst 0, 1) := by decide +kernel
theorem d1_18 : decode prog_140_method_5_code 18 = .ok (.goto 14, 3) := by decide +kernel
theorem d1_32 : decode prog_140_method_5_code 32 = .ok (.ireturn, 1) := by decide +kernel
theorem d1_13 : decode prog_140_method_5_code 13 = .ok (.iconst 1, 1) := by decide +kernel
theorem d1_14 : decode prog_140_method_5_code 14 = .ok (.goto 18, 3) := by decide +kernel
set_option maxRecDepth 65536 in
set_option maxHeartbeats 40000000 in
theorem rmS (l : Launch) (Z : State) (a0 : Array Value) (hw : ∀ d ∈ tables_1, d.before a0 Z = true) (ws : List Jvm.Cond) (a w : Addr) (x y r : Int32) (gx gy : UInt64) (h0 : Heap) (n0 : Nat) (Z0 : n0 ≤ h0.size) (ex : gx = FP.l2d x.toInt64) (ey : gy = FP.l2d y.toInt64) (SS : Sta Z h0 "com/example/ithuriel/ithuriel/search/Ranking" "SMALLEST_FIRST" "Lcom/example/ithuriel/ithuriel/search/Ranking;" (.ref w)) (ha : a = w) (hr : r = bP (¬ y < x)) :
    Ctr l Z (⟨"com/example/ithuriel/ithuriel/search/Ranking", "reaches", "(DD)Z"⟩ : MethodName) prog_140_method_5_code 5 (some .boolean) ws ({ frames := 0, cells := 0, slots := 0, locals := 0 } : Room) #[(.ref a), (.double gx), (.double gy)] h0 (PureQ (some (.int r)) h0) := by
  refine Ctr.intro (plainFor_of_name pn_com_example_ithuriel_ithuriel_search_Ranking) (Ls := #[.val (.ref a), .val (.double gx), .second, .val (.double gy), .second]) (fun m => by first | (simp [entryFrame, mkF, argsToLocals, Value.category]; done) | rfl) ?_
  intro p e s m below meth c T0 hx hby hml hown hnm hret hlk hZ e0 X0
  have N0 := Fr.nil n0
  show Done p e below s _ _ (T0.setTop (mkF m 0 #[.val (.ref a), .val (.double gx), .second, .val (.double gy), .second] []))
  refine Done.step (fun _ => XS.aloadN X0.here hx rfl (hb hby d1_0) rfl rfl) ?_
  show Done p e below s _ _ (T0.setTop (mkF m 1 #[.val (.ref a), .val (.double gx), .second, .val (.double gy), .second] [(.ref a)]))
  obtain ⟨T1, X1, e1, st1⟩ := getS2 X0 hx hZ hown (host := "") (Or.inl (wAt hw 10 rfl)) Via.refl e0 SS (g := (mkF m 1 #[.val (.ref a), .val (.double gx), .second, .val (.double gy), .second] [(.ref a)])) rfl (hb hby d1_1)
  refine Done.step st1 ?_
  show Done p e below s _ _ (T1.setTop (mkF m 4 #[.val (.ref a), .val (.double gx), .second, .val (.double gy), .second] [(.ref w), (.ref a)]))
  refine Done.step (fun _ => XT.acmpNo X1.here hx rfl (hb hby d1_4) rfl rfl rfl (XT.aa_ne_f (congrArg Value.ref ha))) ?_
  show Done p e below s _ _ (T1.setTop (mkF m 7 #[.val (.ref a), .val (.double gx), .second, .val (.double gy), .second] []))
  refine Done.step (fun _ => XS.dloadN X1.here hx rfl (hb hby d1_7) rfl) ?_
  show Done p e below s _ _ (T1.setTop (mkF m 8 #[.val (.ref a), .val (.double gx), .second, .val (.double gy), .second] [(.double gx)]))
  refine Done.step (fun _ => XS.dloadN X1.here hx rfl (hb hby d1_8) rfl) ?_
  show Done p e below s _ _ (T1.setTop (mkF m 9 #[.val (.ref a), .val (.double gx), .second, .val (.double gy), .second] [(.double gy), (.double gx)]))
  refine Done.step (fun _ => XS.dcmpS X1.here hx rfl (v := XT.cmpL x.toInt64 y.toInt64) (hb hby d1_9) rfl (by rw [ex, ey]; exact (dcmpV_w (own_b53 x) (own_b53 y) .g))) ?_
  show Done p e below s _ _ (T1.setTop (mkF m 10 #[.val (.ref a), .val (.double gx), .second, .val (.double gy), .second] [(.int (XT.cmpL x.toInt64 y.toInt64))]))
  by_cases hc2 : y.toInt64 < x.toInt64
  · refine Done.step (fun _ => XS.ifYes X1.here hx rfl (pc0 := 10) (pc' := 17) rfl (hb hby d1_10) rfl (XT.ll_gt_t hc2) (by decide) (by decide)) ?_
    show Done p e below s _ _ (T1.setTop (mkF m 17 #[.val (.ref a), .val (.double gx), .second, .val (.double gy), .second] []))
    refine Done.step (fun _ => XT.iconstV X1.here hx rfl (0 : Int32) (hb hby d1_17) (by decide)) ?_
    show Done p e below s _ _ (T1.setTop (mkF m 18 #[.val (.ref a), .val (.double gx), .second, .val (.double gy), .second] [(.int (0 : Int32))]))
    refine Done.step (fun _ => XS.goto X1.here hx rfl (pc0 := 18) (pc' := 32) rfl (hb hby d1_18) (by decide) (by decide)) ?_
    show Done p e below s _ _ (T1.setTop (mkF m 32 #[.val (.ref a), .val (.double gx), .second, .val (.double gy), .second] [(.int (0 : Int32))]))
    exact Done.retN X1 hx hlk (t := .boolean) hret (by simp) (hb hby d1_32) (by decide) (by decide) ⟨by rw [hr, bP_f (fun q => q ((own_lt64 y x).mp hc2))]; rfl, e1, rfl⟩
  · refine Done.step (fun _ => XS.ifNo X1.here hx rfl (hb hby d1_10) rfl (XT.ll_gt_f hc2)) ?_
    show Done p e below s _ _ (T1.setTop (mkF m 13 #[.val (.ref a), .val (.double gx), .second, .val (.double gy), .second] []))
    refine Done.step (fun _ => XT.iconstV X1.here hx rfl (1 : Int32) (hb hby d1_13) (by decide)) ?_
    show Done p e below s _ _ (T1.setTop (mkF m 14 #[.val (.ref a), .val (.double gx), .second, .val (.double gy), .second] [(.int (1 : Int32))]))
    refine Done.step (fun _ => XS.goto X1.here hx rfl (pc0 := 14) (pc' := 32) rfl (hb hby d1_14) (by decide) (by decide)) ?_
    show Done p e below s _ _ (T1.setTop (mkF m 32 #[.val (.ref a), .val (.double gx), .second, .val (.double gy), .second] [(.int (1 : Int32))]))
    exact Done.retN X1 hx hlk (t := .boolean) hret (by simp) (hb hby d1_32) (by decide) (by decide) ⟨by rw [hr, bP_t (own_nlt64 hc2)]; rfl, e1, rfl⟩
theorem d1_21 : decode prog_140_method_5_code 21 = .ok (.dload_n 1, 1) := by decide +kernel
theorem d1_22 : decode prog_140_method_5_code 22 = .ok (.dload_n 3, 1) := by decide +kernel
theorem d1_23 : decode prog_140_method_5_code 23 = .ok (.dcmp .l, 1) := by decide +kernel
theorem d1_24 : decode prog_140_method_5_code 24 = .ok (.ifCond .lt 7, 3) := by decide +kernel
theorem d1_31 : decode prog_140_method_5_code 31 = .ok (.iconst 0, 1) := by decide +kernel
theorem d1_27 : decode prog_140_method_5_code 27 = .ok (.iconst 1, 1) := by decide +kernel
theorem d1_28 : decode prog_140_method_5_code 28 = .ok (.goto 4, 3) := by decide +kernel
set_option maxRecDepth 65536 in
set_option maxHeartbeats 40000000 in
theorem rmL (l : Launch) (Z : State) (a0 : Array Value) (hw : ∀ d ∈ tables_1, d.before a0 Z = true) (ws : List Jvm.Cond) (a w : Addr) (x y r : Int32) (gx gy : UInt64) (h0 : Heap) (n0 : Nat) (Z0 : n0 ≤ h0.size) (ex : gx = FP.l2d x.toInt64) (ey : gy = FP.l2d y.toInt64) (SS : Sta Z h0 "com/example/ithuriel/ithuriel/search/Ranking" "SMALLEST_FIRST" "Lcom/example/ithuriel/ithuriel/search/Ranking;" (.ref w)) (ha : ¬ a = w) (hr : r = bP (¬ x < y)) :
    Ctr l Z (⟨"com/example/ithuriel/ithuriel/search/Ranking", "reaches", "(DD)Z"⟩ : MethodName) prog_140_method_5_code 5 (some .boolean) ws ({ frames := 0, cells := 0, slots := 0, locals := 0 } : Room) #[(.ref a), (.double gx), (.double gy)] h0 (PureQ (some (.int r)) h0) := by
  refine Ctr.intro (plainFor_of_name pn_com_example_ithuriel_ithuriel_search_Ranking) (Ls := #[.val (.ref a), .val (.double gx), .second, .val (.double gy), .second]) (fun m => by first | (simp [entryFrame, mkF, argsToLocals, Value.category]; done) | rfl) ?_
  intro p e s m below meth c T0 hx hby hml hown hnm hret hlk hZ e0 X0
  have N0 := Fr.nil n0
  show Done p e below s _ _ (T0.setTop (mkF m 0 #[.val (.ref a), .val (.double gx), .second, .val (.double gy), .second] []))
  refine Done.step (fun _ => XS.aloadN X0.here hx rfl (hb hby d1_0) rfl rfl) ?_
  show Done p e below s _ _ (T0.setTop (mkF m 1 #[.val (.ref a), .val (.double gx), .second, .val (.double gy), .second] [(.ref a)]))
  obtain ⟨T1, X1, e1, st1⟩ := getS2 X0 hx hZ hown (host := "") (Or.inl (wAt hw 10 rfl)) Via.refl e0 SS (g := (mkF m 1 #[.val (.ref a), .val (.double gx), .second, .val (.double gy), .second] [(.ref a)])) rfl (hb hby d1_1)
  refine Done.step st1 ?_
  show Done p e below s _ _ (T1.setTop (mkF m 4 #[.val (.ref a), .val (.double gx), .second, .val (.double gy), .second] [(.ref w), (.ref a)]))
  refine Done.step (fun _ => XT.acmpYes X1.here hx rfl (pc0 := 4) (pc' := 21) rfl (hb hby d1_4) rfl rfl rfl (XT.aa_ne_t (fun q => ha (Value.ref.inj q))) (by decide) (by decide)) ?_
  show Done p e below s _ _ (T1.setTop (mkF m 21 #[.val (.ref a), .val (.double gx), .second, .val (.double gy), .second] []))
  refine Done.step (fun _ => XS.dloadN X1.here hx rfl (hb hby d1_21) rfl) ?_
  show Done p e below s _ _ (T1.setTop (mkF m 22 #[.val (.ref a), .val (.double gx), .second, .val (.double gy), .second] [(.double gx)]))
  refine Done.step (fun _ => XS.dloadN X1.here hx rfl (hb hby d1_22) rfl) ?_
  show Done p e below s _ _ (T1.setTop (mkF m 23 #[.val (.ref a), .val (.double gx), .second, .val (.double gy), .second] [(.double gy), (.double gx)]))
  refine Done.step (fun _ => XS.dcmpS X1.here hx rfl (v := XT.cmpL x.toInt64 y.toInt64) (hb hby d1_23) rfl (by rw [ex, ey]; exact (dcmpV_w (own_b53 x) (own_b53 y) .l))) ?_
  show Done p e below s _ _ (T1.setTop (mkF m 24 #[.val (.ref a), .val (.double gx), .second, .val (.double gy), .second] [(.int (XT.cmpL x.toInt64 y.toInt64))]))
  by_cases hc2 : x.toInt64 < y.toInt64
  · refine Done.step (fun _ => XS.ifYes X1.here hx rfl (pc0 := 24) (pc' := 31) rfl (hb hby d1_24) rfl (XT.ll_lt_t hc2) (by decide) (by decide)) ?_
    show Done p e below s _ _ (T1.setTop (mkF m 31 #[.val (.ref a), .val (.double gx), .second, .val (.double gy), .second] []))
    refine Done.step (fun _ => XT.iconstV X1.here hx rfl (0 : Int32) (hb hby d1_31) (by decide)) ?_
    show Done p e below s _ _ (T1.setTop (mkF m 32 #[.val (.ref a), .val (.double gx), .second, .val (.double gy), .second] [(.int (0 : Int32))]))
    exact Done.retN X1 hx hlk (t := .boolean) hret (by simp) (hb hby d1_32) (by decide) (by decide) ⟨by rw [hr, bP_f (fun q => q ((own_lt64 x y).mp hc2))]; rfl, e1, rfl⟩
  · refine Done.step (fun _ => XS.ifNo X1.here hx rfl (hb hby d1_24) rfl (XT.ll_lt_f hc2)) ?_
    show Done p e below s _ _ (T1.setTop (mkF m 27 #[.val (.ref a), .val (.double gx), .second, .val (.double gy), .second] []))
    refine Done.step (fun _ => XT.iconstV X1.here hx rfl (1 : Int32) (hb hby d1_27) (by decide)) ?_
    show Done p e below s _ _ (T1.setTop (mkF m 28 #[.val (.ref a), .val (.double gx), .second, .val (.double gy), .second] [(.int (1 : Int32))]))
    refine Done.step (fun _ => XS.goto X1.here hx rfl (pc0 := 28) (pc' := 32) rfl (hb hby d1_28) (by decide) (by decide)) ?_
    show Done p e below s _ _ (T1.setTop (mkF m 32 #[.val (.ref a), .val (.double gx), .second, .val (.double gy), .second] [(.int (1 : Int32))]))
    exact Done.retN X1 hx hlk (t := .boolean) hret (by simp) (hb hby d1_32) (by decide) (by decide) ⟨by rw [hr, bP_t (own_nlt64 hc2)]; rfl, e1, rfl⟩
theorem pn_com_example_ithuriel_ithuriel_search_RankingReachesPinLaw : plainName "com/example/ithuriel/ithuriel/search/RankingReachesPinLaw" = true := by first | (simp [plainName, overriddenIn]; done) | decide +kernel
theorem pd_0 : parseMethodDescriptor "(DD)Z" = some ⟨[.double, .double], some .boolean⟩ := by decide +kernel
set_option maxRecDepth 65536 in
set_option maxHeartbeats 40000000 in
theorem rm0 (l : Launch) (Z : State) (a0 : Array Value) (hw : ∀ d ∈ tables_1, d.before a0 Z = true) (ws : List Jvm.Cond) (wh a b : Int32) (xSMALLEST_FIRST xLARGEST_FIRST : Addr) (h0 : Heap) (n0 : Nat) (Z0 : n0 ≤ h0.size) (SSMALLEST_FIRST : Sta Z h0 "com/example/ithuriel/ithuriel/search/Ranking" "SMALLEST_FIRST" "Lcom/example/ithuriel/ithuriel/search/Ranking;" (.ref xSMALLEST_FIRST)) (ESMALLEST_FIRST : Exa Z h0 xSMALLEST_FIRST "com/example/ithuriel/ithuriel/search/Ranking") (SLARGEST_FIRST : Sta Z h0 "com/example/ithuriel/ithuriel/search/Ranking" "LARGEST_FIRST" "Lcom/example/ithuriel/ithuriel/search/Ranking;" (.ref xLARGEST_FIRST)) (ELARGEST_FIRST : Exa Z h0 xLARGEST_FIRST "com/example/ithuriel/ithuriel/search/Ranking") (nSMALLEST_FIRST_LARGEST_FIRST : xSMALLEST_FIRST ≠ xLARGEST_FIRST) :
    Ctr l Z x code maxLocals ret ws room_1 #[(.int wh), (.int a), (.int b)] h0 (LawQ n0) := by
  refine Ctr.intro (plainFor_of_name pn_com_example_ithuriel_ithuriel_search_RankingReachesPinLaw) (Ls := #[.val (.int wh), .val (.int a), .val (.int b), .unset, .unset, .unset, .unset, .unset, .unset, .unset, .unset, .unset, .unset, .unset]) (fun m => by first | (simp [entryFrame, mkF, argsToLocals, Value.category, maxLocals]; done) | rfl) ?_
  intro p e s m below meth c T0 hx hby hml hown hnm hret hlk hZ e0 X0
  have N0 := Fr.nil n0
  have hown : s.vm.findClass "com/example/ithuriel/ithuriel/search/RankingReachesPinLaw" = some m.cls := hown
  have hret : meth.sig.returnType = (some .boolean) := hret
  have hml : c.maxLocals = 14 := hml
  show Done p e below s _ _ (T0.setTop (mkF m 0 #[.val (.int wh), .val (.int a), .val (.int b), .unset, .unset, .unset, .unset, .unset, .unset, .unset, .unset, .unset, .unset, .unset] []))
  refine Done.step (fun _ => XS.iloadN X0.here hx rfl (hb hby at_0) rfl) ?_
  show Done p e below s _ _ (T0.setTop (mkF m 1 #[.val (.int wh), .val (.int a), .val (.int b), .unset, .unset, .unset, .unset, .unset, .unset, .unset, .unset, .unset, .unset, .unset] [(.int wh)]))
  refine Done.step (fun _ => XT.iconstV X0.here hx rfl (1 : Int32) (hb hby at_1) (by decide)) ?_
  show Done p e below s _ _ (T0.setTop (mkF m 2 #[.val (.int wh), .val (.int a), .val (.int b), .unset, .unset, .unset, .unset, .unset, .unset, .unset, .unset, .unset, .unset, .unset] [(.int (1 : Int32)), (.int wh)]))
  refine Done.step (fun _ => XS.iand X0.here hx rfl (hb hby at_2) rfl) ?_
  show Done p e below s _ _ (T0.setTop (mkF m 3 #[.val (.int wh), .val (.int a), .val (.int b), .unset, .unset, .unset, .unset, .unset, .unset, .unset, .unset, .unset, .unset, .unset] [(.int (wh &&& (1 : Int32)))]))
  by_cases hc1 : (wh &&& (1 : Int32)) = (0 : Int32)
  · refine Done.step (fun _ => XS.ifNo X0.here hx rfl (hb hby at_3) rfl (XT.i0_ne_f hc1)) ?_
    show Done p e below s _ _ (T0.setTop (mkF m 6 #[.val (.int wh), .val (.int a), .val (.int b), .unset, .unset, .unset, .unset, .unset, .unset, .unset, .unset, .unset, .unset, .unset] []))
    refine Done.step (fun _ => XT.iconstV X0.here hx rfl (1 : Int32) (hb hby at_6) (by decide)) ?_
    show Done p e below s _ _ (T0.setTop (mkF m 7 #[.val (.int wh), .val (.int a), .val (.int b), .unset, .unset, .unset, .unset, .unset, .unset, .unset, .unset, .unset, .unset, .unset] [(.int (1 : Int32))]))
    refine Done.step (fun _ => XS.goto X0.here hx rfl (pc0 := 7) (pc' := 11) rfl (hb hby at_7) (by decide) (by decide)) ?_
    show Done p e below s _ _ (T0.setTop (mkF m 11 #[.val (.int wh), .val (.int a), .val (.int b), .unset, .unset, .unset, .unset, .unset, .unset, .unset, .unset, .unset, .unset, .unset] [(.int (1 : Int32))]))
    refine Done.step (fun _ => XS.istoreN X0.here hx rfl (hb hby at_11) rfl (l' := #[.val (.int wh), .val (.int a), .val (.int b), .val (.int (1 : Int32)), .unset, .unset, .unset, .unset, .unset, .unset, .unset, .unset, .unset, .unset]) rfl) ?_
    show Done p e below s _ _ (T0.setTop (mkF m 12 #[.val (.int wh), .val (.int a), .val (.int b), .val (.int (1 : Int32)), .unset, .unset, .unset, .unset, .unset, .unset, .unset, .unset, .unset, .unset] []))
    refine Done.step (fun _ => XS.iloadN X0.here hx rfl (hb hby at_12) rfl) ?_
    show Done p e below s _ _ (T0.setTop (mkF m 13 #[.val (.int wh), .val (.int a), .val (.int b), .val (.int (1 : Int32)), .unset, .unset, .unset, .unset, .unset, .unset, .unset, .unset, .unset, .unset] [(.int (1 : Int32))]))
    refine Done.step (fun _ => XS.ifNo X0.here hx rfl (hb hby at_13) rfl (XT.i0_eq_f (by decide))) ?_
    show Done p e below s _ _ (T0.setTop (mkF m 16 #[.val (.int wh), .val (.int a), .val (.int b), .val (.int (1 : Int32)), .unset, .unset, .unset, .unset, .unset, .unset, .unset, .unset, .unset, .unset] []))
    obtain ⟨T2, X2, e2, st2⟩ := getS2 X0 hx hZ hown (host := "") (Or.inl (wAt hw 0 rfl)) Via.refl e0 SSMALLEST_FIRST (g := (mkF m 16 #[.val (.int wh), .val (.int a), .val (.int b), .val (.int (1 : Int32)), .unset, .unset, .unset, .unset, .unset, .unset, .unset, .unset, .unset, .unset] [])) rfl (hb hby at_16)
    refine Done.step st2 ?_
    show Done p e below s _ _ (T2.setTop (mkF m 19 #[.val (.int wh), .val (.int a), .val (.int b), .val (.int (1 : Int32)), .unset, .unset, .unset, .unset, .unset, .unset, .unset, .unset, .unset, .unset] [(.ref xSMALLEST_FIRST)]))
    refine Done.step (fun _ => XS.goto X2.here hx rfl (pc0 := 19) (pc' := 25) rfl (hb hby at_19) (by decide) (by decide)) ?_
    show Done p e below s _ _ (T2.setTop (mkF m 25 #[.val (.int wh), .val (.int a), .val (.int b), .val (.int (1 : Int32)), .unset, .unset, .unset, .unset, .unset, .unset, .unset, .unset, .unset, .unset] [(.ref xSMALLEST_FIRST)]))
    refine Done.step (fun _ => XS.astore X2.here hx rfl (hb hby at_25) rfl rfl (l' := #[.val (.int wh), .val (.int a), .val (.int b), .val (.int (1 : Int32)), .val (.ref xSMALLEST_FIRST), .unset, .unset, .unset, .unset, .unset, .unset, .unset, .unset, .unset]) rfl) ?_
    show Done p e below s _ _ (T2.setTop (mkF m 27 #[.val (.int wh), .val (.int a), .val (.int b), .val (.int (1 : Int32)), .val (.ref xSMALLEST_FIRST), .unset, .unset, .unset, .unset, .unset, .unset, .unset, .unset, .unset] []))
    refine Done.step (fun _ => XS.iloadN X2.here hx rfl (hb hby at_27) rfl) ?_
    show Done p e below s _ _ (T2.setTop (mkF m 28 #[.val (.int wh), .val (.int a), .val (.int b), .val (.int (1 : Int32)), .val (.ref xSMALLEST_FIRST), .unset, .unset, .unset, .unset, .unset, .unset, .unset, .unset, .unset] [(.int (1 : Int32))]))
    refine Done.step (fun _ => XS.ifNo X2.here hx rfl (hb hby at_28) rfl (XT.i0_eq_f (by decide))) ?_
    show Done p e below s _ _ (T2.setTop (mkF m 31 #[.val (.int wh), .val (.int a), .val (.int b), .val (.int (1 : Int32)), .val (.ref xSMALLEST_FIRST), .unset, .unset, .unset, .unset, .unset, .unset, .unset, .unset, .unset] []))
    obtain ⟨T3, X3, e3, st3⟩ := getS2 X2 hx hZ hown (host := "") (Or.inl (wAt hw 3 rfl)) Via.refl e2 SLARGEST_FIRST (g := (mkF m 31 #[.val (.int wh), .val (.int a), .val (.int b), .val (.int (1 : Int32)), .val (.ref xSMALLEST_FIRST), .unset, .unset, .unset, .unset, .unset, .unset, .unset, .unset, .unset] [])) rfl (hb hby at_31)
    refine Done.step st3 ?_
    show Done p e below s _ _ (T3.setTop (mkF m 34 #[.val (.int wh), .val (.int a), .val (.int b), .val (.int (1 : Int32)), .val (.ref xSMALLEST_FIRST), .unset, .unset, .unset, .unset, .unset, .unset, .unset, .unset, .unset] [(.ref xLARGEST_FIRST)]))
    refine Done.step (fun _ => XS.goto X3.here hx rfl (pc0 := 34) (pc' := 40) rfl (hb hby at_34) (by decide) (by decide)) ?_
    show Done p e below s _ _ (T3.setTop (mkF m 40 #[.val (.int wh), .val (.int a), .val (.int b), .val (.int (1 : Int32)), .val (.ref xSMALLEST_FIRST), .unset, .unset, .unset, .unset, .unset, .unset, .unset, .unset, .unset] [(.ref xLARGEST_FIRST)]))
    refine Done.step (fun _ => XS.astore X3.here hx rfl (hb hby at_40) rfl rfl (l' := #[.val (.int wh), .val (.int a), .val (.int b), .val (.int (1 : Int32)), .val (.ref xSMALLEST_FIRST), .val (.ref xLARGEST_FIRST), .unset, .unset, .unset, .unset, .unset, .unset, .unset, .unset]) rfl) ?_
    show Done p e below s _ _ (T3.setTop (mkF m 42 #[.val (.int wh), .val (.int a), .val (.int b), .val (.int (1 : Int32)), .val (.ref xSMALLEST_FIRST), .val (.ref xLARGEST_FIRST), .unset, .unset, .unset, .unset, .unset, .unset, .unset, .unset] []))
    refine Done.step (fun _ => XS.iloadN X3.here hx rfl (hb hby at_42) rfl) ?_
    show Done p e below s _ _ (T3.setTop (mkF m 43 #[.val (.int wh), .val (.int a), .val (.int b), .val (.int (1 : Int32)), .val (.ref xSMALLEST_FIRST), .val (.ref xLARGEST_FIRST), .unset, .unset, .unset, .unset, .unset, .unset, .unset, .unset] [(.int a)]))
    refine Done.step (fun _ => XS.i2dS X3.here hx rfl (v := FP.l2d a.toInt64) (hb hby at_43) rfl (i2d_w _)) ?_
    show Done p e below s _ _ (T3.setTop (mkF m 44 #[.val (.int wh), .val (.int a), .val (.int b), .val (.int (1 : Int32)), .val (.ref xSMALLEST_FIRST), .val (.ref xLARGEST_FIRST), .unset, .unset, .unset, .unset, .unset, .unset, .unset, .unset] [(.double (FP.l2d a.toInt64))]))
    refine Done.step (fun _ => XS.dstore X3.here hx rfl (hb hby at_44) rfl (l' := #[.val (.int wh), .val (.int a), .val (.int b), .val (.int (1 : Int32)), .val (.ref xSMALLEST_FIRST), .val (.ref xLARGEST_FIRST), .val (.double (FP.l2d a.toInt64)), .second, .unset, .unset, .unset, .unset, .unset, .unset]) rfl) ?_
    show Done p e below s _ _ (T3.setTop (mkF m 46 #[.val (.int wh), .val (.int a), .val (.int b), .val (.int (1 : Int32)), .val (.ref xSMALLEST_FIRST), .val (.ref xLARGEST_FIRST), .val (.double (FP.l2d a.toInt64)), .second, .unset, .unset, .unset, .unset, .unset, .unset] []))
    refine Done.step (fun _ => XS.iloadN X3.here hx rfl (hb hby at_46) rfl) ?_
    show Done p e below s _ _ (T3.setTop (mkF m 47 #[.val (.int wh), .val (.int a), .val (.int b), .val (.int (1 : Int32)), .val (.ref xSMALLEST_FIRST), .val (.ref xLARGEST_FIRST), .val (.double (FP.l2d a.toInt64)), .second, .unset, .unset, .unset, .unset, .unset, .unset] [(.int b)]))
    refine Done.step (fun _ => XS.i2dS X3.here hx rfl (v := FP.l2d b.toInt64) (hb hby at_47) rfl (i2d_w _)) ?_
    show Done p e below s _ _ (T3.setTop (mkF m 48 #[.val (.int wh), .val (.int a), .val (.int b), .val (.int (1 : Int32)), .val (.ref xSMALLEST_FIRST), .val (.ref xLARGEST_FIRST), .val (.double (FP.l2d a.toInt64)), .second, .unset, .unset, .unset, .unset, .unset, .unset] [(.double (FP.l2d b.toInt64))]))
    refine Done.step (fun _ => XS.dstore X3.here hx rfl (hb hby at_48) rfl (l' := #[.val (.int wh), .val (.int a), .val (.int b), .val (.int (1 : Int32)), .val (.ref xSMALLEST_FIRST), .val (.ref xLARGEST_FIRST), .val (.double (FP.l2d a.toInt64)), .second, .val (.double (FP.l2d b.toInt64)), .second, .unset, .unset, .unset, .unset]) rfl) ?_
    show Done p e below s _ _ (T3.setTop (mkF m 50 #[.val (.int wh), .val (.int a), .val (.int b), .val (.int (1 : Int32)), .val (.ref xSMALLEST_FIRST), .val (.ref xLARGEST_FIRST), .val (.double (FP.l2d a.toInt64)), .second, .val (.double (FP.l2d b.toInt64)), .second, .unset, .unset, .unset, .unset] []))
    refine Done.step (fun _ => XS.aload X3.here hx rfl (hb hby at_50) rfl rfl) ?_
    show Done p e below s _ _ (T3.setTop (mkF m 52 #[.val (.int wh), .val (.int a), .val (.int b), .val (.int (1 : Int32)), .val (.ref xSMALLEST_FIRST), .val (.ref xLARGEST_FIRST), .val (.double (FP.l2d a.toInt64)), .second, .val (.double (FP.l2d b.toInt64)), .second, .unset, .unset, .unset, .unset] [(.ref xSMALLEST_FIRST)]))
    refine Done.step (fun _ => XS.dload X3.here hx rfl (hb hby at_52) rfl) ?_
    show Done p e below s _ _ (T3.setTop (mkF m 54 #[.val (.int wh), .val (.int a), .val (.int b), .val (.int (1 : Int32)), .val (.ref xSMALLEST_FIRST), .val (.ref xLARGEST_FIRST), .val (.double (FP.l2d a.toInt64)), .second, .val (.double (FP.l2d b.toInt64)), .second, .unset, .unset, .unset, .unset] [(.double (FP.l2d a.toInt64)), (.ref xSMALLEST_FIRST)]))
    refine Done.step (fun _ => XS.dload X3.here hx rfl (hb hby at_54) rfl) ?_
    show Done p e below s _ _ (T3.setTop (mkF m 56 #[.val (.int wh), .val (.int a), .val (.int b), .val (.int (1 : Int32)), .val (.ref xSMALLEST_FIRST), .val (.ref xLARGEST_FIRST), .val (.double (FP.l2d a.toInt64)), .second, .val (.double (FP.l2d b.toInt64)), .second, .unset, .unset, .unset, .unset] [(.double (FP.l2d b.toInt64)), (.double (FP.l2d a.toInt64)), (.ref xSMALLEST_FIRST)]))
    by_cases hc4 : ¬ b < a
    · refine Done.callVP X3 hx hZ (C := "com/example/ithuriel/ithuriel/search/Ranking") hown (wAt hw 5 rfl) (wAt hw 6 rfl) (notFace_of_selects (args := #[]) (mvT hZ (wAt hw 8 rfl))) (wAt hw 8 rfl) (wAt hw 7 rfl) (wAt hw 1 rfl) (wAt hw 9 rfl) (by decide) (rmS l Z a0 hw [] xSMALLEST_FIRST xSMALLEST_FIRST a b (1 : Int32) (FP.l2d a.toInt64) (FP.l2d b.toInt64) h0 n0 Z0 rfl rfl SSMALLEST_FIRST rfl (bP_t hc4).symm) e3 ESMALLEST_FIRST (g := (mkF m 56 #[.val (.int wh), .val (.int a), .val (.int b), .val (.int (1 : Int32)), .val (.ref xSMALLEST_FIRST), .val (.ref xLARGEST_FIRST), .val (.double (FP.l2d a.toInt64)), .second, .val (.double (FP.l2d b.toInt64)), .second, .unset, .unset, .unset, .unset] [(.double (FP.l2d b.toInt64)), (.double (FP.l2d a.toInt64)), (.ref xSMALLEST_FIRST)])) rfl (by rw [hml]; rfl) [(.double (FP.l2d a.toInt64)), (.double (FP.l2d b.toInt64))] [] 0 (lenOf pd_0 rfl) rfl rfl (by show 2 * 0 + _ ≤ _; exact Nat.le_of_eq rfl) (hb hby at_56) (by decide) (by decide) (by decide) (by decide) rfl rfl ?_
      intro T5 X5 e5
      show Done p e below s _ _ (T5.setTop (mkF m 59 #[.val (.int wh), .val (.int a), .val (.int b), .val (.int (1 : Int32)), .val (.ref xSMALLEST_FIRST), .val (.ref xLARGEST_FIRST), .val (.double (FP.l2d a.toInt64)), .second, .val (.double (FP.l2d b.toInt64)), .second, .unset, .unset, .unset, .unset] [(.int (1 : Int32))]))
      refine Done.step (fun _ => XS.istore X5.here hx rfl (hb hby at_59) rfl (l' := #[.val (.int wh), .val (.int a), .val (.int b), .val (.int (1 : Int32)), .val (.ref xSMALLEST_FIRST), .val (.ref xLARGEST_FIRST), .val (.double (FP.l2d a.toInt64)), .second, .val (.double (FP.l2d b.toInt64)), .second, .val (.int (1 : Int32)), .unset, .unset, .unset]) rfl) ?_
      show Done p e below s _ _ (T5.setTop (mkF m 61 #[.val (.int wh), .val (.int a), .val (.int b), .val (.int (1 : Int32)), .val (.ref xSMALLEST_FIRST), .val (.ref xLARGEST_FIRST), .val (.double (FP.l2d a.toInt64)), .second, .val (.double (FP.l2d b.toInt64)), .second, .val (.int (1 : Int32)), .unset, .unset, .unset] []))
      refine Done.step (fun _ => XS.iloadN X5.here hx rfl (hb hby at_61) rfl) ?_
      show Done p e below s _ _ (T5.setTop (mkF m 62 #[.val (.int wh), .val (.int a), .val (.int b), .val (.int (1 : Int32)), .val (.ref xSMALLEST_FIRST), .val (.ref xLARGEST_FIRST), .val (.double (FP.l2d a.toInt64)), .second, .val (.double (FP.l2d b.toInt64)), .second, .val (.int (1 : Int32)), .unset, .unset, .unset] [(.int (1 : Int32))]))
      refine Done.step (fun _ => XS.ifNo X5.here hx rfl (hb hby at_62) rfl (XT.i0_eq_f (by decide))) ?_
      show Done p e below s _ _ (T5.setTop (mkF m 65 #[.val (.int wh), .val (.int a), .val (.int b), .val (.int (1 : Int32)), .val (.ref xSMALLEST_FIRST), .val (.ref xLARGEST_FIRST), .val (.double (FP.l2d a.toInt64)), .second, .val (.double (FP.l2d b.toInt64)), .second, .val (.int (1 : Int32)), .unset, .unset, .unset] []))
      refine Done.step (fun _ => XS.iloadN X5.here hx rfl (hb hby at_65) rfl) ?_
      show Done p e below s _ _ (T5.setTop (mkF m 66 #[.val (.int wh), .val (.int a), .val (.int b), .val (.int (1 : Int32)), .val (.ref xSMALLEST_FIRST), .val (.ref xLARGEST_FIRST), .val (.double (FP.l2d a.toInt64)), .second, .val (.double (FP.l2d b.toInt64)), .second, .val (.int (1 : Int32)), .unset, .unset, .unset] [(.int a)]))
      refine Done.step (fun _ => XS.iloadN X5.here hx rfl (hb hby at_66) rfl) ?_
      show Done p e below s _ _ (T5.setTop (mkF m 67 #[.val (.int wh), .val (.int a), .val (.int b), .val (.int (1 : Int32)), .val (.ref xSMALLEST_FIRST), .val (.ref xLARGEST_FIRST), .val (.double (FP.l2d a.toInt64)), .second, .val (.double (FP.l2d b.toInt64)), .second, .val (.int (1 : Int32)), .unset, .unset, .unset] [(.int b), (.int a)]))
      refine Done.step (fun _ => XS.icmpNo X5.here hx rfl (hb hby at_67) rfl (XT.ii_gt_f hc4)) ?_
      show Done p e below s _ _ (T5.setTop (mkF m 70 #[.val (.int wh), .val (.int a), .val (.int b), .val (.int (1 : Int32)), .val (.ref xSMALLEST_FIRST), .val (.ref xLARGEST_FIRST), .val (.double (FP.l2d a.toInt64)), .second, .val (.double (FP.l2d b.toInt64)), .second, .val (.int (1 : Int32)), .unset, .unset, .unset] []))
      refine Done.step (fun _ => XT.iconstV X5.here hx rfl (1 : Int32) (hb hby at_70) (by decide)) ?_
      show Done p e below s _ _ (T5.setTop (mkF m 71 #[.val (.int wh), .val (.int a), .val (.int b), .val (.int (1 : Int32)), .val (.ref xSMALLEST_FIRST), .val (.ref xLARGEST_FIRST), .val (.double (FP.l2d a.toInt64)), .second, .val (.double (FP.l2d b.toInt64)), .second, .val (.int (1 : Int32)), .unset, .unset, .unset] [(.int (1 : Int32))]))
      refine Done.step (fun _ => XS.goto X5.here hx rfl (pc0 := 71) (pc' := 88) rfl (hb hby at_71) (by decide) (by decide)) ?_
      show Done p e below s _ _ (T5.setTop (mkF m 88 #[.val (.int wh), .val (.int a), .val (.int b), .val (.int (1 : Int32)), .val (.ref xSMALLEST_FIRST), .val (.ref xLARGEST_FIRST), .val (.double (FP.l2d a.toInt64)), .second, .val (.double (FP.l2d b.toInt64)), .second, .val (.int (1 : Int32)), .unset, .unset, .unset] [(.int (1 : Int32))]))
      refine Done.step (fun _ => XS.istore X5.here hx rfl (hb hby at_88) rfl (l' := #[.val (.int wh), .val (.int a), .val (.int b), .val (.int (1 : Int32)), .val (.ref xSMALLEST_FIRST), .val (.ref xLARGEST_FIRST), .val (.double (FP.l2d a.toInt64)), .second, .val (.double (FP.l2d b.toInt64)), .second, .val (.int (1 : Int32)), .val (.int (1 : Int32)), .unset, .unset]) rfl) ?_
      show Done p e below s _ _ (T5.setTop (mkF m 90 #[.val (.int wh), .val (.int a), .val (.int b), .val (.int (1 : Int32)), .val (.ref xSMALLEST_FIRST), .val (.ref xLARGEST_FIRST), .val (.double (FP.l2d a.toInt64)), .second, .val (.double (FP.l2d b.toInt64)), .second, .val (.int (1 : Int32)), .val (.int (1 : Int32)), .unset, .unset] []))
      refine Done.step (fun _ => XS.aload X5.here hx rfl (hb hby at_90) rfl rfl) ?_
      show Done p e below s _ _ (T5.setTop (mkF m 92 #[.val (.int wh), .val (.int a), .val (.int b), .val (.int (1 : Int32)), .val (.ref xSMALLEST_FIRST), .val (.ref xLARGEST_FIRST), .val (.double (FP.l2d a.toInt64)), .second, .val (.double (FP.l2d b.toInt64)), .second, .val (.int (1 : Int32)), .val (.int (1 : Int32)), .unset, .unset] [(.ref xSMALLEST_FIRST)]))
      refine Done.step (fun _ => XS.dload X5.here hx rfl (hb hby at_92) rfl) ?_
      show Done p e below s _ _ (T5.setTop (mkF m 94 #[.val (.int wh), .val (.int a), .val (.int b), .val (.int (1 : Int32)), .val (.ref xSMALLEST_FIRST), .val (.ref xLARGEST_FIRST), .val (.double (FP.l2d a.toInt64)), .second, .val (.double (FP.l2d b.toInt64)), .second, .val (.int (1 : Int32)), .val (.int (1 : Int32)), .unset, .unset] [(.double (FP.l2d a.toInt64)), (.ref xSMALLEST_FIRST)]))
      refine Done.step (fun _ => XS.dload X5.here hx rfl (hb hby at_94) rfl) ?_
      show Done p e below s _ _ (T5.setTop (mkF m 96 #[.val (.int wh), .val (.int a), .val (.int b), .val (.int (1 : Int32)), .val (.ref xSMALLEST_FIRST), .val (.ref xLARGEST_FIRST), .val (.double (FP.l2d a.toInt64)), .second, .val (.double (FP.l2d b.toInt64)), .second, .val (.int (1 : Int32)), .val (.int (1 : Int32)), .unset, .unset] [(.double (FP.l2d a.toInt64)), (.double (FP.l2d a.toInt64)), (.ref xSMALLEST_FIRST)]))
      refine Done.callVP X5 hx hZ (C := "com/example/ithuriel/ithuriel/search/Ranking") hown (wAt hw 5 rfl) (wAt hw 6 rfl) (notFace_of_selects (args := #[]) (mvT hZ (wAt hw 8 rfl))) (wAt hw 8 rfl) (wAt hw 7 rfl) (wAt hw 1 rfl) (wAt hw 9 rfl) (by decide) (rmS l Z a0 hw [] xSMALLEST_FIRST xSMALLEST_FIRST a a (1 : Int32) (FP.l2d a.toInt64) (FP.l2d a.toInt64) h0 n0 Z0 rfl rfl SSMALLEST_FIRST rfl (bP_t Int32.lt_irrefl).symm) e5 ESMALLEST_FIRST (g := (mkF m 96 #[.val (.int wh), .val (.int a), .val (.int b), .val (.int (1 : Int32)), .val (.ref xSMALLEST_FIRST), .val (.ref xLARGEST_FIRST), .val (.double (FP.l2d a.toInt64)), .second, .val (.double (FP.l2d b.toInt64)), .second, .val (.int (1 : Int32)), .val (.int (1 : Int32)), .unset, .unset] [(.double (FP.l2d a.toInt64)), (.double (FP.l2d a.toInt64)), (.ref xSMALLEST_FIRST)])) rfl (by rw [hml]; rfl) [(.double (FP.l2d a.toInt64)), (.double (FP.l2d a.toInt64))] [] 0 (lenOf pd_0 rfl) rfl rfl (by show 2 * 0 + _ ≤ _; exact Nat.le_of_eq rfl) (hb hby at_96) (by decide) (by decide) (by decide) (by decide) rfl rfl ?_
      intro T6 X6 e6
      show Done p e below s _ _ (T6.setTop (mkF m 99 #[.val (.int wh), .val (.int a), .val (.int b), .val (.int (1 : Int32)), .val (.ref xSMALLEST_FIRST), .val (.ref xLARGEST_FIRST), .val (.double (FP.l2d a.toInt64)), .second, .val (.double (FP.l2d b.toInt64)), .second, .val (.int (1 : Int32)), .val (.int (1 : Int32)), .unset, .unset] [(.int (1 : Int32))]))
      refine Done.step (fun _ => XS.istore X6.here hx rfl (hb hby at_99) rfl (l' := #[.val (.int wh), .val (.int a), .val (.int b), .val (.int (1 : Int32)), .val (.ref xSMALLEST_FIRST), .val (.ref xLARGEST_FIRST), .val (.double (FP.l2d a.toInt64)), .second, .val (.double (FP.l2d b.toInt64)), .second, .val (.int (1 : Int32)), .val (.int (1 : Int32)), .val (.int (1 : Int32)), .unset]) rfl) ?_
      show Done p e below s _ _ (T6.setTop (mkF m 101 #[.val (.int wh), .val (.int a), .val (.int b), .val (.int (1 : Int32)), .val (.ref xSMALLEST_FIRST), .val (.ref xLARGEST_FIRST), .val (.double (FP.l2d a.toInt64)), .second, .val (.double (FP.l2d b.toInt64)), .second, .val (.int (1 : Int32)), .val (.int (1 : Int32)), .val (.int (1 : Int32)), .unset] []))
      refine Done.step (fun _ => XS.aload X6.here hx rfl (hb hby at_101) rfl rfl) ?_
      show Done p e below s _ _ (T6.setTop (mkF m 103 #[.val (.int wh), .val (.int a), .val (.int b), .val (.int (1 : Int32)), .val (.ref xSMALLEST_FIRST), .val (.ref xLARGEST_FIRST), .val (.double (FP.l2d a.toInt64)), .second, .val (.double (FP.l2d b.toInt64)), .second, .val (.int (1 : Int32)), .val (.int (1 : Int32)), .val (.int (1 : Int32)), .unset] [(.ref xLARGEST_FIRST)]))
      refine Done.step (fun _ => XS.dload X6.here hx rfl (hb hby at_103) rfl) ?_
      show Done p e below s _ _ (T6.setTop (mkF m 105 #[.val (.int wh), .val (.int a), .val (.int b), .val (.int (1 : Int32)), .val (.ref xSMALLEST_FIRST), .val (.ref xLARGEST_FIRST), .val (.double (FP.l2d a.toInt64)), .second, .val (.double (FP.l2d b.toInt64)), .second, .val (.int (1 : Int32)), .val (.int (1 : Int32)), .val (.int (1 : Int32)), .unset] [(.double (FP.l2d b.toInt64)), (.ref xLARGEST_FIRST)]))
      refine Done.step (fun _ => XS.dload X6.here hx rfl (hb hby at_105) rfl) ?_
      show Done p e below s _ _ (T6.setTop (mkF m 107 #[.val (.int wh), .val (.int a), .val (.int b), .val (.int (1 : Int32)), .val (.ref xSMALLEST_FIRST), .val (.ref xLARGEST_FIRST), .val (.double (FP.l2d a.toInt64)), .second, .val (.double (FP.l2d b.toInt64)), .second, .val (.int (1 : Int32)), .val (.int (1 : Int32)), .val (.int (1 : Int32)), .unset] [(.double (FP.l2d a.toInt64)), (.double (FP.l2d b.toInt64)), (.ref xLARGEST_FIRST)]))
      refine Done.callVP X6 hx hZ (C := "com/example/ithuriel/ithuriel/search/Ranking") hown (wAt hw 5 rfl) (wAt hw 6 rfl) (notFace_of_selects (args := #[]) (mvT hZ (wAt hw 8 rfl))) (wAt hw 8 rfl) (wAt hw 7 rfl) (wAt hw 1 rfl) (wAt hw 9 rfl) (by decide) (rmL l Z a0 hw [] xLARGEST_FIRST xSMALLEST_FIRST b a (1 : Int32) (FP.l2d b.toInt64) (FP.l2d a.toInt64) h0 n0 Z0 rfl rfl SSMALLEST_FIRST (Ne.symm nSMALLEST_FIRST_LARGEST_FIRST) (bP_t hc4).symm) e6 ELARGEST_FIRST (g := (mkF m 107 #[.val (.int wh), .val (.int a), .val (.int b), .val (.int (1 : Int32)), .val (.ref xSMALLEST_FIRST), .val (.ref xLARGEST_FIRST), .val (.double (FP.l2d a.toInt64)), .second, .val (.double (FP.l2d b.toInt64)), .second, .val (.int (1 : Int32)), .val (.int (1 : Int32)), .val (.int (1 : Int32)), .unset] [(.double (FP.l2d a.toInt64)), (.double (FP.l2d b.toInt64)), (.ref xLARGEST_FIRST)])) rfl (by rw [hml]; rfl) [(.double (FP.l2d b.toInt64)), (.double (FP.l2d a.toInt64))] [] 0 (lenOf pd_0 rfl) rfl rfl (by show 2 * 0 + _ ≤ _; exact Nat.le_of_eq rfl) (hb hby at_107) (by decide) (by decide) (by decide) (by decide) rfl rfl ?_
      intro T7 X7 e7
      show Done p e below s _ _ (T7.setTop (mkF m 110 #[.val (.int wh), .val (.int a), .val (.int b), .val (.int (1 : Int32)), .val (.ref xSMALLEST_FIRST), .val (.ref xLARGEST_FIRST), .val (.double (FP.l2d a.toInt64)), .second, .val (.double (FP.l2d b.toInt64)), .second, .val (.int (1 : Int32)), .val (.int (1 : Int32)), .val (.int (1 : Int32)), .unset] [(.int (1 : Int32))]))
      refine Done.step (fun _ => XS.istore X7.here hx rfl (hb hby at_110) rfl (l' := #[.val (.int wh), .val (.int a), .val (.int b), .val (.int (1 : Int32)), .val (.ref xSMALLEST_FIRST), .val (.ref xLARGEST_FIRST), .val (.double (FP.l2d a.toInt64)), .second, .val (.double (FP.l2d b.toInt64)), .second, .val (.int (1 : Int32)), .val (.int (1 : Int32)), .val (.int (1 : Int32)), .val (.int (1 : Int32))]) rfl) ?_
      show Done p e below s _ _ (T7.setTop (mkF m 112 #[.val (.int wh), .val (.int a), .val (.int b), .val (.int (1 : Int32)), .val (.ref xSMALLEST_FIRST), .val (.ref xLARGEST_FIRST), .val (.double (FP.l2d a.toInt64)), .second, .val (.double (FP.l2d b.toInt64)), .second, .val (.int (1 : Int32)), .val (.int (1 : Int32)), .val (.int (1 : Int32)), .val (.int (1 : Int32))] []))
      refine Done.step (fun _ => XS.iload X7.here hx rfl (hb hby at_112) rfl) ?_
      show Done p e below s _ _ (T7.setTop (mkF m 114 #[.val (.int wh), .val (.int a), .val (.int b), .val (.int (1 : Int32)), .val (.ref xSMALLEST_FIRST), .val (.ref xLARGEST_FIRST), .val (.double (FP.l2d a.toInt64)), .second, .val (.double (FP.l2d b.toInt64)), .second, .val (.int (1 : Int32)), .val (.int (1 : Int32)), .val (.int (1 : Int32)), .val (.int (1 : Int32))] [(.int (1 : Int32))]))
      refine Done.step (fun _ => XS.iload X7.here hx rfl (hb hby at_114) rfl) ?_
      show Done p e below s _ _ (T7.setTop (mkF m 116 #[.val (.int wh), .val (.int a), .val (.int b), .val (.int (1 : Int32)), .val (.ref xSMALLEST_FIRST), .val (.ref xLARGEST_FIRST), .val (.double (FP.l2d a.toInt64)), .second, .val (.double (FP.l2d b.toInt64)), .second, .val (.int (1 : Int32)), .val (.int (1 : Int32)), .val (.int (1 : Int32)), .val (.int (1 : Int32))] [(.int (1 : Int32)), (.int (1 : Int32))]))
      refine Done.step (fun _ => XS.icmpNo X7.here hx rfl (hb hby at_116) rfl (XT.ii_ne_f rfl)) ?_
      show Done p e below s _ _ (T7.setTop (mkF m 119 #[.val (.int wh), .val (.int a), .val (.int b), .val (.int (1 : Int32)), .val (.ref xSMALLEST_FIRST), .val (.ref xLARGEST_FIRST), .val (.double (FP.l2d a.toInt64)), .second, .val (.double (FP.l2d b.toInt64)), .second, .val (.int (1 : Int32)), .val (.int (1 : Int32)), .val (.int (1 : Int32)), .val (.int (1 : Int32))] []))
      refine Done.step (fun _ => XS.iload X7.here hx rfl (hb hby at_119) rfl) ?_
      show Done p e below s _ _ (T7.setTop (mkF m 121 #[.val (.int wh), .val (.int a), .val (.int b), .val (.int (1 : Int32)), .val (.ref xSMALLEST_FIRST), .val (.ref xLARGEST_FIRST), .val (.double (FP.l2d a.toInt64)), .second, .val (.double (FP.l2d b.toInt64)), .second, .val (.int (1 : Int32)), .val (.int (1 : Int32)), .val (.int (1 : Int32)), .val (.int (1 : Int32))] [(.int (1 : Int32))]))
      refine Done.step (fun _ => XS.ifNo X7.here hx rfl (hb hby at_121) rfl (XT.i0_eq_f (by decide))) ?_
      show Done p e below s _ _ (T7.setTop (mkF m 124 #[.val (.int wh), .val (.int a), .val (.int b), .val (.int (1 : Int32)), .val (.ref xSMALLEST_FIRST), .val (.ref xLARGEST_FIRST), .val (.double (FP.l2d a.toInt64)), .second, .val (.double (FP.l2d b.toInt64)), .second, .val (.int (1 : Int32)), .val (.int (1 : Int32)), .val (.int (1 : Int32)), .val (.int (1 : Int32))] []))
      refine Done.step (fun _ => XS.iload X7.here hx rfl (hb hby at_124) rfl) ?_
      show Done p e below s _ _ (T7.setTop (mkF m 126 #[.val (.int wh), .val (.int a), .val (.int b), .val (.int (1 : Int32)), .val (.ref xSMALLEST_FIRST), .val (.ref xLARGEST_FIRST), .val (.double (FP.l2d a.toInt64)), .second, .val (.double (FP.l2d b.toInt64)), .second, .val (.int (1 : Int32)), .val (.int (1 : Int32)), .val (.int (1 : Int32)), .val (.int (1 : Int32))] [(.int (1 : Int32))]))
      refine Done.step (fun _ => XS.iload X7.here hx rfl (hb hby at_126) rfl) ?_
      show Done p e below s _ _ (T7.setTop (mkF m 128 #[.val (.int wh), .val (.int a), .val (.int b), .val (.int (1 : Int32)), .val (.ref xSMALLEST_FIRST), .val (.ref xLARGEST_FIRST), .val (.double (FP.l2d a.toInt64)), .second, .val (.double (FP.l2d b.toInt64)), .second, .val (.int (1 : Int32)), .val (.int (1 : Int32)), .val (.int (1 : Int32)), .val (.int (1 : Int32))] [(.int (1 : Int32)), (.int (1 : Int32))]))
      refine Done.step (fun _ => XS.icmpNo X7.here hx rfl (hb hby at_128) rfl (XT.ii_ne_f rfl)) ?_
      show Done p e below s _ _ (T7.setTop (mkF m 131 #[.val (.int wh), .val (.int a), .val (.int b), .val (.int (1 : Int32)), .val (.ref xSMALLEST_FIRST), .val (.ref xLARGEST_FIRST), .val (.double (FP.l2d a.toInt64)), .second, .val (.double (FP.l2d b.toInt64)), .second, .val (.int (1 : Int32)), .val (.int (1 : Int32)), .val (.int (1 : Int32)), .val (.int (1 : Int32))] []))
      refine Done.step (fun _ => XT.iconstV X7.here hx rfl (1 : Int32) (hb hby at_131) (by decide)) ?_
      show Done p e below s _ _ (T7.setTop (mkF m 132 #[.val (.int wh), .val (.int a), .val (.int b), .val (.int (1 : Int32)), .val (.ref xSMALLEST_FIRST), .val (.ref xLARGEST_FIRST), .val (.double (FP.l2d a.toInt64)), .second, .val (.double (FP.l2d b.toInt64)), .second, .val (.int (1 : Int32)), .val (.int (1 : Int32)), .val (.int (1 : Int32)), .val (.int (1 : Int32))] [(.int (1 : Int32))]))
      refine Done.step (fun _ => XS.goto X7.here hx rfl (pc0 := 132) (pc' := 136) rfl (hb hby at_132) (by decide) (by decide)) ?_
      show Done p e below s _ _ (T7.setTop (mkF m 136 #[.val (.int wh), .val (.int a), .val (.int b), .val (.int (1 : Int32)), .val (.ref xSMALLEST_FIRST), .val (.ref xLARGEST_FIRST), .val (.double (FP.l2d a.toInt64)), .second, .val (.double (FP.l2d b.toInt64)), .second, .val (.int (1 : Int32)), .val (.int (1 : Int32)), .val (.int (1 : Int32)), .val (.int (1 : Int32))] [(.int (1 : Int32))]))
      exact Done.retN X7 hx hlk (t := .boolean) hret (by simp) (hb hby at_136) (by decide) (by decide) ⟨rfl, N0⟩
    · refine Done.callVP X3 hx hZ (C := "com/example/ithuriel/ithuriel/search/Ranking") hown (wAt hw 5 rfl) (wAt hw 6 rfl) (notFace_of_selects (args := #[]) (mvT hZ (wAt hw 8 rfl))) (wAt hw 8 rfl) (wAt hw 7 rfl) (wAt hw 1 rfl) (wAt hw 9 rfl) (by decide) (rmS l Z a0 hw [] xSMALLEST_FIRST xSMALLEST_FIRST a b (0 : Int32) (FP.l2d a.toInt64) (FP.l2d b.toInt64) h0 n0 Z0 rfl rfl SSMALLEST_FIRST rfl (bP_f hc4).symm) e3 ESMALLEST_FIRST (g := (mkF m 56 #[.val (.int wh), .val (.int a), .val (.int b), .val (.int (1 : Int32)), .val (.ref xSMALLEST_FIRST), .val (.ref xLARGEST_FIRST), .val (.double (FP.l2d a.toInt64)), .second, .val (.double (FP.l2d b.toInt64)), .second, .unset, .unset, .unset, .unset] [(.double (FP.l2d b.toInt64)), (.double (FP.l2d a.toInt64)), (.ref xSMALLEST_FIRST)])) rfl (by rw [hml]; rfl) [(.double (FP.l2d a.toInt64)), (.double (FP.l2d b.toInt64))] [] 0 (lenOf pd_0 rfl) rfl rfl (by show 2 * 0 + _ ≤ _; exact Nat.le_of_eq rfl) (hb hby at_56) (by decide) (by decide) (by decide) (by decide) rfl rfl ?_
      intro T8 X8 e8
      show Done p e below s _ _ (T8.setTop (mkF m 59 #[.val (.int wh), .val (.int a), .val (.int b), .val (.int (1 : Int32)), .val (.ref xSMALLEST_FIRST), .val (.ref xLARGEST_FIRST), .val (.double (FP.l2d a.toInt64)), .second, .val (.double (FP.l2d b.toInt64)), .second, .unset, .unset, .unset, .unset] [(.int (0 : Int32))]))
      refine Done.step (fun _ => XS.istore X8.here hx rfl (hb hby at_59) rfl (l' := #[.val (.int wh), .val (.int a), .val (.int b), .val (.int (1 : Int32)), .val (.ref xSMALLEST_FIRST), .val (.ref xLARGEST_FIRST), .val (.double (FP.l2d a.toInt64)), .second, .val (.double (FP.l2d b.toInt64)), .second, .val (.int (0 : Int32)), .unset, .unset, .unset]) rfl) ?_
      show Done p e below s _ _ (T8.setTop (mkF m 61 #[.val (.int wh), .val (.int a), .val (.int b), .val (.int (1 : Int32)), .val (.ref xSMALLEST_FIRST), .val (.ref xLARGEST_FIRST), .val (.double (FP.l2d a.toInt64)), .second, .val (.double (FP.l2d b.toInt64)), .second, .val (.int (0 : Int32)), .unset, .unset, .unset] []))
      refine Done.step (fun _ => XS.iloadN X8.here hx rfl (hb hby at_61) rfl) ?_
      show Done p e below s _ _ (T8.setTop (mkF m 62 #[.val (.int wh), .val (.int a), .val (.int b), .val (.int (1 : Int32)), .val (.ref xSMALLEST_FIRST), .val (.ref xLARGEST_FIRST), .val (.double (FP.l2d a.toInt64)), .second, .val (.double (FP.l2d b.toInt64)), .second, .val (.int (0 : Int32)), .unset, .unset, .unset] [(.int (1 : Int32))]))
      refine Done.step (fun _ => XS.ifNo X8.here hx rfl (hb hby at_62) rfl (XT.i0_eq_f (by decide))) ?_
      show Done p e below s _ _ (T8.setTop (mkF m 65 #[.val (.int wh), .val (.int a), .val (.int b), .val (.int (1 : Int32)), .val (.ref xSMALLEST_FIRST), .val (.ref xLARGEST_FIRST), .val (.double (FP.l2d a.toInt64)), .second, .val (.double (FP.l2d b.toInt64)), .second, .val (.int (0 : Int32)), .unset, .unset, .unset] []))
      refine Done.step (fun _ => XS.iloadN X8.here hx rfl (hb hby at_65) rfl) ?_
      show Done p e below s _ _ (T8.setTop (mkF m 66 #[.val (.int wh), .val (.int a), .val (.int b), .val (.int (1 : Int32)), .val (.ref xSMALLEST_FIRST), .val (.ref xLARGEST_FIRST), .val (.double (FP.l2d a.toInt64)), .second, .val (.double (FP.l2d b.toInt64)), .second, .val (.int (0 : Int32)), .unset, .unset, .unset] [(.int a)]))
      refine Done.step (fun _ => XS.iloadN X8.here hx rfl (hb hby at_66) rfl) ?_
      show Done p e below s _ _ (T8.setTop (mkF m 67 #[.val (.int wh), .val (.int a), .val (.int b), .val (.int (1 : Int32)), .val (.ref xSMALLEST_FIRST), .val (.ref xLARGEST_FIRST), .val (.double (FP.l2d a.toInt64)), .second, .val (.double (FP.l2d b.toInt64)), .second, .val (.int (0 : Int32)), .unset, .unset, .unset] [(.int b), (.int a)]))
      refine Done.step (fun _ => XS.icmpYes X8.here hx rfl (pc0 := 67) (pc' := 74) rfl (hb hby at_67) rfl (XT.ii_gt_t (Decidable.not_not.mp hc4)) (by decide) (by decide)) ?_
      show Done p e below s _ _ (T8.setTop (mkF m 74 #[.val (.int wh), .val (.int a), .val (.int b), .val (.int (1 : Int32)), .val (.ref xSMALLEST_FIRST), .val (.ref xLARGEST_FIRST), .val (.double (FP.l2d a.toInt64)), .second, .val (.double (FP.l2d b.toInt64)), .second, .val (.int (0 : Int32)), .unset, .unset, .unset] []))
      refine Done.step (fun _ => XT.iconstV X8.here hx rfl (0 : Int32) (hb hby at_74) (by decide)) ?_
      show Done p e below s _ _ (T8.setTop (mkF m 75 #[.val (.int wh), .val (.int a), .val (.int b), .val (.int (1 : Int32)), .val (.ref xSMALLEST_FIRST), .val (.ref xLARGEST_FIRST), .val (.double (FP.l2d a.toInt64)), .second, .val (.double (FP.l2d b.toInt64)), .second, .val (.int (0 : Int32)), .unset, .unset, .unset] [(.int (0 : Int32))]))
      refine Done.step (fun _ => XS.goto X8.here hx rfl (pc0 := 75) (pc' := 88) rfl (hb hby at_75) (by decide) (by decide)) ?_
      show Done p e below s _ _ (T8.setTop (mkF m 88 #[.val (.int wh), .val (.int a), .val (.int b), .val (.int (1 : Int32)), .val (.ref xSMALLEST_FIRST), .val (.ref xLARGEST_FIRST), .val (.double (FP.l2d a.toInt64)), .second, .val (.double (FP.l2d b.toInt64)), .second, .val (.int (0 : Int32)), .unset, .unset, .unset] [(.int (0 : Int32))]))
      refine Done.step (fun _ => XS.istore X8.here hx rfl (hb hby at_88) rfl (l' := #[.val (.int wh), .val (.int a), .val (.int b), .val (.int (1 : Int32)), .val (.ref xSMALLEST_FIRST), .val (.ref xLARGEST_FIRST), .val (.double (FP.l2d a.toInt64)), .second, .val (.double (FP.l2d b.toInt64)), .second, .val (.int (0 : Int32)), .val (.int (0 : Int32)), .unset, .unset]) rfl) ?_
      show Done p e below s _ _ (T8.setTop (mkF m 90 #[.val (.int wh), .val (.int a), .val (.int b), .val (.int (1 : Int32)), .val (.ref xSMALLEST_FIRST), .val (.ref xLARGEST_FIRST), .val (.double (FP.l2d a.toInt64)), .second, .val (.double (FP.l2d b.toInt64)), .second, .val (.int (0 : Int32)), .val (.int (0 : Int32)), .unset, .unset] []))
      refine Done.step (fun _ => XS.aload X8.here hx rfl (hb hby at_90) rfl rfl) ?_
      show Done p e below s _ _ (T8.setTop (mkF m 92 #[.val (.int wh), .val (.int a), .val (.int b), .val (.int (1 : Int32)), .val (.ref xSMALLEST_FIRST), .val (.ref xLARGEST_FIRST), .val (.double (FP.l2d a.toInt64)), .second, .val (.double (FP.l2d b.toInt64)), .second, .val (.int (0 : Int32)), .val (.int (0 : Int32)), .unset, .unset] [(.ref xSMALLEST_FIRST)]))
      refine Done.step (fun _ => XS.dload X8.here hx rfl (hb hby at_92) rfl) ?_
      show Done p e below s _ _ (T8.setTop (mkF m 94 #[.val (.int wh), .val (.int a), .val (.int b), .val (.int (1 : Int32)), .val (.ref xSMALLEST_FIRST), .val (.ref xLARGEST_FIRST), .val (.double (FP.l2d a.toInt64)), .second, .val (.double (FP.l2d b.toInt64)), .second, .val (.int (0 : Int32)), .val (.int (0 : Int32)), .unset, .unset] [(.double (FP.l2d a.toInt64)), (.ref xSMALLEST_FIRST)]))
      refine Done.step (fun _ => XS.dload X8.here hx rfl (hb hby at_94) rfl) ?_
      show Done p e below s _ _ (T8.setTop (mkF m 96 #[.val (.int wh), .val (.int a), .val (.int b), .val (.int (1 : Int32)), .val (.ref xSMALLEST_FIRST), .val (.ref xLARGEST_FIRST), .val (.double (FP.l2d a.toInt64)), .second, .val (.double (FP.l2d b.toInt64)), .second, .val (.int (0 : Int32)), .val (.int (0 : Int32)), .unset, .unset] [(.double (FP.l2d a.toInt64)), (.double (FP.l2d a.toInt64)), (.ref xSMALLEST_FIRST)]))
      refine Done.callVP X8 hx hZ (C := "com/example/ithuriel/ithuriel/search/Ranking") hown (wAt hw 5 rfl) (wAt hw 6 rfl) (notFace_of_selects (args := #[]) (mvT hZ (wAt hw 8 rfl))) (wAt hw 8 rfl) (wAt hw 7 rfl) (wAt hw 1 rfl) (wAt hw 9 rfl) (by decide) (rmS l Z a0 hw [] xSMALLEST_FIRST xSMALLEST_FIRST a a (1 : Int32) (FP.l2d a.toInt64) (FP.l2d a.toInt64) h0 n0 Z0 rfl rfl SSMALLEST_FIRST rfl (bP_t Int32.lt_irrefl).symm) e8 ESMALLEST_FIRST (g := (mkF m 96 #[.val (.int wh), .val (.int a), .val (.int b), .val (.int (1 : Int32)), .val (.ref xSMALLEST_FIRST), .val (.ref xLARGEST_FIRST), .val (.double (FP.l2d a.toInt64)), .second, .val (.double (FP.l2d b.toInt64)), .second, .val (.int (0 : Int32)), .val (.int (0 : Int32)), .unset, .unset] [(.double (FP.l2d a.toInt64)), (.double (FP.l2d a.toInt64)), (.ref xSMALLEST_FIRST)])) rfl (by rw [hml]; rfl) [(.double (FP.l2d a.toInt64)), (.double (FP.l2d a.toInt64))] [] 0 (lenOf pd_0 rfl) rfl rfl (by show 2 * 0 + _ ≤ _; exact Nat.le_of_eq rfl) (hb hby at_96) (by decide) (by decide) (by decide) (by decide) rfl rfl ?_
      intro T9 X9 e9
      show Done p e below s _ _ (T9.setTop (mkF m 99 #[.val (.int wh), .val (.int a), .val (.int b), .val (.int (1 : Int32)), .val (.ref xSMALLEST_FIRST), .val (.ref xLARGEST_FIRST), .val (.double (FP.l2d a.toInt64)), .second, .val (.double (FP.l2d b.toInt64)), .second, .val (.int (0 : Int32)), .val (.int (0 : Int32)), .unset, .unset] [(.int (1 : Int32))]))
      refine Done.step (fun _ => XS.istore X9.here hx rfl (hb hby at_99) rfl (l' := #[.val (.int wh), .val (.int a), .val (.int b), .val (.int (1 : Int32)), .val (.ref xSMALLEST_FIRST), .val (.ref xLARGEST_FIRST), .val (.double (FP.l2d a.toInt64)), .second, .val (.double (FP.l2d b.toInt64)), .second, .val (.int (0 : Int32)), .val (.int (0 : Int32)), .val (.int (1 : Int32)), .unset]) rfl) ?_
      show Done p e below s _ _ (T9.setTop (mkF m 101 #[.val (.int wh), .val (.int a), .val (.int b), .val (.int (1 : Int32)), .val (.ref xSMALLEST_FIRST), .val (.ref xLARGEST_FIRST), .val (.double (FP.l2d a.toInt64)), .second, .val (.double (FP.l2d b.toInt64)), .second, .val (.int (0 : Int32)), .val (.int (0 : Int32)), .val (.int (1 : Int32)), .unset] []))
      refine Done.step (fun _ => XS.aload X9.here hx rfl (hb hby at_101) rfl rfl) ?_
      show Done p e below s _ _ (T9.setTop (mkF m 103 #[.val (.int wh), .val (.int a), .val (.int b), .val (.int (1 : Int32)), .val (.ref xSMALLEST_FIRST), .val (.ref xLARGEST_FIRST), .val (.double (FP.l2d a.toInt64)), .second, .val (.double (FP.l2d b.toInt64)), .second, .val (.int (0 : Int32)), .val (.int (0 : Int32)), .val (.int (1 : Int32)), .unset] [(.ref xLARGEST_FIRST)]))
      refine Done.step (fun _ => XS.dload X9.here hx rfl (hb hby at_103) rfl) ?_
      show Done p e below s _ _ (T9.setTop (mkF m 105 #[.val (.int wh), .val (.int a), .val (.int b), .val (.int (1 : Int32)), .val (.ref xSMALLEST_FIRST), .val (.ref xLARGEST_FIRST), .val (.double (FP.l2d a.toInt64)), .second, .val (.double (FP.l2d b.toInt64)), .second, .val (.int (0 : Int32)), .val (.int (0 : Int32)), .val (.int (1 : Int32)), .unset] [(.double (FP.l2d b.toInt64)), (.ref xLARGEST_FIRST)]))
      refine Done.step (fun _ => XS.dload X9.here hx rfl (hb hby at_105) rfl) ?_
      show Done p e below s _ _ (T9.setTop (mkF m 107 #[.val (.int wh), .val (.int a), .val (.int b), .val (.int (1 : Int32)), .val (.ref xSMALLEST_FIRST), .val (.ref xLARGEST_FIRST), .val (.double (FP.l2d a.toInt64)), .second, .val (.double (FP.l2d b.toInt64)), .second, .val (.int (0 : Int32)), .val (.int (0 : Int32)), .val (.int (1 : Int32)), .unset] [(.double (FP.l2d a.toInt64)), (.double (FP.l2d b.toInt64)), (.ref xLARGEST_FIRST)]))
      refine Done.callVP X9 hx hZ (C := "com/example/ithuriel/ithuriel/search/Ranking") hown (wAt hw 5 rfl) (wAt hw 6 rfl) (notFace_of_selects (args := #[]) (mvT hZ (wAt hw 8 rfl))) (wAt hw 8 rfl) (wAt hw 7 rfl) (wAt hw 1 rfl) (wAt hw 9 rfl) (by decide) (rmL l Z a0 hw [] xLARGEST_FIRST xSMALLEST_FIRST b a (0 : Int32) (FP.l2d b.toInt64) (FP.l2d a.toInt64) h0 n0 Z0 rfl rfl SSMALLEST_FIRST (Ne.symm nSMALLEST_FIRST_LARGEST_FIRST) (bP_f hc4).symm) e9 ELARGEST_FIRST (g := (mkF m 107 #[.val (.int wh), .val (.int a), .val (.int b), .val (.int (1 : Int32)), .val (.ref xSMALLEST_FIRST), .val (.ref xLARGEST_FIRST), .val (.double (FP.l2d a.toInt64)), .second, .val (.double (FP.l2d b.toInt64)), .second, .val (.int (0 : Int32)), .val (.int (0 : Int32)), .val (.int (1 : Int32)), .unset] [(.double (FP.l2d a.toInt64)), (.double (FP.l2d b.toInt64)), (.ref xLARGEST_FIRST)])) rfl (by rw [hml]; rfl) [(.double (FP.l2d b.toInt64)), (.double (FP.l2d a.toInt64))] [] 0 (lenOf pd_0 rfl) rfl rfl (by show 2 * 0 + _ ≤ _; exact Nat.le_of_eq rfl) (hb hby at_107) (by decide) (by decide) (by decide) (by decide) rfl rfl ?_
      intro T10 X10 e10
      show Done p e below s _ _ (T10.setTop (mkF m 110 #[.val (.int wh), .val (.int a), .val (.int b), .val (.int (1 : Int32)), .val (.ref xSMALLEST_FIRST), .val (.ref xLARGEST_FIRST), .val (.double (FP.l2d a.toInt64)), .second, .val (.double (FP.l2d b.toInt64)), .second, .val (.int (0 : Int32)), .val (.int (0 : Int32)), .val (.int (1 : Int32)), .unset] [(.int (0 : Int32))]))
      refine Done.step (fun _ => XS.istore X10.here hx rfl (hb hby at_110) rfl (l' := #[.val (.int wh), .val (.int a), .val (.int b), .val (.int (1 : Int32)), .val (.ref xSMALLEST_FIRST), .val (.ref xLARGEST_FIRST), .val (.double (FP.l2d a.toInt64)), .second, .val (.double (FP.l2d b.toInt64)), .second, .val (.int (0 : Int32)), .val (.int (0 : Int32)), .val (.int (1 : Int32)), .val (.int (0 : Int32))]) rfl) ?_
      show Done p e below s _ _ (T10.setTop (mkF m 112 #[.val (.int wh), .val (.int a), .val (.int b), .val (.int (1 : Int32)), .val (.ref xSMALLEST_FIRST), .val (.ref xLARGEST_FIRST), .val (.double (FP.l2d a.toInt64)), .second, .val (.double (FP.l2d b.toInt64)), .second, .val (.int (0 : Int32)), .val (.int (0 : Int32)), .val (.int (1 : Int32)), .val (.int (0 : Int32))] []))
      refine Done.step (fun _ => XS.iload X10.here hx rfl (hb hby at_112) rfl) ?_
      show Done p e below s _ _ (T10.setTop (mkF m 114 #[.val (.int wh), .val (.int a), .val (.int b), .val (.int (1 : Int32)), .val (.ref xSMALLEST_FIRST), .val (.ref xLARGEST_FIRST), .val (.double (FP.l2d a.toInt64)), .second, .val (.double (FP.l2d b.toInt64)), .second, .val (.int (0 : Int32)), .val (.int (0 : Int32)), .val (.int (1 : Int32)), .val (.int (0 : Int32))] [(.int (0 : Int32))]))
      refine Done.step (fun _ => XS.iload X10.here hx rfl (hb hby at_114) rfl) ?_
      show Done p e below s _ _ (T10.setTop (mkF m 116 #[.val (.int wh), .val (.int a), .val (.int b), .val (.int (1 : Int32)), .val (.ref xSMALLEST_FIRST), .val (.ref xLARGEST_FIRST), .val (.double (FP.l2d a.toInt64)), .second, .val (.double (FP.l2d b.toInt64)), .second, .val (.int (0 : Int32)), .val (.int (0 : Int32)), .val (.int (1 : Int32)), .val (.int (0 : Int32))] [(.int (0 : Int32)), (.int (0 : Int32))]))
      refine Done.step (fun _ => XS.icmpNo X10.here hx rfl (hb hby at_116) rfl (XT.ii_ne_f rfl)) ?_
      show Done p e below s _ _ (T10.setTop (mkF m 119 #[.val (.int wh), .val (.int a), .val (.int b), .val (.int (1 : Int32)), .val (.ref xSMALLEST_FIRST), .val (.ref xLARGEST_FIRST), .val (.double (FP.l2d a.toInt64)), .second, .val (.double (FP.l2d b.toInt64)), .second, .val (.int (0 : Int32)), .val (.int (0 : Int32)), .val (.int (1 : Int32)), .val (.int (0 : Int32))] []))
      refine Done.step (fun _ => XS.iload X10.here hx rfl (hb hby at_119) rfl) ?_
      show Done p e below s _ _ (T10.setTop (mkF m 121 #[.val (.int wh), .val (.int a), .val (.int b), .val (.int (1 : Int32)), .val (.ref xSMALLEST_FIRST), .val (.ref xLARGEST_FIRST), .val (.double (FP.l2d a.toInt64)), .second, .val (.double (FP.l2d b.toInt64)), .second, .val (.int (0 : Int32)), .val (.int (0 : Int32)), .val (.int (1 : Int32)), .val (.int (0 : Int32))] [(.int (1 : Int32))]))
      refine Done.step (fun _ => XS.ifNo X10.here hx rfl (hb hby at_121) rfl (XT.i0_eq_f (by decide))) ?_
      show Done p e below s _ _ (T10.setTop (mkF m 124 #[.val (.int wh), .val (.int a), .val (.int b), .val (.int (1 : Int32)), .val (.ref xSMALLEST_FIRST), .val (.ref xLARGEST_FIRST), .val (.double (FP.l2d a.toInt64)), .second, .val (.double (FP.l2d b.toInt64)), .second, .val (.int (0 : Int32)), .val (.int (0 : Int32)), .val (.int (1 : Int32)), .val (.int (0 : Int32))] []))
      refine Done.step (fun _ => XS.iload X10.here hx rfl (hb hby at_124) rfl) ?_
      show Done p e below s _ _ (T10.setTop (mkF m 126 #[.val (.int wh), .val (.int a), .val (.int b), .val (.int (1 : Int32)), .val (.ref xSMALLEST_FIRST), .val (.ref xLARGEST_FIRST), .val (.double (FP.l2d a.toInt64)), .second, .val (.double (FP.l2d b.toInt64)), .second, .val (.int (0 : Int32)), .val (.int (0 : Int32)), .val (.int (1 : Int32)), .val (.int (0 : Int32))] [(.int (0 : Int32))]))
      refine Done.step (fun _ => XS.iload X10.here hx rfl (hb hby at_126) rfl) ?_
      show Done p e below s _ _ (T10.setTop (mkF m 128 #[.val (.int wh), .val (.int a), .val (.int b), .val (.int (1 : Int32)), .val (.ref xSMALLEST_FIRST), .val (.ref xLARGEST_FIRST), .val (.double (FP.l2d a.toInt64)), .second, .val (.double (FP.l2d b.toInt64)), .second, .val (.int (0 : Int32)), .val (.int (0 : Int32)), .val (.int (1 : Int32)), .val (.int (0 : Int32))] [(.int (0 : Int32)), (.int (0 : Int32))]))
      refine Done.step (fun _ => XS.icmpNo X10.here hx rfl (hb hby at_128) rfl (XT.ii_ne_f rfl)) ?_
      show Done p e below s _ _ (T10.setTop (mkF m 131 #[.val (.int wh), .val (.int a), .val (.int b), .val (.int (1 : Int32)), .val (.ref xSMALLEST_FIRST), .val (.ref xLARGEST_FIRST), .val (.double (FP.l2d a.toInt64)), .second, .val (.double (FP.l2d b.toInt64)), .second, .val (.int (0 : Int32)), .val (.int (0 : Int32)), .val (.int (1 : Int32)), .val (.int (0 : Int32))] []))
      refine Done.step (fun _ => XT.iconstV X10.here hx rfl (1 : Int32) (hb hby at_131) (by decide)) ?_
      show Done p e below s _ _ (T10.setTop (mkF m 132 #[.val (.int wh), .val (.int a), .val (.int b), .val (.int (1 : Int32)), .val (.ref xSMALLEST_FIRST), .val (.ref xLARGEST_FIRST), .val (.double (FP.l2d a.toInt64)), .second, .val (.double (FP.l2d b.toInt64)), .second, .val (.int (0 : Int32)), .val (.int (0 : Int32)), .val (.int (1 : Int32)), .val (.int (0 : Int32))] [(.int (1 : Int32))]))
      refine Done.step (fun _ => XS.goto X10.here hx rfl (pc0 := 132) (pc' := 136) rfl (hb hby at_132) (by decide) (by decide)) ?_
      show Done p e below s _ _ (T10.setTop (mkF m 136 #[.val (.int wh), .val (.int a), .val (.int b), .val (.int (1 : Int32)), .val (.ref xSMALLEST_FIRST), .val (.ref xLARGEST_FIRST), .val (.double (FP.l2d a.toInt64)), .second, .val (.double (FP.l2d b.toInt64)), .second, .val (.int (0 : Int32)), .val (.int (0 : Int32)), .val (.int (1 : Int32)), .val (.int (0 : Int32))] [(.int (1 : Int32))]))
      exact Done.retN X10 hx hlk (t := .boolean) hret (by simp) (hb hby at_136) (by decide) (by decide) ⟨rfl, N0⟩
  · refine Done.step (fun _ => XS.ifYes X0.here hx rfl (pc0 := 3) (pc' := 10) rfl (hb hby at_3) rfl (XT.i0_ne_t hc1) (by decide) (by decide)) ?_
    show Done p e below s _ _ (T0.setTop (mkF m 10 #[.val (.int wh), .val (.int a), .val (.int b), .unset, .unset, .unset, .unset, .unset, .unset, .unset, .unset, .unset, .unset, .unset] []))
    refine Done.step (fun _ => XT.iconstV X0.here hx rfl (0 : Int32) (hb hby at_10) (by decide)) ?_
    show Done p e below s _ _ (T0.setTop (mkF m 11 #[.val (.int wh), .val (.int a), .val (.int b), .unset, .unset, .unset, .unset, .unset, .unset, .unset, .unset, .unset, .unset, .unset] [(.int (0 : Int32))]))
    refine Done.step (fun _ => XS.istoreN X0.here hx rfl (hb hby at_11) rfl (l' := #[.val (.int wh), .val (.int a), .val (.int b), .val (.int (0 : Int32)), .unset, .unset, .unset, .unset, .unset, .unset, .unset, .unset, .unset, .unset]) rfl) ?_
    show Done p e below s _ _ (T0.setTop (mkF m 12 #[.val (.int wh), .val (.int a), .val (.int b), .val (.int (0 : Int32)), .unset, .unset, .unset, .unset, .unset, .unset, .unset, .unset, .unset, .unset] []))
    refine Done.step (fun _ => XS.iloadN X0.here hx rfl (hb hby at_12) rfl) ?_
    show Done p e below s _ _ (T0.setTop (mkF m 13 #[.val (.int wh), .val (.int a), .val (.int b), .val (.int (0 : Int32)), .unset, .unset, .unset, .unset, .unset, .unset, .unset, .unset, .unset, .unset] [(.int (0 : Int32))]))
    refine Done.step (fun _ => XS.ifYes X0.here hx rfl (pc0 := 13) (pc' := 22) rfl (hb hby at_13) rfl (XT.i0_eq_t rfl) (by decide) (by decide)) ?_
    show Done p e below s _ _ (T0.setTop (mkF m 22 #[.val (.int wh), .val (.int a), .val (.int b), .val (.int (0 : Int32)), .unset, .unset, .unset, .unset, .unset, .unset, .unset, .unset, .unset, .unset] []))
    obtain ⟨T11, X11, e11, st11⟩ := getS2 X0 hx hZ hown (host := "") (Or.inl (wAt hw 3 rfl)) Via.refl e0 SLARGEST_FIRST (g := (mkF m 22 #[.val (.int wh), .val (.int a), .val (.int b), .val (.int (0 : Int32)), .unset, .unset, .unset, .unset, .unset, .unset, .unset, .unset, .unset, .unset] [])) rfl (hb hby at_22)
    refine Done.step st11 ?_
    show Done p e below s _ _ (T11.setTop (mkF m 25 #[.val (.int wh), .val (.int a), .val (.int b), .val (.int (0 : Int32)), .unset, .unset, .unset, .unset, .unset, .unset, .unset, .unset, .unset, .unset] [(.ref xLARGEST_FIRST)]))
    refine Done.step (fun _ => XS.astore X11.here hx rfl (hb hby at_25) rfl rfl (l' := #[.val (.int wh), .val (.int a), .val (.int b), .val (.int (0 : Int32)), .val (.ref xLARGEST_FIRST), .unset, .unset, .unset, .unset, .unset, .unset, .unset, .unset, .unset]) rfl) ?_
    show Done p e below s _ _ (T11.setTop (mkF m 27 #[.val (.int wh), .val (.int a), .val (.int b), .val (.int (0 : Int32)), .val (.ref xLARGEST_FIRST), .unset, .unset, .unset, .unset, .unset, .unset, .unset, .unset, .unset] []))
    refine Done.step (fun _ => XS.iloadN X11.here hx rfl (hb hby at_27) rfl) ?_
    show Done p e below s _ _ (T11.setTop (mkF m 28 #[.val (.int wh), .val (.int a), .val (.int b), .val (.int (0 : Int32)), .val (.ref xLARGEST_FIRST), .unset, .unset, .unset, .unset, .unset, .unset, .unset, .unset, .unset] [(.int (0 : Int32))]))
    refine Done.step (fun _ => XS.ifYes X11.here hx rfl (pc0 := 28) (pc' := 37) rfl (hb hby at_28) rfl (XT.i0_eq_t rfl) (by decide) (by decide)) ?_
    show Done p e below s _ _ (T11.setTop (mkF m 37 #[.val (.int wh), .val (.int a), .val (.int b), .val (.int (0 : Int32)), .val (.ref xLARGEST_FIRST), .unset, .unset, .unset, .unset, .unset, .unset, .unset, .unset, .unset] []))
    obtain ⟨T12, X12, e12, st12⟩ := getS2 X11 hx hZ hown (host := "") (Or.inl (wAt hw 0 rfl)) Via.refl e11 SSMALLEST_FIRST (g := (mkF m 37 #[.val (.int wh), .val (.int a), .val (.int b), .val (.int (0 : Int32)), .val (.ref xLARGEST_FIRST), .unset, .unset, .unset, .unset, .unset, .unset, .unset, .unset, .unset] [])) rfl (hb hby at_37)
    refine Done.step st12 ?_
    show Done p e below s _ _ (T12.setTop (mkF m 40 #[.val (.int wh), .val (.int a), .val (.int b), .val (.int (0 : Int32)), .val (.ref xLARGEST_FIRST), .unset, .unset, .unset, .unset, .unset, .unset, .unset, .unset, .unset] [(.ref xSMALLEST_FIRST)]))
    refine Done.step (fun _ => XS.astore X12.here hx rfl (hb hby at_40) rfl rfl (l' := #[.val (.int wh), .val (.int a), .val (.int b), .val (.int (0 : Int32)), .val (.ref xLARGEST_FIRST), .val (.ref xSMALLEST_FIRST), .unset, .unset, .unset, .unset, .unset, .unset, .unset, .unset]) rfl) ?_
    show Done p e below s _ _ (T12.setTop (mkF m 42 #[.val (.int wh), .val (.int a), .val (.int b), .val (.int (0 : Int32)), .val (.ref xLARGEST_FIRST), .val (.ref xSMALLEST_FIRST), .unset, .unset, .unset, .unset, .unset, .unset, .unset, .unset] []))
    refine Done.step (fun _ => XS.iloadN X12.here hx rfl (hb hby at_42) rfl) ?_
    show Done p e below s _ _ (T12.setTop (mkF m 43 #[.val (.int wh), .val (.int a), .val (.int b), .val (.int (0 : Int32)), .val (.ref xLARGEST_FIRST), .val (.ref xSMALLEST_FIRST), .unset, .unset, .unset, .unset, .unset, .unset, .unset, .unset] [(.int a)]))
    refine Done.step (fun _ => XS.i2dS X12.here hx rfl (v := FP.l2d a.toInt64) (hb hby at_43) rfl (i2d_w _)) ?_
    show Done p e below s _ _ (T12.setTop (mkF m 44 #[.val (.int wh), .val (.int a), .val (.int b), .val (.int (0 : Int32)), .val (.ref xLARGEST_FIRST), .val (.ref xSMALLEST_FIRST), .unset, .unset, .unset, .unset, .unset, .unset, .unset, .unset] [(.double (FP.l2d a.toInt64))]))
    refine Done.step (fun _ => XS.dstore X12.here hx rfl (hb hby at_44) rfl (l' := #[.val (.int wh), .val (.int a), .val (.int b), .val (.int (0 : Int32)), .val (.ref xLARGEST_FIRST), .val (.ref xSMALLEST_FIRST), .val (.double (FP.l2d a.toInt64)), .second, .unset, .unset, .unset, .unset, .unset, .unset]) rfl) ?_
    show Done p e below s _ _ (T12.setTop (mkF m 46 #[.val (.int wh), .val (.int a), .val (.int b), .val (.int (0 : Int32)), .val (.ref xLARGEST_FIRST), .val (.ref xSMALLEST_FIRST), .val (.double (FP.l2d a.toInt64)), .second, .unset, .unset, .unset, .unset, .unset, .unset] []))
    refine Done.step (fun _ => XS.iloadN X12.here hx rfl (hb hby at_46) rfl) ?_
    show Done p e below s _ _ (T12.setTop (mkF m 47 #[.val (.int wh), .val (.int a), .val (.int b), .val (.int (0 : Int32)), .val (.ref xLARGEST_FIRST), .val (.ref xSMALLEST_FIRST), .val (.double (FP.l2d a.toInt64)), .second, .unset, .unset, .unset, .unset, .unset, .unset] [(.int b)]))
    refine Done.step (fun _ => XS.i2dS X12.here hx rfl (v := FP.l2d b.toInt64) (hb hby at_47) rfl (i2d_w _)) ?_
    show Done p e below s _ _ (T12.setTop (mkF m 48 #[.val (.int wh), .val (.int a), .val (.int b), .val (.int (0 : Int32)), .val (.ref xLARGEST_FIRST), .val (.ref xSMALLEST_FIRST), .val (.double (FP.l2d a.toInt64)), .second, .unset, .unset, .unset, .unset, .unset, .unset] [(.double (FP.l2d b.toInt64))]))
    refine Done.step (fun _ => XS.dstore X12.here hx rfl (hb hby at_48) rfl (l' := #[.val (.int wh), .val (.int a), .val (.int b), .val (.int (0 : Int32)), .val (.ref xLARGEST_FIRST), .val (.ref xSMALLEST_FIRST), .val (.double (FP.l2d a.toInt64)), .second, .val (.double (FP.l2d b.toInt64)), .second, .unset, .unset, .unset, .unset]) rfl) ?_
    show Done p e below s _ _ (T12.setTop (mkF m 50 #[.val (.int wh), .val (.int a), .val (.int b), .val (.int (0 : Int32)), .val (.ref xLARGEST_FIRST), .val (.ref xSMALLEST_FIRST), .val (.double (FP.l2d a.toInt64)), .second, .val (.double (FP.l2d b.toInt64)), .second, .unset, .unset, .unset, .unset] []))
    refine Done.step (fun _ => XS.aload X12.here hx rfl (hb hby at_50) rfl rfl) ?_
    show Done p e below s _ _ (T12.setTop (mkF m 52 #[.val (.int wh), .val (.int a), .val (.int b), .val (.int (0 : Int32)), .val (.ref xLARGEST_FIRST), .val (.ref xSMALLEST_FIRST), .val (.double (FP.l2d a.toInt64)), .second, .val (.double (FP.l2d b.toInt64)), .second, .unset, .unset, .unset, .unset] [(.ref xLARGEST_FIRST)]))
    refine Done.step (fun _ => XS.dload X12.here hx rfl (hb hby at_52) rfl) ?_
    show Done p e below s _ _ (T12.setTop (mkF m 54 #[.val (.int wh), .val (.int a), .val (.int b), .val (.int (0 : Int32)), .val (.ref xLARGEST_FIRST), .val (.ref xSMALLEST_FIRST), .val (.double (FP.l2d a.toInt64)), .second, .val (.double (FP.l2d b.toInt64)), .second, .unset, .unset, .unset, .unset] [(.double (FP.l2d a.toInt64)), (.ref xLARGEST_FIRST)]))
    refine Done.step (fun _ => XS.dload X12.here hx rfl (hb hby at_54) rfl) ?_
    show Done p e below s _ _ (T12.setTop (mkF m 56 #[.val (.int wh), .val (.int a), .val (.int b), .val (.int (0 : Int32)), .val (.ref xLARGEST_FIRST), .val (.ref xSMALLEST_FIRST), .val (.double (FP.l2d a.toInt64)), .second, .val (.double (FP.l2d b.toInt64)), .second, .unset, .unset, .unset, .unset] [(.double (FP.l2d b.toInt64)), (.double (FP.l2d a.toInt64)), (.ref xLARGEST_FIRST)]))
    by_cases hc13 : ¬ a < b
    · refine Done.callVP X12 hx hZ (C := "com/example/ithuriel/ithuriel/search/Ranking") hown (wAt hw 5 rfl) (wAt hw 6 rfl) (notFace_of_selects (args := #[]) (mvT hZ (wAt hw 8 rfl))) (wAt hw 8 rfl) (wAt hw 7 rfl) (wAt hw 1 rfl) (wAt hw 9 rfl) (by decide) (rmL l Z a0 hw [] xLARGEST_FIRST xSMALLEST_FIRST a b (1 : Int32) (FP.l2d a.toInt64) (FP.l2d b.toInt64) h0 n0 Z0 rfl rfl SSMALLEST_FIRST (Ne.symm nSMALLEST_FIRST_LARGEST_FIRST) (bP_t hc13).symm) e12 ELARGEST_FIRST (g := (mkF m 56 #[.val (.int wh), .val (.int a), .val (.int b), .val (.int (0 : Int32)), .val (.ref xLARGEST_FIRST), .val (.ref xSMALLEST_FIRST), .val (.double (FP.l2d a.toInt64)), .second, .val (.double (FP.l2d b.toInt64)), .second, .unset, .unset, .unset, .unset] [(.double (FP.l2d b.toInt64)), (.double (FP.l2d a.toInt64)), (.ref xLARGEST_FIRST)])) rfl (by rw [hml]; rfl) [(.double (FP.l2d a.toInt64)), (.double (FP.l2d b.toInt64))] [] 0 (lenOf pd_0 rfl) rfl rfl (by show 2 * 0 + _ ≤ _; exact Nat.le_of_eq rfl) (hb hby at_56) (by decide) (by decide) (by decide) (by decide) rfl rfl ?_
      intro T14 X14 e14
      show Done p e below s _ _ (T14.setTop (mkF m 59 #[.val (.int wh), .val (.int a), .val (.int b), .val (.int (0 : Int32)), .val (.ref xLARGEST_FIRST), .val (.ref xSMALLEST_FIRST), .val (.double (FP.l2d a.toInt64)), .second, .val (.double (FP.l2d b.toInt64)), .second, .unset, .unset, .unset, .unset] [(.int (1 : Int32))]))
      refine Done.step (fun _ => XS.istore X14.here hx rfl (hb hby at_59) rfl (l' := #[.val (.int wh), .val (.int a), .val (.int b), .val (.int (0 : Int32)), .val (.ref xLARGEST_FIRST), .val (.ref xSMALLEST_FIRST), .val (.double (FP.l2d a.toInt64)), .second, .val (.double (FP.l2d b.toInt64)), .second, .val (.int (1 : Int32)), .unset, .unset, .unset]) rfl) ?_
      show Done p e below s _ _ (T14.setTop (mkF m 61 #[.val (.int wh), .val (.int a), .val (.int b), .val (.int (0 : Int32)), .val (.ref xLARGEST_FIRST), .val (.ref xSMALLEST_FIRST), .val (.double (FP.l2d a.toInt64)), .second, .val (.double (FP.l2d b.toInt64)), .second, .val (.int (1 : Int32)), .unset, .unset, .unset] []))
      refine Done.step (fun _ => XS.iloadN X14.here hx rfl (hb hby at_61) rfl) ?_
      show Done p e below s _ _ (T14.setTop (mkF m 62 #[.val (.int wh), .val (.int a), .val (.int b), .val (.int (0 : Int32)), .val (.ref xLARGEST_FIRST), .val (.ref xSMALLEST_FIRST), .val (.double (FP.l2d a.toInt64)), .second, .val (.double (FP.l2d b.toInt64)), .second, .val (.int (1 : Int32)), .unset, .unset, .unset] [(.int (0 : Int32))]))
      refine Done.step (fun _ => XS.ifYes X14.here hx rfl (pc0 := 62) (pc' := 78) rfl (hb hby at_62) rfl (XT.i0_eq_t rfl) (by decide) (by decide)) ?_
      show Done p e below s _ _ (T14.setTop (mkF m 78 #[.val (.int wh), .val (.int a), .val (.int b), .val (.int (0 : Int32)), .val (.ref xLARGEST_FIRST), .val (.ref xSMALLEST_FIRST), .val (.double (FP.l2d a.toInt64)), .second, .val (.double (FP.l2d b.toInt64)), .second, .val (.int (1 : Int32)), .unset, .unset, .unset] []))
      refine Done.step (fun _ => XS.iloadN X14.here hx rfl (hb hby at_78) rfl) ?_
      show Done p e below s _ _ (T14.setTop (mkF m 79 #[.val (.int wh), .val (.int a), .val (.int b), .val (.int (0 : Int32)), .val (.ref xLARGEST_FIRST), .val (.ref xSMALLEST_FIRST), .val (.double (FP.l2d a.toInt64)), .second, .val (.double (FP.l2d b.toInt64)), .second, .val (.int (1 : Int32)), .unset, .unset, .unset] [(.int a)]))
      refine Done.step (fun _ => XS.iloadN X14.here hx rfl (hb hby at_79) rfl) ?_
      show Done p e below s _ _ (T14.setTop (mkF m 80 #[.val (.int wh), .val (.int a), .val (.int b), .val (.int (0 : Int32)), .val (.ref xLARGEST_FIRST), .val (.ref xSMALLEST_FIRST), .val (.double (FP.l2d a.toInt64)), .second, .val (.double (FP.l2d b.toInt64)), .second, .val (.int (1 : Int32)), .unset, .unset, .unset] [(.int b), (.int a)]))
      refine Done.step (fun _ => XS.icmpNo X14.here hx rfl (hb hby at_80) rfl (XT.ii_lt_f hc13)) ?_
      show Done p e below s _ _ (T14.setTop (mkF m 83 #[.val (.int wh), .val (.int a), .val (.int b), .val (.int (0 : Int32)), .val (.ref xLARGEST_FIRST), .val (.ref xSMALLEST_FIRST), .val (.double (FP.l2d a.toInt64)), .second, .val (.double (FP.l2d b.toInt64)), .second, .val (.int (1 : Int32)), .unset, .unset, .unset] []))
      refine Done.step (fun _ => XT.iconstV X14.here hx rfl (1 : Int32) (hb hby at_83) (by decide)) ?_
      show Done p e below s _ _ (T14.setTop (mkF m 84 #[.val (.int wh), .val (.int a), .val (.int b), .val (.int (0 : Int32)), .val (.ref xLARGEST_FIRST), .val (.ref xSMALLEST_FIRST), .val (.double (FP.l2d a.toInt64)), .second, .val (.double (FP.l2d b.toInt64)), .second, .val (.int (1 : Int32)), .unset, .unset, .unset] [(.int (1 : Int32))]))
      refine Done.step (fun _ => XS.goto X14.here hx rfl (pc0 := 84) (pc' := 88) rfl (hb hby at_84) (by decide) (by decide)) ?_
      show Done p e below s _ _ (T14.setTop (mkF m 88 #[.val (.int wh), .val (.int a), .val (.int b), .val (.int (0 : Int32)), .val (.ref xLARGEST_FIRST), .val (.ref xSMALLEST_FIRST), .val (.double (FP.l2d a.toInt64)), .second, .val (.double (FP.l2d b.toInt64)), .second, .val (.int (1 : Int32)), .unset, .unset, .unset] [(.int (1 : Int32))]))
      refine Done.step (fun _ => XS.istore X14.here hx rfl (hb hby at_88) rfl (l' := #[.val (.int wh), .val (.int a), .val (.int b), .val (.int (0 : Int32)), .val (.ref xLARGEST_FIRST), .val (.ref xSMALLEST_FIRST), .val (.double (FP.l2d a.toInt64)), .second, .val (.double (FP.l2d b.toInt64)), .second, .val (.int (1 : Int32)), .val (.int (1 : Int32)), .unset, .unset]) rfl) ?_
      show Done p e below s _ _ (T14.setTop (mkF m 90 #[.val (.int wh), .val (.int a), .val (.int b), .val (.int (0 : Int32)), .val (.ref xLARGEST_FIRST), .val (.ref xSMALLEST_FIRST), .val (.double (FP.l2d a.toInt64)), .second, .val (.double (FP.l2d b.toInt64)), .second, .val (.int (1 : Int32)), .val (.int (1 : Int32)), .unset, .unset] []))
      refine Done.step (fun _ => XS.aload X14.here hx rfl (hb hby at_90) rfl rfl) ?_
      show Done p e below s _ _ (T14.setTop (mkF m 92 #[.val (.int wh), .val (.int a), .val (.int b), .val (.int (0 : Int32)), .val (.ref xLARGEST_FIRST), .val (.ref xSMALLEST_FIRST), .val (.double (FP.l2d a.toInt64)), .second, .val (.double (FP.l2d b.toInt64)), .second, .val (.int (1 : Int32)), .val (.int (1 : Int32)), .unset, .unset] [(.ref xLARGEST_FIRST)]))
      refine Done.step (fun _ => XS.dload X14.here hx rfl (hb hby at_92) rfl) ?_
      show Done p e below s _ _ (T14.setTop (mkF m 94 #[.val (.int wh), .val (.int a), .val (.int b), .val (.int (0 : Int32)), .val (.ref xLARGEST_FIRST), .val (.ref xSMALLEST_FIRST), .val (.double (FP.l2d a.toInt64)), .second, .val (.double (FP.l2d b.toInt64)), .second, .val (.int (1 : Int32)), .val (.int (1 : Int32)), .unset, .unset] [(.double (FP.l2d a.toInt64)), (.ref xLARGEST_FIRST)]))
      refine Done.step (fun _ => XS.dload X14.here hx rfl (hb hby at_94) rfl) ?_
      show Done p e below s _ _ (T14.setTop (mkF m 96 #[.val (.int wh), .val (.int a), .val (.int b), .val (.int (0 : Int32)), .val (.ref xLARGEST_FIRST), .val (.ref xSMALLEST_FIRST), .val (.double (FP.l2d a.toInt64)), .second, .val (.double (FP.l2d b.toInt64)), .second, .val (.int (1 : Int32)), .val (.int (1 : Int32)), .unset, .unset] [(.double (FP.l2d a.toInt64)), (.double (FP.l2d a.toInt64)), (.ref xLARGEST_FIRST)]))
      refine Done.callVP X14 hx hZ (C := "com/example/ithuriel/ithuriel/search/Ranking") hown (wAt hw 5 rfl) (wAt hw 6 rfl) (notFace_of_selects (args := #[]) (mvT hZ (wAt hw 8 rfl))) (wAt hw 8 rfl) (wAt hw 7 rfl) (wAt hw 1 rfl) (wAt hw 9 rfl) (by decide) (rmL l Z a0 hw [] xLARGEST_FIRST xSMALLEST_FIRST a a (1 : Int32) (FP.l2d a.toInt64) (FP.l2d a.toInt64) h0 n0 Z0 rfl rfl SSMALLEST_FIRST (Ne.symm nSMALLEST_FIRST_LARGEST_FIRST) (bP_t Int32.lt_irrefl).symm) e14 ELARGEST_FIRST (g := (mkF m 96 #[.val (.int wh), .val (.int a), .val (.int b), .val (.int (0 : Int32)), .val (.ref xLARGEST_FIRST), .val (.ref xSMALLEST_FIRST), .val (.double (FP.l2d a.toInt64)), .second, .val (.double (FP.l2d b.toInt64)), .second, .val (.int (1 : Int32)), .val (.int (1 : Int32)), .unset, .unset] [(.double (FP.l2d a.toInt64)), (.double (FP.l2d a.toInt64)), (.ref xLARGEST_FIRST)])) rfl (by rw [hml]; rfl) [(.double (FP.l2d a.toInt64)), (.double (FP.l2d a.toInt64))] [] 0 (lenOf pd_0 rfl) rfl rfl (by show 2 * 0 + _ ≤ _; exact Nat.le_of_eq rfl) (hb hby at_96) (by decide) (by decide) (by decide) (by decide) rfl rfl ?_
      intro T15 X15 e15
      show Done p e below s _ _ (T15.setTop (mkF m 99 #[.val (.int wh), .val (.int a), .val (.int b), .val (.int (0 : Int32)), .val (.ref xLARGEST_FIRST), .val (.ref xSMALLEST_FIRST), .val (.double (FP.l2d a.toInt64)), .second, .val (.double (FP.l2d b.toInt64)), .second, .val (.int (1 : Int32)), .val (.int (1 : Int32)), .unset, .unset] [(.int (1 : Int32))]))
      refine Done.step (fun _ => XS.istore X15.here hx rfl (hb hby at_99) rfl (l' := #[.val (.int wh), .val (.int a), .val (.int b), .val (.int (0 : Int32)), .val (.ref xLARGEST_FIRST), .val (.ref xSMALLEST_FIRST), .val (.double (FP.l2d a.toInt64)), .second, .val (.double (FP.l2d b.toInt64)), .second, .val (.int (1 : Int32)), .val (.int (1 : Int32)), .val (.int (1 : Int32)), .unset]) rfl) ?_
      show Done p e below s _ _ (T15.setTop (mkF m 101 #[.val (.int wh), .val (.int a), .val (.int b), .val (.int (0 : Int32)), .val (.ref xLARGEST_FIRST), .val (.ref xSMALLEST_FIRST), .val (.double (FP.l2d a.toInt64)), .second, .val (.double (FP.l2d b.toInt64)), .second, .val (.int (1 : Int32)), .val (.int (1 : Int32)), .val (.int (1 : Int32)), .unset] []))
      refine Done.step (fun _ => XS.aload X15.here hx rfl (hb hby at_101) rfl rfl) ?_
      show Done p e below s _ _ (T15.setTop (mkF m 103 #[.val (.int wh), .val (.int a), .val (.int b), .val (.int (0 : Int32)), .val (.ref xLARGEST_FIRST), .val (.ref xSMALLEST_FIRST), .val (.double (FP.l2d a.toInt64)), .second, .val (.double (FP.l2d b.toInt64)), .second, .val (.int (1 : Int32)), .val (.int (1 : Int32)), .val (.int (1 : Int32)), .unset] [(.ref xSMALLEST_FIRST)]))
      refine Done.step (fun _ => XS.dload X15.here hx rfl (hb hby at_103) rfl) ?_
      show Done p e below s _ _ (T15.setTop (mkF m 105 #[.val (.int wh), .val (.int a), .val (.int b), .val (.int (0 : Int32)), .val (.ref xLARGEST_FIRST), .val (.ref xSMALLEST_FIRST), .val (.double (FP.l2d a.toInt64)), .second, .val (.double (FP.l2d b.toInt64)), .second, .val (.int (1 : Int32)), .val (.int (1 : Int32)), .val (.int (1 : Int32)), .unset] [(.double (FP.l2d b.toInt64)), (.ref xSMALLEST_FIRST)]))
      refine Done.step (fun _ => XS.dload X15.here hx rfl (hb hby at_105) rfl) ?_
      show Done p e below s _ _ (T15.setTop (mkF m 107 #[.val (.int wh), .val (.int a), .val (.int b), .val (.int (0 : Int32)), .val (.ref xLARGEST_FIRST), .val (.ref xSMALLEST_FIRST), .val (.double (FP.l2d a.toInt64)), .second, .val (.double (FP.l2d b.toInt64)), .second, .val (.int (1 : Int32)), .val (.int (1 : Int32)), .val (.int (1 : Int32)), .unset] [(.double (FP.l2d a.toInt64)), (.double (FP.l2d b.toInt64)), (.ref xSMALLEST_FIRST)]))
      refine Done.callVP X15 hx hZ (C := "com/example/ithuriel/ithuriel/search/Ranking") hown (wAt hw 5 rfl) (wAt hw 6 rfl) (notFace_of_selects (args := #[]) (mvT hZ (wAt hw 8 rfl))) (wAt hw 8 rfl) (wAt hw 7 rfl) (wAt hw 1 rfl) (wAt hw 9 rfl) (by decide) (rmS l Z a0 hw [] xSMALLEST_FIRST xSMALLEST_FIRST b a (1 : Int32) (FP.l2d b.toInt64) (FP.l2d a.toInt64) h0 n0 Z0 rfl rfl SSMALLEST_FIRST rfl (bP_t hc13).symm) e15 ESMALLEST_FIRST (g := (mkF m 107 #[.val (.int wh), .val (.int a), .val (.int b), .val (.int (0 : Int32)), .val (.ref xLARGEST_FIRST), .val (.ref xSMALLEST_FIRST), .val (.double (FP.l2d a.toInt64)), .second, .val (.double (FP.l2d b.toInt64)), .second, .val (.int (1 : Int32)), .val (.int (1 : Int32)), .val (.int (1 : Int32)), .unset] [(.double (FP.l2d a.toInt64)), (.double (FP.l2d b.toInt64)), (.ref xSMALLEST_FIRST)])) rfl (by rw [hml]; rfl) [(.double (FP.l2d b.toInt64)), (.double (FP.l2d a.toInt64))] [] 0 (lenOf pd_0 rfl) rfl rfl (by show 2 * 0 + _ ≤ _; exact Nat.le_of_eq rfl) (hb hby at_107) (by decide) (by decide) (by decide) (by decide) rfl rfl ?_
      intro T16 X16 e16
      show Done p e below s _ _ (T16.setTop (mkF m 110 #[.val (.int wh), .val (.int a), .val (.int b), .val (.int (0 : Int32)), .val (.ref xLARGEST_FIRST), .val (.ref xSMALLEST_FIRST), .val (.double (FP.l2d a.toInt64)), .second, .val (.double (FP.l2d b.toInt64)), .second, .val (.int (1 : Int32)), .val (.int (1 : Int32)), .val (.int (1 : Int32)), .unset] [(.int (1 : Int32))]))
      refine Done.step (fun _ => XS.istore X16.here hx rfl (hb hby at_110) rfl (l' := #[.val (.int wh), .val (.int a), .val (.int b), .val (.int (0 : Int32)), .val (.ref xLARGEST_FIRST), .val (.ref xSMALLEST_FIRST), .val (.double (FP.l2d a.toInt64)), .second, .val (.double (FP.l2d b.toInt64)), .second, .val (.int (1 : Int32)), .val (.int (1 : Int32)), .val (.int (1 : Int32)), .val (.int (1 : Int32))]) rfl) ?_
      show Done p e below s _ _ (T16.setTop (mkF m 112 #[.val (.int wh), .val (.int a), .val (.int b), .val (.int (0 : Int32)), .val (.ref xLARGEST_FIRST), .val (.ref xSMALLEST_FIRST), .val (.double (FP.l2d a.toInt64)), .second, .val (.double (FP.l2d b.toInt64)), .second, .val (.int (1 : Int32)), .val (.int (1 : Int32)), .val (.int (1 : Int32)), .val (.int (1 : Int32))] []))
      refine Done.step (fun _ => XS.iload X16.here hx rfl (hb hby at_112) rfl) ?_
      show Done p e below s _ _ (T16.setTop (mkF m 114 #[.val (.int wh), .val (.int a), .val (.int b), .val (.int (0 : Int32)), .val (.ref xLARGEST_FIRST), .val (.ref xSMALLEST_FIRST), .val (.double (FP.l2d a.toInt64)), .second, .val (.double (FP.l2d b.toInt64)), .second, .val (.int (1 : Int32)), .val (.int (1 : Int32)), .val (.int (1 : Int32)), .val (.int (1 : Int32))] [(.int (1 : Int32))]))
      refine Done.step (fun _ => XS.iload X16.here hx rfl (hb hby at_114) rfl) ?_
      show Done p e below s _ _ (T16.setTop (mkF m 116 #[.val (.int wh), .val (.int a), .val (.int b), .val (.int (0 : Int32)), .val (.ref xLARGEST_FIRST), .val (.ref xSMALLEST_FIRST), .val (.double (FP.l2d a.toInt64)), .second, .val (.double (FP.l2d b.toInt64)), .second, .val (.int (1 : Int32)), .val (.int (1 : Int32)), .val (.int (1 : Int32)), .val (.int (1 : Int32))] [(.int (1 : Int32)), (.int (1 : Int32))]))
      refine Done.step (fun _ => XS.icmpNo X16.here hx rfl (hb hby at_116) rfl (XT.ii_ne_f rfl)) ?_
      show Done p e below s _ _ (T16.setTop (mkF m 119 #[.val (.int wh), .val (.int a), .val (.int b), .val (.int (0 : Int32)), .val (.ref xLARGEST_FIRST), .val (.ref xSMALLEST_FIRST), .val (.double (FP.l2d a.toInt64)), .second, .val (.double (FP.l2d b.toInt64)), .second, .val (.int (1 : Int32)), .val (.int (1 : Int32)), .val (.int (1 : Int32)), .val (.int (1 : Int32))] []))
      refine Done.step (fun _ => XS.iload X16.here hx rfl (hb hby at_119) rfl) ?_
      show Done p e below s _ _ (T16.setTop (mkF m 121 #[.val (.int wh), .val (.int a), .val (.int b), .val (.int (0 : Int32)), .val (.ref xLARGEST_FIRST), .val (.ref xSMALLEST_FIRST), .val (.double (FP.l2d a.toInt64)), .second, .val (.double (FP.l2d b.toInt64)), .second, .val (.int (1 : Int32)), .val (.int (1 : Int32)), .val (.int (1 : Int32)), .val (.int (1 : Int32))] [(.int (1 : Int32))]))
      refine Done.step (fun _ => XS.ifNo X16.here hx rfl (hb hby at_121) rfl (XT.i0_eq_f (by decide))) ?_
      show Done p e below s _ _ (T16.setTop (mkF m 124 #[.val (.int wh), .val (.int a), .val (.int b), .val (.int (0 : Int32)), .val (.ref xLARGEST_FIRST), .val (.ref xSMALLEST_FIRST), .val (.double (FP.l2d a.toInt64)), .second, .val (.double (FP.l2d b.toInt64)), .second, .val (.int (1 : Int32)), .val (.int (1 : Int32)), .val (.int (1 : Int32)), .val (.int (1 : Int32))] []))
      refine Done.step (fun _ => XS.iload X16.here hx rfl (hb hby at_124) rfl) ?_
      show Done p e below s _ _ (T16.setTop (mkF m 126 #[.val (.int wh), .val (.int a), .val (.int b), .val (.int (0 : Int32)), .val (.ref xLARGEST_FIRST), .val (.ref xSMALLEST_FIRST), .val (.double (FP.l2d a.toInt64)), .second, .val (.double (FP.l2d b.toInt64)), .second, .val (.int (1 : Int32)), .val (.int (1 : Int32)), .val (.int (1 : Int32)), .val (.int (1 : Int32))] [(.int (1 : Int32))]))
      refine Done.step (fun _ => XS.iload X16.here hx rfl (hb hby at_126) rfl) ?_
      show Done p e below s _ _ (T16.setTop (mkF m 128 #[.val (.int wh), .val (.int a), .val (.int b), .val (.int (0 : Int32)), .val (.ref xLARGEST_FIRST), .val (.ref xSMALLEST_FIRST), .val (.double (FP.l2d a.toInt64)), .second, .val (.double (FP.l2d b.toInt64)), .second, .val (.int (1 : Int32)), .val (.int (1 : Int32)), .val (.int (1 : Int32)), .val (.int (1 : Int32))] [(.int (1 : Int32)), (.int (1 : Int32))]))
      refine Done.step (fun _ => XS.icmpNo X16.here hx rfl (hb hby at_128) rfl (XT.ii_ne_f rfl)) ?_
      show Done p e below s _ _ (T16.setTop (mkF m 131 #[.val (.int wh), .val (.int a), .val (.int b), .val (.int (0 : Int32)), .val (.ref xLARGEST_FIRST), .val (.ref xSMALLEST_FIRST), .val (.double (FP.l2d a.toInt64)), .second, .val (.double (FP.l2d b.toInt64)), .second, .val (.int (1 : Int32)), .val (.int (1 : Int32)), .val (.int (1 : Int32)), .val (.int (1 : Int32))] []))
      refine Done.step (fun _ => XT.iconstV X16.here hx rfl (1 : Int32) (hb hby at_131) (by decide)) ?_
      show Done p e below s _ _ (T16.setTop (mkF m 132 #[.val (.int wh), .val (.int a), .val (.int b), .val (.int (0 : Int32)), .val (.ref xLARGEST_FIRST), .val (.ref xSMALLEST_FIRST), .val (.double (FP.l2d a.toInt64)), .second, .val (.double (FP.l2d b.toInt64)), .second, .val (.int (1 : Int32)), .val (.int (1 : Int32)), .val (.int (1 : Int32)), .val (.int (1 : Int32))] [(.int (1 : Int32))]))
      refine Done.step (fun _ => XS.goto X16.here hx rfl (pc0 := 132) (pc' := 136) rfl (hb hby at_132) (by decide) (by decide)) ?_
      show Done p e below s _ _ (T16.setTop (mkF m 136 #[.val (.int wh), .val (.int a), .val (.int b), .val (.int (0 : Int32)), .val (.ref xLARGEST_FIRST), .val (.ref xSMALLEST_FIRST), .val (.double (FP.l2d a.toInt64)), .second, .val (.double (FP.l2d b.toInt64)), .second, .val (.int (1 : Int32)), .val (.int (1 : Int32)), .val (.int (1 : Int32)), .val (.int (1 : Int32))] [(.int (1 : Int32))]))
      exact Done.retN X16 hx hlk (t := .boolean) hret (by simp) (hb hby at_136) (by decide) (by decide) ⟨rfl, N0⟩
    · refine Done.callVP X12 hx hZ (C := "com/example/ithuriel/ithuriel/search/Ranking") hown (wAt hw 5 rfl) (wAt hw 6 rfl) (notFace_of_selects (args := #[]) (mvT hZ (wAt hw 8 rfl))) (wAt hw 8 rfl) (wAt hw 7 rfl) (wAt hw 1 rfl) (wAt hw 9 rfl) (by decide) (rmL l Z a0 hw [] xLARGEST_FIRST xSMALLEST_FIRST a b (0 : Int32) (FP.l2d a.toInt64) (FP.l2d b.toInt64) h0 n0 Z0 rfl rfl SSMALLEST_FIRST (Ne.symm nSMALLEST_FIRST_LARGEST_FIRST) (bP_f hc13).symm) e12 ELARGEST_FIRST (g := (mkF m 56 #[.val (.int wh), .val (.int a), .val (.int b), .val (.int (0 : Int32)), .val (.ref xLARGEST_FIRST), .val (.ref xSMALLEST_FIRST), .val (.double (FP.l2d a.toInt64)), .second, .val (.double (FP.l2d b.toInt64)), .second, .unset, .unset, .unset, .unset] [(.double (FP.l2d b.toInt64)), (.double (FP.l2d a.toInt64)), (.ref xLARGEST_FIRST)])) rfl (by rw [hml]; rfl) [(.double (FP.l2d a.toInt64)), (.double (FP.l2d b.toInt64))] [] 0 (lenOf pd_0 rfl) rfl rfl (by show 2 * 0 + _ ≤ _; exact Nat.le_of_eq rfl) (hb hby at_56) (by decide) (by decide) (by decide) (by decide) rfl rfl ?_
      intro T17 X17 e17
      show Done p e below s _ _ (T17.setTop (mkF m 59 #[.val (.int wh), .val (.int a), .val (.int b), .val (.int (0 : Int32)), .val (.ref xLARGEST_FIRST), .val (.ref xSMALLEST_FIRST), .val (.double (FP.l2d a.toInt64)), .second, .val (.double (FP.l2d b.toInt64)), .second, .unset, .unset, .unset, .unset] [(.int (0 : Int32))]))
      refine Done.step (fun _ => XS.istore X17.here hx rfl (hb hby at_59) rfl (l' := #[.val (.int wh), .val (.int a), .val (.int b), .val (.int (0 : Int32)), .val (.ref xLARGEST_FIRST), .val (.ref xSMALLEST_FIRST), .val (.double (FP.l2d a.toInt64)), .second, .val (.double (FP.l2d b.toInt64)), .second, .val (.int (0 : Int32)), .unset, .unset, .unset]) rfl) ?_
      show Done p e below s _ _ (T17.setTop (mkF m 61 #[.val (.int wh), .val (.int a), .val (.int b), .val (.int (0 : Int32)), .val (.ref xLARGEST_FIRST), .val (.ref xSMALLEST_FIRST), .val (.double (FP.l2d a.toInt64)), .second, .val (.double (FP.l2d b.toInt64)), .second, .val (.int (0 : Int32)), .unset, .unset, .unset] []))
      refine Done.step (fun _ => XS.iloadN X17.here hx rfl (hb hby at_61) rfl) ?_
      show Done p e below s _ _ (T17.setTop (mkF m 62 #[.val (.int wh), .val (.int a), .val (.int b), .val (.int (0 : Int32)), .val (.ref xLARGEST_FIRST), .val (.ref xSMALLEST_FIRST), .val (.double (FP.l2d a.toInt64)), .second, .val (.double (FP.l2d b.toInt64)), .second, .val (.int (0 : Int32)), .unset, .unset, .unset] [(.int (0 : Int32))]))
      refine Done.step (fun _ => XS.ifYes X17.here hx rfl (pc0 := 62) (pc' := 78) rfl (hb hby at_62) rfl (XT.i0_eq_t rfl) (by decide) (by decide)) ?_
      show Done p e below s _ _ (T17.setTop (mkF m 78 #[.val (.int wh), .val (.int a), .val (.int b), .val (.int (0 : Int32)), .val (.ref xLARGEST_FIRST), .val (.ref xSMALLEST_FIRST), .val (.double (FP.l2d a.toInt64)), .second, .val (.double (FP.l2d b.toInt64)), .second, .val (.int (0 : Int32)), .unset, .unset, .unset] []))
      refine Done.step (fun _ => XS.iloadN X17.here hx rfl (hb hby at_78) rfl) ?_
      show Done p e below s _ _ (T17.setTop (mkF m 79 #[.val (.int wh), .val (.int a), .val (.int b), .val (.int (0 : Int32)), .val (.ref xLARGEST_FIRST), .val (.ref xSMALLEST_FIRST), .val (.double (FP.l2d a.toInt64)), .second, .val (.double (FP.l2d b.toInt64)), .second, .val (.int (0 : Int32)), .unset, .unset, .unset] [(.int a)]))
      refine Done.step (fun _ => XS.iloadN X17.here hx rfl (hb hby at_79) rfl) ?_
      show Done p e below s _ _ (T17.setTop (mkF m 80 #[.val (.int wh), .val (.int a), .val (.int b), .val (.int (0 : Int32)), .val (.ref xLARGEST_FIRST), .val (.ref xSMALLEST_FIRST), .val (.double (FP.l2d a.toInt64)), .second, .val (.double (FP.l2d b.toInt64)), .second, .val (.int (0 : Int32)), .unset, .unset, .unset] [(.int b), (.int a)]))
      refine Done.step (fun _ => XS.icmpYes X17.here hx rfl (pc0 := 80) (pc' := 87) rfl (hb hby at_80) rfl (XT.ii_lt_t (Decidable.not_not.mp hc13)) (by decide) (by decide)) ?_
      show Done p e below s _ _ (T17.setTop (mkF m 87 #[.val (.int wh), .val (.int a), .val (.int b), .val (.int (0 : Int32)), .val (.ref xLARGEST_FIRST), .val (.ref xSMALLEST_FIRST), .val (.double (FP.l2d a.toInt64)), .second, .val (.double (FP.l2d b.toInt64)), .second, .val (.int (0 : Int32)), .unset, .unset, .unset] []))
      refine Done.step (fun _ => XT.iconstV X17.here hx rfl (0 : Int32) (hb hby at_87) (by decide)) ?_
      show Done p e below s _ _ (T17.setTop (mkF m 88 #[.val (.int wh), .val (.int a), .val (.int b), .val (.int (0 : Int32)), .val (.ref xLARGEST_FIRST), .val (.ref xSMALLEST_FIRST), .val (.double (FP.l2d a.toInt64)), .second, .val (.double (FP.l2d b.toInt64)), .second, .val (.int (0 : Int32)), .unset, .unset, .unset] [(.int (0 : Int32))]))
      refine Done.step (fun _ => XS.istore X17.here hx rfl (hb hby at_88) rfl (l' := #[.val (.int wh), .val (.int a), .val (.int b), .val (.int (0 : Int32)), .val (.ref xLARGEST_FIRST), .val (.ref xSMALLEST_FIRST), .val (.double (FP.l2d a.toInt64)), .second, .val (.double (FP.l2d b.toInt64)), .second, .val (.int (0 : Int32)), .val (.int (0 : Int32)), .unset, .unset]) rfl) ?_
      show Done p e below s _ _ (T17.setTop (mkF m 90 #[.val (.int wh), .val (.int a), .val (.int b), .val (.int (0 : Int32)), .val (.ref xLARGEST_FIRST), .val (.ref xSMALLEST_FIRST), .val (.double (FP.l2d a.toInt64)), .second, .val (.double (FP.l2d b.toInt64)), .second, .val (.int (0 : Int32)), .val (.int (0 : Int32)), .unset, .unset] []))
      refine Done.step (fun _ => XS.aload X17.here hx rfl (hb hby at_90) rfl rfl) ?_
      show Done p e below s _ _ (T17.setTop (mkF m 92 #[.val (.int wh), .val (.int a), .val (.int b), .val (.int (0 : Int32)), .val (.ref xLARGEST_FIRST), .val (.ref xSMALLEST_FIRST), .val (.double (FP.l2d a.toInt64)), .second, .val (.double (FP.l2d b.toInt64)), .second, .val (.int (0 : Int32)), .val (.int (0 : Int32)), .unset, .unset] [(.ref xLARGEST_FIRST)]))
      refine Done.step (fun _ => XS.dload X17.here hx rfl (hb hby at_92) rfl) ?_
      show Done p e below s _ _ (T17.setTop (mkF m 94 #[.val (.int wh), .val (.int a), .val (.int b), .val (.int (0 : Int32)), .val (.ref xLARGEST_FIRST), .val (.ref xSMALLEST_FIRST), .val (.double (FP.l2d a.toInt64)), .second, .val (.double (FP.l2d b.toInt64)), .second, .val (.int (0 : Int32)), .val (.int (0 : Int32)), .unset, .unset] [(.double (FP.l2d a.toInt64)), (.ref xLARGEST_FIRST)]))
      refine Done.step (fun _ => XS.dload X17.here hx rfl (hb hby at_94) rfl) ?_
      show Done p e below s _ _ (T17.setTop (mkF m 96 #[.val (.int wh), .val (.int a), .val (.int b), .val (.int (0 : Int32)), .val (.ref xLARGEST_FIRST), .val (.ref xSMALLEST_FIRST), .val (.double (FP.l2d a.toInt64)), .second, .val (.double (FP.l2d b.toInt64)), .second, .val (.int (0 : Int32)), .val (.int (0 : Int32)), .unset, .unset] [(.double (FP.l2d a.toInt64)), (.double (FP.l2d a.toInt64)), (.ref xLARGEST_FIRST)]))
      refine Done.callVP X17 hx hZ (C := "com/example/ithuriel/ithuriel/search/Ranking") hown (wAt hw 5 rfl) (wAt hw 6 rfl) (notFace_of_selects (args := #[]) (mvT hZ (wAt hw 8 rfl))) (wAt hw 8 rfl) (wAt hw 7 rfl) (wAt hw 1 rfl) (wAt hw 9 rfl) (by decide) (rmL l Z a0 hw [] xLARGEST_FIRST xSMALLEST_FIRST a a (1 : Int32) (FP.l2d a.toInt64) (FP.l2d a.toInt64) h0 n0 Z0 rfl rfl SSMALLEST_FIRST (Ne.symm nSMALLEST_FIRST_LARGEST_FIRST) (bP_t Int32.lt_irrefl).symm) e17 ELARGEST_FIRST (g := (mkF m 96 #[.val (.int wh), .val (.int a), .val (.int b), .val (.int (0 : Int32)), .val (.ref xLARGEST_FIRST), .val (.ref xSMALLEST_FIRST), .val (.double (FP.l2d a.toInt64)), .second, .val (.double (FP.l2d b.toInt64)), .second, .val (.int (0 : Int32)), .val (.int (0 : Int32)), .unset, .unset] [(.double (FP.l2d a.toInt64)), (.double (FP.l2d a.toInt64)), (.ref xLARGEST_FIRST)])) rfl (by rw [hml]; rfl) [(.double (FP.l2d a.toInt64)), (.double (FP.l2d a.toInt64))] [] 0 (lenOf pd_0 rfl) rfl rfl (by show 2 * 0 + _ ≤ _; exact Nat.le_of_eq rfl) (hb hby at_96) (by decide) (by decide) (by decide) (by decide) rfl rfl ?_
      intro T18 X18 e18
      show Done p e below s _ _ (T18.setTop (mkF m 99 #[.val (.int wh), .val (.int a), .val (.int b), .val (.int (0 : Int32)), .val (.ref xLARGEST_FIRST), .val (.ref xSMALLEST_FIRST), .val (.double (FP.l2d a.toInt64)), .second, .val (.double (FP.l2d b.toInt64)), .second, .val (.int (0 : Int32)), .val (.int (0 : Int32)), .unset, .unset] [(.int (1 : Int32))]))
      refine Done.step (fun _ => XS.istore X18.here hx rfl (hb hby at_99) rfl (l' := #[.val (.int wh), .val (.int a), .val (.int b), .val (.int (0 : Int32)), .val (.ref xLARGEST_FIRST), .val (.ref xSMALLEST_FIRST), .val (.double (FP.l2d a.toInt64)), .second, .val (.double (FP.l2d b.toInt64)), .second, .val (.int (0 : Int32)), .val (.int (0 : Int32)), .val (.int (1 : Int32)), .unset]) rfl) ?_
      show Done p e below s _ _ (T18.setTop (mkF m 101 #[.val (.int wh), .val (.int a), .val (.int b), .val (.int (0 : Int32)), .val (.ref xLARGEST_FIRST), .val (.ref xSMALLEST_FIRST), .val (.double (FP.l2d a.toInt64)), .second, .val (.double (FP.l2d b.toInt64)), .second, .val (.int (0 : Int32)), .val (.int (0 : Int32)), .val (.int (1 : Int32)), .unset] []))
      refine Done.step (fun _ => XS.aload X18.here hx rfl (hb hby at_101) rfl rfl) ?_
      show Done p e below s _ _ (T18.setTop (mkF m 103 #[.val (.int wh), .val (.int a), .val (.int b), .val (.int (0 : Int32)), .val (.ref xLARGEST_FIRST), .val (.ref xSMALLEST_FIRST), .val (.double (FP.l2d a.toInt64)), .second, .val (.double (FP.l2d b.toInt64)), .second, .val (.int (0 : Int32)), .val (.int (0 : Int32)), .val (.int (1 : Int32)), .unset] [(.ref xSMALLEST_FIRST)]))
      refine Done.step (fun _ => XS.dload X18.here hx rfl (hb hby at_103) rfl) ?_
      show Done p e below s _ _ (T18.setTop (mkF m 105 #[.val (.int wh), .val (.int a), .val (.int b), .val (.int (0 : Int32)), .val (.ref xLARGEST_FIRST), .val (.ref xSMALLEST_FIRST), .val (.double (FP.l2d a.toInt64)), .second, .val (.double (FP.l2d b.toInt64)), .second, .val (.int (0 : Int32)), .val (.int (0 : Int32)), .val (.int (1 : Int32)), .unset] [(.double (FP.l2d b.toInt64)), (.ref xSMALLEST_FIRST)]))
      refine Done.step (fun _ => XS.dload X18.here hx rfl (hb hby at_105) rfl) ?_
      show Done p e below s _ _ (T18.setTop (mkF m 107 #[.val (.int wh), .val (.int a), .val (.int b), .val (.int (0 : Int32)), .val (.ref xLARGEST_FIRST), .val (.ref xSMALLEST_FIRST), .val (.double (FP.l2d a.toInt64)), .second, .val (.double (FP.l2d b.toInt64)), .second, .val (.int (0 : Int32)), .val (.int (0 : Int32)), .val (.int (1 : Int32)), .unset] [(.double (FP.l2d a.toInt64)), (.double (FP.l2d b.toInt64)), (.ref xSMALLEST_FIRST)]))
      refine Done.callVP X18 hx hZ (C := "com/example/ithuriel/ithuriel/search/Ranking") hown (wAt hw 5 rfl) (wAt hw 6 rfl) (notFace_of_selects (args := #[]) (mvT hZ (wAt hw 8 rfl))) (wAt hw 8 rfl) (wAt hw 7 rfl) (wAt hw 1 rfl) (wAt hw 9 rfl) (by decide) (rmS l Z a0 hw [] xSMALLEST_FIRST xSMALLEST_FIRST b a (0 : Int32) (FP.l2d b.toInt64) (FP.l2d a.toInt64) h0 n0 Z0 rfl rfl SSMALLEST_FIRST rfl (bP_f hc13).symm) e18 ESMALLEST_FIRST (g := (mkF m 107 #[.val (.int wh), .val (.int a), .val (.int b), .val (.int (0 : Int32)), .val (.ref xLARGEST_FIRST), .val (.ref xSMALLEST_FIRST), .val (.double (FP.l2d a.toInt64)), .second, .val (.double (FP.l2d b.toInt64)), .second, .val (.int (0 : Int32)), .val (.int (0 : Int32)), .val (.int (1 : Int32)), .unset] [(.double (FP.l2d a.toInt64)), (.double (FP.l2d b.toInt64)), (.ref xSMALLEST_FIRST)])) rfl (by rw [hml]; rfl) [(.double (FP.l2d b.toInt64)), (.double (FP.l2d a.toInt64))] [] 0 (lenOf pd_0 rfl) rfl rfl (by show 2 * 0 + _ ≤ _; exact Nat.le_of_eq rfl) (hb hby at_107) (by decide) (by decide) (by decide) (by decide) rfl rfl ?_
      intro T19 X19 e19
      show Done p e below s _ _ (T19.setTop (mkF m 110 #[.val (.int wh), .val (.int a), .val (.int b), .val (.int (0 : Int32)), .val (.ref xLARGEST_FIRST), .val (.ref xSMALLEST_FIRST), .val (.double (FP.l2d a.toInt64)), .second, .val (.double (FP.l2d b.toInt64)), .second, .val (.int (0 : Int32)), .val (.int (0 : Int32)), .val (.int (1 : Int32)), .unset] [(.int (0 : Int32))]))
      refine Done.step (fun _ => XS.istore X19.here hx rfl (hb hby at_110) rfl (l' := #[.val (.int wh), .val (.int a), .val (.int b), .val (.int (0 : Int32)), .val (.ref xLARGEST_FIRST), .val (.ref xSMALLEST_FIRST), .val (.double (FP.l2d a.toInt64)), .second, .val (.double (FP.l2d b.toInt64)), .second, .val (.int (0 : Int32)), .val (.int (0 : Int32)), .val (.int (1 : Int32)), .val (.int (0 : Int32))]) rfl) ?_
      show Done p e below s _ _ (T19.setTop (mkF m 112 #[.val (.int wh), .val (.int a), .val (.int b), .val (.int (0 : Int32)), .val (.ref xLARGEST_FIRST), .val (.ref xSMALLEST_FIRST), .val (.double (FP.l2d a.toInt64)), .second, .val (.double (FP.l2d b.toInt64)), .second, .val (.int (0 : Int32)), .val (.int (0 : Int32)), .val (.int (1 : Int32)), .val (.int (0 : Int32))] []))
      refine Done.step (fun _ => XS.iload X19.here hx rfl (hb hby at_112) rfl) ?_
      show Done p e below s _ _ (T19.setTop (mkF m 114 #[.val (.int wh), .val (.int a), .val (.int b), .val (.int (0 : Int32)), .val (.ref xLARGEST_FIRST), .val (.ref xSMALLEST_FIRST), .val (.double (FP.l2d a.toInt64)), .second, .val (.double (FP.l2d b.toInt64)), .second, .val (.int (0 : Int32)), .val (.int (0 : Int32)), .val (.int (1 : Int32)), .val (.int (0 : Int32))] [(.int (0 : Int32))]))
      refine Done.step (fun _ => XS.iload X19.here hx rfl (hb hby at_114) rfl) ?_
      show Done p e below s _ _ (T19.setTop (mkF m 116 #[.val (.int wh), .val (.int a), .val (.int b), .val (.int (0 : Int32)), .val (.ref xLARGEST_FIRST), .val (.ref xSMALLEST_FIRST), .val (.double (FP.l2d a.toInt64)), .second, .val (.double (FP.l2d b.toInt64)), .second, .val (.int (0 : Int32)), .val (.int (0 : Int32)), .val (.int (1 : Int32)), .val (.int (0 : Int32))] [(.int (0 : Int32)), (.int (0 : Int32))]))
      refine Done.step (fun _ => XS.icmpNo X19.here hx rfl (hb hby at_116) rfl (XT.ii_ne_f rfl)) ?_
      show Done p e below s _ _ (T19.setTop (mkF m 119 #[.val (.int wh), .val (.int a), .val (.int b), .val (.int (0 : Int32)), .val (.ref xLARGEST_FIRST), .val (.ref xSMALLEST_FIRST), .val (.double (FP.l2d a.toInt64)), .second, .val (.double (FP.l2d b.toInt64)), .second, .val (.int (0 : Int32)), .val (.int (0 : Int32)), .val (.int (1 : Int32)), .val (.int (0 : Int32))] []))
      refine Done.step (fun _ => XS.iload X19.here hx rfl (hb hby at_119) rfl) ?_
      show Done p e below s _ _ (T19.setTop (mkF m 121 #[.val (.int wh), .val (.int a), .val (.int b), .val (.int (0 : Int32)), .val (.ref xLARGEST_FIRST), .val (.ref xSMALLEST_FIRST), .val (.double (FP.l2d a.toInt64)), .second, .val (.double (FP.l2d b.toInt64)), .second, .val (.int (0 : Int32)), .val (.int (0 : Int32)), .val (.int (1 : Int32)), .val (.int (0 : Int32))] [(.int (1 : Int32))]))
      refine Done.step (fun _ => XS.ifNo X19.here hx rfl (hb hby at_121) rfl (XT.i0_eq_f (by decide))) ?_
      show Done p e below s _ _ (T19.setTop (mkF m 124 #[.val (.int wh), .val (.int a), .val (.int b), .val (.int (0 : Int32)), .val (.ref xLARGEST_FIRST), .val (.ref xSMALLEST_FIRST), .val (.double (FP.l2d a.toInt64)), .second, .val (.double (FP.l2d b.toInt64)), .second, .val (.int (0 : Int32)), .val (.int (0 : Int32)), .val (.int (1 : Int32)), .val (.int (0 : Int32))] []))
      refine Done.step (fun _ => XS.iload X19.here hx rfl (hb hby at_124) rfl) ?_
      show Done p e below s _ _ (T19.setTop (mkF m 126 #[.val (.int wh), .val (.int a), .val (.int b), .val (.int (0 : Int32)), .val (.ref xLARGEST_FIRST), .val (.ref xSMALLEST_FIRST), .val (.double (FP.l2d a.toInt64)), .second, .val (.double (FP.l2d b.toInt64)), .second, .val (.int (0 : Int32)), .val (.int (0 : Int32)), .val (.int (1 : Int32)), .val (.int (0 : Int32))] [(.int (0 : Int32))]))
      refine Done.step (fun _ => XS.iload X19.here hx rfl (hb hby at_126) rfl) ?_
      show Done p e below s _ _ (T19.setTop (mkF m 128 #[.val (.int wh), .val (.int a), .val (.int b), .val (.int (0 : Int32)), .val (.ref xLARGEST_FIRST), .val (.ref xSMALLEST_FIRST), .val (.double (FP.l2d a.toInt64)), .second, .val (.double (FP.l2d b.toInt64)), .second, .val (.int (0 : Int32)), .val (.int (0 : Int32)), .val (.int (1 : Int32)), .val (.int (0 : Int32))] [(.int (0 : Int32)), (.int (0 : Int32))]))
      refine Done.step (fun _ => XS.icmpNo X19.here hx rfl (hb hby at_128) rfl (XT.ii_ne_f rfl)) ?_
      show Done p e below s _ _ (T19.setTop (mkF m 131 #[.val (.int wh), .val (.int a), .val (.int b), .val (.int (0 : Int32)), .val (.ref xLARGEST_FIRST), .val (.ref xSMALLEST_FIRST), .val (.double (FP.l2d a.toInt64)), .second, .val (.double (FP.l2d b.toInt64)), .second, .val (.int (0 : Int32)), .val (.int (0 : Int32)), .val (.int (1 : Int32)), .val (.int (0 : Int32))] []))
      refine Done.step (fun _ => XT.iconstV X19.here hx rfl (1 : Int32) (hb hby at_131) (by decide)) ?_
      show Done p e below s _ _ (T19.setTop (mkF m 132 #[.val (.int wh), .val (.int a), .val (.int b), .val (.int (0 : Int32)), .val (.ref xLARGEST_FIRST), .val (.ref xSMALLEST_FIRST), .val (.double (FP.l2d a.toInt64)), .second, .val (.double (FP.l2d b.toInt64)), .second, .val (.int (0 : Int32)), .val (.int (0 : Int32)), .val (.int (1 : Int32)), .val (.int (0 : Int32))] [(.int (1 : Int32))]))
      refine Done.step (fun _ => XS.goto X19.here hx rfl (pc0 := 132) (pc' := 136) rfl (hb hby at_132) (by decide) (by decide)) ?_
      show Done p e below s _ _ (T19.setTop (mkF m 136 #[.val (.int wh), .val (.int a), .val (.int b), .val (.int (0 : Int32)), .val (.ref xLARGEST_FIRST), .val (.ref xSMALLEST_FIRST), .val (.double (FP.l2d a.toInt64)), .second, .val (.double (FP.l2d b.toInt64)), .second, .val (.int (0 : Int32)), .val (.int (0 : Int32)), .val (.int (1 : Int32)), .val (.int (0 : Int32))] [(.int (1 : Int32))]))
      exact Done.retN X19 hx hlk (t := .boolean) hret (by simp) (hb hby at_136) (by decide) (by decide) ⟨rfl, N0⟩
set_option maxRecDepth 65536 in
set_option maxHeartbeats 40000000 in
theorem comes_1 {Post : Tables → Env → Array Value → State → Outcome → State → Prop} (hpost : ∀ tb e args s v u, (limb_1_1.after args s (.returned v) u = true ∧ limb_1_2.after args s (.returned v) u = true ∧ True) → FrameEnd s (.returned v) u (Jvm.fieldLocs frame_1_writes args s ++ Jvm.arrayLocs frame_1_arrays args s ++ Jvm.staticLocs frame_1_statics s) 0 0 → Post tb e args s (.returned v) u) :
    ArmFor flags0 classFile x code maxLocals ret World_1 tables_1 room_1 Calls_1 rest_1 Pre_1 Post := by
  intro l hfl _ _ p e ha hc hk s m args below hf hA hF happ hP
  obtain ⟨hcalls, hrest, hpre⟩ := hP
  obtain ⟨-, -, -, hnamed, -, -, -, hat⟩ := (Spec.applies_iff hf).mp happ
  obtain ⟨hg, hn⟩ := and_e (Cond.before_iff.mp (show (Jvm.Cond.and given_1 narrow_1).before args s = true from hpre))
  obtain ⟨w0, w1, w2, rfl⟩ : ∃ w0 w1 w2 : Value, args = #[w0, w1, w2] := by
    have hs : args.size = 3 := by simpa [Cond.value] using (and_e hg).1
    obtain ⟨L⟩ := args
    match L, hs with
    | [w0, w1, w2], _ => exact ⟨w0, w1, w2, rfl⟩
  have hw := fun d (hd : d ∈ tables_1) => atoms_spec (ws := Jvm.Cond.code x code maxLocals ret :: tables_1) hat d (List.mem_cons_of_mem _ hd)
  have hfit : Fit s := fun {y c} hc i hi => by
    obtain ⟨ha, rfl⟩ := Array.getElem?_eq_some_iff.mp hc
    have q := List.all_eq_true.mp ((Array.all_eq_true_iff_forall_mem.mp hF) _ (Array.getElem_mem ha)) i (List.mem_range.mpr hi)
    simpa [Array.getElem?_eq_getElem hi] using q
  obtain ⟨_, hg0⟩ := and_e hg
  obtain ⟨ga0, hg1⟩ := and_e hg0
  obtain ⟨i0, ei0⟩ := is_v ga0
  obtain rfl : w0 = (.int i0) := Option.some.inj ei0
  obtain ⟨ga1, hg2⟩ := and_e hg1
  obtain ⟨i1, ei1⟩ := is_v ga1
  obtain rfl : w1 = (.int i1) := Option.some.inj ei1
  obtain ⟨i2, ei2⟩ := is_v hg2
  obtain rfl : w2 = (.int i2) := Option.some.inj ei2
  obtain ⟨na1, nb1⟩ := and_e hn
  obtain ⟨na2, nb2⟩ := and_e nb1
  obtain ⟨na3, nb3⟩ := and_e nb2
  obtain ⟨xSMALLEST_FIRST, vSMALLEST_FIRST⟩ := exa_v na1
  have ESMALLEST_FIRST := Exa.start vSMALLEST_FIRST na1
  have SSMALLEST_FIRST := Sta.start vSMALLEST_FIRST (Or.inr ⟨(wAt hw 1 rfl), (wAt hw 2 rfl)⟩)
  have FSMALLEST_FIRST := Fld.start ((fld_at vSMALLEST_FIRST).symm.trans (int_eq_v nb3))
  obtain ⟨xLARGEST_FIRST, vLARGEST_FIRST⟩ := exa_v na2
  have ELARGEST_FIRST := Exa.start vLARGEST_FIRST na2
  have SLARGEST_FIRST := Sta.start vLARGEST_FIRST (Or.inr ⟨(wAt hw 1 rfl), (wAt hw 4 rfl)⟩)
  have FLARGEST_FIRST := Fld.start ((fld_at vLARGEST_FIRST).symm.trans (int_eq_v na3))
  have nSMALLEST_FIRST_LARGEST_FIRST : xSMALLEST_FIRST ≠ xLARGEST_FIRST := Fld.ne FSMALLEST_FIRST FLARGEST_FIRST (by decide)
  obtain ⟨n, o, h1, h2, h3, _, L, rfl, ⟨rfl, N⟩, hq⟩ := rm0 l s _ hw tables_1 i0 i1 i2 xSMALLEST_FIRST xLARGEST_FIRST s.heap s.heap.size (Nat.le_refl _) SSMALLEST_FIRST ESMALLEST_FIRST SLARGEST_FIRST ELARGEST_FIRST nSMALLEST_FIRST_LARGEST_FIRST p e ha hc hk s m _ below hf ((Spec.applies_iff_loose hf).mp happ).1 ⟨rfl, State.Warmed39.refl s, rfl⟩ trivial
  refine ⟨n, _, h1, h2, h3, hpost _ _ _ _ _ _ ⟨Cond.after_iff.mpr rfl, Cond.after_iff.mpr (eq_i res_at (Term.int_eval (1)) rfl), trivial⟩ ⟨hq.1, hq.2.1, (hq.2.2.sift fun y hy => Or.inr (N y hy)).mono (by decide) (by decide)⟩⟩
theorem main_1_1 : Claimed_1_1 := comes_1 fun _ _ _ _ _ _ h hF => ⟨h.1, hF⟩
theorem main_1_2 : Claimed_1_2 := comes_1 fun _ _ _ _ _ _ h hF => ⟨h.2.1, hF⟩
end Jvm.Pilot.@@N@@
namespace Jvm.Pilot.@@N@@
open Jvm Jvm.ClassFile Sem Op Lib Jvm.Free Jvm.Stand Jvm.Pilot.@@N@@.Jvm.D
/-! MADE BY PROGRAM (witnessworld.py) out of the Statement's table words and the real class files: 12 classes; the members and pool entries that the words name. The judged class is class 1, her method 1. -/
namespace start1
open Jvm.ClassFile
def u (s : String) : CpInfo := .utf8 (stringToUtf16 s)
/-- a pool by its gaps: so many unusable entries, then the entry; so many at the end -/
def gap : Nat → List CpInfo → List CpInfo
  | 0, r => r
  | n + 1, r => .unusable :: gap n r
def poolList (es : List (Nat × CpInfo)) (last : Nat) : List CpInfo := es.foldr (fun e r => gap e.1 (e.2 :: r)) (gap last [])
def pool (es : List (Nat × CpInfo)) (last : Nat) : Array CpInfo := ⟨poolList es last⟩
def fileOf (pool : Array CpInfo) (this : Nat) (attrs : Array Attribute := #[]) (ms : Array MethodInfo := #[]) (fl : Nat := 33) (sup : Nat := 0) (ifs : Array Nat := #[]) (fds : Array FieldInfo := #[]) : ClassFile where
  minorVersion := 0
  majorVersion := 65
  constantPool := pool
  accessFlags := fl
  thisClass := this
  superClass := sup
  interfaces := ifs
  fields := fds
  methods := ms
  attributes := attrs
def plain (name : String) (sup : Option ClassId) : Class where
  name := name
  kind := .ordinary
  loader := none
  accessFlags := 33
  super := sup
  interfaces := #[]
  cf := none
  fields := #[]
  methods := #[]
  instanceTypes := #[]
  staticTypes := #[]
  resolved := #[]
  callSites := []
  init := .initialized
  statics := none
  mirror := none

def pool0 : Array CpInfo := pool [(5, u "<init>"), (0, u "()V"), (1, .class_ 10), (1, u "java/lang/Object")] 113

def k0m0 : Method := { name := "<init>", desc := "()V", sig := { parameters := [], returnType := none }, accessFlags := 1, code := none }
/-- java/lang/Object -/
def k0 : Class := { plain "java/lang/Object" none with
  accessFlags := 33
  interfaces := #[]
  cf := some (fileOf pool0 8 #[] #[{ accessFlags := 1, nameIndex := 5, descriptorIndex := 6, attributes := #[] }] 33 0 #[] #[])
  fields := #[]
  methods := #[k0m0]
  instanceTypes := #[]
  staticTypes := #[]
  resolved := Array.replicate 124 none
  statics := none }

def pool1 : Array CpInfo := pool [(2, .class_ 4), (1, u "java/lang/Object"), (0, u "<init>"), (0, u "()V"), (0, .fieldref 8 9), (0, .class_ 10), (0, .nameAndType 11 12), (0, u "com/example/ithuriel/ithuriel/search/Ranking"), (0, u "SMALLEST_FIRST"), (0, u "Lcom/example/ithuriel/ithuriel/search/Ranking;"), (0, .fieldref 8 14), (0, .nameAndType 15 12), (0, u "LARGEST_FIRST"), (0, .methodref 8 17), (0, .nameAndType 18 19), (0, u "reaches"), (0, u "(DD)Z"), (0, .class_ 21), (0, u "com/example/ithuriel/ithuriel/search/RankingReachesPinLaw"), (2, u "law"), (0, u "(III)Z")] 3

def k1m0 : Method := { name := "<init>", desc := "()V", sig := { parameters := [], returnType := none }, accessFlags := 1, code := none }
def k1c1 : Code := { maxStack := 5, maxLocals := 14, code := code, exceptionTable := #[], attributes := #[] }
def k1m1 : Method := { name := "law", desc := "(III)Z", sig := { parameters := [.int, .int, .int], returnType := some .boolean }, accessFlags := 9, code := some k1c1 }
/-- com/example/ithuriel/ithuriel/search/RankingReachesPinLaw -/
def k1 : Class := { plain "com/example/ithuriel/ithuriel/search/RankingReachesPinLaw" (some 0) with
  accessFlags := 49
  interfaces := #[]
  cf := some (fileOf pool1 20 #[] #[{ accessFlags := 1, nameIndex := 5, descriptorIndex := 6, attributes := #[] }, { accessFlags := 9, nameIndex := 24, descriptorIndex := 25, attributes := #[] }] 49 2 #[] #[])
  fields := #[]
  methods := #[k1m0, k1m1]
  instanceTypes := #[]
  staticTypes := #[]
  resolved := Array.replicate 29 none
  statics := none }

def pool2 : Array CpInfo := pool [(1, .class_ 2), (0, u "java/lang/constant/Constable"), (0, .class_ 4), (0, u "java/lang/Object")] 6

/-- java/lang/constant/Constable -/
def k2 : Class := { plain "java/lang/constant/Constable" (some 0) with
  accessFlags := 1537
  interfaces := #[]
  cf := some (fileOf pool2 1 #[] #[] 1537 3 #[] #[])
  fields := #[]
  methods := #[]
  instanceTypes := #[]
  staticTypes := #[]
  resolved := Array.replicate 11 none
  statics := none }

def pool3 : Array CpInfo := pool [(1, .class_ 2), (0, u "java/lang/Comparable"), (0, .class_ 4), (0, u "java/lang/Object")] 7

/-- java/lang/Comparable -/
def k3 : Class := { plain "java/lang/Comparable" (some 0) with
  accessFlags := 1537
  interfaces := #[]
  cf := some (fileOf pool3 1 #[] #[] 1537 3 #[] #[])
  fields := #[]
  methods := #[]
  instanceTypes := #[]
  staticTypes := #[]
  resolved := Array.replicate 12 none
  statics := none }

def pool4 : Array CpInfo := pool [(1, .class_ 2), (0, u "java/io/Serializable"), (0, .class_ 4), (0, u "java/lang/Object")] 2

/-- java/io/Serializable -/
def k4 : Class := { plain "java/io/Serializable" (some 0) with
  accessFlags := 1537
  interfaces := #[]
  cf := some (fileOf pool4 1 #[] #[] 1537 3 #[] #[])
  fields := #[]
  methods := #[]
  instanceTypes := #[]
  staticTypes := #[]
  resolved := Array.replicate 7 none
  statics := none }

def pool5 : Array CpInfo := pool [(2, .class_ 4), (1, u "java/lang/Enum"), (0, u "name"), (0, u "Ljava/lang/String;"), (2, u "ordinal"), (0, u "I"), (1, .class_ 14), (1, u "java/lang/Object"), (4, u "hash"), (86, .class_ 108), (1, u "java/lang/Enum$EnumDesc"), (2, .class_ 112), (0, u "java/lang/constant/Constable"), (0, .class_ 114), (0, u "java/lang/Comparable"), (0, .class_ 116), (0, u "java/io/Serializable")] 87

/-- java/lang/Enum -/
def k5 : Class := { plain "java/lang/Enum" (some 0) with
  accessFlags := 1057
  interfaces := #[2, 3, 4]
  cf := some (fileOf pool5 2 #[.nestMembers #[106]] #[] 1057 12 #[111, 113, 115] #[{ accessFlags := 18, nameIndex := 5, descriptorIndex := 6, attributes := #[] }, { accessFlags := 18, nameIndex := 9, descriptorIndex := 10, attributes := #[] }, { accessFlags := 2, nameIndex := 19, descriptorIndex := 10, attributes := #[] }])
  fields := #[{ name := "name", type := (.object "java/lang/String"), accessFlags := 18, slot := 0, constantValue := 0 }, { name := "ordinal", type := .int, accessFlags := 18, slot := 1, constantValue := 0 }, { name := "hash", type := .int, accessFlags := 2, slot := 2, constantValue := 0 }]
  methods := #[]
  instanceTypes := #[(.object "java/lang/String"), .int, .int]
  staticTypes := #[]
  resolved := Array.replicate 204 none
  statics := none }

def pool6 : Array CpInfo := pool [(1, .class_ 2), (0, u "com/example/ithuriel/ithuriel/search/Ranking"), (0, .fieldref 1 4), (0, .nameAndType 5 6), (0, u "SMALLEST_FIRST"), (0, u "Lcom/example/ithuriel/ithuriel/search/Ranking;"), (2, u "LARGEST_FIRST"), (2, u "$VALUES"), (0, u "[Lcom/example/ithuriel/ithuriel/search/Ranking;"), (6, .class_ 22), (1, u "java/lang/Enum"), (18, u "order"), (0, u "Ljava/util/Comparator;"), (30, u "reaches"), (0, u "(DD)Z")] 40

def k6c0 : Code := { maxStack := 4, maxLocals := 5, code := prog_140_method_5_code, exceptionTable := #[], attributes := #[] }
def k6m0 : Method := { name := "reaches", desc := "(DD)Z", sig := { parameters := [.double, .double], returnType := some .boolean }, accessFlags := 1, code := some k6c0 }
/-- com/example/ithuriel/ithuriel/search/Ranking -/
def k6 : Class := { plain "com/example/ithuriel/ithuriel/search/Ranking" (some 5) with
  accessFlags := 16433
  interfaces := #[]
  cf := some (fileOf pool6 1 #[] #[{ accessFlags := 1, nameIndex := 73, descriptorIndex := 74, attributes := #[] }] 16433 20 #[] #[{ accessFlags := 16409, nameIndex := 5, descriptorIndex := 6, attributes := #[] }, { accessFlags := 16409, nameIndex := 9, descriptorIndex := 6, attributes := #[] }, { accessFlags := 18, nameIndex := 41, descriptorIndex := 42, attributes := #[] }, { accessFlags := 4122, nameIndex := 12, descriptorIndex := 13, attributes := #[] }])
  fields := #[{ name := "SMALLEST_FIRST", type := (.object "com/example/ithuriel/ithuriel/search/Ranking"), accessFlags := 16409, slot := 0, constantValue := 0 }, { name := "LARGEST_FIRST", type := (.object "com/example/ithuriel/ithuriel/search/Ranking"), accessFlags := 16409, slot := 1, constantValue := 0 }, { name := "order", type := (.object "java/util/Comparator"), accessFlags := 18, slot := 3, constantValue := 0 }, { name := "$VALUES", type := (.array (.object "com/example/ithuriel/ithuriel/search/Ranking")), accessFlags := 4122, slot := 2, constantValue := 0 }]
  methods := #[k6m0]
  instanceTypes := #[(.object "java/lang/String"), .int, .int, (.object "java/util/Comparator")]
  staticTypes := #[(.object "com/example/ithuriel/ithuriel/search/Ranking"), (.object "com/example/ithuriel/ithuriel/search/Ranking"), (.array (.object "com/example/ithuriel/ithuriel/search/Ranking"))]
  resolved := Array.replicate 115 none
  statics := some 0 }

def pool7 : Array CpInfo := pool [(1, u "java/lang/Cloneable"), (0, .class_ 1), (0, u "java/lang/Object"), (0, .class_ 3)] 3

/-- java/lang/Cloneable -/
def k7 : Class := { plain "java/lang/Cloneable" (some 0) with
  accessFlags := 1537
  interfaces := #[]
  cf := some (fileOf pool7 2 #[] #[] 1537 4 #[] #[])
  fields := #[]
  methods := #[]
  instanceTypes := #[]
  staticTypes := #[]
  resolved := Array.replicate 8 none
  statics := none }

/-- the primitive byte -/
def k8 : Class := { plain "byte" none with kind := .primitive 'B', accessFlags := 0x411 }
/-- [B -/
def k9 : Class := { plain "[B" (some 0) with kind := .array 8 .byte, interfaces := #[7, 4], accessFlags := 1041 }

/-- the primitive int -/
def k10 : Class := { plain "int" none with kind := .primitive 'I', accessFlags := 0x411 }
/-- [I -/
def k11 : Class := { plain "[I" (some 0) with kind := .array 10 .int, interfaces := #[7, 4], accessFlags := 1041 }

def heap : Heap := #[{ cls := 6, slots := #[.ref 1, .ref 2, .null], vm := .statics 6 },
  { cls := 6, slots := #[.null, .int 0, .int 0, .null], vm := .none },
  { cls := 6, slots := #[.null, .int 1, .int 0, .null], vm := .none }]
def classes : Array Class := #[k0, k1, k2, k3, k4, k5, k6, k7, k8, k9, k10, k11]
def interned : List (Array UInt16 × Addr) := []
def slotsUsed : Nat := 11
def theMethod : MethodId := ⟨1, 1⟩
def args0 : Array Value := #[.int 5, .int 6, .int 7]
def aboutOver (below : List Frame) : State where
  vm := { classes := classes, interned := interned.toArray }
  heap := heap
  slotsUsed := slotsUsed
  threads := #[{ frames := .invoking theMethod args0 :: below }]
def below0 : List Frame := [.native { method := ⟨0, 0⟩, args := #[] }]
def about1 : State := aboutOver below0
def p0 : Program := .bare "" "" ""
def e0 : Env := launch0.env 0 0 0
theorem w_frames : about1.frames = Frame.invoking theMethod args0 :: below0 := rfl
set_option maxRecDepth 65536 in
theorem w_args : argsFit about1.vm theMethod args0 = true := by decide +kernel
set_option maxRecDepth 65536 in
theorem w_heap : heapFits about1 = true := by decide +kernel
set_option maxRecDepth 65536 in
theorem w_runnable : about1.curStatus? = some .runnable := by decide +kernel
set_option maxRecDepth 65536 in
theorem w_alone : about1.alone = true := by decide +kernel
set_option maxRecDepth 65536 in
theorem w_named : about1.methodNamed? x = some theMethod := by decide +kernel
set_option maxRecDepth 65536 in
theorem w_hears : about1.hears theMethod below0 = true := by decide +kernel
set_option maxRecDepth 65536 in
theorem w_ripe : about1.ripe theMethod args0 below0 = true := by decide +kernel
theorem w_running : about1.status = .running := rfl
set_option maxRecDepth 65536 in
theorem w_room : about1.hasRoom e0.platform room_1 = true :=
  launch0.hasRoom_least _ room_1 (by decide +kernel) (by decide +kernel) (by decide +kernel) (by decide +kernel) (by decide +kernel) (by decide +kernel)
theorem allAtoms_all (ts : List Jvm.Cond) (a : Array Jvm.Value) (st : Jvm.State) : (allAtoms ts).before a st = ts.all (fun c => c.before a st) := by
  induction ts with
  | nil => rfl
  | cons c t ih =>
    show (Jvm.Cond.and c (allAtoms t)).before a st = _
    rw [Jvm.Cond.before_and, ih, List.all_cons]
def words1 : List Jvm.Cond := Jvm.Cond.code x code maxLocals ret :: tables_1
/-- a 'code' word, met by the world's own term for the bytes: nothing is compared byte by byte -/
theorem code_word {y : MethodName} {bytes : ByteArray} {mx : Nat} {rt : Option FieldType} {a : Array Value} {s : State} {m : MethodId} {meth : Method} {c : Code} (h1 : s.methodNamed? y = some m) (h2 : s.vm.method? m = some meth) (h3 : meth.code = some c) (h4 : c.code = bytes)
    (h5 : (c.maxLocals == mx && c.exceptionTable.isEmpty && decide (c.maxStack ≤ mostOperands) && decide (meth.sig.returnType = rt) && !meth.locks && decide (parseMethodDescriptor y.desc = some meth.sig)) = true) : (Jvm.Cond.code y bytes mx rt).before a s = true := by
  simp only [Bool.and_eq_true, beq_iff_eq, Bool.not_eq_true', decide_eq_true_eq] at h5
  obtain ⟨⟨⟨⟨⟨g1, g2⟩, g3⟩, g4⟩, g5⟩, g6⟩ := h5
  simp [Cond.before, Cond.holds, Cond.value, h1, h2, h3, h4, g1, g2, g3, g4, g5, g6]
def isCode : Jvm.Cond → Bool
  | .code _ _ _ _ => true
  | _ => false
theorem all_split {L : List Jvm.Cond} {P : Jvm.Cond → Bool} (h1 : L.all (fun c => isCode c || P c) = true) (h2 : ∀ c ∈ L.filter isCode, P c = true) : L.all P = true := by
  refine List.all_eq_true.mpr fun c hc => ?_
  have h := List.all_eq_true.mp h1 c hc
  rcases Bool.eq_false_or_eq_true (isCode c) with hi | hi
  · exact h2 c (List.mem_filter.mpr ⟨hc, hi⟩)
  · simpa [hi] using h
set_option maxRecDepth 65536 in
theorem w_c0 : (Jvm.Cond.code x code maxLocals ret).before args0 about1 = true := code_word (m := ⟨1, 1⟩) (meth := k1m1) (c := k1c1) (by decide +kernel) rfl rfl rfl (by decide +kernel)
set_option maxRecDepth 65536 in
theorem w_c1 : (Jvm.Cond.code ({ cls := "com/example/ithuriel/ithuriel/search/Ranking", name := "reaches", desc := "(DD)Z" } : Jvm.MethodName) prog_140_method_5_code (5 : Nat) (Option.some Jvm.ClassFile.FieldType.boolean)).before args0 about1 = true := code_word (m := ⟨6, 0⟩) (meth := k6m0) (c := k6c0) (by decide +kernel) rfl rfl rfl (by decide +kernel)
def codes1 : List Jvm.Cond := [Jvm.Cond.code x code maxLocals ret, Jvm.Cond.code ({ cls := "com/example/ithuriel/ithuriel/search/Ranking", name := "reaches", desc := "(DD)Z" } : Jvm.MethodName) prog_140_method_5_code (5 : Nat) (Option.some Jvm.ClassFile.FieldType.boolean)]
set_option maxRecDepth 65536 in
theorem codes_eq : words1.filter isCode = codes1 := rfl
theorem w_codes : ∀ c ∈ words1.filter isCode, c.before args0 about1 = true := by
  rw [codes_eq]
  intro c hc
  simp only [codes1, List.mem_cons, List.not_mem_nil, or_false] at hc
  rcases hc with rfl | rfl
  · exact w_c0
  · exact w_c1
set_option maxRecDepth 65536 in
theorem w_t1 : words1.all (fun c => isCode c || c.before args0 about1) = true := by decide +kernel
theorem w_tables : (allAtoms (Jvm.Cond.code x code maxLocals ret :: tables_1)).before args0 about1 = true := by
  rw [allAtoms_all]
  show words1.all (fun c => c.before args0 about1) = true
  refine all_split ?_ w_codes
  rw [w_t1]
set_option maxRecDepth 65536 in
theorem w_case : (Jvm.Cond.and given_1 narrow_1).before args0 about1 = true := by decide +kernel
theorem w_applies : (headSpec (Jvm.Cond.code x code maxLocals ret :: tables_1) room_1).applies x e0.platform about1 = true :=
  (Spec.applies_iff w_frames).mpr ⟨w_running, w_runnable, w_alone, w_named, w_hears, w_ripe, w_room, w_tables⟩
theorem atStart : AtStart classFile x code maxLocals ret World_1 tables_1 room_1 Calls_1 rest_1 Pre_1 launch0 p0 e0 about1 theMethod args0 below0 :=
  ⟨lists_1, trivial, launch0.admits_env _ _ _, launch0.least_env, fairChoices_fair.cas, fairChoices_fair.clock, w_frames, w_args, w_heap, w_applies, trivial, trivial, w_case⟩
end start1
theorem witness_1 : WitnessClaimed_1 := ⟨start1.p0, start1.e0, start1.about1, start1.theMethod, start1.args0, start1.below0, start1.atStart⟩
end Jvm.Pilot.@@N@@
