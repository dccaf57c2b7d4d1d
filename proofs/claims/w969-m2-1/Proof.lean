import JvmDerived
import JvmDerived.Pilot.@@N@@Statement
import JvmDerived.Pilot.@@N@@Code
set_option linter.unusedVariables false
set_option linter.unusedSimpArgs false
namespace Jvm.OwnKit
open Sem ClassFile Op Lib Jvm.Stand Jvm.Free Jvm.LawKit Jvm.RoadKit
section Own
variable {p : Program} {l : Launch} {e : Env} {R : Room} {s : State} {m : MethodId} {args : Array Value} {below : List Frame} {meth : Method} {c : Code} {T : State} {locs : List Loc} {cells slots : Nat} {Z : State} {a0 : Array Value} {h : Heap}
/-- a walk comes to its return; Q says what it leaves -/
def Done (p : Program) (e : Env) (below : List Frame) (s : State) (R : Room) (Q : Option Value → Heap → List Loc → Prop) (U : State) : Prop :=
  ∃ s₂ o, Steps p.tables e below U s₂ ∧ s₂.status = .running ∧ Ended s₂ below o ∧ ∃ v L, o = .returned v ∧ Q v s₂.heap L ∧ FrameEnd s o s₂ L R.cells R.slots
variable {Q : Option Value → Heap → List Loc → Prop} {U U' : State}
theorem Done.step (k : ∀ t, Steps p.tables e below U' t → Steps p.tables e below U t) (h : Done p e below s R Q U') : Done p e below s R Q U := by
  obtain ⟨s₂, o, h1, r⟩ := h
  exact ⟨s₂, o, k _ h1, r⟩
theorem Done.go (k : Steps p.tables e below U U') (h : Done p e below s R Q U') : Done p e below s R Q U := by
  obtain ⟨s₂, o, h1, r⟩ := h
  exact ⟨s₂, o, k.trans h1, r⟩
theorem Done.mono {Q' : Option Value → Heap → List Loc → Prop} (q : ∀ v h L, Q v h L → Q' v h L) (h : Done p e below s R Q U) : Done p e below s R Q' U := by
  obtain ⟨s₂, o, h1, h2, h3, v, L, h4, h5, h6⟩ := h
  exact ⟨s₂, o, h1, h2, h3, v, L, h4, q _ _ _ h5, h6⟩
theorem Done.retI (X : Stand p l e R s m args below meth c T locs cells slots) (hx : p.tables.exec = Jvm.exec) (hlk : meth.locks = false) {pc : Nat} {Ls : Array Slot} {z : Int32} {rest : List Value} (hret : meth.sig.returnType = some .int) (hd : decode c.code pc = .ok (.ireturn, 1))
    (hc : cells ≤ R.cells) (hs : slots ≤ R.slots) (hq : Q (some (.int z)) T.heap locs) : Done p e below s R Q (T.setTop (mkF m pc Ls (.int z :: rest))) := by
  obtain ⟨fs, hr, hrun, hended, hW, hsame⟩ := X.leave (v := some (.int z)) (fun h => by rw [hret] at h; cases h) hlk
  exact ⟨_, _, retOut X hx hret rfl (Or.inl ⟨rfl, Or.inl rfl, z, rfl⟩) hd hr, hrun, hended, _, _, rfl, hq, ⟨_, rfl⟩, hW, hsame.mono hc hs⟩
theorem Done.retJ (X : Stand p l e R s m args below meth c T locs cells slots) (hx : p.tables.exec = Jvm.exec) (hlk : meth.locks = false) {pc : Nat} {Ls : Array Slot} {z : Int64} {rest : List Value} (hret : meth.sig.returnType = some .long) (hd : decode c.code pc = .ok (.lreturn, 1))
    (hc : cells ≤ R.cells) (hs : slots ≤ R.slots) (hq : Q (some (.long z)) T.heap locs) : Done p e below s R Q (T.setTop (mkF m pc Ls (.long z :: rest))) := by
  obtain ⟨fs, hr, hrun, hended, hW, hsame⟩ := X.leave (v := some (.long z)) (fun h => by rw [hret] at h; cases h) hlk
  exact ⟨_, _, retOut X hx hret rfl (Or.inr (Or.inl ⟨rfl, rfl, z, rfl⟩)) hd hr, hrun, hended, _, _, rfl, hq, ⟨_, rfl⟩, hW, hsame.mono hc hs⟩
theorem Done.retD (X : Stand p l e R s m args below meth c T locs cells slots) (hx : p.tables.exec = Jvm.exec) (hlk : meth.locks = false) {pc : Nat} {Ls : Array Slot} {z : UInt64} {rest : List Value} (hret : meth.sig.returnType = some .double) (hd : decode c.code pc = .ok (.dreturn, 1))
    (hc : cells ≤ R.cells) (hs : slots ≤ R.slots) (hq : Q (some (.double z)) T.heap locs) : Done p e below s R Q (T.setTop (mkF m pc Ls (.double z :: rest))) := by
  obtain ⟨fs, hr, hrun, hended, hW, hsame⟩ := X.leave (v := some (.double z)) (fun h => by rw [hret] at h; cases h) hlk
  exact ⟨_, _, retOut X hx hret rfl (Or.inr (Or.inr (Or.inl ⟨rfl, rfl, z, rfl⟩))) hd hr, hrun, hended, _, _, rfl, hq, ⟨_, rfl⟩, hW, hsame.mono hc hs⟩
theorem Done.retA (X : Stand p l e R s m args below meth c T locs cells slots) (hx : p.tables.exec = Jvm.exec) (hlk : meth.locks = false) {pc : Nat} {Ls : Array Slot} {w : Value} {t : FieldType} {rest : List Value} (hret : meth.sig.returnType = some t) (ht : t.isReference = true) (hw : w.isRef = true) (hd : decode c.code pc = .ok (.areturn, 1))
    (hc : cells ≤ R.cells) (hs : slots ≤ R.slots) (hq : Q (some w) T.heap locs) : Done p e below s R Q (T.setTop (mkF m pc Ls (w :: rest))) := by
  obtain ⟨fs, hr, hrun, hended, hW, hsame⟩ := X.leave (v := some w) (fun h => by rw [hret] at h; cases h) hlk
  have hn : narrow t w = w := by rcases ref_cases hw with rfl | ⟨a, rfl⟩ <;> cases t <;> rfl
  exact ⟨_, _, retOut X hx hret hn (Or.inr (Or.inr (Or.inr (Or.inr ⟨rfl, ht, hw⟩)))) hd hr, hrun, hended, _, _, rfl, hq, ⟨_, rfl⟩, hW, hsame.mono hc hs⟩
theorem Done.retN (X : Stand p l e R s m args below meth c T locs cells slots) (hx : p.tables.exec = Jvm.exec) (hlk : meth.locks = false) {pc : Nat} {Ls : Array Slot} {z : Int32} {t : FieldType} {rest : List Value} (hret : meth.sig.returnType = some t) (ht : t = .boolean ∨ t = .byte ∨ t = .char ∨ t = .short) (hd : decode c.code pc = .ok (.ireturn, 1))
    (hc : cells ≤ R.cells) (hs : slots ≤ R.slots) (hq : Q (some (.int (nar t z))) T.heap locs) : Done p e below s R Q (T.setTop (mkF m pc Ls (.int z :: rest))) := by
  obtain ⟨fs, hr, hrun, hended, hW, hsame⟩ := X.leave (v := some (.int (nar t z))) (fun h => by rw [hret] at h; cases h) hlk
  exact ⟨_, _, Jvm.RoadKit.retN X hx hret ht hd hr, hrun, hended, _, _, rfl, hq, ⟨_, rfl⟩, hW, hsame.mono hc hs⟩
theorem Done.retV (X : Stand p l e R s m args below meth c T locs cells slots) (hx : p.tables.exec = Jvm.exec) (hlk : meth.locks = false) {pc : Nat} {Ls : Array Slot} (hret : meth.sig.returnType = none) (hd : decode c.code pc = .ok (.return_, 1))
    (hc : cells ≤ R.cells) (hs : slots ≤ R.slots) (hq : Q none T.heap locs) : Done p e below s R Q (T.setTop (mkF m pc Ls [])) := by
  obtain ⟨fs, hr, hrun, hended, hW, hsame⟩ := X.leave (v := none) (fun _ => rfl) hlk
  exact ⟨_, _, X.returnOut hx hret hd hr, hrun, hended, _, _, rfl, hq, ⟨_, rfl⟩, hW, hsame.mono hc hs⟩
/-- a body's contract: from the arguments as' and the heap h0 it returns, and Q holds -/
def Ctr (l : Launch) (Z : State) (y : MethodName) (code : ByteArray) (ml : Nat) (rt : Option FieldType) (ws : List Jvm.Cond) (rm : Room) (as' : Array Value) (h0 : Heap) (Q : Option Value → Heap → List Loc → Prop) : Prop :=
  MetFree l y (head1 (Jvm.Cond.code y code ml rt :: ws) rm) (fun a U => a = as' ∧ Z.Warmed39 U.vm ∧ U.heap = h0) (fun _ _ _ _ _ => True) (fun _ U o U' => ∃ v L, o = .returned v ∧ Q v U'.heap L ∧ FrameEnd U o U' L rm.cells rm.slots)
theorem Ctr.mono {y : MethodName} {code : ByteArray} {ml : Nat} {rt : Option FieldType} {ws : List Jvm.Cond} {rm : Room} {as' : Array Value} {h0 : Heap} {Q' : Option Value → Heap → List Loc → Prop} (H : Ctr l Z y code ml rt ws rm as' h0 Q) (q : ∀ v h L, Q v h L → Q' v h L) : Ctr l Z y code ml rt ws rm as' h0 Q' := by
  intro p e ha hc hk s m args below hf happ hP hK
  obtain ⟨n, o, h1, h2, h3, v, L, h4, h5, h6⟩ := H p e ha hc hk s m args below hf happ hP hK
  exact ⟨n, o, h1, h2, h3, v, L, h4, q _ _ _ h5, h6⟩
theorem Ctr.intro {y : MethodName} {code : ByteArray} {ml : Nat} {rt : Option FieldType} {ws : List Jvm.Cond} {rm : Room} {as' : Array Value} {h0 : Heap} {Ls : Array Slot} (hpl : plainFor y = true) (hf : ∀ m, entryFrame m as' ml = mkF m 0 Ls [])
    (body : ∀ (p : Program) (e : Env) (s : State) (m : MethodId) (below : List Frame) (meth : Method) (c : Code) (T : State), p.tables.exec = Jvm.exec → c.code = code → c.maxLocals = ml → s.vm.findClass y.cls = some m.cls → meth.name = y.name → meth.sig.returnType = rt → meth.locks = false → Z.Warmed39 s.vm → T.heap = h0 →
      Stand p l e rm s m as' below meth c T [] 0 0 → Done p e below s rm Q (T.setTop (mkF m 0 Ls []))) : Ctr l Z y code ml rt ws rm as' h0 Q := by
  refine MetFree.of_bodySF hpl hisR ?_
  intro p e s m args below meth c s₁ Bd hml0 hP hK
  obtain ⟨rfl, hZ, hh⟩ := hP
  have X0 : Stand p l e rm s m args below meth c s₁ [] 0 0 := Stand.of_body Bd
  have e0 : s₁.heap = h0 := by rw [← hh, Bd.state]; rfl
  obtain ⟨s₂, o, h1, r⟩ := body p e s m below meth c s₁ Bd.exec Bd.bytes hml0 (findClass_of_methodNamed Bd.named) (name_of_methodNamed Bd.named Bd.method).1 Bd.returns Bd.notSynchronized hZ e0 X0
  exact ⟨s₂, o, castTop (hf m) h1, r⟩
theorem Ctr.back {y : MethodName} {bytes : ByteArray} {maxL : Nat} {ret : Option FieldType} {rm : Room} {len W : Nat} {as' : Array Value} (hM : Ctr l Z y bytes maxL ret [] rm as' h Q)
    (hZ : Z.Warmed39 s.vm) (wc : (Jvm.Cond.code y bytes maxL ret).before a0 Z = true) (wz : (Jvm.Cond.initialized y.cls).before a0 Z = true) (hf : rm.frames + 1 ≤ R.frames) (hl : W + (maxL + 11) + rm.locals ≤ R.locals) :
    Back l R p e below s args y len W (fun A a => a = as' ∧ A.U.heap = h ∧ A.cells + rm.cells ≤ R.cells ∧ A.slots + rm.slots ≤ R.slots)
      (fun A _ v B => ∃ L, Q v B.U.heap L ∧ B.locs = A.locs ++ L ∧ B.cells = A.cells + rm.cells ∧ B.slots = A.slots + rm.slots) := backOf (Q := Q) hM hZ wc wz hf hl
theorem wAt {ws : List Jvm.Cond} (hw : ∀ d ∈ ws, d.before a0 Z = true) (k : Nat) {d : Jvm.Cond} (q : ws[k]? = some d) : d.before a0 Z = true := hw _ (List.mem_of_getElem? q)
theorem int_eq_v {first s : State} {o : Option Outcome} {idx : List Nat} {t : Term} {k : Int32} (q : (Jvm.Cond.eq t (.int k)).value args first o s idx = some true) : t.eval args first o idx s = some (.int k) := by
  cases ht : t.eval args first o idx s with
  | none => simp [Cond.value, ht] at q
  | some x => cases x <;> simp [Cond.value, Term.eval, ht] at q ⊢; exact q
/-- a truth value as the JVM returns it -/
def bP (P : Prop) [Decidable P] : Int32 := if P then 1 else 0
theorem bP_t {P : Prop} [Decidable P] (q : P) : bP P = 1 := if_pos q
theorem bP_f {P : Prop} [Decidable P] (q : ¬ P) : bP P = 0 := if_neg q
/-- what a law leaves: it returns 1, and wrote in new cells alone -/
def LawQ (n0 : Nat) : Option Value → Heap → List Loc → Prop := fun v _ L => v = some (.int 1) ∧ Fr n0 L
/-- what a body leaves that writes and makes nothing -/
def PureQ (r : Option Value) (h0 : Heap) : Option Value → Heap → List Loc → Prop := fun v h L => v = r ∧ h = h0 ∧ L = []
/-- what a constructor leaves of which no more is wanted: it wrote in ws and in new cells alone -/
def QW (n0 : Nat) (h0 : Heap) (ws : List Addr) : Option Value → Heap → List Loc → Prop := fun v h L => v = none ∧ Fr n0 L ∧ Keep h0 h ws
variable {Qc : Option Value → Heap → List Loc → Prop}
theorem Done.callS (X : Stand p l e R s m args below meth c T locs cells slots) (hx : p.tables.exec = Jvm.exec) (hZ : Z.Warmed39 s.vm) {own : String} {index : Nat} {y : MethodName} {bytes : ByteArray} {maxL : Nat} {ret : Option FieldType} {rm : Room} {as' : Array Value}
    (hown : s.vm.findClass own = some m.cls) (w1 : (Jvm.Cond.methodLink own index y).before a0 Z = true) (w2 : (Jvm.Cond.static y).before a0 Z = true) (w3 : (Jvm.Cond.initialized y.cls).before a0 Z = true) (w4 : (Jvm.Cond.code y bytes maxL ret).before a0 Z = true)
    (hy : y.cls ≠ "java/lang/invoke/MethodHandle" ∧ y.cls ≠ "java/lang/invoke/VarHandle") (hM : Ctr l Z y bytes maxL ret [] rm as' h Qc) (eT : T.heap = h)
    {g : JFrame} (hg : g.method = m) (hsize : g.locals.size = c.maxLocals) (argsL rest : List Value) (W : Nat) (hlen : ∀ sig, parseMethodDescriptor y.desc = some sig → argsL.length = sig.parameters.length)
    (hstack : g.stack = argsL.reverse ++ rest) (has : argsL.toArray = as') (hW : 2 * g.monitorRoom + (rest.map fun v => v.category).sum ≤ W) (hdg : decode c.code g.pc = .ok (.invokestatic index, 3))
    (hf : rm.frames + 1 ≤ R.frames) (hl : W + (maxL + 11) + rm.locals ≤ R.locals) (hc : cells + rm.cells ≤ R.cells) (hs : slots + rm.slots ≤ R.slots)
    (k : ∀ (T' : State) (v : Option Value) (L : List Loc), Stand p l e R s m args below meth c T' (locs ++ L) (cells + rm.cells) (slots + rm.slots) → Qc v T'.heap L → Done p e below s R Q (T'.setTop { g with pc := g.pc + 3, stack := v.toList ++ rest })) :
    Done p e below s R Q (T.setTop g) := by
  subst has
  obtain ⟨v, vm₁, ⟨T', L', k', n'⟩, -, X', ⟨L, hq, e1, e2, e3⟩, st⟩ := Jvm.LawKit.callS X hx (y := y) hown (mvT hZ w1) (mvT hZ w2) (mvT hZ w3) (mvT hZ w4) hy (hM.back (W := W) hZ w4 w3 hf hl) hg hsize (argsL := argsL) (rest := rest) hlen hstack hW hdg (fun _ _ => ⟨rfl, eT, hc, hs⟩)
  dsimp only [Pt.U, Pt.locs, Pt.cells, Pt.slots] at X' e1 e2 e3 st hq
  subst e1 e2 e3
  exact Done.step st (k _ _ _ X' hq)
theorem Done.callSP (X : Stand p l e R s m args below meth c T locs cells slots) (hx : p.tables.exec = Jvm.exec) (hZ : Z.Warmed39 s.vm) {own : String} {index : Nat} {y : MethodName} {bytes : ByteArray} {maxL : Nat} {ret : Option FieldType} {rm : Room} {as' : Array Value} {r : Option Value}
    (hown : s.vm.findClass own = some m.cls) (w1 : (Jvm.Cond.methodLink own index y).before a0 Z = true) (w2 : (Jvm.Cond.static y).before a0 Z = true) (w3 : (Jvm.Cond.initialized y.cls).before a0 Z = true) (w4 : (Jvm.Cond.code y bytes maxL ret).before a0 Z = true)
    (hy : y.cls ≠ "java/lang/invoke/MethodHandle" ∧ y.cls ≠ "java/lang/invoke/VarHandle") (hM : Ctr l Z y bytes maxL ret [] rm as' h (PureQ r h)) (eT : T.heap = h)
    {g : JFrame} (hg : g.method = m) (hsize : g.locals.size = c.maxLocals) (argsL rest : List Value) (W : Nat) (hlen : ∀ sig, parseMethodDescriptor y.desc = some sig → argsL.length = sig.parameters.length)
    (hstack : g.stack = argsL.reverse ++ rest) (has : argsL.toArray = as') (hW : 2 * g.monitorRoom + (rest.map fun v => v.category).sum ≤ W) (hdg : decode c.code g.pc = .ok (.invokestatic index, 3))
    (hf : rm.frames + 1 ≤ R.frames) (hl : W + (maxL + 11) + rm.locals ≤ R.locals) (hc : cells ≤ R.cells) (hs : slots ≤ R.slots) (rc : rm.cells = 0) (rs : rm.slots = 0)
    (k : ∀ (T' : State), Stand p l e R s m args below meth c T' locs cells slots → T'.heap = h → Done p e below s R Q (T'.setTop { g with pc := g.pc + 3, stack := r.toList ++ rest })) :
    Done p e below s R Q (T.setTop g) := by
  refine Done.callS X hx hZ hown w1 w2 w3 w4 hy hM eT hg hsize argsL rest W hlen hstack has hW hdg hf hl (by rw [rc]; exact hc) (by rw [rs]; exact hs) ?_
  intro T' v L X' q
  obtain ⟨rfl, e1, rfl⟩ := q
  rw [List.append_nil, rc, rs] at X'
  exact k T' X' e1
theorem Done.callI (X : Stand p l e R s m args below meth c T locs cells slots) (hx : p.tables.exec = Jvm.exec) (hZ : Z.Warmed39 s.vm) {own : String} {index : Nat} {y : MethodName} {bytes : ByteArray} {maxL : Nat} {rm : Room} {as' : Array Value} (hy1 : y.name = "<init>")
    (hown : s.vm.findClass own = some m.cls) (w1 : (Jvm.Cond.methodLink own index y).before a0 Z = true) (w2 : (Jvm.Cond.instanceMethod y).before a0 Z = true) (w3 : (Jvm.Cond.initialized y.cls).before a0 Z = true) (w4 : (Jvm.Cond.code y bytes maxL none).before a0 Z = true)
    (hy : y.cls ≠ "java/lang/invoke/MethodHandle" ∧ y.cls ≠ "java/lang/invoke/VarHandle") (hM : Ctr l Z y bytes maxL none [] rm as' h Qc) (eT : T.heap = h)
    {g : JFrame} (hg : g.method = m) (hsize : g.locals.size = c.maxLocals) (a : Addr) (argsL rest : List Value) (W : Nat) (hlen : ∀ sig, parseMethodDescriptor y.desc = some sig → argsL.length = sig.parameters.length)
    (hstack : g.stack = argsL.reverse ++ .ref a :: rest) (has : (Value.ref a :: argsL).toArray = as') (hW : 2 * g.monitorRoom + (rest.map fun v => v.category).sum ≤ W) (hdg : decode c.code g.pc = .ok (.invokespecial index, 3))
    (hf : rm.frames + 1 ≤ R.frames) (hl : W + (maxL + 11) + rm.locals ≤ R.locals) (hc : cells + rm.cells ≤ R.cells) (hs : slots + rm.slots ≤ R.slots)
    (k : ∀ (T' : State) (v : Option Value) (L : List Loc), Stand p l e R s m args below meth c T' (locs ++ L) (cells + rm.cells) (slots + rm.slots) → Qc v T'.heap L → Done p e below s R Q (T'.setTop { g with pc := g.pc + 3, stack := v.toList ++ rest })) :
    Done p e below s R Q (T.setTop g) := by
  subst has
  obtain ⟨v, vm₁, ⟨T', L', k', n'⟩, -, X', ⟨L, hq, e1, e2, e3⟩, st⟩ := X.specialBack hx (y := y) hy1 hown (mvT hZ w1) (mvT hZ w2) (mvT hZ w4) hy (hM.back (W := W) hZ w4 w3 hf hl) hg hsize (Steps.refl _) (a := a) (argsL := argsL) (rest := rest) hlen hstack hW hdg (fun _ _ => ⟨rfl, eT, hc, hs⟩)
  dsimp only [Pt.U, Pt.locs, Pt.cells, Pt.slots] at X' e1 e2 e3 st hq
  subst e1 e2 e3
  exact Done.go st (k _ _ _ X' hq)
theorem Done.callV (X : Stand p l e R s m args below meth c T locs cells slots) (hx : p.tables.exec = Jvm.exec) (hZ : Z.Warmed39 s.vm) {own C : String} {index : Nat} {y z : MethodName} {bytes : ByteArray} {maxL : Nat} {ret : Option FieldType} {rm : Room} {as' : Array Value}
    (hown : s.vm.findClass own = some m.cls) (w1 : (Jvm.Cond.methodLink own index y).before a0 Z = true) (w2 : (Jvm.Cond.declares y).before a0 Z = true) (hnf : NotFace s y) (w5 : (Jvm.Cond.selects C y z).before a0 Z = true) (w6 : (Jvm.Cond.instanceMethod z).before a0 Z = true)
    (w3 : (Jvm.Cond.initialized z.cls).before a0 Z = true) (w4 : (Jvm.Cond.code z bytes maxL ret).before a0 Z = true)
    (hy : y.cls ≠ "java/lang/invoke/MethodHandle" ∧ y.cls ≠ "java/lang/invoke/VarHandle") (hM : Ctr l Z z bytes maxL ret [] rm as' h Qc) (eT : T.heap = h) {b : Addr} (E : Exa Z h b C)
    {g : JFrame} (hg : g.method = m) (hsize : g.locals.size = c.maxLocals) (argsL rest : List Value) (W : Nat) (hlen : ∀ sig, parseMethodDescriptor y.desc = some sig → argsL.length = sig.parameters.length)
    (hstack : g.stack = argsL.reverse ++ .ref b :: rest) (has : (Value.ref b :: argsL).toArray = as') (hW : 2 * g.monitorRoom + (rest.map fun v => v.category).sum ≤ W) (hdg : decode c.code g.pc = .ok (.invokevirtual index, 3))
    (hf : rm.frames + 1 ≤ R.frames) (hl : W + (maxL + 11) + rm.locals ≤ R.locals) (hc : cells + rm.cells ≤ R.cells) (hs : slots + rm.slots ≤ R.slots)
    (k : ∀ (T' : State) (v : Option Value) (L : List Loc), Stand p l e R s m args below meth c T' (locs ++ L) (cells + rm.cells) (slots + rm.slots) → Qc v T'.heap L → Done p e below s R Q (T'.setTop { g with pc := g.pc + 3, stack := v.toList ++ rest })) :
    Done p e below s R Q (T.setTop g) := by
  subst has
  obtain ⟨cq, kq, qa, qb, qc⟩ := isOf (T := T) hZ eT E
  obtain ⟨v, vm₁, ⟨T', L', k', n'⟩, -, X', ⟨L, hq, e1, e2, e3⟩, st⟩ := X.virtualBack hx (y := y) (z := z) hown (mvT hZ w1) (mvT hZ w2) hnf (mvT hZ w5) (mvT hZ w6) hy (hM.back (W := W) hZ w4 w3 hf hl) qa qc hg hsize (Steps.refl _) (argsL := argsL) (rest := rest) hlen hstack hW hdg (fun _ _ => ⟨rfl, eT, hc, hs⟩)
  dsimp only [Pt.U, Pt.locs, Pt.cells, Pt.slots] at X' e1 e2 e3 st hq
  subst e1 e2 e3
  exact Done.go st (k _ _ _ X' hq)
theorem Done.callVP (X : Stand p l e R s m args below meth c T locs cells slots) (hx : p.tables.exec = Jvm.exec) (hZ : Z.Warmed39 s.vm) {own C : String} {index : Nat} {y z : MethodName} {bytes : ByteArray} {maxL : Nat} {ret : Option FieldType} {rm : Room} {as' : Array Value} {r : Option Value}
    (hown : s.vm.findClass own = some m.cls) (w1 : (Jvm.Cond.methodLink own index y).before a0 Z = true) (w2 : (Jvm.Cond.declares y).before a0 Z = true) (hnf : NotFace s y) (w5 : (Jvm.Cond.selects C y z).before a0 Z = true) (w6 : (Jvm.Cond.instanceMethod z).before a0 Z = true)
    (w3 : (Jvm.Cond.initialized z.cls).before a0 Z = true) (w4 : (Jvm.Cond.code z bytes maxL ret).before a0 Z = true)
    (hy : y.cls ≠ "java/lang/invoke/MethodHandle" ∧ y.cls ≠ "java/lang/invoke/VarHandle") (hM : Ctr l Z z bytes maxL ret [] rm as' h (PureQ r h)) (eT : T.heap = h) {b : Addr} (E : Exa Z h b C)
    {g : JFrame} (hg : g.method = m) (hsize : g.locals.size = c.maxLocals) (argsL rest : List Value) (W : Nat) (hlen : ∀ sig, parseMethodDescriptor y.desc = some sig → argsL.length = sig.parameters.length)
    (hstack : g.stack = argsL.reverse ++ .ref b :: rest) (has : (Value.ref b :: argsL).toArray = as') (hW : 2 * g.monitorRoom + (rest.map fun v => v.category).sum ≤ W) (hdg : decode c.code g.pc = .ok (.invokevirtual index, 3))
    (hf : rm.frames + 1 ≤ R.frames) (hl : W + (maxL + 11) + rm.locals ≤ R.locals) (hc : cells ≤ R.cells) (hs : slots ≤ R.slots) (rc : rm.cells = 0) (rs : rm.slots = 0)
    (k : ∀ (T' : State), Stand p l e R s m args below meth c T' locs cells slots → T'.heap = h → Done p e below s R Q (T'.setTop { g with pc := g.pc + 3, stack := r.toList ++ rest })) :
    Done p e below s R Q (T.setTop g) := by
  refine Done.callV X hx hZ hown w1 w2 hnf w5 w6 w3 w4 hy hM eT E hg hsize argsL rest W hlen hstack has hW hdg hf hl (by rw [rc]; exact hc) (by rw [rs]; exact hs) ?_
  intro T' v L X' q
  obtain ⟨rfl, e1, rfl⟩ := q
  rw [List.append_nil, rc, rs] at X'
  exact k T' X' e1
end Own
end Jvm.OwnKit
@@BLOCK:NumsL.lean.txt@@
namespace Jvm.Pilot.@@N@@
open Jvm Jvm.ClassFile Sem Op Lib Jvm.Free Jvm.Stand Jvm.LawKit Jvm.RoadKit Jvm.OwnKit Bundle Jvm.Pilot.@@N@@.Jvm.D
def own_S (x : Int64) (k : Int) : Prop := -k ≤ x.toInt ∧ x.toInt ≤ k
theorem own_s32 (x : Int32) : own_S x.toInt64 2147483648 := by
  have h1 := x.toInt_lt
  have h2 := x.le_toInt
  unfold own_S; rw [Int32.toInt_toInt64]; omega
theorem own_s1 : own_S (1 : Int64) 1 := by unfold own_S; decide
theorem own_sadd {x y : Int64} {i j : Int} (hx : own_S x i) (hy : own_S y j) (h : i + j < 4611686018427387904) : own_S (x + y) (i + j) := by
  unfold own_S at *
  have q : (x + y).toInt = x.toInt + y.toInt := Jvm.Kit.i64_add (by omega) (by omega)
  rw [q]; omega
theorem own_ssub {x y : Int64} {i j : Int} (hx : own_S x i) (hy : own_S y j) (h : i + j < 4611686018427387904) : own_S (x - y) (i + j) := by
  unfold own_S at *
  have q : (x - y).toInt = x.toInt - y.toInt := Jvm.Kit.i64_sub (by omega) (by omega)
  rw [q]; omega
theorem own_b {x : Int64} {k : Int} (h : own_S x k) (hk : k < 9007199254740992) : B53 x := by unfold own_S at h; unfold B53; omega
theorem own_lohi (a d : Int32) : (a.toInt64) < (((a.toInt64) + (1 : Int64)) + ((d &&& (2147483647 : Int32)).toInt64)) := by
  have h1 := a.toInt_lt
  have h2 := a.le_toInt
  have hm : (d &&& (2147483647 : Int32)).toInt = d.toInt % 2 ^ 31 := Jvm.Kit.i32_mask d _ (k := 31) (by decide) (by decide)
  have q1 : (a.toInt64 + (1 : Int64)).toInt = a.toInt + 1 := by rw [Jvm.Kit.i64_add] <;> rw [Int32.toInt_toInt64] <;> simp <;> omega
  have q2 : ((d &&& (2147483647 : Int32)).toInt64).toInt = d.toInt % 2 ^ 31 := by rw [Int32.toInt_toInt64, hm]
  rw [Int64.lt_iff_toInt_lt, Jvm.Kit.i64_add (by rw [q1, q2]; omega) (by rw [q1, q2]; omega), q1, q2, Int32.toInt_toInt64]; omega
theorem own_gt {g : UInt64} (hg : Jvm.Free.Fl.Fin64 g) : ifCond.holds .gt (cmpValue (FP.dcmp (g &&& 0x7fffffffffffffff) (9218868437227405311 : UInt64)) .g) = false := by
  have q := (Jvm.Free.Fl.le_max_iff hg.noNaN).mpr hg
  rcases hr : FP.dcmp (g &&& 0x7fffffffffffffff) (9218868437227405311 : UInt64) with _ | (_ | _ | _)
  · have q' : Jvm.Free.Fl.relLe none = true := hr ▸ q
    cases q'
  · rfl
  · rfl
  · have q' : Jvm.Free.Fl.relLe (some .gt) = true := hr ▸ q
    cases q'
theorem pn_java_lang_Record : plainName "java/lang/Record" = true := by first | (simp [plainName, overriddenIn]; done) | decide +kernel
theorem d2_0 : decode jdk_30_method_1_code 0 = .ok (.aload_n 0, 1) := by decide +kernel
theorem d2_1 : decode jdk_30_method_1_code 1 = .ok (.invokespecial 1, 3) := by decide +kernel
theorem d2_4 : decode jdk_30_method_1_code 4 = .ok (.return_, 1) := by decide +kernel
set_option maxRecDepth 65536 in
set_option maxHeartbeats 40000000 in
theorem rmR (l : Launch) (Z : State) (a0 : Array Value) (hw : ∀ d ∈ tables_1, d.before a0 Z = true) (ws : List Jvm.Cond) (a : Addr) (h0 : Heap) (n0 : Nat) (Z0 : n0 ≤ h0.size)  :
    Ctr l Z (⟨"java/lang/Record", "<init>", "()V"⟩ : MethodName) jdk_30_method_1_code 1 none ws ({ frames := 1, cells := 0, slots := 0, locals := 12 } : Room) #[(.ref a)] h0 (PureQ none h0) := by
  refine Ctr.intro (plainFor_of_name pn_java_lang_Record) (Ls := #[.val (.ref a)]) (fun m => by first | (simp [entryFrame, mkF, argsToLocals, Value.category]; done) | rfl) ?_
  intro p e s m below meth c T0 hx hby hml hown hnm hret hlk hZ e0 X0
  have N0 := Fr.nil n0
  show Done p e below s _ _ (T0.setTop (mkF m 0 #[.val (.ref a)] []))
  refine Done.step (fun _ => XS.aloadN X0.here hx rfl (hb hby d2_0) rfl rfl) ?_
  show Done p e below s _ _ (T0.setTop (mkF m 1 #[.val (.ref a)] [(.ref a)]))
  obtain ⟨T1, X1, e1, st1⟩ := initO X0 hx hZ hown (wAt hw 12 rfl) (wAt hw 13 rfl) (wAt hw 14 rfl) e0 (g := (mkF m 1 #[.val (.ref a)] [(.ref a)])) rfl (by rw [hml]; rfl) rfl (hb hby d2_1) (by decide) (W := 0) (by show 2 * 0 + _ ≤ _; exact Nat.le_of_eq rfl) (by decide)
  refine Done.step st1 ?_
  show Done p e below s _ _ (T1.setTop (mkF m 4 #[.val (.ref a)] []))
  exact Done.retV X1 hx hlk hret (hb hby d2_4) (by decide) (by decide) ⟨rfl, e1, rfl⟩
theorem pn_java_lang_Double : plainName "java/lang/Double" = true := by first | (simp [plainName, overriddenIn]; done) | decide +kernel
theorem d4_0 : decode jdk_117_method_8_code 0 = .ok (.dload_n 0, 1) := by decide +kernel
theorem d4_1 : decode jdk_117_method_8_code 1 = .ok (.invokestatic 38, 3) := by decide +kernel
theorem pd_0 : parseMethodDescriptor "(D)D" = some ⟨[.double], some .double⟩ := by decide +kernel
theorem d4_4 : decode jdk_117_method_8_code 4 = .ok (.ldc2_w 111, 3) := by decide +kernel
theorem d4_7 : decode jdk_117_method_8_code 7 = .ok (.dcmp .g, 1) := by decide +kernel
theorem d4_8 : decode jdk_117_method_8_code 8 = .ok (.ifCond .gt 7, 3) := by decide +kernel
theorem d4_11 : decode jdk_117_method_8_code 11 = .ok (.iconst 1, 1) := by decide +kernel
theorem d4_12 : decode jdk_117_method_8_code 12 = .ok (.goto 4, 3) := by decide +kernel
theorem d4_16 : decode jdk_117_method_8_code 16 = .ok (.ireturn, 1) := by decide +kernel
set_option maxRecDepth 65536 in
set_option maxHeartbeats 40000000 in
theorem rmF (l : Launch) (Z : State) (a0 : Array Value) (hw : ∀ d ∈ tables_1, d.before a0 Z = true) (ws : List Jvm.Cond) (g : UInt64) (h0 : Heap) (n0 : Nat) (Z0 : n0 ≤ h0.size) (hg : Jvm.Free.Fl.Fin64 g) :
    Ctr l Z (⟨"java/lang/Double", "isFinite", "(D)Z"⟩ : MethodName) jdk_117_method_8_code 2 (some .boolean) ws ({ frames := 1, cells := 0, slots := 0, locals := 13 } : Room) #[(.double g)] h0 (PureQ (some (.int (1 : Int32))) h0) := by
  refine Ctr.intro (plainFor_of_name pn_java_lang_Double) (Ls := #[.val (.double g), .second]) (fun m => by first | (simp [entryFrame, mkF, argsToLocals, Value.category]; done) | rfl) ?_
  intro p e s m below meth c T0 hx hby hml hown hnm hret hlk hZ e0 X0
  have N0 := Fr.nil n0
  show Done p e below s _ _ (T0.setTop (mkF m 0 #[.val (.double g), .second] []))
  refine Done.step (fun _ => XS.dloadN X0.here hx rfl (hb hby d4_0) rfl) ?_
  show Done p e below s _ _ (T0.setTop (mkF m 1 #[.val (.double g), .second] [(.double g)]))
  obtain ⟨T1, X1, e1, st1⟩ := natS X0 hx hZ hown (wAt hw 19 rfl) (wAt hw 20 rfl) (wAt hw 21 rfl) (wAt hw 22 rfl) (by decide) e0 (W := 0) (val := .double (g &&& 0x7fffffffffffffff)) (val' := .double (g &&& 0x7fffffffffffffff)) (fun hcc => Jvm.Free.Fl.Abs.absD_pays (W := 0) g hcc (by decide) (by decide)) (g := (mkF m 1 #[.val (.double g), .second] [(.double g)])) rfl (by rw [hml]; rfl) (argsL := [(.double g)]) (rest := []) (lenOf pd_0 rfl) rfl (by show 2 * 0 + _ ≤ _; exact Nat.le_of_eq rfl) (hb hby d4_1) (by decide) (by decide) ⟨rfl, hg.noNaN⟩ rfl
  refine Done.step st1 ?_
  show Done p e below s _ _ (T1.setTop (mkF m 4 #[.val (.double g), .second] [(.double (g &&& 0x7fffffffffffffff))]))
  refine Done.step (X1.ldc2DoubleC hx hown (mvT hZ (wAt hw 23 rfl)) (g := (mkF m 4 #[.val (.double g), .second] [(.double (g &&& 0x7fffffffffffffff))])) rfl (hb hby d4_4)) ?_
  show Done p e below s _ _ (T1.setTop (mkF m 7 #[.val (.double g), .second] [(.double (9218868437227405311 : UInt64)), (.double (g &&& 0x7fffffffffffffff))]))
  refine Done.step (fun _ => XS.dcmpS X1.here hx rfl (v := (cmpValue (FP.dcmp (g &&& 0x7fffffffffffffff) (9218868437227405311 : UInt64)) .g)) (hb hby d4_7) rfl rfl) ?_
  show Done p e below s _ _ (T1.setTop (mkF m 8 #[.val (.double g), .second] [(.int (cmpValue (FP.dcmp (g &&& 0x7fffffffffffffff) (9218868437227405311 : UInt64)) .g))]))
  refine Done.step (fun _ => XS.ifNo X1.here hx rfl (hb hby d4_8) rfl (own_gt hg)) ?_
  show Done p e below s _ _ (T1.setTop (mkF m 11 #[.val (.double g), .second] []))
  refine Done.step (fun _ => XT.iconstV X1.here hx rfl (1 : Int32) (hb hby d4_11) (by decide)) ?_
  show Done p e below s _ _ (T1.setTop (mkF m 12 #[.val (.double g), .second] [(.int (1 : Int32))]))
  refine Done.step (fun _ => XS.goto X1.here hx rfl (pc0 := 12) (pc' := 16) rfl (hb hby d4_12) (by decide) (by decide)) ?_
  show Done p e below s _ _ (T1.setTop (mkF m 16 #[.val (.double g), .second] [(.int (1 : Int32))]))
  exact Done.retN X1 hx hlk (t := .boolean) hret (by simp) (hb hby d4_16) (by decide) (by decide) ⟨rfl, e1, rfl⟩
def QM (Z : State) (n0 : Nat) (h0 : Heap) (a : Addr) (gu gv : UInt64) (r : Option Value) (h : Heap) (L : List Loc) : Prop := r = none ∧ Fr n0 L ∧ Keep h0 h [a] ∧ Exa Z h a "com/example/ithuriel/ithuriel/measure/MzRange" ∧ Fld Z h a "com/example/ithuriel/ithuriel/measure/MzRange" "low" "D" (.double gu) ∧ Fld Z h a "com/example/ithuriel/ithuriel/measure/MzRange" "high" "D" (.double gv)
theorem pn_com_example_ithuriel_ithuriel_measure_MzRange : plainName "com/example/ithuriel/ithuriel/measure/MzRange" = true := by first | (simp [plainName, overriddenIn]; done) | decide +kernel
theorem d1_0 : decode prog_67_method_1_code 0 = .ok (.aload_n 0, 1) := by decide +kernel
theorem d1_1 : decode prog_67_method_1_code 1 = .ok (.invokespecial 1, 3) := by decide +kernel
theorem pd_1 : parseMethodDescriptor "()V" = some ⟨[], none⟩ := by decide +kernel
theorem d1_4 : decode prog_67_method_1_code 4 = .ok (.dload_n 1, 1) := by decide +kernel
theorem d1_5 : decode prog_67_method_1_code 5 = .ok (.invokestatic 7, 3) := by decide +kernel
theorem pd_2 : parseMethodDescriptor "(D)Z" = some ⟨[.double], some .boolean⟩ := by decide +kernel
theorem d1_8 : decode prog_67_method_1_code 8 = .ok (.ifCond .eq 16, 3) := by decide +kernel
theorem d1_11 : decode prog_67_method_1_code 11 = .ok (.dload_n 3, 1) := by decide +kernel
theorem d1_12 : decode prog_67_method_1_code 12 = .ok (.invokestatic 7, 3) := by decide +kernel
theorem d1_15 : decode prog_67_method_1_code 15 = .ok (.ifCond .eq 9, 3) := by decide +kernel
theorem d1_18 : decode prog_67_method_1_code 18 = .ok (.dload_n 1, 1) := by decide +kernel
theorem d1_19 : decode prog_67_method_1_code 19 = .ok (.dload_n 3, 1) := by decide +kernel
theorem d1_20 : decode prog_67_method_1_code 20 = .ok (.dcmp .g, 1) := by decide +kernel
theorem d1_21 : decode prog_67_method_1_code 21 = .ok (.ifCond .lt 23, 3) := by decide +kernel
theorem d1_44 : decode prog_67_method_1_code 44 = .ok (.aload_n 0, 1) := by decide +kernel
theorem d1_45 : decode prog_67_method_1_code 45 = .ok (.dload_n 1, 1) := by decide +kernel
theorem d1_46 : decode prog_67_method_1_code 46 = .ok (.putfield 30, 3) := by decide +kernel
theorem d1_49 : decode prog_67_method_1_code 49 = .ok (.aload_n 0, 1) := by decide +kernel
theorem d1_50 : decode prog_67_method_1_code 50 = .ok (.dload_n 3, 1) := by decide +kernel
theorem d1_51 : decode prog_67_method_1_code 51 = .ok (.putfield 34, 3) := by decide +kernel
theorem d1_54 : decode prog_67_method_1_code 54 = .ok (.return_, 1) := by decide +kernel
set_option maxRecDepth 65536 in
set_option maxHeartbeats 40000000 in
theorem rmM (l : Launch) (Z : State) (a0 : Array Value) (hw : ∀ d ∈ tables_1, d.before a0 Z = true) (ws : List Jvm.Cond) (a : Addr) (u v : Int64) (gu gv : UInt64) (h0 : Heap) (n0 : Nat) (Z0 : n0 ≤ h0.size) (eu : gu = FP.l2d u) (ev : gv = FP.l2d v) (Ea : Exa Z h0 a "com/example/ithuriel/ithuriel/measure/MzRange") (F_low : Fld Z h0 a "com/example/ithuriel/ithuriel/measure/MzRange" "low" "D" (.double (0 : UInt64))) (F_high : Fld Z h0 a "com/example/ithuriel/ithuriel/measure/MzRange" "high" "D" (.double (0 : UInt64))) (ga : n0 ≤ a) (bu : B53 u) (bv : B53 v) (hlt : u < v) :
    Ctr l Z (⟨"com/example/ithuriel/ithuriel/measure/MzRange", "<init>", "(DD)V"⟩ : MethodName) prog_67_method_1_code 5 none ws ({ frames := 2, cells := 0, slots := 0, locals := 26 } : Room) #[(.ref a), (.double gu), (.double gv)] h0 (QM Z n0 h0 a gu gv) := by
  refine Ctr.intro (plainFor_of_name pn_com_example_ithuriel_ithuriel_measure_MzRange) (Ls := #[.val (.ref a), .val (.double gu), .second, .val (.double gv), .second]) (fun m => by first | (simp [entryFrame, mkF, argsToLocals, Value.category]; done) | rfl) ?_
  intro p e s m below meth c T0 hx hby hml hown hnm hret hlk hZ e0 X0
  have N0 := Fr.nil n0
  show Done p e below s _ _ (T0.setTop (mkF m 0 #[.val (.ref a), .val (.double gu), .second, .val (.double gv), .second] []))
  refine Done.step (fun _ => XS.aloadN X0.here hx rfl (hb hby d1_0) rfl rfl) ?_
  show Done p e below s _ _ (T0.setTop (mkF m 1 #[.val (.ref a), .val (.double gu), .second, .val (.double gv), .second] [(.ref a)]))
  refine Done.callI X0 hx hZ rfl hown (wAt hw 7 rfl) (wAt hw 8 rfl) (wAt hw 10 rfl) (wAt hw 11 rfl) (by decide) (rmR l Z a0 hw [] a  h0 n0 Z0 ) e0 (g := (mkF m 1 #[.val (.ref a), .val (.double gu), .second, .val (.double gv), .second] [(.ref a)])) rfl (by rw [hml]; rfl) a [] [] 0 (lenOf pd_1 rfl) rfl rfl (by show 2 * 0 + _ ≤ _; exact Nat.le_of_eq rfl) (hb hby d1_1) (by decide) (by decide) (by decide) (by decide) ?_
  intro T1 v1 L1 X1 q1
  obtain ⟨rfl, e1, rfl⟩ := q1
  rw [List.append_nil] at X1
  show Done p e below s _ _ (T1.setTop (mkF m 4 #[.val (.ref a), .val (.double gu), .second, .val (.double gv), .second] []))
  refine Done.step (fun _ => XS.dloadN X1.here hx rfl (hb hby d1_4) rfl) ?_
  show Done p e below s _ _ (T1.setTop (mkF m 5 #[.val (.ref a), .val (.double gu), .second, .val (.double gv), .second] [(.double gu)]))
  refine Done.callSP X1 hx hZ hown (wAt hw 15 rfl) (wAt hw 16 rfl) (wAt hw 17 rfl) (wAt hw 18 rfl) (by decide) (rmF l Z a0 hw [] gu h0 n0 Z0 (by rw [eu]; exact Jvm.Free.Fl.l2d_fin _)) e1 (g := (mkF m 5 #[.val (.ref a), .val (.double gu), .second, .val (.double gv), .second] [(.double gu)])) rfl (by rw [hml]; rfl) [(.double gu)] [] 0 (lenOf pd_2 rfl) rfl rfl (by show 2 * 0 + _ ≤ _; exact Nat.le_of_eq rfl) (hb hby d1_5) (by decide) (by decide) (by decide) (by decide) rfl rfl ?_
  intro T2 X2 e2
  show Done p e below s _ _ (T2.setTop (mkF m 8 #[.val (.ref a), .val (.double gu), .second, .val (.double gv), .second] [(.int (1 : Int32))]))
  refine Done.step (fun _ => XS.ifNo X2.here hx rfl (hb hby d1_8) rfl (XT.i0_eq_f (by decide))) ?_
  show Done p e below s _ _ (T2.setTop (mkF m 11 #[.val (.ref a), .val (.double gu), .second, .val (.double gv), .second] []))
  refine Done.step (fun _ => XS.dloadN X2.here hx rfl (hb hby d1_11) rfl) ?_
  show Done p e below s _ _ (T2.setTop (mkF m 12 #[.val (.ref a), .val (.double gu), .second, .val (.double gv), .second] [(.double gv)]))
  refine Done.callSP X2 hx hZ hown (wAt hw 15 rfl) (wAt hw 16 rfl) (wAt hw 17 rfl) (wAt hw 18 rfl) (by decide) (rmF l Z a0 hw [] gv h0 n0 Z0 (by rw [ev]; exact Jvm.Free.Fl.l2d_fin _)) e2 (g := (mkF m 12 #[.val (.ref a), .val (.double gu), .second, .val (.double gv), .second] [(.double gv)])) rfl (by rw [hml]; rfl) [(.double gv)] [] 0 (lenOf pd_2 rfl) rfl rfl (by show 2 * 0 + _ ≤ _; exact Nat.le_of_eq rfl) (hb hby d1_12) (by decide) (by decide) (by decide) (by decide) rfl rfl ?_
  intro T3 X3 e3
  show Done p e below s _ _ (T3.setTop (mkF m 15 #[.val (.ref a), .val (.double gu), .second, .val (.double gv), .second] [(.int (1 : Int32))]))
  refine Done.step (fun _ => XS.ifNo X3.here hx rfl (hb hby d1_15) rfl (XT.i0_eq_f (by decide))) ?_
  show Done p e below s _ _ (T3.setTop (mkF m 18 #[.val (.ref a), .val (.double gu), .second, .val (.double gv), .second] []))
  refine Done.step (fun _ => XS.dloadN X3.here hx rfl (hb hby d1_18) rfl) ?_
  show Done p e below s _ _ (T3.setTop (mkF m 19 #[.val (.ref a), .val (.double gu), .second, .val (.double gv), .second] [(.double gu)]))
  refine Done.step (fun _ => XS.dloadN X3.here hx rfl (hb hby d1_19) rfl) ?_
  show Done p e below s _ _ (T3.setTop (mkF m 20 #[.val (.ref a), .val (.double gu), .second, .val (.double gv), .second] [(.double gv), (.double gu)]))
  refine Done.step (fun _ => XS.dcmpS X3.here hx rfl (v := XT.cmpL u v) (hb hby d1_20) rfl (by rw [eu, ev]; exact (dcmpV_w bu bv .g))) ?_
  show Done p e below s _ _ (T3.setTop (mkF m 21 #[.val (.ref a), .val (.double gu), .second, .val (.double gv), .second] [(.int (XT.cmpL u v))]))
  refine Done.step (fun _ => XS.ifYes X3.here hx rfl (pc0 := 21) (pc' := 44) rfl (hb hby d1_21) rfl (XT.ll_lt_t hlt) (by decide) (by decide)) ?_
  show Done p e below s _ _ (T3.setTop (mkF m 44 #[.val (.ref a), .val (.double gu), .second, .val (.double gv), .second] []))
  refine Done.step (fun _ => XS.aloadN X3.here hx rfl (hb hby d1_44) rfl rfl) ?_
  show Done p e below s _ _ (T3.setTop (mkF m 45 #[.val (.ref a), .val (.double gu), .second, .val (.double gv), .second] [(.ref a)]))
  refine Done.step (fun _ => XS.dloadN X3.here hx rfl (hb hby d1_45) rfl) ?_
  show Done p e below s _ _ (T3.setTop (mkF m 46 #[.val (.ref a), .val (.double gu), .second, .val (.double gv), .second] [(.double gu), (.ref a)]))
  obtain ⟨T4, h4, X4, e4, W4, st4⟩ := putF X3 hx hZ hown (host := "") (Or.inl (wAt hw 24 rfl)) Via.refl e3 F_low Ea (Or.inr ⟨(wAt hw 25 rfl), rfl, hnm⟩) (wAt hw 2 rfl) (ty := .double) (by decide) rfl rfl (g := (mkF m 46 #[.val (.ref a), .val (.double gu), .second, .val (.double gv), .second] [(.double gu), (.ref a)])) rfl rfl (hb hby d1_46)
  have F4 := F_low.same W4
  have N4 := Fr.snoc X4 N0 ga
  have Zs4 := Nat.le_trans Z0 (Keep.of_wr W4).1
  have K4 := (Keep.refl h0 [a]).wr W4 (Or.inl (List.mem_of_getElem? (i := 0) rfl))
  refine Done.step st4 ?_
  show Done p e below s _ _ (T4.setTop (mkF m 49 #[.val (.ref a), .val (.double gu), .second, .val (.double gv), .second] []))
  refine Done.step (fun _ => XS.aloadN X4.here hx rfl (hb hby d1_49) rfl rfl) ?_
  show Done p e below s _ _ (T4.setTop (mkF m 50 #[.val (.ref a), .val (.double gu), .second, .val (.double gv), .second] [(.ref a)]))
  refine Done.step (fun _ => XS.dloadN X4.here hx rfl (hb hby d1_50) rfl) ?_
  show Done p e below s _ _ (T4.setTop (mkF m 51 #[.val (.ref a), .val (.double gu), .second, .val (.double gv), .second] [(.double gv), (.ref a)]))
  obtain ⟨T5, h5, X5, e5, W5, st5⟩ := putF X4 hx hZ hown (host := "") (Or.inl (wAt hw 26 rfl)) Via.refl e4 (F_high.other W4 (Or.inr (slot_ne (Or.inr (wAt hw 27 rfl)) (Or.inr (wAt hw 25 rfl)) (by decide) (t := .double) (t' := .double) (by decide) (by decide)))) (Ea.wr W4) (Or.inr ⟨(wAt hw 27 rfl), rfl, hnm⟩) (wAt hw 2 rfl) (ty := .double) (by decide) rfl rfl (g := (mkF m 51 #[.val (.ref a), .val (.double gu), .second, .val (.double gv), .second] [(.double gv), (.ref a)])) rfl rfl (hb hby d1_51)
  have F5 := (F_high.other W4 (Or.inr (slot_ne (Or.inr (wAt hw 27 rfl)) (Or.inr (wAt hw 25 rfl)) (by decide) (t := .double) (t' := .double) (by decide) (by decide)))).same W5
  have N5 := Fr.snoc X5 N4 ga
  have Zs5 := Nat.le_trans Zs4 (Keep.of_wr W5).1
  have K5 := K4.wr W5 (Or.inl (List.mem_of_getElem? (i := 0) rfl))
  refine Done.step st5 ?_
  show Done p e below s _ _ (T5.setTop (mkF m 54 #[.val (.ref a), .val (.double gu), .second, .val (.double gv), .second] []))
  refine Done.retV X5 hx hlk hret (hb hby d1_54) (by decide) (by decide) ?_
  rw [e5]
  exact ⟨rfl, N5, K5, ((Ea.wr W4).wr W5), (F4.other W5 (Or.inr (slot_ne (Or.inr (wAt hw 25 rfl)) (Or.inr (wAt hw 27 rfl)) (by decide) (t := .double) (t' := .double) (by decide) (by decide)))), F5⟩
theorem d6_0 : decode prog_67_method_2_code 0 = .ok (.dload_n 1, 1) := by decide +kernel
theorem d6_1 : decode prog_67_method_2_code 1 = .ok (.aload_n 0, 1) := by decide +kernel
theorem d6_2 : decode prog_67_method_2_code 2 = .ok (.getfield 30, 3) := by decide +kernel
theorem d6_5 : decode prog_67_method_2_code 5 = .ok (.dcmp .l, 1) := by decide +kernel
theorem d6_6 : decode prog_67_method_2_code 6 = .ok (.ifCond .le 16, 3) := by decide +kernel
theorem d6_9 : decode prog_67_method_2_code 9 = .ok (.dload_n 1, 1) := by decide +kernel
theorem d6_10 : decode prog_67_method_2_code 10 = .ok (.aload_n 0, 1) := by decide +kernel
theorem d6_11 : decode prog_67_method_2_code 11 = .ok (.getfield 34, 3) := by decide +kernel
theorem d6_14 : decode prog_67_method_2_code 14 = .ok (.dcmp .g, 1) := by decide +kernel
theorem d6_15 : decode prog_67_method_2_code 15 = .ok (.ifCond .gt 7, 3) := by decide +kernel
theorem d6_22 : decode prog_67_method_2_code 22 = .ok (.iconst 0, 1) := by decide +kernel
theorem d6_23 : decode prog_67_method_2_code 23 = .ok (.ireturn, 1) := by decide +kernel
theorem d6_18 : decode prog_67_method_2_code 18 = .ok (.iconst 1, 1) := by decide +kernel
theorem d6_19 : decode prog_67_method_2_code 19 = .ok (.goto 4, 3) := by decide +kernel
set_option maxRecDepth 65536 in
set_option maxHeartbeats 40000000 in
theorem rmC (l : Launch) (Z : State) (a0 : Array Value) (hw : ∀ d ∈ tables_1, d.before a0 Z = true) (ws : List Jvm.Cond) (a : Addr) (x u v : Int64) (gx gu gv : UInt64) (r : Int32) (h0 : Heap) (n0 : Nat) (Z0 : n0 ≤ h0.size) (ex : gx = FP.l2d x) (eu : gu = FP.l2d u) (ev : gv = FP.l2d v) (F_low : Fld Z h0 a "com/example/ithuriel/ithuriel/measure/MzRange" "low" "D" (.double gu)) (F_high : Fld Z h0 a "com/example/ithuriel/ithuriel/measure/MzRange" "high" "D" (.double gv)) (bx : B53 x) (bu : B53 u) (bv : B53 v) (hr : r = bP (u < x ∧ ¬ v < x)) :
    Ctr l Z (⟨"com/example/ithuriel/ithuriel/measure/MzRange", "contains", "(D)Z"⟩ : MethodName) prog_67_method_2_code 3 (some .boolean) ws ({ frames := 0, cells := 0, slots := 0, locals := 0 } : Room) #[(.ref a), (.double gx)] h0 (PureQ (some (.int r)) h0) := by
  refine Ctr.intro (plainFor_of_name pn_com_example_ithuriel_ithuriel_measure_MzRange) (Ls := #[.val (.ref a), .val (.double gx), .second]) (fun m => by first | (simp [entryFrame, mkF, argsToLocals, Value.category]; done) | rfl) ?_
  intro p e s m below meth c T0 hx hby hml hown hnm hret hlk hZ e0 X0
  have N0 := Fr.nil n0
  show Done p e below s _ _ (T0.setTop (mkF m 0 #[.val (.ref a), .val (.double gx), .second] []))
  refine Done.step (fun _ => XS.dloadN X0.here hx rfl (hb hby d6_0) rfl) ?_
  show Done p e below s _ _ (T0.setTop (mkF m 1 #[.val (.ref a), .val (.double gx), .second] [(.double gx)]))
  refine Done.step (fun _ => XS.aloadN X0.here hx rfl (hb hby d6_1) rfl rfl) ?_
  show Done p e below s _ _ (T0.setTop (mkF m 2 #[.val (.ref a), .val (.double gx), .second] [(.ref a), (.double gx)]))
  obtain ⟨T1, X1, e1, st1⟩ := getF X0 hx hZ hown (host := "") (Or.inl (wAt hw 24 rfl)) Via.refl e0 F_low (g := (mkF m 2 #[.val (.ref a), .val (.double gx), .second] [(.ref a), (.double gx)])) rfl rfl (hb hby d6_2)
  refine Done.step st1 ?_
  show Done p e below s _ _ (T1.setTop (mkF m 5 #[.val (.ref a), .val (.double gx), .second] [(.double gu), (.double gx)]))
  refine Done.step (fun _ => XS.dcmpS X1.here hx rfl (v := XT.cmpL x u) (hb hby d6_5) rfl (by rw [ex, eu]; exact (dcmpV_w bx bu .l))) ?_
  show Done p e below s _ _ (T1.setTop (mkF m 6 #[.val (.ref a), .val (.double gx), .second] [(.int (XT.cmpL x u))]))
  by_cases hc2 : u < x
  · refine Done.step (fun _ => XS.ifNo X1.here hx rfl (hb hby d6_6) rfl (XT.ll_le_f hc2)) ?_
    show Done p e below s _ _ (T1.setTop (mkF m 9 #[.val (.ref a), .val (.double gx), .second] []))
    refine Done.step (fun _ => XS.dloadN X1.here hx rfl (hb hby d6_9) rfl) ?_
    show Done p e below s _ _ (T1.setTop (mkF m 10 #[.val (.ref a), .val (.double gx), .second] [(.double gx)]))
    refine Done.step (fun _ => XS.aloadN X1.here hx rfl (hb hby d6_10) rfl rfl) ?_
    show Done p e below s _ _ (T1.setTop (mkF m 11 #[.val (.ref a), .val (.double gx), .second] [(.ref a), (.double gx)]))
    obtain ⟨T3, X3, e3, st3⟩ := getF X1 hx hZ hown (host := "") (Or.inl (wAt hw 26 rfl)) Via.refl e1 F_high (g := (mkF m 11 #[.val (.ref a), .val (.double gx), .second] [(.ref a), (.double gx)])) rfl rfl (hb hby d6_11)
    refine Done.step st3 ?_
    show Done p e below s _ _ (T3.setTop (mkF m 14 #[.val (.ref a), .val (.double gx), .second] [(.double gv), (.double gx)]))
    refine Done.step (fun _ => XS.dcmpS X3.here hx rfl (v := XT.cmpL x v) (hb hby d6_14) rfl (by rw [ex, ev]; exact (dcmpV_w bx bv .g))) ?_
    show Done p e below s _ _ (T3.setTop (mkF m 15 #[.val (.ref a), .val (.double gx), .second] [(.int (XT.cmpL x v))]))
    by_cases hc4 : v < x
    · refine Done.step (fun _ => XS.ifYes X3.here hx rfl (pc0 := 15) (pc' := 22) rfl (hb hby d6_15) rfl (XT.ll_gt_t hc4) (by decide) (by decide)) ?_
      show Done p e below s _ _ (T3.setTop (mkF m 22 #[.val (.ref a), .val (.double gx), .second] []))
      refine Done.step (fun _ => XT.iconstV X3.here hx rfl (0 : Int32) (hb hby d6_22) (by decide)) ?_
      show Done p e below s _ _ (T3.setTop (mkF m 23 #[.val (.ref a), .val (.double gx), .second] [(.int (0 : Int32))]))
      exact Done.retN X3 hx hlk (t := .boolean) hret (by simp) (hb hby d6_23) (by decide) (by decide) ⟨by rw [hr, bP_f (fun q => q.2 hc4)]; rfl, e3, rfl⟩
    · refine Done.step (fun _ => XS.ifNo X3.here hx rfl (hb hby d6_15) rfl (XT.ll_gt_f hc4)) ?_
      show Done p e below s _ _ (T3.setTop (mkF m 18 #[.val (.ref a), .val (.double gx), .second] []))
      refine Done.step (fun _ => XT.iconstV X3.here hx rfl (1 : Int32) (hb hby d6_18) (by decide)) ?_
      show Done p e below s _ _ (T3.setTop (mkF m 19 #[.val (.ref a), .val (.double gx), .second] [(.int (1 : Int32))]))
      refine Done.step (fun _ => XS.goto X3.here hx rfl (pc0 := 19) (pc' := 23) rfl (hb hby d6_19) (by decide) (by decide)) ?_
      show Done p e below s _ _ (T3.setTop (mkF m 23 #[.val (.ref a), .val (.double gx), .second] [(.int (1 : Int32))]))
      exact Done.retN X3 hx hlk (t := .boolean) hret (by simp) (hb hby d6_23) (by decide) (by decide) ⟨by rw [hr, bP_t ⟨hc2, hc4⟩]; rfl, e3, rfl⟩
  · refine Done.step (fun _ => XS.ifYes X1.here hx rfl (pc0 := 6) (pc' := 22) rfl (hb hby d6_6) rfl (XT.ll_le_t hc2) (by decide) (by decide)) ?_
    show Done p e below s _ _ (T1.setTop (mkF m 22 #[.val (.ref a), .val (.double gx), .second] []))
    refine Done.step (fun _ => XT.iconstV X1.here hx rfl (0 : Int32) (hb hby d6_22) (by decide)) ?_
    show Done p e below s _ _ (T1.setTop (mkF m 23 #[.val (.ref a), .val (.double gx), .second] [(.int (0 : Int32))]))
    exact Done.retN X1 hx hlk (t := .boolean) hret (by simp) (hb hby d6_23) (by decide) (by decide) ⟨by rw [hr, bP_f (fun q => hc2 q.1)]; rfl, e1, rfl⟩
theorem pn_com_example_ithuriel_ithuriel_measure_MzRangeContainsPinLaw : plainName "com/example/ithuriel/ithuriel/measure/MzRangeContainsPinLaw" = true := by first | (simp [plainName, overriddenIn]; done) | decide +kernel
theorem pd_3 : parseMethodDescriptor "(DD)V" = some ⟨[.double, .double], none⟩ := by decide +kernel
set_option maxRecDepth 65536 in
set_option maxHeartbeats 40000000 in
theorem rm0 (l : Launch) (Z : State) (a0 : Array Value) (hw : ∀ d ∈ tables_1, d.before a0 Z = true) (ws : List Jvm.Cond) (a d mm ss : Int32) (h0 : Heap) (n0 : Nat) (Z0 : n0 ≤ h0.size)  :
    Ctr l Z x code maxLocals ret ws room_1 #[(.int a), (.int d), (.int mm), (.int ss)] h0 (LawQ n0) := by
  refine Ctr.intro (plainFor_of_name pn_com_example_ithuriel_ithuriel_measure_MzRangeContainsPinLaw) (Ls := #[.val (.int a), .val (.int d), .val (.int mm), .val (.int ss), .unset, .unset, .unset, .unset, .unset, .unset, .unset, .unset, .unset, .unset]) (fun m => by first | (simp [entryFrame, mkF, argsToLocals, Value.category, maxLocals]; done) | rfl) ?_
  intro p e s m below meth c T0 hx hby hml hown hnm hret hlk hZ e0 X0
  have N0 := Fr.nil n0
  have hown : s.vm.findClass "com/example/ithuriel/ithuriel/measure/MzRangeContainsPinLaw" = some m.cls := hown
  have hret : meth.sig.returnType = (some .boolean) := hret
  have hml : c.maxLocals = 14 := hml
  show Done p e below s _ _ (T0.setTop (mkF m 0 #[.val (.int a), .val (.int d), .val (.int mm), .val (.int ss), .unset, .unset, .unset, .unset, .unset, .unset, .unset, .unset, .unset, .unset] []))
  refine Done.step (fun _ => XS.iloadN X0.here hx rfl (hb hby at_0) rfl) ?_
  show Done p e below s _ _ (T0.setTop (mkF m 1 #[.val (.int a), .val (.int d), .val (.int mm), .val (.int ss), .unset, .unset, .unset, .unset, .unset, .unset, .unset, .unset, .unset, .unset] [(.int a)]))
  refine Done.step (fun _ => XT.i2l X0.here hx rfl (hb hby at_1) rfl) ?_
  show Done p e below s _ _ (T0.setTop (mkF m 2 #[.val (.int a), .val (.int d), .val (.int mm), .val (.int ss), .unset, .unset, .unset, .unset, .unset, .unset, .unset, .unset, .unset, .unset] [(.long (a.toInt64))]))
  refine Done.step (fun _ => XT.lstore X0.here hx rfl (hb hby at_2) rfl (l' := #[.val (.int a), .val (.int d), .val (.int mm), .val (.int ss), .val (.long (a.toInt64)), .second, .unset, .unset, .unset, .unset, .unset, .unset, .unset, .unset]) rfl) ?_
  show Done p e below s _ _ (T0.setTop (mkF m 4 #[.val (.int a), .val (.int d), .val (.int mm), .val (.int ss), .val (.long (a.toInt64)), .second, .unset, .unset, .unset, .unset, .unset, .unset, .unset, .unset] []))
  refine Done.step (fun _ => XT.lload X0.here hx rfl (hb hby at_4) rfl) ?_
  show Done p e below s _ _ (T0.setTop (mkF m 6 #[.val (.int a), .val (.int d), .val (.int mm), .val (.int ss), .val (.long (a.toInt64)), .second, .unset, .unset, .unset, .unset, .unset, .unset, .unset, .unset] [(.long (a.toInt64))]))
  refine Done.step (fun _ => XT.lconstV X0.here hx rfl (1 : Int64) (hb hby at_6) (by decide)) ?_
  show Done p e below s _ _ (T0.setTop (mkF m 7 #[.val (.int a), .val (.int d), .val (.int mm), .val (.int ss), .val (.long (a.toInt64)), .second, .unset, .unset, .unset, .unset, .unset, .unset, .unset, .unset] [(.long (1 : Int64)), (.long (a.toInt64))]))
  refine Done.step (fun _ => XT.ladd X0.here hx rfl (hb hby at_7) rfl) ?_
  show Done p e below s _ _ (T0.setTop (mkF m 8 #[.val (.int a), .val (.int d), .val (.int mm), .val (.int ss), .val (.long (a.toInt64)), .second, .unset, .unset, .unset, .unset, .unset, .unset, .unset, .unset] [(.long ((a.toInt64) + (1 : Int64)))]))
  refine Done.step (fun _ => XS.iloadN X0.here hx rfl (hb hby at_8) rfl) ?_
  show Done p e below s _ _ (T0.setTop (mkF m 9 #[.val (.int a), .val (.int d), .val (.int mm), .val (.int ss), .val (.long (a.toInt64)), .second, .unset, .unset, .unset, .unset, .unset, .unset, .unset, .unset] [(.int d), (.long ((a.toInt64) + (1 : Int64)))]))
  refine Done.step (fun _ => Stand.ldcI X0 hx hown (mvT hZ (wAt hw 0 rfl)) (g := (mkF m 9 #[.val (.int a), .val (.int d), .val (.int mm), .val (.int ss), .val (.long (a.toInt64)), .second, .unset, .unset, .unset, .unset, .unset, .unset, .unset, .unset] [(.int d), (.long ((a.toInt64) + (1 : Int64)))])) rfl (hb hby at_9)) ?_
  show Done p e below s _ _ (T0.setTop (mkF m 11 #[.val (.int a), .val (.int d), .val (.int mm), .val (.int ss), .val (.long (a.toInt64)), .second, .unset, .unset, .unset, .unset, .unset, .unset, .unset, .unset] [(.int (2147483647 : Int32)), (.int d), (.long ((a.toInt64) + (1 : Int64)))]))
  refine Done.step (fun _ => XS.iand X0.here hx rfl (hb hby at_11) rfl) ?_
  show Done p e below s _ _ (T0.setTop (mkF m 12 #[.val (.int a), .val (.int d), .val (.int mm), .val (.int ss), .val (.long (a.toInt64)), .second, .unset, .unset, .unset, .unset, .unset, .unset, .unset, .unset] [(.int (d &&& (2147483647 : Int32))), (.long ((a.toInt64) + (1 : Int64)))]))
  refine Done.step (fun _ => XT.i2l X0.here hx rfl (hb hby at_12) rfl) ?_
  show Done p e below s _ _ (T0.setTop (mkF m 13 #[.val (.int a), .val (.int d), .val (.int mm), .val (.int ss), .val (.long (a.toInt64)), .second, .unset, .unset, .unset, .unset, .unset, .unset, .unset, .unset] [(.long ((d &&& (2147483647 : Int32)).toInt64)), (.long ((a.toInt64) + (1 : Int64)))]))
  refine Done.step (fun _ => XT.ladd X0.here hx rfl (hb hby at_13) rfl) ?_
  show Done p e below s _ _ (T0.setTop (mkF m 14 #[.val (.int a), .val (.int d), .val (.int mm), .val (.int ss), .val (.long (a.toInt64)), .second, .unset, .unset, .unset, .unset, .unset, .unset, .unset, .unset] [(.long (((a.toInt64) + (1 : Int64)) + ((d &&& (2147483647 : Int32)).toInt64)))]))
  refine Done.step (fun _ => XT.lstore X0.here hx rfl (hb hby at_14) rfl (l' := #[.val (.int a), .val (.int d), .val (.int mm), .val (.int ss), .val (.long (a.toInt64)), .second, .val (.long (((a.toInt64) + (1 : Int64)) + ((d &&& (2147483647 : Int32)).toInt64))), .second, .unset, .unset, .unset, .unset, .unset, .unset]) rfl) ?_
  show Done p e below s _ _ (T0.setTop (mkF m 16 #[.val (.int a), .val (.int d), .val (.int mm), .val (.int ss), .val (.long (a.toInt64)), .second, .val (.long (((a.toInt64) + (1 : Int64)) + ((d &&& (2147483647 : Int32)).toInt64))), .second, .unset, .unset, .unset, .unset, .unset, .unset] []))
  refine Done.step (fun _ => XS.iloadN X0.here hx rfl (hb hby at_16) rfl) ?_
  show Done p e below s _ _ (T0.setTop (mkF m 17 #[.val (.int a), .val (.int d), .val (.int mm), .val (.int ss), .val (.long (a.toInt64)), .second, .val (.long (((a.toInt64) + (1 : Int64)) + ((d &&& (2147483647 : Int32)).toInt64))), .second, .unset, .unset, .unset, .unset, .unset, .unset] [(.int ss)]))
  refine Done.step (fun _ => XT.bipushV X0.here hx rfl (7 : Int32) (hb hby at_17) (by decide)) ?_
  show Done p e below s _ _ (T0.setTop (mkF m 19 #[.val (.int a), .val (.int d), .val (.int mm), .val (.int ss), .val (.long (a.toInt64)), .second, .val (.long (((a.toInt64) + (1 : Int64)) + ((d &&& (2147483647 : Int32)).toInt64))), .second, .unset, .unset, .unset, .unset, .unset, .unset] [(.int (7 : Int32)), (.int ss)]))
  refine Done.step (fun _ => XS.iand X0.here hx rfl (hb hby at_19) rfl) ?_
  show Done p e below s _ _ (T0.setTop (mkF m 20 #[.val (.int a), .val (.int d), .val (.int mm), .val (.int ss), .val (.long (a.toInt64)), .second, .val (.long (((a.toInt64) + (1 : Int64)) + ((d &&& (2147483647 : Int32)).toInt64))), .second, .unset, .unset, .unset, .unset, .unset, .unset] [(.int (ss &&& (7 : Int32)))]))
  refine Done.step (fun _ => XS.istore X0.here hx rfl (hb hby at_20) rfl (l' := #[.val (.int a), .val (.int d), .val (.int mm), .val (.int ss), .val (.long (a.toInt64)), .second, .val (.long (((a.toInt64) + (1 : Int64)) + ((d &&& (2147483647 : Int32)).toInt64))), .second, .val (.int (ss &&& (7 : Int32))), .unset, .unset, .unset, .unset, .unset]) rfl) ?_
  show Done p e below s _ _ (T0.setTop (mkF m 22 #[.val (.int a), .val (.int d), .val (.int mm), .val (.int ss), .val (.long (a.toInt64)), .second, .val (.long (((a.toInt64) + (1 : Int64)) + ((d &&& (2147483647 : Int32)).toInt64))), .second, .val (.int (ss &&& (7 : Int32))), .unset, .unset, .unset, .unset, .unset] []))
  have K111 : ∀ (lo hi xx : Int64) (bL : B53 lo) (bH : B53 hi) (bX : B53 xx) (hlt : lo < hi), Done p e below s room_1 (LawQ n0) (T0.setTop (mkF m 111 #[.val (.int a), .val (.int d), .val (.int mm), .val (.int ss), .val (.long lo), .second, .val (.long hi), .second, .val (.int (ss &&& (7 : Int32))), .val (.long xx), .second, .unset, .unset, .unset] [])) := by
    intro lo hi xx bL bH bX hlt
    show Done p e below s _ _ (T0.setTop (mkF m 111 #[.val (.int a), .val (.int d), .val (.int mm), .val (.int ss), .val (.long lo), .second, .val (.long hi), .second, .val (.int (ss &&& (7 : Int32))), .val (.long xx), .second, .unset, .unset, .unset] []))
    obtain ⟨T1, h1, X1, e1, E1, A1, D1, -, st1⟩ := newO X0 hx hZ hown (wAt hw 1 rfl) (wAt hw 2 rfl) (wAt hw 3 rfl) e0 (g := (mkF m 111 #[.val (.int a), .val (.int d), .val (.int mm), .val (.int ss), .val (.long lo), .second, .val (.long hi), .second, .val (.int (ss &&& (7 : Int32))), .val (.long xx), .second, .unset, .unset, .unset] [])) rfl (hb hby at_111) (by decide) (by decide)
    obtain ⟨b1, g1⟩ : ∃ z, z = h0.size := ⟨_, rfl⟩
    rw [← g1] at A1 D1 st1
    have n0_b1 : n0 ≤ b1 := by rw [g1]; exact Z0
    have Zs1 := Nat.le_trans Z0 E1.1
    have F_low_b1 : Fld Z h1 b1 "com/example/ithuriel/ithuriel/measure/MzRange" "low" "D" (.double (0 : UInt64)) := D1 (Or.inr (wAt hw 25 rfl)) (ty := .double) (by decide)
    have F_high_b1 : Fld Z h1 b1 "com/example/ithuriel/ithuriel/measure/MzRange" "high" "D" (.double (0 : UInt64)) := D1 (Or.inr (wAt hw 27 rfl)) (ty := .double) (by decide)
    refine Done.step st1 ?_
    show Done p e below s _ _ (T1.setTop (mkF m 114 #[.val (.int a), .val (.int d), .val (.int mm), .val (.int ss), .val (.long lo), .second, .val (.long hi), .second, .val (.int (ss &&& (7 : Int32))), .val (.long xx), .second, .unset, .unset, .unset] [(.ref b1)]))
    refine Done.step (fun _ => XS.dup X1.here hx rfl (hb hby at_114) rfl rfl) ?_
    show Done p e below s _ _ (T1.setTop (mkF m 115 #[.val (.int a), .val (.int d), .val (.int mm), .val (.int ss), .val (.long lo), .second, .val (.long hi), .second, .val (.int (ss &&& (7 : Int32))), .val (.long xx), .second, .unset, .unset, .unset] [(.ref b1), (.ref b1)]))
    refine Done.step (fun _ => XT.lload X1.here hx rfl (hb hby at_115) rfl) ?_
    show Done p e below s _ _ (T1.setTop (mkF m 117 #[.val (.int a), .val (.int d), .val (.int mm), .val (.int ss), .val (.long lo), .second, .val (.long hi), .second, .val (.int (ss &&& (7 : Int32))), .val (.long xx), .second, .unset, .unset, .unset] [(.long lo), (.ref b1), (.ref b1)]))
    refine Done.step (fun _ => XS.l2dS X1.here hx rfl (v := FP.l2d lo) (hb hby at_117) rfl rfl) ?_
    show Done p e below s _ _ (T1.setTop (mkF m 118 #[.val (.int a), .val (.int d), .val (.int mm), .val (.int ss), .val (.long lo), .second, .val (.long hi), .second, .val (.int (ss &&& (7 : Int32))), .val (.long xx), .second, .unset, .unset, .unset] [(.double (FP.l2d lo)), (.ref b1), (.ref b1)]))
    refine Done.step (fun _ => XT.lload X1.here hx rfl (hb hby at_118) rfl) ?_
    show Done p e below s _ _ (T1.setTop (mkF m 120 #[.val (.int a), .val (.int d), .val (.int mm), .val (.int ss), .val (.long lo), .second, .val (.long hi), .second, .val (.int (ss &&& (7 : Int32))), .val (.long xx), .second, .unset, .unset, .unset] [(.long hi), (.double (FP.l2d lo)), (.ref b1), (.ref b1)]))
    refine Done.step (fun _ => XS.l2dS X1.here hx rfl (v := FP.l2d hi) (hb hby at_120) rfl rfl) ?_
    show Done p e below s _ _ (T1.setTop (mkF m 121 #[.val (.int a), .val (.int d), .val (.int mm), .val (.int ss), .val (.long lo), .second, .val (.long hi), .second, .val (.int (ss &&& (7 : Int32))), .val (.long xx), .second, .unset, .unset, .unset] [(.double (FP.l2d hi)), (.double (FP.l2d lo)), (.ref b1), (.ref b1)]))
    refine Done.callI X1 hx hZ rfl hown (wAt hw 4 rfl) (wAt hw 5 rfl) (wAt hw 3 rfl) (wAt hw 6 rfl) (by decide) (rmM l Z a0 hw [] b1 lo hi (FP.l2d lo) (FP.l2d hi) h1 n0 Zs1 rfl rfl A1 F_low_b1 F_high_b1 n0_b1 bL bH hlt) e1 (g := (mkF m 121 #[.val (.int a), .val (.int d), .val (.int mm), .val (.int ss), .val (.long lo), .second, .val (.long hi), .second, .val (.int (ss &&& (7 : Int32))), .val (.long xx), .second, .unset, .unset, .unset] [(.double (FP.l2d hi)), (.double (FP.l2d lo)), (.ref b1), (.ref b1)])) rfl (by rw [hml]; rfl) b1 [(.double (FP.l2d lo)), (.double (FP.l2d hi))] [(.ref b1)] 1 (lenOf pd_3 rfl) rfl rfl (by show 2 * 0 + _ ≤ _; exact Nat.le_of_eq rfl) (hb hby at_121) (by decide) (by decide) (by decide) (by decide) ?_
    intro T2 v2 L2 X2 q2
    obtain ⟨rfl, Nq2, K2q, f2_0, f2_1, f2_2⟩ := q2
    have N2 := Fr.app N0 Nq2
    have Zs2 := Nat.le_trans Zs1 K2q.1
    show Done p e below s _ _ (T2.setTop (mkF m 124 #[.val (.int a), .val (.int d), .val (.int mm), .val (.int ss), .val (.long lo), .second, .val (.long hi), .second, .val (.int (ss &&& (7 : Int32))), .val (.long xx), .second, .unset, .unset, .unset] [(.ref b1)]))
    refine Done.step (fun _ => XS.astore X2.here hx rfl (hb hby at_124) rfl rfl (l' := #[.val (.int a), .val (.int d), .val (.int mm), .val (.int ss), .val (.long lo), .second, .val (.long hi), .second, .val (.int (ss &&& (7 : Int32))), .val (.long xx), .second, .val (.ref b1), .unset, .unset]) rfl) ?_
    show Done p e below s _ _ (T2.setTop (mkF m 126 #[.val (.int a), .val (.int d), .val (.int mm), .val (.int ss), .val (.long lo), .second, .val (.long hi), .second, .val (.int (ss &&& (7 : Int32))), .val (.long xx), .second, .val (.ref b1), .unset, .unset] []))
    refine Done.step (fun _ => XS.aload X2.here hx rfl (hb hby at_126) rfl rfl) ?_
    show Done p e below s _ _ (T2.setTop (mkF m 128 #[.val (.int a), .val (.int d), .val (.int mm), .val (.int ss), .val (.long lo), .second, .val (.long hi), .second, .val (.int (ss &&& (7 : Int32))), .val (.long xx), .second, .val (.ref b1), .unset, .unset] [(.ref b1)]))
    refine Done.step (fun _ => XT.lload X2.here hx rfl (hb hby at_128) rfl) ?_
    show Done p e below s _ _ (T2.setTop (mkF m 130 #[.val (.int a), .val (.int d), .val (.int mm), .val (.int ss), .val (.long lo), .second, .val (.long hi), .second, .val (.int (ss &&& (7 : Int32))), .val (.long xx), .second, .val (.ref b1), .unset, .unset] [(.long xx), (.ref b1)]))
    refine Done.step (fun _ => XS.l2dS X2.here hx rfl (v := FP.l2d xx) (hb hby at_130) rfl rfl) ?_
    show Done p e below s _ _ (T2.setTop (mkF m 131 #[.val (.int a), .val (.int d), .val (.int mm), .val (.int ss), .val (.long lo), .second, .val (.long hi), .second, .val (.int (ss &&& (7 : Int32))), .val (.long xx), .second, .val (.ref b1), .unset, .unset] [(.double (FP.l2d xx)), (.ref b1)]))
    by_cases hc3 : lo < xx ∧ ¬ hi < xx
    · refine Done.callVP X2 hx hZ (C := "com/example/ithuriel/ithuriel/measure/MzRange") hown (wAt hw 28 rfl) (wAt hw 29 rfl) (notFace_of_selects (args := #[]) (mvT hZ (wAt hw 31 rfl))) (wAt hw 31 rfl) (wAt hw 30 rfl) (wAt hw 3 rfl) (wAt hw 32 rfl) (by decide) (rmC l Z a0 hw [] b1 xx lo hi (FP.l2d xx) (FP.l2d lo) (FP.l2d hi) (1 : Int32) T2.heap n0 Zs2 rfl rfl rfl f2_1 f2_2 bX bL bH (bP_t hc3).symm) rfl f2_0 (g := (mkF m 131 #[.val (.int a), .val (.int d), .val (.int mm), .val (.int ss), .val (.long lo), .second, .val (.long hi), .second, .val (.int (ss &&& (7 : Int32))), .val (.long xx), .second, .val (.ref b1), .unset, .unset] [(.double (FP.l2d xx)), (.ref b1)])) rfl (by rw [hml]; rfl) [(.double (FP.l2d xx))] [] 0 (lenOf pd_2 rfl) rfl rfl (by show 2 * 0 + _ ≤ _; exact Nat.le_of_eq rfl) (hb hby at_131) (by decide) (by decide) (by decide) (by decide) rfl rfl ?_
      intro T4 X4 e4
      show Done p e below s _ _ (T4.setTop (mkF m 134 #[.val (.int a), .val (.int d), .val (.int mm), .val (.int ss), .val (.long lo), .second, .val (.long hi), .second, .val (.int (ss &&& (7 : Int32))), .val (.long xx), .second, .val (.ref b1), .unset, .unset] [(.int (1 : Int32))]))
      refine Done.step (fun _ => XS.istore X4.here hx rfl (hb hby at_134) rfl (l' := #[.val (.int a), .val (.int d), .val (.int mm), .val (.int ss), .val (.long lo), .second, .val (.long hi), .second, .val (.int (ss &&& (7 : Int32))), .val (.long xx), .second, .val (.ref b1), .val (.int (1 : Int32)), .unset]) rfl) ?_
      show Done p e below s _ _ (T4.setTop (mkF m 136 #[.val (.int a), .val (.int d), .val (.int mm), .val (.int ss), .val (.long lo), .second, .val (.long hi), .second, .val (.int (ss &&& (7 : Int32))), .val (.long xx), .second, .val (.ref b1), .val (.int (1 : Int32)), .unset] []))
      refine Done.step (fun _ => XT.lload X4.here hx rfl (hb hby at_136) rfl) ?_
      show Done p e below s _ _ (T4.setTop (mkF m 138 #[.val (.int a), .val (.int d), .val (.int mm), .val (.int ss), .val (.long lo), .second, .val (.long hi), .second, .val (.int (ss &&& (7 : Int32))), .val (.long xx), .second, .val (.ref b1), .val (.int (1 : Int32)), .unset] [(.long lo)]))
      refine Done.step (fun _ => XT.lload X4.here hx rfl (hb hby at_138) rfl) ?_
      show Done p e below s _ _ (T4.setTop (mkF m 140 #[.val (.int a), .val (.int d), .val (.int mm), .val (.int ss), .val (.long lo), .second, .val (.long hi), .second, .val (.int (ss &&& (7 : Int32))), .val (.long xx), .second, .val (.ref b1), .val (.int (1 : Int32)), .unset] [(.long xx), (.long lo)]))
      refine Done.step (fun _ => XT.lcmp X4.here hx rfl (hb hby at_140) rfl) ?_
      show Done p e below s _ _ (T4.setTop (mkF m 141 #[.val (.int a), .val (.int d), .val (.int mm), .val (.int ss), .val (.long lo), .second, .val (.long hi), .second, .val (.int (ss &&& (7 : Int32))), .val (.long xx), .second, .val (.ref b1), .val (.int (1 : Int32)), .unset] [(.int (XT.cmpL lo xx))]))
      refine Done.step (fun _ => XS.ifNo X4.here hx rfl (hb hby at_141) rfl (XT.ll_ge_f hc3.1)) ?_
      show Done p e below s _ _ (T4.setTop (mkF m 144 #[.val (.int a), .val (.int d), .val (.int mm), .val (.int ss), .val (.long lo), .second, .val (.long hi), .second, .val (.int (ss &&& (7 : Int32))), .val (.long xx), .second, .val (.ref b1), .val (.int (1 : Int32)), .unset] []))
      refine Done.step (fun _ => XT.lload X4.here hx rfl (hb hby at_144) rfl) ?_
      show Done p e below s _ _ (T4.setTop (mkF m 146 #[.val (.int a), .val (.int d), .val (.int mm), .val (.int ss), .val (.long lo), .second, .val (.long hi), .second, .val (.int (ss &&& (7 : Int32))), .val (.long xx), .second, .val (.ref b1), .val (.int (1 : Int32)), .unset] [(.long xx)]))
      refine Done.step (fun _ => XT.lload X4.here hx rfl (hb hby at_146) rfl) ?_
      show Done p e below s _ _ (T4.setTop (mkF m 148 #[.val (.int a), .val (.int d), .val (.int mm), .val (.int ss), .val (.long lo), .second, .val (.long hi), .second, .val (.int (ss &&& (7 : Int32))), .val (.long xx), .second, .val (.ref b1), .val (.int (1 : Int32)), .unset] [(.long hi), (.long xx)]))
      refine Done.step (fun _ => XT.lcmp X4.here hx rfl (hb hby at_148) rfl) ?_
      show Done p e below s _ _ (T4.setTop (mkF m 149 #[.val (.int a), .val (.int d), .val (.int mm), .val (.int ss), .val (.long lo), .second, .val (.long hi), .second, .val (.int (ss &&& (7 : Int32))), .val (.long xx), .second, .val (.ref b1), .val (.int (1 : Int32)), .unset] [(.int (XT.cmpL xx hi))]))
      refine Done.step (fun _ => XS.ifNo X4.here hx rfl (hb hby at_149) rfl (XT.ll_gt_f hc3.2)) ?_
      show Done p e below s _ _ (T4.setTop (mkF m 152 #[.val (.int a), .val (.int d), .val (.int mm), .val (.int ss), .val (.long lo), .second, .val (.long hi), .second, .val (.int (ss &&& (7 : Int32))), .val (.long xx), .second, .val (.ref b1), .val (.int (1 : Int32)), .unset] []))
      refine Done.step (fun _ => XT.iconstV X4.here hx rfl (1 : Int32) (hb hby at_152) (by decide)) ?_
      show Done p e below s _ _ (T4.setTop (mkF m 153 #[.val (.int a), .val (.int d), .val (.int mm), .val (.int ss), .val (.long lo), .second, .val (.long hi), .second, .val (.int (ss &&& (7 : Int32))), .val (.long xx), .second, .val (.ref b1), .val (.int (1 : Int32)), .unset] [(.int (1 : Int32))]))
      refine Done.step (fun _ => XS.goto X4.here hx rfl (pc0 := 153) (pc' := 157) rfl (hb hby at_153) (by decide) (by decide)) ?_
      show Done p e below s _ _ (T4.setTop (mkF m 157 #[.val (.int a), .val (.int d), .val (.int mm), .val (.int ss), .val (.long lo), .second, .val (.long hi), .second, .val (.int (ss &&& (7 : Int32))), .val (.long xx), .second, .val (.ref b1), .val (.int (1 : Int32)), .unset] [(.int (1 : Int32))]))
      refine Done.step (fun _ => XS.istore X4.here hx rfl (hb hby at_157) rfl (l' := #[.val (.int a), .val (.int d), .val (.int mm), .val (.int ss), .val (.long lo), .second, .val (.long hi), .second, .val (.int (ss &&& (7 : Int32))), .val (.long xx), .second, .val (.ref b1), .val (.int (1 : Int32)), .val (.int (1 : Int32))]) rfl) ?_
      show Done p e below s _ _ (T4.setTop (mkF m 159 #[.val (.int a), .val (.int d), .val (.int mm), .val (.int ss), .val (.long lo), .second, .val (.long hi), .second, .val (.int (ss &&& (7 : Int32))), .val (.long xx), .second, .val (.ref b1), .val (.int (1 : Int32)), .val (.int (1 : Int32))] []))
      refine Done.step (fun _ => XS.iload X4.here hx rfl (hb hby at_159) rfl) ?_
      show Done p e below s _ _ (T4.setTop (mkF m 161 #[.val (.int a), .val (.int d), .val (.int mm), .val (.int ss), .val (.long lo), .second, .val (.long hi), .second, .val (.int (ss &&& (7 : Int32))), .val (.long xx), .second, .val (.ref b1), .val (.int (1 : Int32)), .val (.int (1 : Int32))] [(.int (1 : Int32))]))
      refine Done.step (fun _ => XS.iload X4.here hx rfl (hb hby at_161) rfl) ?_
      show Done p e below s _ _ (T4.setTop (mkF m 163 #[.val (.int a), .val (.int d), .val (.int mm), .val (.int ss), .val (.long lo), .second, .val (.long hi), .second, .val (.int (ss &&& (7 : Int32))), .val (.long xx), .second, .val (.ref b1), .val (.int (1 : Int32)), .val (.int (1 : Int32))] [(.int (1 : Int32)), (.int (1 : Int32))]))
      refine Done.step (fun _ => XS.icmpNo X4.here hx rfl (hb hby at_163) rfl (XT.ii_ne_f rfl)) ?_
      show Done p e below s _ _ (T4.setTop (mkF m 166 #[.val (.int a), .val (.int d), .val (.int mm), .val (.int ss), .val (.long lo), .second, .val (.long hi), .second, .val (.int (ss &&& (7 : Int32))), .val (.long xx), .second, .val (.ref b1), .val (.int (1 : Int32)), .val (.int (1 : Int32))] []))
      refine Done.step (fun _ => XT.iconstV X4.here hx rfl (1 : Int32) (hb hby at_166) (by decide)) ?_
      show Done p e below s _ _ (T4.setTop (mkF m 167 #[.val (.int a), .val (.int d), .val (.int mm), .val (.int ss), .val (.long lo), .second, .val (.long hi), .second, .val (.int (ss &&& (7 : Int32))), .val (.long xx), .second, .val (.ref b1), .val (.int (1 : Int32)), .val (.int (1 : Int32))] [(.int (1 : Int32))]))
      refine Done.step (fun _ => XS.goto X4.here hx rfl (pc0 := 167) (pc' := 171) rfl (hb hby at_167) (by decide) (by decide)) ?_
      show Done p e below s _ _ (T4.setTop (mkF m 171 #[.val (.int a), .val (.int d), .val (.int mm), .val (.int ss), .val (.long lo), .second, .val (.long hi), .second, .val (.int (ss &&& (7 : Int32))), .val (.long xx), .second, .val (.ref b1), .val (.int (1 : Int32)), .val (.int (1 : Int32))] [(.int (1 : Int32))]))
      exact Done.retN X4 hx hlk (t := .boolean) hret (by simp) (hb hby at_171) (by decide) (by decide) ⟨rfl, N2⟩
    · refine Done.callVP X2 hx hZ (C := "com/example/ithuriel/ithuriel/measure/MzRange") hown (wAt hw 28 rfl) (wAt hw 29 rfl) (notFace_of_selects (args := #[]) (mvT hZ (wAt hw 31 rfl))) (wAt hw 31 rfl) (wAt hw 30 rfl) (wAt hw 3 rfl) (wAt hw 32 rfl) (by decide) (rmC l Z a0 hw [] b1 xx lo hi (FP.l2d xx) (FP.l2d lo) (FP.l2d hi) (0 : Int32) T2.heap n0 Zs2 rfl rfl rfl f2_1 f2_2 bX bL bH (bP_f hc3).symm) rfl f2_0 (g := (mkF m 131 #[.val (.int a), .val (.int d), .val (.int mm), .val (.int ss), .val (.long lo), .second, .val (.long hi), .second, .val (.int (ss &&& (7 : Int32))), .val (.long xx), .second, .val (.ref b1), .unset, .unset] [(.double (FP.l2d xx)), (.ref b1)])) rfl (by rw [hml]; rfl) [(.double (FP.l2d xx))] [] 0 (lenOf pd_2 rfl) rfl rfl (by show 2 * 0 + _ ≤ _; exact Nat.le_of_eq rfl) (hb hby at_131) (by decide) (by decide) (by decide) (by decide) rfl rfl ?_
      intro T5 X5 e5
      show Done p e below s _ _ (T5.setTop (mkF m 134 #[.val (.int a), .val (.int d), .val (.int mm), .val (.int ss), .val (.long lo), .second, .val (.long hi), .second, .val (.int (ss &&& (7 : Int32))), .val (.long xx), .second, .val (.ref b1), .unset, .unset] [(.int (0 : Int32))]))
      refine Done.step (fun _ => XS.istore X5.here hx rfl (hb hby at_134) rfl (l' := #[.val (.int a), .val (.int d), .val (.int mm), .val (.int ss), .val (.long lo), .second, .val (.long hi), .second, .val (.int (ss &&& (7 : Int32))), .val (.long xx), .second, .val (.ref b1), .val (.int (0 : Int32)), .unset]) rfl) ?_
      show Done p e below s _ _ (T5.setTop (mkF m 136 #[.val (.int a), .val (.int d), .val (.int mm), .val (.int ss), .val (.long lo), .second, .val (.long hi), .second, .val (.int (ss &&& (7 : Int32))), .val (.long xx), .second, .val (.ref b1), .val (.int (0 : Int32)), .unset] []))
      refine Done.step (fun _ => XT.lload X5.here hx rfl (hb hby at_136) rfl) ?_
      show Done p e below s _ _ (T5.setTop (mkF m 138 #[.val (.int a), .val (.int d), .val (.int mm), .val (.int ss), .val (.long lo), .second, .val (.long hi), .second, .val (.int (ss &&& (7 : Int32))), .val (.long xx), .second, .val (.ref b1), .val (.int (0 : Int32)), .unset] [(.long lo)]))
      refine Done.step (fun _ => XT.lload X5.here hx rfl (hb hby at_138) rfl) ?_
      show Done p e below s _ _ (T5.setTop (mkF m 140 #[.val (.int a), .val (.int d), .val (.int mm), .val (.int ss), .val (.long lo), .second, .val (.long hi), .second, .val (.int (ss &&& (7 : Int32))), .val (.long xx), .second, .val (.ref b1), .val (.int (0 : Int32)), .unset] [(.long xx), (.long lo)]))
      refine Done.step (fun _ => XT.lcmp X5.here hx rfl (hb hby at_140) rfl) ?_
      show Done p e below s _ _ (T5.setTop (mkF m 141 #[.val (.int a), .val (.int d), .val (.int mm), .val (.int ss), .val (.long lo), .second, .val (.long hi), .second, .val (.int (ss &&& (7 : Int32))), .val (.long xx), .second, .val (.ref b1), .val (.int (0 : Int32)), .unset] [(.int (XT.cmpL lo xx))]))
      by_cases hc6 : lo < xx
      · refine Done.step (fun _ => XS.ifNo X5.here hx rfl (hb hby at_141) rfl (XT.ll_ge_f hc6)) ?_
        show Done p e below s _ _ (T5.setTop (mkF m 144 #[.val (.int a), .val (.int d), .val (.int mm), .val (.int ss), .val (.long lo), .second, .val (.long hi), .second, .val (.int (ss &&& (7 : Int32))), .val (.long xx), .second, .val (.ref b1), .val (.int (0 : Int32)), .unset] []))
        refine Done.step (fun _ => XT.lload X5.here hx rfl (hb hby at_144) rfl) ?_
        show Done p e below s _ _ (T5.setTop (mkF m 146 #[.val (.int a), .val (.int d), .val (.int mm), .val (.int ss), .val (.long lo), .second, .val (.long hi), .second, .val (.int (ss &&& (7 : Int32))), .val (.long xx), .second, .val (.ref b1), .val (.int (0 : Int32)), .unset] [(.long xx)]))
        refine Done.step (fun _ => XT.lload X5.here hx rfl (hb hby at_146) rfl) ?_
        show Done p e below s _ _ (T5.setTop (mkF m 148 #[.val (.int a), .val (.int d), .val (.int mm), .val (.int ss), .val (.long lo), .second, .val (.long hi), .second, .val (.int (ss &&& (7 : Int32))), .val (.long xx), .second, .val (.ref b1), .val (.int (0 : Int32)), .unset] [(.long hi), (.long xx)]))
        refine Done.step (fun _ => XT.lcmp X5.here hx rfl (hb hby at_148) rfl) ?_
        show Done p e below s _ _ (T5.setTop (mkF m 149 #[.val (.int a), .val (.int d), .val (.int mm), .val (.int ss), .val (.long lo), .second, .val (.long hi), .second, .val (.int (ss &&& (7 : Int32))), .val (.long xx), .second, .val (.ref b1), .val (.int (0 : Int32)), .unset] [(.int (XT.cmpL xx hi))]))
        refine Done.step (fun _ => XS.ifYes X5.here hx rfl (pc0 := 149) (pc' := 156) rfl (hb hby at_149) rfl (XT.ll_gt_t (Decidable.not_not.mp (fun q => hc3 ⟨hc6, q⟩))) (by decide) (by decide)) ?_
        show Done p e below s _ _ (T5.setTop (mkF m 156 #[.val (.int a), .val (.int d), .val (.int mm), .val (.int ss), .val (.long lo), .second, .val (.long hi), .second, .val (.int (ss &&& (7 : Int32))), .val (.long xx), .second, .val (.ref b1), .val (.int (0 : Int32)), .unset] []))
        refine Done.step (fun _ => XT.iconstV X5.here hx rfl (0 : Int32) (hb hby at_156) (by decide)) ?_
        show Done p e below s _ _ (T5.setTop (mkF m 157 #[.val (.int a), .val (.int d), .val (.int mm), .val (.int ss), .val (.long lo), .second, .val (.long hi), .second, .val (.int (ss &&& (7 : Int32))), .val (.long xx), .second, .val (.ref b1), .val (.int (0 : Int32)), .unset] [(.int (0 : Int32))]))
        refine Done.step (fun _ => XS.istore X5.here hx rfl (hb hby at_157) rfl (l' := #[.val (.int a), .val (.int d), .val (.int mm), .val (.int ss), .val (.long lo), .second, .val (.long hi), .second, .val (.int (ss &&& (7 : Int32))), .val (.long xx), .second, .val (.ref b1), .val (.int (0 : Int32)), .val (.int (0 : Int32))]) rfl) ?_
        show Done p e below s _ _ (T5.setTop (mkF m 159 #[.val (.int a), .val (.int d), .val (.int mm), .val (.int ss), .val (.long lo), .second, .val (.long hi), .second, .val (.int (ss &&& (7 : Int32))), .val (.long xx), .second, .val (.ref b1), .val (.int (0 : Int32)), .val (.int (0 : Int32))] []))
        refine Done.step (fun _ => XS.iload X5.here hx rfl (hb hby at_159) rfl) ?_
        show Done p e below s _ _ (T5.setTop (mkF m 161 #[.val (.int a), .val (.int d), .val (.int mm), .val (.int ss), .val (.long lo), .second, .val (.long hi), .second, .val (.int (ss &&& (7 : Int32))), .val (.long xx), .second, .val (.ref b1), .val (.int (0 : Int32)), .val (.int (0 : Int32))] [(.int (0 : Int32))]))
        refine Done.step (fun _ => XS.iload X5.here hx rfl (hb hby at_161) rfl) ?_
        show Done p e below s _ _ (T5.setTop (mkF m 163 #[.val (.int a), .val (.int d), .val (.int mm), .val (.int ss), .val (.long lo), .second, .val (.long hi), .second, .val (.int (ss &&& (7 : Int32))), .val (.long xx), .second, .val (.ref b1), .val (.int (0 : Int32)), .val (.int (0 : Int32))] [(.int (0 : Int32)), (.int (0 : Int32))]))
        refine Done.step (fun _ => XS.icmpNo X5.here hx rfl (hb hby at_163) rfl (XT.ii_ne_f rfl)) ?_
        show Done p e below s _ _ (T5.setTop (mkF m 166 #[.val (.int a), .val (.int d), .val (.int mm), .val (.int ss), .val (.long lo), .second, .val (.long hi), .second, .val (.int (ss &&& (7 : Int32))), .val (.long xx), .second, .val (.ref b1), .val (.int (0 : Int32)), .val (.int (0 : Int32))] []))
        refine Done.step (fun _ => XT.iconstV X5.here hx rfl (1 : Int32) (hb hby at_166) (by decide)) ?_
        show Done p e below s _ _ (T5.setTop (mkF m 167 #[.val (.int a), .val (.int d), .val (.int mm), .val (.int ss), .val (.long lo), .second, .val (.long hi), .second, .val (.int (ss &&& (7 : Int32))), .val (.long xx), .second, .val (.ref b1), .val (.int (0 : Int32)), .val (.int (0 : Int32))] [(.int (1 : Int32))]))
        refine Done.step (fun _ => XS.goto X5.here hx rfl (pc0 := 167) (pc' := 171) rfl (hb hby at_167) (by decide) (by decide)) ?_
        show Done p e below s _ _ (T5.setTop (mkF m 171 #[.val (.int a), .val (.int d), .val (.int mm), .val (.int ss), .val (.long lo), .second, .val (.long hi), .second, .val (.int (ss &&& (7 : Int32))), .val (.long xx), .second, .val (.ref b1), .val (.int (0 : Int32)), .val (.int (0 : Int32))] [(.int (1 : Int32))]))
        exact Done.retN X5 hx hlk (t := .boolean) hret (by simp) (hb hby at_171) (by decide) (by decide) ⟨rfl, N2⟩
      · refine Done.step (fun _ => XS.ifYes X5.here hx rfl (pc0 := 141) (pc' := 156) rfl (hb hby at_141) rfl (XT.ll_ge_t hc6) (by decide) (by decide)) ?_
        show Done p e below s _ _ (T5.setTop (mkF m 156 #[.val (.int a), .val (.int d), .val (.int mm), .val (.int ss), .val (.long lo), .second, .val (.long hi), .second, .val (.int (ss &&& (7 : Int32))), .val (.long xx), .second, .val (.ref b1), .val (.int (0 : Int32)), .unset] []))
        refine Done.step (fun _ => XT.iconstV X5.here hx rfl (0 : Int32) (hb hby at_156) (by decide)) ?_
        show Done p e below s _ _ (T5.setTop (mkF m 157 #[.val (.int a), .val (.int d), .val (.int mm), .val (.int ss), .val (.long lo), .second, .val (.long hi), .second, .val (.int (ss &&& (7 : Int32))), .val (.long xx), .second, .val (.ref b1), .val (.int (0 : Int32)), .unset] [(.int (0 : Int32))]))
        refine Done.step (fun _ => XS.istore X5.here hx rfl (hb hby at_157) rfl (l' := #[.val (.int a), .val (.int d), .val (.int mm), .val (.int ss), .val (.long lo), .second, .val (.long hi), .second, .val (.int (ss &&& (7 : Int32))), .val (.long xx), .second, .val (.ref b1), .val (.int (0 : Int32)), .val (.int (0 : Int32))]) rfl) ?_
        show Done p e below s _ _ (T5.setTop (mkF m 159 #[.val (.int a), .val (.int d), .val (.int mm), .val (.int ss), .val (.long lo), .second, .val (.long hi), .second, .val (.int (ss &&& (7 : Int32))), .val (.long xx), .second, .val (.ref b1), .val (.int (0 : Int32)), .val (.int (0 : Int32))] []))
        refine Done.step (fun _ => XS.iload X5.here hx rfl (hb hby at_159) rfl) ?_
        show Done p e below s _ _ (T5.setTop (mkF m 161 #[.val (.int a), .val (.int d), .val (.int mm), .val (.int ss), .val (.long lo), .second, .val (.long hi), .second, .val (.int (ss &&& (7 : Int32))), .val (.long xx), .second, .val (.ref b1), .val (.int (0 : Int32)), .val (.int (0 : Int32))] [(.int (0 : Int32))]))
        refine Done.step (fun _ => XS.iload X5.here hx rfl (hb hby at_161) rfl) ?_
        show Done p e below s _ _ (T5.setTop (mkF m 163 #[.val (.int a), .val (.int d), .val (.int mm), .val (.int ss), .val (.long lo), .second, .val (.long hi), .second, .val (.int (ss &&& (7 : Int32))), .val (.long xx), .second, .val (.ref b1), .val (.int (0 : Int32)), .val (.int (0 : Int32))] [(.int (0 : Int32)), (.int (0 : Int32))]))
        refine Done.step (fun _ => XS.icmpNo X5.here hx rfl (hb hby at_163) rfl (XT.ii_ne_f rfl)) ?_
        show Done p e below s _ _ (T5.setTop (mkF m 166 #[.val (.int a), .val (.int d), .val (.int mm), .val (.int ss), .val (.long lo), .second, .val (.long hi), .second, .val (.int (ss &&& (7 : Int32))), .val (.long xx), .second, .val (.ref b1), .val (.int (0 : Int32)), .val (.int (0 : Int32))] []))
        refine Done.step (fun _ => XT.iconstV X5.here hx rfl (1 : Int32) (hb hby at_166) (by decide)) ?_
        show Done p e below s _ _ (T5.setTop (mkF m 167 #[.val (.int a), .val (.int d), .val (.int mm), .val (.int ss), .val (.long lo), .second, .val (.long hi), .second, .val (.int (ss &&& (7 : Int32))), .val (.long xx), .second, .val (.ref b1), .val (.int (0 : Int32)), .val (.int (0 : Int32))] [(.int (1 : Int32))]))
        refine Done.step (fun _ => XS.goto X5.here hx rfl (pc0 := 167) (pc' := 171) rfl (hb hby at_167) (by decide) (by decide)) ?_
        show Done p e below s _ _ (T5.setTop (mkF m 171 #[.val (.int a), .val (.int d), .val (.int mm), .val (.int ss), .val (.long lo), .second, .val (.long hi), .second, .val (.int (ss &&& (7 : Int32))), .val (.long xx), .second, .val (.ref b1), .val (.int (0 : Int32)), .val (.int (0 : Int32))] [(.int (1 : Int32))]))
        exact Done.retN X5 hx hlk (t := .boolean) hret (by simp) (hb hby at_171) (by decide) (by decide) ⟨rfl, N2⟩
  refine Done.step (fun _ => XS.iload X0.here hx rfl (hb hby at_22) rfl) ?_
  show Done p e below s _ _ (T0.setTop (mkF m 24 #[.val (.int a), .val (.int d), .val (.int mm), .val (.int ss), .val (.long (a.toInt64)), .second, .val (.long (((a.toInt64) + (1 : Int64)) + ((d &&& (2147483647 : Int32)).toInt64))), .second, .val (.int (ss &&& (7 : Int32))), .unset, .unset, .unset, .unset, .unset] [(.int (ss &&& (7 : Int32)))]))
  by_cases hc7 : (ss &&& (7 : Int32)) = (0 : Int32)
  · refine Done.step (fun _ => XS.ifNo X0.here hx rfl (hb hby at_24) rfl (XT.i0_ne_f hc7)) ?_
    show Done p e below s _ _ (T0.setTop (mkF m 27 #[.val (.int a), .val (.int d), .val (.int mm), .val (.int ss), .val (.long (a.toInt64)), .second, .val (.long (((a.toInt64) + (1 : Int64)) + ((d &&& (2147483647 : Int32)).toInt64))), .second, .val (.int (ss &&& (7 : Int32))), .unset, .unset, .unset, .unset, .unset] []))
    refine Done.step (fun _ => XT.lload X0.here hx rfl (hb hby at_27) rfl) ?_
    show Done p e below s _ _ (T0.setTop (mkF m 29 #[.val (.int a), .val (.int d), .val (.int mm), .val (.int ss), .val (.long (a.toInt64)), .second, .val (.long (((a.toInt64) + (1 : Int64)) + ((d &&& (2147483647 : Int32)).toInt64))), .second, .val (.int (ss &&& (7 : Int32))), .unset, .unset, .unset, .unset, .unset] [(.long (a.toInt64))]))
    refine Done.step (fun _ => XT.lstore X0.here hx rfl (hb hby at_29) rfl (l' := #[.val (.int a), .val (.int d), .val (.int mm), .val (.int ss), .val (.long (a.toInt64)), .second, .val (.long (((a.toInt64) + (1 : Int64)) + ((d &&& (2147483647 : Int32)).toInt64))), .second, .val (.int (ss &&& (7 : Int32))), .val (.long (a.toInt64)), .second, .unset, .unset, .unset]) rfl) ?_
    show Done p e below s _ _ (T0.setTop (mkF m 31 #[.val (.int a), .val (.int d), .val (.int mm), .val (.int ss), .val (.long (a.toInt64)), .second, .val (.long (((a.toInt64) + (1 : Int64)) + ((d &&& (2147483647 : Int32)).toInt64))), .second, .val (.int (ss &&& (7 : Int32))), .val (.long (a.toInt64)), .second, .unset, .unset, .unset] []))
    refine Done.step (fun _ => XS.goto X0.here hx rfl (pc0 := 31) (pc' := 111) rfl (hb hby at_31) (by decide) (by decide)) ?_
    show Done p e below s _ _ (T0.setTop (mkF m 111 #[.val (.int a), .val (.int d), .val (.int mm), .val (.int ss), .val (.long (a.toInt64)), .second, .val (.long (((a.toInt64) + (1 : Int64)) + ((d &&& (2147483647 : Int32)).toInt64))), .second, .val (.int (ss &&& (7 : Int32))), .val (.long (a.toInt64)), .second, .unset, .unset, .unset] []))
    exact K111 (a.toInt64) (((a.toInt64) + (1 : Int64)) + ((d &&& (2147483647 : Int32)).toInt64)) (a.toInt64) (own_b (own_s32 a) (by decide)) (own_b (own_sadd (own_sadd (own_s32 a) own_s1 (by decide)) (own_s32 (d &&& (2147483647 : Int32))) (by decide)) (by decide)) (own_b (own_s32 a) (by decide)) (own_lohi a d)
  · refine Done.step (fun _ => XS.ifYes X0.here hx rfl (pc0 := 24) (pc' := 34) rfl (hb hby at_24) rfl (XT.i0_ne_t hc7) (by decide) (by decide)) ?_
    show Done p e below s _ _ (T0.setTop (mkF m 34 #[.val (.int a), .val (.int d), .val (.int mm), .val (.int ss), .val (.long (a.toInt64)), .second, .val (.long (((a.toInt64) + (1 : Int64)) + ((d &&& (2147483647 : Int32)).toInt64))), .second, .val (.int (ss &&& (7 : Int32))), .unset, .unset, .unset, .unset, .unset] []))
    refine Done.step (fun _ => XS.iload X0.here hx rfl (hb hby at_34) rfl) ?_
    show Done p e below s _ _ (T0.setTop (mkF m 36 #[.val (.int a), .val (.int d), .val (.int mm), .val (.int ss), .val (.long (a.toInt64)), .second, .val (.long (((a.toInt64) + (1 : Int64)) + ((d &&& (2147483647 : Int32)).toInt64))), .second, .val (.int (ss &&& (7 : Int32))), .unset, .unset, .unset, .unset, .unset] [(.int (ss &&& (7 : Int32)))]))
    refine Done.step (fun _ => XT.iconstV X0.here hx rfl (1 : Int32) (hb hby at_36) (by decide)) ?_
    show Done p e below s _ _ (T0.setTop (mkF m 37 #[.val (.int a), .val (.int d), .val (.int mm), .val (.int ss), .val (.long (a.toInt64)), .second, .val (.long (((a.toInt64) + (1 : Int64)) + ((d &&& (2147483647 : Int32)).toInt64))), .second, .val (.int (ss &&& (7 : Int32))), .unset, .unset, .unset, .unset, .unset] [(.int (1 : Int32)), (.int (ss &&& (7 : Int32)))]))
    by_cases hc8 : (ss &&& (7 : Int32)) = (1 : Int32)
    · refine Done.step (fun _ => XS.icmpNo X0.here hx rfl (hb hby at_37) rfl (XT.ii_ne_f hc8)) ?_
      show Done p e below s _ _ (T0.setTop (mkF m 40 #[.val (.int a), .val (.int d), .val (.int mm), .val (.int ss), .val (.long (a.toInt64)), .second, .val (.long (((a.toInt64) + (1 : Int64)) + ((d &&& (2147483647 : Int32)).toInt64))), .second, .val (.int (ss &&& (7 : Int32))), .unset, .unset, .unset, .unset, .unset] []))
      refine Done.step (fun _ => XT.lload X0.here hx rfl (hb hby at_40) rfl) ?_
      show Done p e below s _ _ (T0.setTop (mkF m 42 #[.val (.int a), .val (.int d), .val (.int mm), .val (.int ss), .val (.long (a.toInt64)), .second, .val (.long (((a.toInt64) + (1 : Int64)) + ((d &&& (2147483647 : Int32)).toInt64))), .second, .val (.int (ss &&& (7 : Int32))), .unset, .unset, .unset, .unset, .unset] [(.long (a.toInt64))]))
      refine Done.step (fun _ => XT.lconstV X0.here hx rfl (1 : Int64) (hb hby at_42) (by decide)) ?_
      show Done p e below s _ _ (T0.setTop (mkF m 43 #[.val (.int a), .val (.int d), .val (.int mm), .val (.int ss), .val (.long (a.toInt64)), .second, .val (.long (((a.toInt64) + (1 : Int64)) + ((d &&& (2147483647 : Int32)).toInt64))), .second, .val (.int (ss &&& (7 : Int32))), .unset, .unset, .unset, .unset, .unset] [(.long (1 : Int64)), (.long (a.toInt64))]))
      refine Done.step (fun _ => XT.ladd X0.here hx rfl (hb hby at_43) rfl) ?_
      show Done p e below s _ _ (T0.setTop (mkF m 44 #[.val (.int a), .val (.int d), .val (.int mm), .val (.int ss), .val (.long (a.toInt64)), .second, .val (.long (((a.toInt64) + (1 : Int64)) + ((d &&& (2147483647 : Int32)).toInt64))), .second, .val (.int (ss &&& (7 : Int32))), .unset, .unset, .unset, .unset, .unset] [(.long ((a.toInt64) + (1 : Int64)))]))
      refine Done.step (fun _ => XT.lstore X0.here hx rfl (hb hby at_44) rfl (l' := #[.val (.int a), .val (.int d), .val (.int mm), .val (.int ss), .val (.long (a.toInt64)), .second, .val (.long (((a.toInt64) + (1 : Int64)) + ((d &&& (2147483647 : Int32)).toInt64))), .second, .val (.int (ss &&& (7 : Int32))), .val (.long ((a.toInt64) + (1 : Int64))), .second, .unset, .unset, .unset]) rfl) ?_
      show Done p e below s _ _ (T0.setTop (mkF m 46 #[.val (.int a), .val (.int d), .val (.int mm), .val (.int ss), .val (.long (a.toInt64)), .second, .val (.long (((a.toInt64) + (1 : Int64)) + ((d &&& (2147483647 : Int32)).toInt64))), .second, .val (.int (ss &&& (7 : Int32))), .val (.long ((a.toInt64) + (1 : Int64))), .second, .unset, .unset, .unset] []))
      refine Done.step (fun _ => XS.goto X0.here hx rfl (pc0 := 46) (pc' := 111) rfl (hb hby at_46) (by decide) (by decide)) ?_
      show Done p e below s _ _ (T0.setTop (mkF m 111 #[.val (.int a), .val (.int d), .val (.int mm), .val (.int ss), .val (.long (a.toInt64)), .second, .val (.long (((a.toInt64) + (1 : Int64)) + ((d &&& (2147483647 : Int32)).toInt64))), .second, .val (.int (ss &&& (7 : Int32))), .val (.long ((a.toInt64) + (1 : Int64))), .second, .unset, .unset, .unset] []))
      exact K111 (a.toInt64) (((a.toInt64) + (1 : Int64)) + ((d &&& (2147483647 : Int32)).toInt64)) ((a.toInt64) + (1 : Int64)) (own_b (own_s32 a) (by decide)) (own_b (own_sadd (own_sadd (own_s32 a) own_s1 (by decide)) (own_s32 (d &&& (2147483647 : Int32))) (by decide)) (by decide)) (own_b (own_sadd (own_s32 a) own_s1 (by decide)) (by decide)) (own_lohi a d)
    · refine Done.step (fun _ => XS.icmpYes X0.here hx rfl (pc0 := 37) (pc' := 49) rfl (hb hby at_37) rfl (XT.ii_ne_t hc8) (by decide) (by decide)) ?_
      show Done p e below s _ _ (T0.setTop (mkF m 49 #[.val (.int a), .val (.int d), .val (.int mm), .val (.int ss), .val (.long (a.toInt64)), .second, .val (.long (((a.toInt64) + (1 : Int64)) + ((d &&& (2147483647 : Int32)).toInt64))), .second, .val (.int (ss &&& (7 : Int32))), .unset, .unset, .unset, .unset, .unset] []))
      refine Done.step (fun _ => XS.iload X0.here hx rfl (hb hby at_49) rfl) ?_
      show Done p e below s _ _ (T0.setTop (mkF m 51 #[.val (.int a), .val (.int d), .val (.int mm), .val (.int ss), .val (.long (a.toInt64)), .second, .val (.long (((a.toInt64) + (1 : Int64)) + ((d &&& (2147483647 : Int32)).toInt64))), .second, .val (.int (ss &&& (7 : Int32))), .unset, .unset, .unset, .unset, .unset] [(.int (ss &&& (7 : Int32)))]))
      refine Done.step (fun _ => XT.iconstV X0.here hx rfl (2 : Int32) (hb hby at_51) (by decide)) ?_
      show Done p e below s _ _ (T0.setTop (mkF m 52 #[.val (.int a), .val (.int d), .val (.int mm), .val (.int ss), .val (.long (a.toInt64)), .second, .val (.long (((a.toInt64) + (1 : Int64)) + ((d &&& (2147483647 : Int32)).toInt64))), .second, .val (.int (ss &&& (7 : Int32))), .unset, .unset, .unset, .unset, .unset] [(.int (2 : Int32)), (.int (ss &&& (7 : Int32)))]))
      by_cases hc9 : (ss &&& (7 : Int32)) = (2 : Int32)
      · refine Done.step (fun _ => XS.icmpNo X0.here hx rfl (hb hby at_52) rfl (XT.ii_ne_f hc9)) ?_
        show Done p e below s _ _ (T0.setTop (mkF m 55 #[.val (.int a), .val (.int d), .val (.int mm), .val (.int ss), .val (.long (a.toInt64)), .second, .val (.long (((a.toInt64) + (1 : Int64)) + ((d &&& (2147483647 : Int32)).toInt64))), .second, .val (.int (ss &&& (7 : Int32))), .unset, .unset, .unset, .unset, .unset] []))
        refine Done.step (fun _ => XT.lload X0.here hx rfl (hb hby at_55) rfl) ?_
        show Done p e below s _ _ (T0.setTop (mkF m 57 #[.val (.int a), .val (.int d), .val (.int mm), .val (.int ss), .val (.long (a.toInt64)), .second, .val (.long (((a.toInt64) + (1 : Int64)) + ((d &&& (2147483647 : Int32)).toInt64))), .second, .val (.int (ss &&& (7 : Int32))), .unset, .unset, .unset, .unset, .unset] [(.long (((a.toInt64) + (1 : Int64)) + ((d &&& (2147483647 : Int32)).toInt64)))]))
        refine Done.step (fun _ => XT.lstore X0.here hx rfl (hb hby at_57) rfl (l' := #[.val (.int a), .val (.int d), .val (.int mm), .val (.int ss), .val (.long (a.toInt64)), .second, .val (.long (((a.toInt64) + (1 : Int64)) + ((d &&& (2147483647 : Int32)).toInt64))), .second, .val (.int (ss &&& (7 : Int32))), .val (.long (((a.toInt64) + (1 : Int64)) + ((d &&& (2147483647 : Int32)).toInt64))), .second, .unset, .unset, .unset]) rfl) ?_
        show Done p e below s _ _ (T0.setTop (mkF m 59 #[.val (.int a), .val (.int d), .val (.int mm), .val (.int ss), .val (.long (a.toInt64)), .second, .val (.long (((a.toInt64) + (1 : Int64)) + ((d &&& (2147483647 : Int32)).toInt64))), .second, .val (.int (ss &&& (7 : Int32))), .val (.long (((a.toInt64) + (1 : Int64)) + ((d &&& (2147483647 : Int32)).toInt64))), .second, .unset, .unset, .unset] []))
        refine Done.step (fun _ => XS.goto X0.here hx rfl (pc0 := 59) (pc' := 111) rfl (hb hby at_59) (by decide) (by decide)) ?_
        show Done p e below s _ _ (T0.setTop (mkF m 111 #[.val (.int a), .val (.int d), .val (.int mm), .val (.int ss), .val (.long (a.toInt64)), .second, .val (.long (((a.toInt64) + (1 : Int64)) + ((d &&& (2147483647 : Int32)).toInt64))), .second, .val (.int (ss &&& (7 : Int32))), .val (.long (((a.toInt64) + (1 : Int64)) + ((d &&& (2147483647 : Int32)).toInt64))), .second, .unset, .unset, .unset] []))
        exact K111 (a.toInt64) (((a.toInt64) + (1 : Int64)) + ((d &&& (2147483647 : Int32)).toInt64)) (((a.toInt64) + (1 : Int64)) + ((d &&& (2147483647 : Int32)).toInt64)) (own_b (own_s32 a) (by decide)) (own_b (own_sadd (own_sadd (own_s32 a) own_s1 (by decide)) (own_s32 (d &&& (2147483647 : Int32))) (by decide)) (by decide)) (own_b (own_sadd (own_sadd (own_s32 a) own_s1 (by decide)) (own_s32 (d &&& (2147483647 : Int32))) (by decide)) (by decide)) (own_lohi a d)
      · refine Done.step (fun _ => XS.icmpYes X0.here hx rfl (pc0 := 52) (pc' := 62) rfl (hb hby at_52) rfl (XT.ii_ne_t hc9) (by decide) (by decide)) ?_
        show Done p e below s _ _ (T0.setTop (mkF m 62 #[.val (.int a), .val (.int d), .val (.int mm), .val (.int ss), .val (.long (a.toInt64)), .second, .val (.long (((a.toInt64) + (1 : Int64)) + ((d &&& (2147483647 : Int32)).toInt64))), .second, .val (.int (ss &&& (7 : Int32))), .unset, .unset, .unset, .unset, .unset] []))
        refine Done.step (fun _ => XS.iload X0.here hx rfl (hb hby at_62) rfl) ?_
        show Done p e below s _ _ (T0.setTop (mkF m 64 #[.val (.int a), .val (.int d), .val (.int mm), .val (.int ss), .val (.long (a.toInt64)), .second, .val (.long (((a.toInt64) + (1 : Int64)) + ((d &&& (2147483647 : Int32)).toInt64))), .second, .val (.int (ss &&& (7 : Int32))), .unset, .unset, .unset, .unset, .unset] [(.int (ss &&& (7 : Int32)))]))
        refine Done.step (fun _ => XT.iconstV X0.here hx rfl (3 : Int32) (hb hby at_64) (by decide)) ?_
        show Done p e below s _ _ (T0.setTop (mkF m 65 #[.val (.int a), .val (.int d), .val (.int mm), .val (.int ss), .val (.long (a.toInt64)), .second, .val (.long (((a.toInt64) + (1 : Int64)) + ((d &&& (2147483647 : Int32)).toInt64))), .second, .val (.int (ss &&& (7 : Int32))), .unset, .unset, .unset, .unset, .unset] [(.int (3 : Int32)), (.int (ss &&& (7 : Int32)))]))
        by_cases hc10 : (ss &&& (7 : Int32)) = (3 : Int32)
        · refine Done.step (fun _ => XS.icmpNo X0.here hx rfl (hb hby at_65) rfl (XT.ii_ne_f hc10)) ?_
          show Done p e below s _ _ (T0.setTop (mkF m 68 #[.val (.int a), .val (.int d), .val (.int mm), .val (.int ss), .val (.long (a.toInt64)), .second, .val (.long (((a.toInt64) + (1 : Int64)) + ((d &&& (2147483647 : Int32)).toInt64))), .second, .val (.int (ss &&& (7 : Int32))), .unset, .unset, .unset, .unset, .unset] []))
          refine Done.step (fun _ => XT.lload X0.here hx rfl (hb hby at_68) rfl) ?_
          show Done p e below s _ _ (T0.setTop (mkF m 70 #[.val (.int a), .val (.int d), .val (.int mm), .val (.int ss), .val (.long (a.toInt64)), .second, .val (.long (((a.toInt64) + (1 : Int64)) + ((d &&& (2147483647 : Int32)).toInt64))), .second, .val (.int (ss &&& (7 : Int32))), .unset, .unset, .unset, .unset, .unset] [(.long (((a.toInt64) + (1 : Int64)) + ((d &&& (2147483647 : Int32)).toInt64)))]))
          refine Done.step (fun _ => XT.lconstV X0.here hx rfl (1 : Int64) (hb hby at_70) (by decide)) ?_
          show Done p e below s _ _ (T0.setTop (mkF m 71 #[.val (.int a), .val (.int d), .val (.int mm), .val (.int ss), .val (.long (a.toInt64)), .second, .val (.long (((a.toInt64) + (1 : Int64)) + ((d &&& (2147483647 : Int32)).toInt64))), .second, .val (.int (ss &&& (7 : Int32))), .unset, .unset, .unset, .unset, .unset] [(.long (1 : Int64)), (.long (((a.toInt64) + (1 : Int64)) + ((d &&& (2147483647 : Int32)).toInt64)))]))
          refine Done.step (fun _ => XT.ladd X0.here hx rfl (hb hby at_71) rfl) ?_
          show Done p e below s _ _ (T0.setTop (mkF m 72 #[.val (.int a), .val (.int d), .val (.int mm), .val (.int ss), .val (.long (a.toInt64)), .second, .val (.long (((a.toInt64) + (1 : Int64)) + ((d &&& (2147483647 : Int32)).toInt64))), .second, .val (.int (ss &&& (7 : Int32))), .unset, .unset, .unset, .unset, .unset] [(.long ((((a.toInt64) + (1 : Int64)) + ((d &&& (2147483647 : Int32)).toInt64)) + (1 : Int64)))]))
          refine Done.step (fun _ => XT.lstore X0.here hx rfl (hb hby at_72) rfl (l' := #[.val (.int a), .val (.int d), .val (.int mm), .val (.int ss), .val (.long (a.toInt64)), .second, .val (.long (((a.toInt64) + (1 : Int64)) + ((d &&& (2147483647 : Int32)).toInt64))), .second, .val (.int (ss &&& (7 : Int32))), .val (.long ((((a.toInt64) + (1 : Int64)) + ((d &&& (2147483647 : Int32)).toInt64)) + (1 : Int64))), .second, .unset, .unset, .unset]) rfl) ?_
          show Done p e below s _ _ (T0.setTop (mkF m 74 #[.val (.int a), .val (.int d), .val (.int mm), .val (.int ss), .val (.long (a.toInt64)), .second, .val (.long (((a.toInt64) + (1 : Int64)) + ((d &&& (2147483647 : Int32)).toInt64))), .second, .val (.int (ss &&& (7 : Int32))), .val (.long ((((a.toInt64) + (1 : Int64)) + ((d &&& (2147483647 : Int32)).toInt64)) + (1 : Int64))), .second, .unset, .unset, .unset] []))
          refine Done.step (fun _ => XS.goto X0.here hx rfl (pc0 := 74) (pc' := 111) rfl (hb hby at_74) (by decide) (by decide)) ?_
          show Done p e below s _ _ (T0.setTop (mkF m 111 #[.val (.int a), .val (.int d), .val (.int mm), .val (.int ss), .val (.long (a.toInt64)), .second, .val (.long (((a.toInt64) + (1 : Int64)) + ((d &&& (2147483647 : Int32)).toInt64))), .second, .val (.int (ss &&& (7 : Int32))), .val (.long ((((a.toInt64) + (1 : Int64)) + ((d &&& (2147483647 : Int32)).toInt64)) + (1 : Int64))), .second, .unset, .unset, .unset] []))
          exact K111 (a.toInt64) (((a.toInt64) + (1 : Int64)) + ((d &&& (2147483647 : Int32)).toInt64)) ((((a.toInt64) + (1 : Int64)) + ((d &&& (2147483647 : Int32)).toInt64)) + (1 : Int64)) (own_b (own_s32 a) (by decide)) (own_b (own_sadd (own_sadd (own_s32 a) own_s1 (by decide)) (own_s32 (d &&& (2147483647 : Int32))) (by decide)) (by decide)) (own_b (own_sadd (own_sadd (own_sadd (own_s32 a) own_s1 (by decide)) (own_s32 (d &&& (2147483647 : Int32))) (by decide)) own_s1 (by decide)) (by decide)) (own_lohi a d)
        · refine Done.step (fun _ => XS.icmpYes X0.here hx rfl (pc0 := 65) (pc' := 77) rfl (hb hby at_65) rfl (XT.ii_ne_t hc10) (by decide) (by decide)) ?_
          show Done p e below s _ _ (T0.setTop (mkF m 77 #[.val (.int a), .val (.int d), .val (.int mm), .val (.int ss), .val (.long (a.toInt64)), .second, .val (.long (((a.toInt64) + (1 : Int64)) + ((d &&& (2147483647 : Int32)).toInt64))), .second, .val (.int (ss &&& (7 : Int32))), .unset, .unset, .unset, .unset, .unset] []))
          refine Done.step (fun _ => XS.iload X0.here hx rfl (hb hby at_77) rfl) ?_
          show Done p e below s _ _ (T0.setTop (mkF m 79 #[.val (.int a), .val (.int d), .val (.int mm), .val (.int ss), .val (.long (a.toInt64)), .second, .val (.long (((a.toInt64) + (1 : Int64)) + ((d &&& (2147483647 : Int32)).toInt64))), .second, .val (.int (ss &&& (7 : Int32))), .unset, .unset, .unset, .unset, .unset] [(.int (ss &&& (7 : Int32)))]))
          refine Done.step (fun _ => XT.iconstV X0.here hx rfl (4 : Int32) (hb hby at_79) (by decide)) ?_
          show Done p e below s _ _ (T0.setTop (mkF m 80 #[.val (.int a), .val (.int d), .val (.int mm), .val (.int ss), .val (.long (a.toInt64)), .second, .val (.long (((a.toInt64) + (1 : Int64)) + ((d &&& (2147483647 : Int32)).toInt64))), .second, .val (.int (ss &&& (7 : Int32))), .unset, .unset, .unset, .unset, .unset] [(.int (4 : Int32)), (.int (ss &&& (7 : Int32)))]))
          by_cases hc11 : (ss &&& (7 : Int32)) = (4 : Int32)
          · refine Done.step (fun _ => XS.icmpNo X0.here hx rfl (hb hby at_80) rfl (XT.ii_ne_f hc11)) ?_
            show Done p e below s _ _ (T0.setTop (mkF m 83 #[.val (.int a), .val (.int d), .val (.int mm), .val (.int ss), .val (.long (a.toInt64)), .second, .val (.long (((a.toInt64) + (1 : Int64)) + ((d &&& (2147483647 : Int32)).toInt64))), .second, .val (.int (ss &&& (7 : Int32))), .unset, .unset, .unset, .unset, .unset] []))
            refine Done.step (fun _ => XT.lload X0.here hx rfl (hb hby at_83) rfl) ?_
            show Done p e below s _ _ (T0.setTop (mkF m 85 #[.val (.int a), .val (.int d), .val (.int mm), .val (.int ss), .val (.long (a.toInt64)), .second, .val (.long (((a.toInt64) + (1 : Int64)) + ((d &&& (2147483647 : Int32)).toInt64))), .second, .val (.int (ss &&& (7 : Int32))), .unset, .unset, .unset, .unset, .unset] [(.long (a.toInt64))]))
            refine Done.step (fun _ => XT.lconstV X0.here hx rfl (1 : Int64) (hb hby at_85) (by decide)) ?_
            show Done p e below s _ _ (T0.setTop (mkF m 86 #[.val (.int a), .val (.int d), .val (.int mm), .val (.int ss), .val (.long (a.toInt64)), .second, .val (.long (((a.toInt64) + (1 : Int64)) + ((d &&& (2147483647 : Int32)).toInt64))), .second, .val (.int (ss &&& (7 : Int32))), .unset, .unset, .unset, .unset, .unset] [(.long (1 : Int64)), (.long (a.toInt64))]))
            refine Done.step (fun _ => XT.lsub X0.here hx rfl (hb hby at_86) rfl) ?_
            show Done p e below s _ _ (T0.setTop (mkF m 87 #[.val (.int a), .val (.int d), .val (.int mm), .val (.int ss), .val (.long (a.toInt64)), .second, .val (.long (((a.toInt64) + (1 : Int64)) + ((d &&& (2147483647 : Int32)).toInt64))), .second, .val (.int (ss &&& (7 : Int32))), .unset, .unset, .unset, .unset, .unset] [(.long ((a.toInt64) - (1 : Int64)))]))
            refine Done.step (fun _ => XT.lstore X0.here hx rfl (hb hby at_87) rfl (l' := #[.val (.int a), .val (.int d), .val (.int mm), .val (.int ss), .val (.long (a.toInt64)), .second, .val (.long (((a.toInt64) + (1 : Int64)) + ((d &&& (2147483647 : Int32)).toInt64))), .second, .val (.int (ss &&& (7 : Int32))), .val (.long ((a.toInt64) - (1 : Int64))), .second, .unset, .unset, .unset]) rfl) ?_
            show Done p e below s _ _ (T0.setTop (mkF m 89 #[.val (.int a), .val (.int d), .val (.int mm), .val (.int ss), .val (.long (a.toInt64)), .second, .val (.long (((a.toInt64) + (1 : Int64)) + ((d &&& (2147483647 : Int32)).toInt64))), .second, .val (.int (ss &&& (7 : Int32))), .val (.long ((a.toInt64) - (1 : Int64))), .second, .unset, .unset, .unset] []))
            refine Done.step (fun _ => XS.goto X0.here hx rfl (pc0 := 89) (pc' := 111) rfl (hb hby at_89) (by decide) (by decide)) ?_
            show Done p e below s _ _ (T0.setTop (mkF m 111 #[.val (.int a), .val (.int d), .val (.int mm), .val (.int ss), .val (.long (a.toInt64)), .second, .val (.long (((a.toInt64) + (1 : Int64)) + ((d &&& (2147483647 : Int32)).toInt64))), .second, .val (.int (ss &&& (7 : Int32))), .val (.long ((a.toInt64) - (1 : Int64))), .second, .unset, .unset, .unset] []))
            exact K111 (a.toInt64) (((a.toInt64) + (1 : Int64)) + ((d &&& (2147483647 : Int32)).toInt64)) ((a.toInt64) - (1 : Int64)) (own_b (own_s32 a) (by decide)) (own_b (own_sadd (own_sadd (own_s32 a) own_s1 (by decide)) (own_s32 (d &&& (2147483647 : Int32))) (by decide)) (by decide)) (own_b (own_ssub (own_s32 a) own_s1 (by decide)) (by decide)) (own_lohi a d)
          · refine Done.step (fun _ => XS.icmpYes X0.here hx rfl (pc0 := 80) (pc' := 92) rfl (hb hby at_80) rfl (XT.ii_ne_t hc11) (by decide) (by decide)) ?_
            show Done p e below s _ _ (T0.setTop (mkF m 92 #[.val (.int a), .val (.int d), .val (.int mm), .val (.int ss), .val (.long (a.toInt64)), .second, .val (.long (((a.toInt64) + (1 : Int64)) + ((d &&& (2147483647 : Int32)).toInt64))), .second, .val (.int (ss &&& (7 : Int32))), .unset, .unset, .unset, .unset, .unset] []))
            refine Done.step (fun _ => XS.iload X0.here hx rfl (hb hby at_92) rfl) ?_
            show Done p e below s _ _ (T0.setTop (mkF m 94 #[.val (.int a), .val (.int d), .val (.int mm), .val (.int ss), .val (.long (a.toInt64)), .second, .val (.long (((a.toInt64) + (1 : Int64)) + ((d &&& (2147483647 : Int32)).toInt64))), .second, .val (.int (ss &&& (7 : Int32))), .unset, .unset, .unset, .unset, .unset] [(.int (ss &&& (7 : Int32)))]))
            refine Done.step (fun _ => XT.iconstV X0.here hx rfl (5 : Int32) (hb hby at_94) (by decide)) ?_
            show Done p e below s _ _ (T0.setTop (mkF m 95 #[.val (.int a), .val (.int d), .val (.int mm), .val (.int ss), .val (.long (a.toInt64)), .second, .val (.long (((a.toInt64) + (1 : Int64)) + ((d &&& (2147483647 : Int32)).toInt64))), .second, .val (.int (ss &&& (7 : Int32))), .unset, .unset, .unset, .unset, .unset] [(.int (5 : Int32)), (.int (ss &&& (7 : Int32)))]))
            by_cases hc12 : (ss &&& (7 : Int32)) = (5 : Int32)
            · refine Done.step (fun _ => XS.icmpNo X0.here hx rfl (hb hby at_95) rfl (XT.ii_ne_f hc12)) ?_
              show Done p e below s _ _ (T0.setTop (mkF m 98 #[.val (.int a), .val (.int d), .val (.int mm), .val (.int ss), .val (.long (a.toInt64)), .second, .val (.long (((a.toInt64) + (1 : Int64)) + ((d &&& (2147483647 : Int32)).toInt64))), .second, .val (.int (ss &&& (7 : Int32))), .unset, .unset, .unset, .unset, .unset] []))
              refine Done.step (fun _ => XT.lload X0.here hx rfl (hb hby at_98) rfl) ?_
              show Done p e below s _ _ (T0.setTop (mkF m 100 #[.val (.int a), .val (.int d), .val (.int mm), .val (.int ss), .val (.long (a.toInt64)), .second, .val (.long (((a.toInt64) + (1 : Int64)) + ((d &&& (2147483647 : Int32)).toInt64))), .second, .val (.int (ss &&& (7 : Int32))), .unset, .unset, .unset, .unset, .unset] [(.long (((a.toInt64) + (1 : Int64)) + ((d &&& (2147483647 : Int32)).toInt64)))]))
              refine Done.step (fun _ => XT.lconstV X0.here hx rfl (1 : Int64) (hb hby at_100) (by decide)) ?_
              show Done p e below s _ _ (T0.setTop (mkF m 101 #[.val (.int a), .val (.int d), .val (.int mm), .val (.int ss), .val (.long (a.toInt64)), .second, .val (.long (((a.toInt64) + (1 : Int64)) + ((d &&& (2147483647 : Int32)).toInt64))), .second, .val (.int (ss &&& (7 : Int32))), .unset, .unset, .unset, .unset, .unset] [(.long (1 : Int64)), (.long (((a.toInt64) + (1 : Int64)) + ((d &&& (2147483647 : Int32)).toInt64)))]))
              refine Done.step (fun _ => XT.lsub X0.here hx rfl (hb hby at_101) rfl) ?_
              show Done p e below s _ _ (T0.setTop (mkF m 102 #[.val (.int a), .val (.int d), .val (.int mm), .val (.int ss), .val (.long (a.toInt64)), .second, .val (.long (((a.toInt64) + (1 : Int64)) + ((d &&& (2147483647 : Int32)).toInt64))), .second, .val (.int (ss &&& (7 : Int32))), .unset, .unset, .unset, .unset, .unset] [(.long ((((a.toInt64) + (1 : Int64)) + ((d &&& (2147483647 : Int32)).toInt64)) - (1 : Int64)))]))
              refine Done.step (fun _ => XT.lstore X0.here hx rfl (hb hby at_102) rfl (l' := #[.val (.int a), .val (.int d), .val (.int mm), .val (.int ss), .val (.long (a.toInt64)), .second, .val (.long (((a.toInt64) + (1 : Int64)) + ((d &&& (2147483647 : Int32)).toInt64))), .second, .val (.int (ss &&& (7 : Int32))), .val (.long ((((a.toInt64) + (1 : Int64)) + ((d &&& (2147483647 : Int32)).toInt64)) - (1 : Int64))), .second, .unset, .unset, .unset]) rfl) ?_
              show Done p e below s _ _ (T0.setTop (mkF m 104 #[.val (.int a), .val (.int d), .val (.int mm), .val (.int ss), .val (.long (a.toInt64)), .second, .val (.long (((a.toInt64) + (1 : Int64)) + ((d &&& (2147483647 : Int32)).toInt64))), .second, .val (.int (ss &&& (7 : Int32))), .val (.long ((((a.toInt64) + (1 : Int64)) + ((d &&& (2147483647 : Int32)).toInt64)) - (1 : Int64))), .second, .unset, .unset, .unset] []))
              refine Done.step (fun _ => XS.goto X0.here hx rfl (pc0 := 104) (pc' := 111) rfl (hb hby at_104) (by decide) (by decide)) ?_
              show Done p e below s _ _ (T0.setTop (mkF m 111 #[.val (.int a), .val (.int d), .val (.int mm), .val (.int ss), .val (.long (a.toInt64)), .second, .val (.long (((a.toInt64) + (1 : Int64)) + ((d &&& (2147483647 : Int32)).toInt64))), .second, .val (.int (ss &&& (7 : Int32))), .val (.long ((((a.toInt64) + (1 : Int64)) + ((d &&& (2147483647 : Int32)).toInt64)) - (1 : Int64))), .second, .unset, .unset, .unset] []))
              exact K111 (a.toInt64) (((a.toInt64) + (1 : Int64)) + ((d &&& (2147483647 : Int32)).toInt64)) ((((a.toInt64) + (1 : Int64)) + ((d &&& (2147483647 : Int32)).toInt64)) - (1 : Int64)) (own_b (own_s32 a) (by decide)) (own_b (own_sadd (own_sadd (own_s32 a) own_s1 (by decide)) (own_s32 (d &&& (2147483647 : Int32))) (by decide)) (by decide)) (own_b (own_ssub (own_sadd (own_sadd (own_s32 a) own_s1 (by decide)) (own_s32 (d &&& (2147483647 : Int32))) (by decide)) own_s1 (by decide)) (by decide)) (own_lohi a d)
            · refine Done.step (fun _ => XS.icmpYes X0.here hx rfl (pc0 := 95) (pc' := 107) rfl (hb hby at_95) rfl (XT.ii_ne_t hc12) (by decide) (by decide)) ?_
              show Done p e below s _ _ (T0.setTop (mkF m 107 #[.val (.int a), .val (.int d), .val (.int mm), .val (.int ss), .val (.long (a.toInt64)), .second, .val (.long (((a.toInt64) + (1 : Int64)) + ((d &&& (2147483647 : Int32)).toInt64))), .second, .val (.int (ss &&& (7 : Int32))), .unset, .unset, .unset, .unset, .unset] []))
              refine Done.step (fun _ => XS.iloadN X0.here hx rfl (hb hby at_107) rfl) ?_
              show Done p e below s _ _ (T0.setTop (mkF m 108 #[.val (.int a), .val (.int d), .val (.int mm), .val (.int ss), .val (.long (a.toInt64)), .second, .val (.long (((a.toInt64) + (1 : Int64)) + ((d &&& (2147483647 : Int32)).toInt64))), .second, .val (.int (ss &&& (7 : Int32))), .unset, .unset, .unset, .unset, .unset] [(.int mm)]))
              refine Done.step (fun _ => XT.i2l X0.here hx rfl (hb hby at_108) rfl) ?_
              show Done p e below s _ _ (T0.setTop (mkF m 109 #[.val (.int a), .val (.int d), .val (.int mm), .val (.int ss), .val (.long (a.toInt64)), .second, .val (.long (((a.toInt64) + (1 : Int64)) + ((d &&& (2147483647 : Int32)).toInt64))), .second, .val (.int (ss &&& (7 : Int32))), .unset, .unset, .unset, .unset, .unset] [(.long (mm.toInt64))]))
              refine Done.step (fun _ => XT.lstore X0.here hx rfl (hb hby at_109) rfl (l' := #[.val (.int a), .val (.int d), .val (.int mm), .val (.int ss), .val (.long (a.toInt64)), .second, .val (.long (((a.toInt64) + (1 : Int64)) + ((d &&& (2147483647 : Int32)).toInt64))), .second, .val (.int (ss &&& (7 : Int32))), .val (.long (mm.toInt64)), .second, .unset, .unset, .unset]) rfl) ?_
              show Done p e below s _ _ (T0.setTop (mkF m 111 #[.val (.int a), .val (.int d), .val (.int mm), .val (.int ss), .val (.long (a.toInt64)), .second, .val (.long (((a.toInt64) + (1 : Int64)) + ((d &&& (2147483647 : Int32)).toInt64))), .second, .val (.int (ss &&& (7 : Int32))), .val (.long (mm.toInt64)), .second, .unset, .unset, .unset] []))
              exact K111 (a.toInt64) (((a.toInt64) + (1 : Int64)) + ((d &&& (2147483647 : Int32)).toInt64)) (mm.toInt64) (own_b (own_s32 a) (by decide)) (own_b (own_sadd (own_sadd (own_s32 a) own_s1 (by decide)) (own_s32 (d &&& (2147483647 : Int32))) (by decide)) (by decide)) (own_b (own_s32 mm) (by decide)) (own_lohi a d)
set_option maxRecDepth 65536 in
set_option maxHeartbeats 40000000 in
theorem comes_1 {Post : Tables → Env → Array Value → State → Outcome → State → Prop} (hpost : ∀ tb e args s v u, (limb_1_1.after args s (.returned v) u = true ∧ limb_1_2.after args s (.returned v) u = true ∧ True) → FrameEnd s (.returned v) u (Jvm.fieldLocs frame_1_writes args s ++ Jvm.arrayLocs frame_1_arrays args s ++ Jvm.staticLocs frame_1_statics s) 16 128 → Post tb e args s (.returned v) u) :
    ArmFor flags0 classFile x code maxLocals ret World_1 tables_1 room_1 Calls_1 rest_1 Pre_1 Post := by
  intro l hfl _ _ p e ha hc hk s m args below hf hA hF happ hP
  obtain ⟨hcalls, hrest, hpre⟩ := hP
  obtain ⟨-, -, -, hnamed, -, -, -, hat⟩ := (Spec.applies_iff hf).mp happ
  obtain ⟨hg, hn⟩ := and_e (Cond.before_iff.mp (show (Jvm.Cond.and given_1 narrow_1).before args s = true from hpre))
  obtain ⟨w0, w1, w2, w3, rfl⟩ : ∃ w0 w1 w2 w3 : Value, args = #[w0, w1, w2, w3] := by
    have hs : args.size = 4 := by simpa [Cond.value] using (and_e hg).1
    obtain ⟨L⟩ := args
    match L, hs with
    | [w0, w1, w2, w3], _ => exact ⟨w0, w1, w2, w3, rfl⟩
  have hw := fun d (hd : d ∈ tables_1) => atoms_spec (ws := Jvm.Cond.code x code maxLocals ret :: tables_1) hat d (List.mem_cons_of_mem _ hd)
  have hfit : Fit s := fun {y c} hc i hi => by
    obtain ⟨ha, rfl⟩ := Array.getElem?_eq_some_iff.mp hc
    have q := List.all_eq_true.mp ((Array.all_eq_true_iff_forall_mem.mp hF) _ (Array.getElem_mem ha)) i (List.mem_range.mpr hi)
    simpa [Array.getElem?_eq_getElem hi] using q
  obtain ⟨_, hg0⟩ := and_e hg
  obtain ⟨ga0, hg1⟩ := and_e hg0
  obtain ⟨i0, ei0⟩ := is_v ga0
  obtain rfl : w0 = (.int i0) := Option.some.inj ei0
  obtain ⟨ga1, hg2⟩ := and_e hg1
  obtain ⟨i1, ei1⟩ := is_v ga1
  obtain rfl : w1 = (.int i1) := Option.some.inj ei1
  obtain ⟨ga2, hg3⟩ := and_e hg2
  obtain ⟨i2, ei2⟩ := is_v ga2
  obtain rfl : w2 = (.int i2) := Option.some.inj ei2
  obtain ⟨i3, ei3⟩ := is_v hg3
  obtain rfl : w3 = (.int i3) := Option.some.inj ei3
  obtain ⟨n, o, h1, h2, h3, _, L, rfl, ⟨rfl, N⟩, hq⟩ := rm0 l s _ hw tables_1 i0 i1 i2 i3 s.heap s.heap.size (Nat.le_refl _)  p e ha hc hk s m _ below hf ((Spec.applies_iff_loose hf).mp happ).1 ⟨rfl, State.Warmed39.refl s, rfl⟩ trivial
  refine ⟨n, _, h1, h2, h3, hpost _ _ _ _ _ _ ⟨Cond.after_iff.mpr rfl, Cond.after_iff.mpr (eq_i res_at (Term.int_eval (1)) rfl), trivial⟩ ⟨hq.1, hq.2.1, (hq.2.2.sift fun y hy => Or.inr (N y hy)).mono (by decide) (by decide)⟩⟩
theorem main_1_1 : Claimed_1_1 := comes_1 fun _ _ _ _ _ _ h hF => ⟨h.1, hF⟩
theorem main_1_2 : Claimed_1_2 := comes_1 fun _ _ _ _ _ _ h hF => ⟨h.2.1, hF⟩
end Jvm.Pilot.@@N@@
namespace Jvm.Pilot.@@N@@
open Jvm Jvm.ClassFile Sem Op Lib Jvm.Free Jvm.Stand Jvm.Pilot.@@N@@.Jvm.D
/-! MADE BY PROGRAM (witnessworld.py) out of the Statement's table words and the real class files: 16 classes; the members and pool entries that the words name. The judged class is class 1, her method 1. -/
namespace start1
open Jvm.ClassFile
def u (s : String) : CpInfo := .utf8 (stringToUtf16 s)
/-- a pool by its gaps: so many unusable entries, then the entry; so many at the end -/
def gap : Nat → List CpInfo → List CpInfo
  | 0, r => r
  | n + 1, r => .unusable :: gap n r
def poolList (es : List (Nat × CpInfo)) (last : Nat) : List CpInfo := es.foldr (fun e r => gap e.1 (e.2 :: r)) (gap last [])
def pool (es : List (Nat × CpInfo)) (last : Nat) : Array CpInfo := ⟨poolList es last⟩
def fileOf (pool : Array CpInfo) (this : Nat) (attrs : Array Attribute := #[]) (ms : Array MethodInfo := #[]) (fl : Nat := 33) (sup : Nat := 0) (ifs : Array Nat := #[]) (fds : Array FieldInfo := #[]) : ClassFile where
  minorVersion := 0
  majorVersion := 65
  constantPool := pool
  accessFlags := fl
  thisClass := this
  superClass := sup
  interfaces := ifs
  fields := fds
  methods := ms
  attributes := attrs
def plain (name : String) (sup : Option ClassId) : Class where
  name := name
  kind := .ordinary
  loader := none
  accessFlags := 33
  super := sup
  interfaces := #[]
  cf := none
  fields := #[]
  methods := #[]
  instanceTypes := #[]
  staticTypes := #[]
  resolved := #[]
  callSites := []
  init := .initialized
  statics := none
  mirror := none

def pool0 : Array CpInfo := pool [(5, u "<init>"), (0, u "()V"), (1, .class_ 10), (1, u "java/lang/Object")] 113

def k0c0 : Code := { maxStack := 0, maxLocals := 1, code := object_method_1_code, exceptionTable := #[], attributes := #[] }
def k0m0 : Method := { name := "<init>", desc := "()V", sig := { parameters := [], returnType := none }, accessFlags := 1, code := some k0c0 }
/-- java/lang/Object -/
def k0 : Class := { plain "java/lang/Object" none with
  accessFlags := 33
  interfaces := #[]
  cf := some (fileOf pool0 8 #[] #[{ accessFlags := 1, nameIndex := 5, descriptorIndex := 6, attributes := #[] }] 33 0 #[] #[])
  fields := #[]
  methods := #[k0m0]
  instanceTypes := #[]
  staticTypes := #[]
  resolved := Array.replicate 124 none
  statics := none }

def pool1 : Array CpInfo := pool [(2, .class_ 4), (1, u "java/lang/Object"), (0, u "<init>"), (0, u "()V"), (0, .integer 2147483647), (0, .class_ 9), (0, u "com/example/ithuriel/ithuriel/measure/MzRange"), (0, .methodref 8 11), (0, .nameAndType 5 12), (0, u "(DD)V"), (0, .methodref 8 14), (0, .nameAndType 15 16), (0, u "contains"), (0, u "(D)Z"), (0, .class_ 18), (0, u "com/example/ithuriel/ithuriel/measure/MzRangeContainsPinLaw"), (2, u "law"), (0, u "(IIII)Z")] 3

def k1m0 : Method := { name := "<init>", desc := "()V", sig := { parameters := [], returnType := none }, accessFlags := 2, code := none }
def k1c1 : Code := { maxStack := 6, maxLocals := 14, code := code, exceptionTable := #[], attributes := #[] }
def k1m1 : Method := { name := "law", desc := "(IIII)Z", sig := { parameters := [.int, .int, .int, .int], returnType := some .boolean }, accessFlags := 9, code := some k1c1 }
/-- com/example/ithuriel/ithuriel/measure/MzRangeContainsPinLaw -/
def k1 : Class := { plain "com/example/ithuriel/ithuriel/measure/MzRangeContainsPinLaw" (some 0) with
  accessFlags := 49
  interfaces := #[]
  cf := some (fileOf pool1 17 #[] #[{ accessFlags := 2, nameIndex := 5, descriptorIndex := 6, attributes := #[] }, { accessFlags := 9, nameIndex := 21, descriptorIndex := 22, attributes := #[] }] 49 2 #[] #[])
  fields := #[]
  methods := #[k1m0, k1m1]
  instanceTypes := #[]
  staticTypes := #[]
  resolved := Array.replicate 26 none
  statics := none }

def pool2 : Array CpInfo := pool [(1, .methodref 2 3), (0, .class_ 4), (0, .nameAndType 5 6), (0, u "java/lang/Object"), (0, u "<init>"), (0, u "()V"), (0, .class_ 8), (0, u "java/lang/Record")] 13

def k2c0 : Code := { maxStack := 1, maxLocals := 1, code := jdk_30_method_1_code, exceptionTable := #[], attributes := #[] }
def k2m0 : Method := { name := "<init>", desc := "()V", sig := { parameters := [], returnType := none }, accessFlags := 4, code := some k2c0 }
/-- java/lang/Record -/
def k2 : Class := { plain "java/lang/Record" (some 0) with
  accessFlags := 1057
  interfaces := #[]
  cf := some (fileOf pool2 7 #[] #[{ accessFlags := 4, nameIndex := 5, descriptorIndex := 6, attributes := #[] }] 1057 2 #[] #[])
  fields := #[]
  methods := #[k2m0]
  instanceTypes := #[]
  staticTypes := #[]
  resolved := Array.replicate 22 none
  statics := none }

def pool3 : Array CpInfo := pool [(1, .methodref 2 3), (0, .class_ 4), (0, .nameAndType 5 6), (0, u "java/lang/Record"), (0, u "<init>"), (0, u "()V"), (0, .methodref 8 9), (0, .class_ 10), (0, .nameAndType 11 12), (0, u "java/lang/Double"), (0, u "isFinite"), (0, u "(D)Z"), (3, .class_ 18), (1, u "com/example/ithuriel/ithuriel/measure/MzRange"), (0, u "RANGE"), (0, u "Lcom/example/ithuriel/ithuriel/setting/Setting;"), (9, .fieldref 16 31), (0, .nameAndType 32 33), (0, u "low"), (0, u "D"), (0, .fieldref 16 35), (0, .nameAndType 36 33), (0, u "high"), (39, u "(DD)V"), (4, u "contains")] 47

def k3c0 : Code := { maxStack := 7, maxLocals := 5, code := prog_67_method_1_code, exceptionTable := #[], attributes := #[] }
def k3m0 : Method := { name := "<init>", desc := "(DD)V", sig := { parameters := [.double, .double], returnType := none }, accessFlags := 1, code := some k3c0 }
def k3c1 : Code := { maxStack := 4, maxLocals := 3, code := prog_67_method_2_code, exceptionTable := #[], attributes := #[] }
def k3m1 : Method := { name := "contains", desc := "(D)Z", sig := { parameters := [.double], returnType := some .boolean }, accessFlags := 1, code := some k3c1 }
/-- com/example/ithuriel/ithuriel/measure/MzRange -/
def k3 : Class := { plain "com/example/ithuriel/ithuriel/measure/MzRange" (some 2) with
  accessFlags := 49
  interfaces := #[]
  cf := some (fileOf pool3 16 #[] #[{ accessFlags := 1, nameIndex := 5, descriptorIndex := 76, attributes := #[] }, { accessFlags := 1, nameIndex := 81, descriptorIndex := 12, attributes := #[] }] 49 2 #[] #[{ accessFlags := 18, nameIndex := 32, descriptorIndex := 33, attributes := #[] }, { accessFlags := 18, nameIndex := 36, descriptorIndex := 33, attributes := #[] }, { accessFlags := 25, nameIndex := 19, descriptorIndex := 20, attributes := #[] }])
  fields := #[{ name := "low", type := .double, accessFlags := 18, slot := 0, constantValue := 0 }, { name := "high", type := .double, accessFlags := 18, slot := 1, constantValue := 0 }, { name := "RANGE", type := (.object "com/example/ithuriel/ithuriel/setting/Setting"), accessFlags := 25, slot := 0, constantValue := 0 }]
  methods := #[k3m0, k3m1]
  instanceTypes := #[.double, .double]
  staticTypes := #[(.object "com/example/ithuriel/ithuriel/setting/Setting")]
  resolved := Array.replicate 129 none
  statics := none }

def pool4 : Array CpInfo := pool [(1, .class_ 2), (0, u "java/io/Serializable"), (0, .class_ 4), (0, u "java/lang/Object")] 2

/-- java/io/Serializable -/
def k4 : Class := { plain "java/io/Serializable" (some 0) with
  accessFlags := 1537
  interfaces := #[]
  cf := some (fileOf pool4 1 #[] #[] 1537 3 #[] #[])
  fields := #[]
  methods := #[]
  instanceTypes := #[]
  staticTypes := #[]
  resolved := Array.replicate 7 none
  statics := none }

def pool5 : Array CpInfo := pool [(2, .class_ 4), (1, u "java/lang/Object"), (0, u "<init>"), (0, u "()V"), (1, .class_ 10), (1, u "java/lang/Number"), (2, .class_ 14), (0, u "java/io/Serializable"), (0, u "serialVersionUID"), (0, u "J")] 20

def k5m0 : Method := { name := "<init>", desc := "()V", sig := { parameters := [], returnType := none }, accessFlags := 1, code := none }
/-- java/lang/Number -/
def k5 : Class := { plain "java/lang/Number" (some 0) with
  accessFlags := 1057
  interfaces := #[4]
  cf := some (fileOf pool5 8 #[] #[{ accessFlags := 1, nameIndex := 5, descriptorIndex := 6, attributes := #[] }] 1057 2 #[13] #[{ accessFlags := 26, nameIndex := 15, descriptorIndex := 16, attributes := #[] }])
  fields := #[{ name := "serialVersionUID", type := .long, accessFlags := 26, slot := 0, constantValue := 0 }]
  methods := #[k5m0]
  instanceTypes := #[]
  staticTypes := #[.long]
  resolved := Array.replicate 37 none
  statics := none }

def pool6 : Array CpInfo := pool [(1, .class_ 2), (0, u "java/lang/Comparable"), (0, .class_ 4), (0, u "java/lang/Object")] 7

/-- java/lang/Comparable -/
def k6 : Class := { plain "java/lang/Comparable" (some 0) with
  accessFlags := 1537
  interfaces := #[]
  cf := some (fileOf pool6 1 #[] #[] 1537 3 #[] #[])
  fields := #[]
  methods := #[]
  instanceTypes := #[]
  staticTypes := #[]
  resolved := Array.replicate 12 none
  statics := none }

def pool7 : Array CpInfo := pool [(1, .class_ 2), (0, u "java/lang/constant/Constable"), (0, .class_ 4), (0, u "java/lang/Object")] 6

/-- java/lang/constant/Constable -/
def k7 : Class := { plain "java/lang/constant/Constable" (some 0) with
  accessFlags := 1537
  interfaces := #[]
  cf := some (fileOf pool7 1 #[] #[] 1537 3 #[] #[])
  fields := #[]
  methods := #[]
  instanceTypes := #[]
  staticTypes := #[]
  resolved := Array.replicate 11 none
  statics := none }

def pool8 : Array CpInfo := pool [(1, .class_ 2), (0, u "java/lang/constant/ConstantDesc"), (0, .class_ 4), (0, u "java/lang/Object")] 32

/-- java/lang/constant/ConstantDesc -/
def k8 : Class := { plain "java/lang/constant/ConstantDesc" (some 0) with
  accessFlags := 1537
  interfaces := #[]
  cf := some (fileOf pool8 1 #[] #[] 1537 3 #[] #[])
  fields := #[]
  methods := #[]
  instanceTypes := #[]
  staticTypes := #[]
  resolved := Array.replicate 37 none
  statics := none }

def pool9 : Array CpInfo := pool [(1, .class_ 2), (0, u "java/lang/Double"), (10, u "isFinite"), (0, u "(D)Z"), (8, .class_ 25), (1, u "java/lang/Math"), (12, .methodref 23 39), (0, .nameAndType 40 41), (0, u "abs"), (0, u "(D)D"), (69, .double 9218868437227405311), (2, .class_ 116), (1, u "java/lang/Number"), (3, u "value"), (0, u "D"), (51, u "TYPE"), (0, u "Ljava/lang/Class;"), (0, .class_ 176), (0, u "java/lang/Comparable"), (0, .class_ 178), (0, u "java/lang/constant/Constable"), (0, .class_ 180), (0, u "java/lang/constant/ConstantDesc"), (0, u "POSITIVE_INFINITY"), (3, u "NEGATIVE_INFINITY"), (2, u "NaN"), (2, u "MAX_VALUE"), (0, u "MIN_NORMAL"), (0, u "MIN_VALUE"), (2, u "SIZE"), (0, u "I"), (1, u "PRECISION"), (1, u "MAX_EXPONENT"), (1, u "MIN_EXPONENT"), (1, u "BYTES"), (3, u "serialVersionUID"), (0, u "J")] 79

def k9c0 : Code := { maxStack := 4, maxLocals := 2, code := jdk_117_method_8_code, exceptionTable := #[], attributes := #[] }
def k9m0 : Method := { name := "isFinite", desc := "(D)Z", sig := { parameters := [.double], returnType := some .boolean }, accessFlags := 9, code := some k9c0 }
/-- java/lang/Double -/
def k9 : Class := { plain "java/lang/Double" (some 5) with
  accessFlags := 49
  interfaces := #[6, 7, 8]
  cf := some (fileOf pool9 1 #[] #[{ accessFlags := 9, nameIndex := 13, descriptorIndex := 14, attributes := #[] }] 49 114 #[175, 177, 179] #[{ accessFlags := 25, nameIndex := 181, descriptorIndex := 121, attributes := #[] }, { accessFlags := 25, nameIndex := 185, descriptorIndex := 121, attributes := #[] }, { accessFlags := 25, nameIndex := 188, descriptorIndex := 121, attributes := #[] }, { accessFlags := 25, nameIndex := 191, descriptorIndex := 121, attributes := #[] }, { accessFlags := 25, nameIndex := 192, descriptorIndex := 121, attributes := #[] }, { accessFlags := 25, nameIndex := 193, descriptorIndex := 121, attributes := #[] }, { accessFlags := 25, nameIndex := 196, descriptorIndex := 197, attributes := #[] }, { accessFlags := 25, nameIndex := 199, descriptorIndex := 197, attributes := #[] }, { accessFlags := 25, nameIndex := 201, descriptorIndex := 197, attributes := #[] }, { accessFlags := 25, nameIndex := 203, descriptorIndex := 197, attributes := #[] }, { accessFlags := 25, nameIndex := 205, descriptorIndex := 197, attributes := #[] }, { accessFlags := 25, nameIndex := 173, descriptorIndex := 174, attributes := #[] }, { accessFlags := 18, nameIndex := 120, descriptorIndex := 121, attributes := #[] }, { accessFlags := 26, nameIndex := 209, descriptorIndex := 210, attributes := #[] }])
  fields := #[{ name := "POSITIVE_INFINITY", type := .double, accessFlags := 25, slot := 0, constantValue := 0 }, { name := "NEGATIVE_INFINITY", type := .double, accessFlags := 25, slot := 1, constantValue := 0 }, { name := "NaN", type := .double, accessFlags := 25, slot := 2, constantValue := 0 }, { name := "MAX_VALUE", type := .double, accessFlags := 25, slot := 3, constantValue := 0 }, { name := "MIN_NORMAL", type := .double, accessFlags := 25, slot := 4, constantValue := 0 }, { name := "MIN_VALUE", type := .double, accessFlags := 25, slot := 5, constantValue := 0 }, { name := "SIZE", type := .int, accessFlags := 25, slot := 6, constantValue := 0 }, { name := "PRECISION", type := .int, accessFlags := 25, slot := 7, constantValue := 0 }, { name := "MAX_EXPONENT", type := .int, accessFlags := 25, slot := 8, constantValue := 0 }, { name := "MIN_EXPONENT", type := .int, accessFlags := 25, slot := 9, constantValue := 0 }, { name := "BYTES", type := .int, accessFlags := 25, slot := 10, constantValue := 0 }, { name := "TYPE", type := (.object "java/lang/Class"), accessFlags := 25, slot := 11, constantValue := 0 }, { name := "value", type := .double, accessFlags := 18, slot := 0, constantValue := 0 }, { name := "serialVersionUID", type := .long, accessFlags := 26, slot := 12, constantValue := 0 }]
  methods := #[k9m0]
  instanceTypes := #[.double]
  staticTypes := #[.double, .double, .double, .double, .double, .double, .int, .int, .int, .int, .int, (.object "java/lang/Class"), .long]
  resolved := Array.replicate 290 none
  statics := none }

def pool10 : Array CpInfo := pool [(1, .class_ 2), (0, u "java/lang/Math"), (1, .class_ 6), (1, u "java/lang/Object"), (0, u "<init>"), (0, u "()V"), (5, u "(D)D"), (83, .class_ 100), (1, u "java/lang/Math$RandomNumberGeneratorHolder"), (23, u "abs"), (47, u "negativeZeroFloatBits"), (0, u "J"), (2, u "negativeZeroDoubleBits"), (68, u "$assertionsDisabled"), (0, u "Z"), (91, u "twoToTheDoubleScaleDown"), (0, u "D"), (4, u "twoToTheDoubleScaleUp"), (9, u "E"), (3, u "PI"), (2, u "TAU"), (2, u "DEGREES_TO_RADIANS"), (0, u "RADIANS_TO_DEGREES")] 94

def k10m0 : Method := { name := "<init>", desc := "()V", sig := { parameters := [], returnType := none }, accessFlags := 2, code := none }
def k10c1 : Code := { maxStack := 4, maxLocals := 2, code := jdk_29_method_64_code, exceptionTable := #[], attributes := #[] }
def k10m1 : Method := { name := "abs", desc := "(D)D", sig := { parameters := [.double], returnType := some .double }, accessFlags := 9, code := some k10c1 }
/-- java/lang/Math -/
def k10 : Class := { plain "java/lang/Math" (some 0) with
  accessFlags := 49
  interfaces := #[]
  cf := some (fileOf pool10 1 #[.nestMembers #[98]] #[{ accessFlags := 2, nameIndex := 7, descriptorIndex := 8, attributes := #[] }, { accessFlags := 9, nameIndex := 124, descriptorIndex := 14, attributes := #[] }] 49 4 #[] #[{ accessFlags := 25, nameIndex := 354, descriptorIndex := 339, attributes := #[] }, { accessFlags := 25, nameIndex := 358, descriptorIndex := 339, attributes := #[] }, { accessFlags := 25, nameIndex := 361, descriptorIndex := 339, attributes := #[] }, { accessFlags := 26, nameIndex := 364, descriptorIndex := 339, attributes := #[] }, { accessFlags := 26, nameIndex := 365, descriptorIndex := 339, attributes := #[] }, { accessFlags := 26, nameIndex := 172, descriptorIndex := 173, attributes := #[] }, { accessFlags := 26, nameIndex := 176, descriptorIndex := 173, attributes := #[] }, { accessFlags := 8, nameIndex := 344, descriptorIndex := 339, attributes := #[] }, { accessFlags := 8, nameIndex := 338, descriptorIndex := 339, attributes := #[] }, { accessFlags := 4120, nameIndex := 245, descriptorIndex := 246, attributes := #[] }])
  fields := #[{ name := "E", type := .double, accessFlags := 25, slot := 0, constantValue := 0 }, { name := "PI", type := .double, accessFlags := 25, slot := 1, constantValue := 0 }, { name := "TAU", type := .double, accessFlags := 25, slot := 2, constantValue := 0 }, { name := "DEGREES_TO_RADIANS", type := .double, accessFlags := 26, slot := 3, constantValue := 0 }, { name := "RADIANS_TO_DEGREES", type := .double, accessFlags := 26, slot := 4, constantValue := 0 }, { name := "negativeZeroFloatBits", type := .long, accessFlags := 26, slot := 5, constantValue := 0 }, { name := "negativeZeroDoubleBits", type := .long, accessFlags := 26, slot := 6, constantValue := 0 }, { name := "twoToTheDoubleScaleUp", type := .double, accessFlags := 8, slot := 7, constantValue := 0 }, { name := "twoToTheDoubleScaleDown", type := .double, accessFlags := 8, slot := 8, constantValue := 0 }, { name := "$assertionsDisabled", type := .boolean, accessFlags := 4120, slot := 9, constantValue := 0 }]
  methods := #[k10m0, k10m1]
  instanceTypes := #[]
  staticTypes := #[.double, .double, .double, .double, .double, .long, .long, .double, .double, .boolean]
  resolved := Array.replicate 460 none
  statics := none }

def pool11 : Array CpInfo := pool [(1, u "java/lang/Cloneable"), (0, .class_ 1), (0, u "java/lang/Object"), (0, .class_ 3)] 3

/-- java/lang/Cloneable -/
def k11 : Class := { plain "java/lang/Cloneable" (some 0) with
  accessFlags := 1537
  interfaces := #[]
  cf := some (fileOf pool11 2 #[] #[] 1537 4 #[] #[])
  fields := #[]
  methods := #[]
  instanceTypes := #[]
  staticTypes := #[]
  resolved := Array.replicate 8 none
  statics := none }

/-- the primitive byte -/
def k12 : Class := { plain "byte" none with kind := .primitive 'B', accessFlags := 0x411 }
/-- [B -/
def k13 : Class := { plain "[B" (some 0) with kind := .array 12 .byte, interfaces := #[11, 4], accessFlags := 1041 }

/-- the primitive int -/
def k14 : Class := { plain "int" none with kind := .primitive 'I', accessFlags := 0x411 }
/-- [I -/
def k15 : Class := { plain "[I" (some 0) with kind := .array 14 .int, interfaces := #[11, 4], accessFlags := 1041 }

def heap : Heap := #[]
def classes : Array Class := #[k0, k1, k2, k3, k4, k5, k6, k7, k8, k9, k10, k11, k12, k13, k14, k15]
def interned : List (Array UInt16 × Addr) := []
def slotsUsed : Nat := 0
def theMethod : MethodId := ⟨1, 1⟩
def args0 : Array Value := #[.int 5, .int 6, .int 7, .int 8]
def aboutOver (below : List Frame) : State where
  vm := { classes := classes, interned := interned.toArray }
  heap := heap
  slotsUsed := slotsUsed
  threads := #[{ frames := .invoking theMethod args0 :: below }]
def below0 : List Frame := [.native { method := ⟨0, 0⟩, args := #[] }]
def about1 : State := aboutOver below0
def p0 : Program := .bare "" "" ""
def e0 : Env := launch0.env 0 0 0
theorem w_frames : about1.frames = Frame.invoking theMethod args0 :: below0 := rfl
set_option maxRecDepth 65536 in
theorem w_args : argsFit about1.vm theMethod args0 = true := by decide +kernel
set_option maxRecDepth 65536 in
theorem w_heap : heapFits about1 = true := by decide +kernel
set_option maxRecDepth 65536 in
theorem w_runnable : about1.curStatus? = some .runnable := by decide +kernel
set_option maxRecDepth 65536 in
theorem w_alone : about1.alone = true := by decide +kernel
set_option maxRecDepth 65536 in
theorem w_named : about1.methodNamed? x = some theMethod := by decide +kernel
set_option maxRecDepth 65536 in
theorem w_hears : about1.hears theMethod below0 = true := by decide +kernel
set_option maxRecDepth 65536 in
theorem w_ripe : about1.ripe theMethod args0 below0 = true := by decide +kernel
theorem w_running : about1.status = .running := rfl
set_option maxRecDepth 65536 in
theorem w_room : about1.hasRoom e0.platform room_1 = true :=
  launch0.hasRoom_least _ room_1 (by decide +kernel) (by decide +kernel) (by decide +kernel) (by decide +kernel) (by decide +kernel) (by decide +kernel)
theorem allAtoms_all (ts : List Jvm.Cond) (a : Array Jvm.Value) (st : Jvm.State) : (allAtoms ts).before a st = ts.all (fun c => c.before a st) := by
  induction ts with
  | nil => rfl
  | cons c t ih =>
    show (Jvm.Cond.and c (allAtoms t)).before a st = _
    rw [Jvm.Cond.before_and, ih, List.all_cons]
def words1 : List Jvm.Cond := Jvm.Cond.code x code maxLocals ret :: tables_1
/-- a 'code' word, met by the world's own term for the bytes: nothing is compared byte by byte -/
theorem code_word {y : MethodName} {bytes : ByteArray} {mx : Nat} {rt : Option FieldType} {a : Array Value} {s : State} {m : MethodId} {meth : Method} {c : Code} (h1 : s.methodNamed? y = some m) (h2 : s.vm.method? m = some meth) (h3 : meth.code = some c) (h4 : c.code = bytes)
    (h5 : (c.maxLocals == mx && c.exceptionTable.isEmpty && decide (c.maxStack ≤ mostOperands) && decide (meth.sig.returnType = rt) && !meth.locks && decide (parseMethodDescriptor y.desc = some meth.sig)) = true) : (Jvm.Cond.code y bytes mx rt).before a s = true := by
  simp only [Bool.and_eq_true, beq_iff_eq, Bool.not_eq_true', decide_eq_true_eq] at h5
  obtain ⟨⟨⟨⟨⟨g1, g2⟩, g3⟩, g4⟩, g5⟩, g6⟩ := h5
  simp [Cond.before, Cond.holds, Cond.value, h1, h2, h3, h4, g1, g2, g3, g4, g5, g6]
def isCode : Jvm.Cond → Bool
  | .code _ _ _ _ => true
  | _ => false
theorem all_split {L : List Jvm.Cond} {P : Jvm.Cond → Bool} (h1 : L.all (fun c => isCode c || P c) = true) (h2 : ∀ c ∈ L.filter isCode, P c = true) : L.all P = true := by
  refine List.all_eq_true.mpr fun c hc => ?_
  have h := List.all_eq_true.mp h1 c hc
  rcases Bool.eq_false_or_eq_true (isCode c) with hi | hi
  · exact h2 c (List.mem_filter.mpr ⟨hc, hi⟩)
  · simpa [hi] using h
set_option maxRecDepth 65536 in
theorem w_c0 : (Jvm.Cond.code x code maxLocals ret).before args0 about1 = true := code_word (m := ⟨1, 1⟩) (meth := k1m1) (c := k1c1) (by decide +kernel) rfl rfl rfl (by decide +kernel)
set_option maxRecDepth 65536 in
theorem w_c1 : (Jvm.Cond.code ({ cls := "com/example/ithuriel/ithuriel/measure/MzRange", name := "<init>", desc := "(DD)V" } : Jvm.MethodName) prog_67_method_1_code (5 : Nat) (Option.none : Option Jvm.ClassFile.FieldType)).before args0 about1 = true := code_word (m := ⟨3, 0⟩) (meth := k3m0) (c := k3c0) (by decide +kernel) rfl rfl rfl (by decide +kernel)
set_option maxRecDepth 65536 in
theorem w_c2 : (Jvm.Cond.code ({ cls := "java/lang/Record", name := "<init>", desc := "()V" } : Jvm.MethodName) jdk_30_method_1_code (1 : Nat) (Option.none : Option Jvm.ClassFile.FieldType)).before args0 about1 = true := code_word (m := ⟨2, 0⟩) (meth := k2m0) (c := k2c0) (by decide +kernel) rfl rfl rfl (by decide +kernel)
set_option maxRecDepth 65536 in
theorem w_c3 : (Jvm.Cond.code ({ cls := "java/lang/Object", name := "<init>", desc := "()V" } : Jvm.MethodName) object_method_1_code (1 : Nat) (Option.none : Option Jvm.ClassFile.FieldType)).before args0 about1 = true := code_word (m := ⟨0, 0⟩) (meth := k0m0) (c := k0c0) (by decide +kernel) rfl rfl rfl (by decide +kernel)
set_option maxRecDepth 65536 in
theorem w_c4 : (Jvm.Cond.code ({ cls := "java/lang/Double", name := "isFinite", desc := "(D)Z" } : Jvm.MethodName) jdk_117_method_8_code (2 : Nat) (Option.some Jvm.ClassFile.FieldType.boolean)).before args0 about1 = true := code_word (m := ⟨9, 0⟩) (meth := k9m0) (c := k9c0) (by decide +kernel) rfl rfl rfl (by decide +kernel)
set_option maxRecDepth 65536 in
theorem w_c5 : (Jvm.Cond.code ({ cls := "java/lang/Math", name := "abs", desc := "(D)D" } : Jvm.MethodName) jdk_29_method_64_code (2 : Nat) (Option.some Jvm.ClassFile.FieldType.double)).before args0 about1 = true := code_word (m := ⟨10, 1⟩) (meth := k10m1) (c := k10c1) (by decide +kernel) rfl rfl rfl (by decide +kernel)
set_option maxRecDepth 65536 in
theorem w_c6 : (Jvm.Cond.code ({ cls := "com/example/ithuriel/ithuriel/measure/MzRange", name := "contains", desc := "(D)Z" } : Jvm.MethodName) prog_67_method_2_code (3 : Nat) (Option.some Jvm.ClassFile.FieldType.boolean)).before args0 about1 = true := code_word (m := ⟨3, 1⟩) (meth := k3m1) (c := k3c1) (by decide +kernel) rfl rfl rfl (by decide +kernel)
def codes1 : List Jvm.Cond := [Jvm.Cond.code x code maxLocals ret, Jvm.Cond.code ({ cls := "com/example/ithuriel/ithuriel/measure/MzRange", name := "<init>", desc := "(DD)V" } : Jvm.MethodName) prog_67_method_1_code (5 : Nat) (Option.none : Option Jvm.ClassFile.FieldType), Jvm.Cond.code ({ cls := "java/lang/Record", name := "<init>", desc := "()V" } : Jvm.MethodName) jdk_30_method_1_code (1 : Nat) (Option.none : Option Jvm.ClassFile.FieldType), Jvm.Cond.code ({ cls := "java/lang/Object", name := "<init>", desc := "()V" } : Jvm.MethodName) object_method_1_code (1 : Nat) (Option.none : Option Jvm.ClassFile.FieldType), Jvm.Cond.code ({ cls := "java/lang/Double", name := "isFinite", desc := "(D)Z" } : Jvm.MethodName) jdk_117_method_8_code (2 : Nat) (Option.some Jvm.ClassFile.FieldType.boolean), Jvm.Cond.code ({ cls := "java/lang/Math", name := "abs", desc := "(D)D" } : Jvm.MethodName) jdk_29_method_64_code (2 : Nat) (Option.some Jvm.ClassFile.FieldType.double), Jvm.Cond.code ({ cls := "com/example/ithuriel/ithuriel/measure/MzRange", name := "contains", desc := "(D)Z" } : Jvm.MethodName) prog_67_method_2_code (3 : Nat) (Option.some Jvm.ClassFile.FieldType.boolean)]
set_option maxRecDepth 65536 in
theorem codes_eq : words1.filter isCode = codes1 := rfl
theorem w_codes : ∀ c ∈ words1.filter isCode, c.before args0 about1 = true := by
  rw [codes_eq]
  intro c hc
  simp only [codes1, List.mem_cons, List.not_mem_nil, or_false] at hc
  rcases hc with rfl | rfl | rfl | rfl | rfl | rfl | rfl
  · exact w_c0
  · exact w_c1
  · exact w_c2
  · exact w_c3
  · exact w_c4
  · exact w_c5
  · exact w_c6
set_option maxRecDepth 65536 in
theorem w_t1 : (words1.take 24).all (fun c => isCode c || c.before args0 about1) = true := by decide +kernel
set_option maxRecDepth 65536 in
theorem w_t2 : (words1.drop 24).all (fun c => isCode c || c.before args0 about1) = true := by decide +kernel
theorem w_tables : (allAtoms (Jvm.Cond.code x code maxLocals ret :: tables_1)).before args0 about1 = true := by
  rw [allAtoms_all]
  show words1.all (fun c => c.before args0 about1) = true
  refine all_split ?_ w_codes
  rw [← List.take_append_drop 24 words1, List.all_append, w_t1, w_t2]
  rfl
set_option maxRecDepth 65536 in
theorem w_case : (Jvm.Cond.and given_1 narrow_1).before args0 about1 = true := by decide +kernel
theorem w_applies : (headSpec (Jvm.Cond.code x code maxLocals ret :: tables_1) room_1).applies x e0.platform about1 = true :=
  (Spec.applies_iff w_frames).mpr ⟨w_running, w_runnable, w_alone, w_named, w_hears, w_ripe, w_room, w_tables⟩
theorem atStart : AtStart classFile x code maxLocals ret World_1 tables_1 room_1 Calls_1 rest_1 Pre_1 launch0 p0 e0 about1 theMethod args0 below0 :=
  ⟨lists_1, trivial, launch0.admits_env _ _ _, launch0.least_env, fairChoices_fair.cas, fairChoices_fair.clock, w_frames, w_args, w_heap, w_applies, trivial, trivial, w_case⟩
end start1
theorem witness_1 : WitnessClaimed_1 := ⟨start1.p0, start1.e0, start1.about1, start1.theMethod, start1.args0, start1.below0, start1.atStart⟩
end Jvm.Pilot.@@N@@
