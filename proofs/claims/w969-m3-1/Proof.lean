import JvmDerived
import JvmDerived.Pilot.@@N@@Statement
import JvmDerived.Pilot.@@N@@Code
set_option linter.unusedVariables false
set_option linter.unusedSimpArgs false
namespace Jvm.OwnKit
open Sem ClassFile Op Lib Jvm.Stand Jvm.Free Jvm.LawKit Jvm.RoadKit
section Own
variable {p : Program} {l : Launch} {e : Env} {R : Room} {s : State} {m : MethodId} {args : Array Value} {below : List Frame} {meth : Method} {c : Code} {T : State} {locs : List Loc} {cells slots : Nat} {Z : State} {a0 : Array Value} {h : Heap}
/-- a walk comes to its return; Q says what it leaves -/
def Done (p : Program) (e : Env) (below : List Frame) (s : State) (R : Room) (Q : Option Value → Heap → List Loc → Prop) (U : State) : Prop :=
  ∃ s₂ o, Steps p.tables e below U s₂ ∧ s₂.status = .running ∧ Ended s₂ below o ∧ ∃ v L, o = .returned v ∧ Q v s₂.heap L ∧ FrameEnd s o s₂ L R.cells R.slots
variable {Q : Option Value → Heap → List Loc → Prop} {U U' : State}
theorem Done.step (k : ∀ t, Steps p.tables e below U' t → Steps p.tables e below U t) (h : Done p e below s R Q U') : Done p e below s R Q U := by
  obtain ⟨s₂, o, h1, r⟩ := h
  exact ⟨s₂, o, k _ h1, r⟩
theorem Done.go (k : Steps p.tables e below U U') (h : Done p e below s R Q U') : Done p e below s R Q U := by
  obtain ⟨s₂, o, h1, r⟩ := h
  exact ⟨s₂, o, k.trans h1, r⟩
theorem Done.mono {Q' : Option Value → Heap → List Loc → Prop} (q : ∀ v h L, Q v h L → Q' v h L) (h : Done p e below s R Q U) : Done p e below s R Q' U := by
  obtain ⟨s₂, o, h1, h2, h3, v, L, h4, h5, h6⟩ := h
  exact ⟨s₂, o, h1, h2, h3, v, L, h4, q _ _ _ h5, h6⟩
theorem Done.retI (X : Stand p l e R s m args below meth c T locs cells slots) (hx : p.tables.exec = Jvm.exec) (hlk : meth.locks = false) {pc : Nat} {Ls : Array Slot} {z : Int32} {rest : List Value} (hret : meth.sig.returnType = some .int) (hd : decode c.code pc = .ok (.ireturn, 1))
    (hc : cells ≤ R.cells) (hs : slots ≤ R.slots) (hq : Q (some (.int z)) T.heap locs) : Done p e below s R Q (T.setTop (mkF m pc Ls (.int z :: rest))) := by
  obtain ⟨fs, hr, hrun, hended, hW, hsame⟩ := X.leave (v := some (.int z)) (fun h => by rw [hret] at h; cases h) hlk
  exact ⟨_, _, retOut X hx hret rfl (Or.inl ⟨rfl, Or.inl rfl, z, rfl⟩) hd hr, hrun, hended, _, _, rfl, hq, ⟨_, rfl⟩, hW, hsame.mono hc hs⟩
theorem Done.retJ (X : Stand p l e R s m args below meth c T locs cells slots) (hx : p.tables.exec = Jvm.exec) (hlk : meth.locks = false) {pc : Nat} {Ls : Array Slot} {z : Int64} {rest : List Value} (hret : meth.sig.returnType = some .long) (hd : decode c.code pc = .ok (.lreturn, 1))
    (hc : cells ≤ R.cells) (hs : slots ≤ R.slots) (hq : Q (some (.long z)) T.heap locs) : Done p e below s R Q (T.setTop (mkF m pc Ls (.long z :: rest))) := by
  obtain ⟨fs, hr, hrun, hended, hW, hsame⟩ := X.leave (v := some (.long z)) (fun h => by rw [hret] at h; cases h) hlk
  exact ⟨_, _, retOut X hx hret rfl (Or.inr (Or.inl ⟨rfl, rfl, z, rfl⟩)) hd hr, hrun, hended, _, _, rfl, hq, ⟨_, rfl⟩, hW, hsame.mono hc hs⟩
theorem Done.retD (X : Stand p l e R s m args below meth c T locs cells slots) (hx : p.tables.exec = Jvm.exec) (hlk : meth.locks = false) {pc : Nat} {Ls : Array Slot} {z : UInt64} {rest : List Value} (hret : meth.sig.returnType = some .double) (hd : decode c.code pc = .ok (.dreturn, 1))
    (hc : cells ≤ R.cells) (hs : slots ≤ R.slots) (hq : Q (some (.double z)) T.heap locs) : Done p e below s R Q (T.setTop (mkF m pc Ls (.double z :: rest))) := by
  obtain ⟨fs, hr, hrun, hended, hW, hsame⟩ := X.leave (v := some (.double z)) (fun h => by rw [hret] at h; cases h) hlk
  exact ⟨_, _, retOut X hx hret rfl (Or.inr (Or.inr (Or.inl ⟨rfl, rfl, z, rfl⟩))) hd hr, hrun, hended, _, _, rfl, hq, ⟨_, rfl⟩, hW, hsame.mono hc hs⟩
theorem Done.retA (X : Stand p l e R s m args below meth c T locs cells slots) (hx : p.tables.exec = Jvm.exec) (hlk : meth.locks = false) {pc : Nat} {Ls : Array Slot} {w : Value} {t : FieldType} {rest : List Value} (hret : meth.sig.returnType = some t) (ht : t.isReference = true) (hw : w.isRef = true) (hd : decode c.code pc = .ok (.areturn, 1))
    (hc : cells ≤ R.cells) (hs : slots ≤ R.slots) (hq : Q (some w) T.heap locs) : Done p e below s R Q (T.setTop (mkF m pc Ls (w :: rest))) := by
  obtain ⟨fs, hr, hrun, hended, hW, hsame⟩ := X.leave (v := some w) (fun h => by rw [hret] at h; cases h) hlk
  have hn : narrow t w = w := by rcases ref_cases hw with rfl | ⟨a, rfl⟩ <;> cases t <;> rfl
  exact ⟨_, _, retOut X hx hret hn (Or.inr (Or.inr (Or.inr (Or.inr ⟨rfl, ht, hw⟩)))) hd hr, hrun, hended, _, _, rfl, hq, ⟨_, rfl⟩, hW, hsame.mono hc hs⟩
theorem Done.retN (X : Stand p l e R s m args below meth c T locs cells slots) (hx : p.tables.exec = Jvm.exec) (hlk : meth.locks = false) {pc : Nat} {Ls : Array Slot} {z : Int32} {t : FieldType} {rest : List Value} (hret : meth.sig.returnType = some t) (ht : t = .boolean ∨ t = .byte ∨ t = .char ∨ t = .short) (hd : decode c.code pc = .ok (.ireturn, 1))
    (hc : cells ≤ R.cells) (hs : slots ≤ R.slots) (hq : Q (some (.int (nar t z))) T.heap locs) : Done p e below s R Q (T.setTop (mkF m pc Ls (.int z :: rest))) := by
  obtain ⟨fs, hr, hrun, hended, hW, hsame⟩ := X.leave (v := some (.int (nar t z))) (fun h => by rw [hret] at h; cases h) hlk
  exact ⟨_, _, Jvm.RoadKit.retN X hx hret ht hd hr, hrun, hended, _, _, rfl, hq, ⟨_, rfl⟩, hW, hsame.mono hc hs⟩
theorem Done.retV (X : Stand p l e R s m args below meth c T locs cells slots) (hx : p.tables.exec = Jvm.exec) (hlk : meth.locks = false) {pc : Nat} {Ls : Array Slot} (hret : meth.sig.returnType = none) (hd : decode c.code pc = .ok (.return_, 1))
    (hc : cells ≤ R.cells) (hs : slots ≤ R.slots) (hq : Q none T.heap locs) : Done p e below s R Q (T.setTop (mkF m pc Ls [])) := by
  obtain ⟨fs, hr, hrun, hended, hW, hsame⟩ := X.leave (v := none) (fun _ => rfl) hlk
  exact ⟨_, _, X.returnOut hx hret hd hr, hrun, hended, _, _, rfl, hq, ⟨_, rfl⟩, hW, hsame.mono hc hs⟩
/-- a body's contract: from the arguments as' and the heap h0 it returns, and Q holds -/
def Ctr (l : Launch) (Z : State) (y : MethodName) (code : ByteArray) (ml : Nat) (rt : Option FieldType) (ws : List Jvm.Cond) (rm : Room) (as' : Array Value) (h0 : Heap) (Q : Option Value → Heap → List Loc → Prop) : Prop :=
  MetFree l y (head1 (Jvm.Cond.code y code ml rt :: ws) rm) (fun a U => a = as' ∧ Z.Warmed39 U.vm ∧ U.heap = h0) (fun _ _ _ _ _ => True) (fun _ U o U' => ∃ v L, o = .returned v ∧ Q v U'.heap L ∧ FrameEnd U o U' L rm.cells rm.slots)
theorem Ctr.mono {y : MethodName} {code : ByteArray} {ml : Nat} {rt : Option FieldType} {ws : List Jvm.Cond} {rm : Room} {as' : Array Value} {h0 : Heap} {Q' : Option Value → Heap → List Loc → Prop} (H : Ctr l Z y code ml rt ws rm as' h0 Q) (q : ∀ v h L, Q v h L → Q' v h L) : Ctr l Z y code ml rt ws rm as' h0 Q' := by
  intro p e ha hc hk s m args below hf happ hP hK
  obtain ⟨n, o, h1, h2, h3, v, L, h4, h5, h6⟩ := H p e ha hc hk s m args below hf happ hP hK
  exact ⟨n, o, h1, h2, h3, v, L, h4, q _ _ _ h5, h6⟩
theorem Ctr.intro {y : MethodName} {code : ByteArray} {ml : Nat} {rt : Option FieldType} {ws : List Jvm.Cond} {rm : Room} {as' : Array Value} {h0 : Heap} {Ls : Array Slot} (hpl : plainFor y = true) (hf : ∀ m, entryFrame m as' ml = mkF m 0 Ls [])
    (body : ∀ (p : Program) (e : Env) (s : State) (m : MethodId) (below : List Frame) (meth : Method) (c : Code) (T : State), p.tables.exec = Jvm.exec → c.code = code → c.maxLocals = ml → s.vm.findClass y.cls = some m.cls → meth.name = y.name → meth.sig.returnType = rt → meth.locks = false → Z.Warmed39 s.vm → T.heap = h0 →
      Stand p l e rm s m as' below meth c T [] 0 0 → Done p e below s rm Q (T.setTop (mkF m 0 Ls []))) : Ctr l Z y code ml rt ws rm as' h0 Q := by
  refine MetFree.of_bodySF hpl hisR ?_
  intro p e s m args below meth c s₁ Bd hml0 hP hK
  obtain ⟨rfl, hZ, hh⟩ := hP
  have X0 : Stand p l e rm s m args below meth c s₁ [] 0 0 := Stand.of_body Bd
  have e0 : s₁.heap = h0 := by rw [← hh, Bd.state]; rfl
  obtain ⟨s₂, o, h1, r⟩ := body p e s m below meth c s₁ Bd.exec Bd.bytes hml0 (findClass_of_methodNamed Bd.named) (name_of_methodNamed Bd.named Bd.method).1 Bd.returns Bd.notSynchronized hZ e0 X0
  exact ⟨s₂, o, castTop (hf m) h1, r⟩
theorem Ctr.back {y : MethodName} {bytes : ByteArray} {maxL : Nat} {ret : Option FieldType} {rm : Room} {len W : Nat} {as' : Array Value} (hM : Ctr l Z y bytes maxL ret [] rm as' h Q)
    (hZ : Z.Warmed39 s.vm) (wc : (Jvm.Cond.code y bytes maxL ret).before a0 Z = true) (wz : (Jvm.Cond.initialized y.cls).before a0 Z = true) (hf : rm.frames + 1 ≤ R.frames) (hl : W + (maxL + 11) + rm.locals ≤ R.locals) :
    Back l R p e below s args y len W (fun A a => a = as' ∧ A.U.heap = h ∧ A.cells + rm.cells ≤ R.cells ∧ A.slots + rm.slots ≤ R.slots)
      (fun A _ v B => ∃ L, Q v B.U.heap L ∧ B.locs = A.locs ++ L ∧ B.cells = A.cells + rm.cells ∧ B.slots = A.slots + rm.slots) := backOf (Q := Q) hM hZ wc wz hf hl
theorem wAt {ws : List Jvm.Cond} (hw : ∀ d ∈ ws, d.before a0 Z = true) (k : Nat) {d : Jvm.Cond} (q : ws[k]? = some d) : d.before a0 Z = true := hw _ (List.mem_of_getElem? q)
theorem int_eq_v {first s : State} {o : Option Outcome} {idx : List Nat} {t : Term} {k : Int32} (q : (Jvm.Cond.eq t (.int k)).value args first o s idx = some true) : t.eval args first o idx s = some (.int k) := by
  cases ht : t.eval args first o idx s with
  | none => simp [Cond.value, ht] at q
  | some x => cases x <;> simp [Cond.value, Term.eval, ht] at q ⊢; exact q
/-- a truth value as the JVM returns it -/
def bP (P : Prop) [Decidable P] : Int32 := if P then 1 else 0
theorem bP_t {P : Prop} [Decidable P] (q : P) : bP P = 1 := if_pos q
theorem bP_f {P : Prop} [Decidable P] (q : ¬ P) : bP P = 0 := if_neg q
/-- what a law leaves: it returns 1, and wrote in new cells alone -/
def LawQ (n0 : Nat) : Option Value → Heap → List Loc → Prop := fun v _ L => v = some (.int 1) ∧ Fr n0 L
/-- what a body leaves that writes and makes nothing -/
def PureQ (r : Option Value) (h0 : Heap) : Option Value → Heap → List Loc → Prop := fun v h L => v = r ∧ h = h0 ∧ L = []
/-- what a constructor leaves of which no more is wanted: it wrote in ws and in new cells alone -/
def QW (n0 : Nat) (h0 : Heap) (ws : List Addr) : Option Value → Heap → List Loc → Prop := fun v h L => v = none ∧ Fr n0 L ∧ Keep h0 h ws
variable {Qc : Option Value → Heap → List Loc → Prop}
theorem Done.callS (X : Stand p l e R s m args below meth c T locs cells slots) (hx : p.tables.exec = Jvm.exec) (hZ : Z.Warmed39 s.vm) {own : String} {index : Nat} {y : MethodName} {bytes : ByteArray} {maxL : Nat} {ret : Option FieldType} {rm : Room} {as' : Array Value}
    (hown : s.vm.findClass own = some m.cls) (w1 : (Jvm.Cond.methodLink own index y).before a0 Z = true) (w2 : (Jvm.Cond.static y).before a0 Z = true) (w3 : (Jvm.Cond.initialized y.cls).before a0 Z = true) (w4 : (Jvm.Cond.code y bytes maxL ret).before a0 Z = true)
    (hy : y.cls ≠ "java/lang/invoke/MethodHandle" ∧ y.cls ≠ "java/lang/invoke/VarHandle") (hM : Ctr l Z y bytes maxL ret [] rm as' h Qc) (eT : T.heap = h)
    {g : JFrame} (hg : g.method = m) (hsize : g.locals.size = c.maxLocals) (argsL rest : List Value) (W : Nat) (hlen : ∀ sig, parseMethodDescriptor y.desc = some sig → argsL.length = sig.parameters.length)
    (hstack : g.stack = argsL.reverse ++ rest) (has : argsL.toArray = as') (hW : 2 * g.monitorRoom + (rest.map fun v => v.category).sum ≤ W) (hdg : decode c.code g.pc = .ok (.invokestatic index, 3))
    (hf : rm.frames + 1 ≤ R.frames) (hl : W + (maxL + 11) + rm.locals ≤ R.locals) (hc : cells + rm.cells ≤ R.cells) (hs : slots + rm.slots ≤ R.slots)
    (k : ∀ (T' : State) (v : Option Value) (L : List Loc), Stand p l e R s m args below meth c T' (locs ++ L) (cells + rm.cells) (slots + rm.slots) → Qc v T'.heap L → Done p e below s R Q (T'.setTop { g with pc := g.pc + 3, stack := v.toList ++ rest })) :
    Done p e below s R Q (T.setTop g) := by
  subst has
  obtain ⟨v, vm₁, ⟨T', L', k', n'⟩, -, X', ⟨L, hq, e1, e2, e3⟩, st⟩ := Jvm.LawKit.callS X hx (y := y) hown (mvT hZ w1) (mvT hZ w2) (mvT hZ w3) (mvT hZ w4) hy (hM.back (W := W) hZ w4 w3 hf hl) hg hsize (argsL := argsL) (rest := rest) hlen hstack hW hdg (fun _ _ => ⟨rfl, eT, hc, hs⟩)
  dsimp only [Pt.U, Pt.locs, Pt.cells, Pt.slots] at X' e1 e2 e3 st hq
  subst e1 e2 e3
  exact Done.step st (k _ _ _ X' hq)
theorem Done.callSP (X : Stand p l e R s m args below meth c T locs cells slots) (hx : p.tables.exec = Jvm.exec) (hZ : Z.Warmed39 s.vm) {own : String} {index : Nat} {y : MethodName} {bytes : ByteArray} {maxL : Nat} {ret : Option FieldType} {rm : Room} {as' : Array Value} {r : Option Value}
    (hown : s.vm.findClass own = some m.cls) (w1 : (Jvm.Cond.methodLink own index y).before a0 Z = true) (w2 : (Jvm.Cond.static y).before a0 Z = true) (w3 : (Jvm.Cond.initialized y.cls).before a0 Z = true) (w4 : (Jvm.Cond.code y bytes maxL ret).before a0 Z = true)
    (hy : y.cls ≠ "java/lang/invoke/MethodHandle" ∧ y.cls ≠ "java/lang/invoke/VarHandle") (hM : Ctr l Z y bytes maxL ret [] rm as' h (PureQ r h)) (eT : T.heap = h)
    {g : JFrame} (hg : g.method = m) (hsize : g.locals.size = c.maxLocals) (argsL rest : List Value) (W : Nat) (hlen : ∀ sig, parseMethodDescriptor y.desc = some sig → argsL.length = sig.parameters.length)
    (hstack : g.stack = argsL.reverse ++ rest) (has : argsL.toArray = as') (hW : 2 * g.monitorRoom + (rest.map fun v => v.category).sum ≤ W) (hdg : decode c.code g.pc = .ok (.invokestatic index, 3))
    (hf : rm.frames + 1 ≤ R.frames) (hl : W + (maxL + 11) + rm.locals ≤ R.locals) (hc : cells ≤ R.cells) (hs : slots ≤ R.slots) (rc : rm.cells = 0) (rs : rm.slots = 0)
    (k : ∀ (T' : State), Stand p l e R s m args below meth c T' locs cells slots → T'.heap = h → Done p e below s R Q (T'.setTop { g with pc := g.pc + 3, stack := r.toList ++ rest })) :
    Done p e below s R Q (T.setTop g) := by
  refine Done.callS X hx hZ hown w1 w2 w3 w4 hy hM eT hg hsize argsL rest W hlen hstack has hW hdg hf hl (by rw [rc]; exact hc) (by rw [rs]; exact hs) ?_
  intro T' v L X' q
  obtain ⟨rfl, e1, rfl⟩ := q
  rw [List.append_nil, rc, rs] at X'
  exact k T' X' e1
theorem Done.callI (X : Stand p l e R s m args below meth c T locs cells slots) (hx : p.tables.exec = Jvm.exec) (hZ : Z.Warmed39 s.vm) {own : String} {index : Nat} {y : MethodName} {bytes : ByteArray} {maxL : Nat} {rm : Room} {as' : Array Value} (hy1 : y.name = "<init>")
    (hown : s.vm.findClass own = some m.cls) (w1 : (Jvm.Cond.methodLink own index y).before a0 Z = true) (w2 : (Jvm.Cond.instanceMethod y).before a0 Z = true) (w3 : (Jvm.Cond.initialized y.cls).before a0 Z = true) (w4 : (Jvm.Cond.code y bytes maxL none).before a0 Z = true)
    (hy : y.cls ≠ "java/lang/invoke/MethodHandle" ∧ y.cls ≠ "java/lang/invoke/VarHandle") (hM : Ctr l Z y bytes maxL none [] rm as' h Qc) (eT : T.heap = h)
    {g : JFrame} (hg : g.method = m) (hsize : g.locals.size = c.maxLocals) (a : Addr) (argsL rest : List Value) (W : Nat) (hlen : ∀ sig, parseMethodDescriptor y.desc = some sig → argsL.length = sig.parameters.length)
    (hstack : g.stack = argsL.reverse ++ .ref a :: rest) (has : (Value.ref a :: argsL).toArray = as') (hW : 2 * g.monitorRoom + (rest.map fun v => v.category).sum ≤ W) (hdg : decode c.code g.pc = .ok (.invokespecial index, 3))
    (hf : rm.frames + 1 ≤ R.frames) (hl : W + (maxL + 11) + rm.locals ≤ R.locals) (hc : cells + rm.cells ≤ R.cells) (hs : slots + rm.slots ≤ R.slots)
    (k : ∀ (T' : State) (v : Option Value) (L : List Loc), Stand p l e R s m args below meth c T' (locs ++ L) (cells + rm.cells) (slots + rm.slots) → Qc v T'.heap L → Done p e below s R Q (T'.setTop { g with pc := g.pc + 3, stack := v.toList ++ rest })) :
    Done p e below s R Q (T.setTop g) := by
  subst has
  obtain ⟨v, vm₁, ⟨T', L', k', n'⟩, -, X', ⟨L, hq, e1, e2, e3⟩, st⟩ := X.specialBack hx (y := y) hy1 hown (mvT hZ w1) (mvT hZ w2) (mvT hZ w4) hy (hM.back (W := W) hZ w4 w3 hf hl) hg hsize (Steps.refl _) (a := a) (argsL := argsL) (rest := rest) hlen hstack hW hdg (fun _ _ => ⟨rfl, eT, hc, hs⟩)
  dsimp only [Pt.U, Pt.locs, Pt.cells, Pt.slots] at X' e1 e2 e3 st hq
  subst e1 e2 e3
  exact Done.go st (k _ _ _ X' hq)
theorem Done.callV (X : Stand p l e R s m args below meth c T locs cells slots) (hx : p.tables.exec = Jvm.exec) (hZ : Z.Warmed39 s.vm) {own C : String} {index : Nat} {y z : MethodName} {bytes : ByteArray} {maxL : Nat} {ret : Option FieldType} {rm : Room} {as' : Array Value}
    (hown : s.vm.findClass own = some m.cls) (w1 : (Jvm.Cond.methodLink own index y).before a0 Z = true) (w2 : (Jvm.Cond.declares y).before a0 Z = true) (hnf : NotFace s y) (w5 : (Jvm.Cond.selects C y z).before a0 Z = true) (w6 : (Jvm.Cond.instanceMethod z).before a0 Z = true)
    (w3 : (Jvm.Cond.initialized z.cls).before a0 Z = true) (w4 : (Jvm.Cond.code z bytes maxL ret).before a0 Z = true)
    (hy : y.cls ≠ "java/lang/invoke/MethodHandle" ∧ y.cls ≠ "java/lang/invoke/VarHandle") (hM : Ctr l Z z bytes maxL ret [] rm as' h Qc) (eT : T.heap = h) {b : Addr} (E : Exa Z h b C)
    {g : JFrame} (hg : g.method = m) (hsize : g.locals.size = c.maxLocals) (argsL rest : List Value) (W : Nat) (hlen : ∀ sig, parseMethodDescriptor y.desc = some sig → argsL.length = sig.parameters.length)
    (hstack : g.stack = argsL.reverse ++ .ref b :: rest) (has : (Value.ref b :: argsL).toArray = as') (hW : 2 * g.monitorRoom + (rest.map fun v => v.category).sum ≤ W) (hdg : decode c.code g.pc = .ok (.invokevirtual index, 3))
    (hf : rm.frames + 1 ≤ R.frames) (hl : W + (maxL + 11) + rm.locals ≤ R.locals) (hc : cells + rm.cells ≤ R.cells) (hs : slots + rm.slots ≤ R.slots)
    (k : ∀ (T' : State) (v : Option Value) (L : List Loc), Stand p l e R s m args below meth c T' (locs ++ L) (cells + rm.cells) (slots + rm.slots) → Qc v T'.heap L → Done p e below s R Q (T'.setTop { g with pc := g.pc + 3, stack := v.toList ++ rest })) :
    Done p e below s R Q (T.setTop g) := by
  subst has
  obtain ⟨cq, kq, qa, qb, qc⟩ := isOf (T := T) hZ eT E
  obtain ⟨v, vm₁, ⟨T', L', k', n'⟩, -, X', ⟨L, hq, e1, e2, e3⟩, st⟩ := X.virtualBack hx (y := y) (z := z) hown (mvT hZ w1) (mvT hZ w2) hnf (mvT hZ w5) (mvT hZ w6) hy (hM.back (W := W) hZ w4 w3 hf hl) qa qc hg hsize (Steps.refl _) (argsL := argsL) (rest := rest) hlen hstack hW hdg (fun _ _ => ⟨rfl, eT, hc, hs⟩)
  dsimp only [Pt.U, Pt.locs, Pt.cells, Pt.slots] at X' e1 e2 e3 st hq
  subst e1 e2 e3
  exact Done.go st (k _ _ _ X' hq)
theorem Done.callVP (X : Stand p l e R s m args below meth c T locs cells slots) (hx : p.tables.exec = Jvm.exec) (hZ : Z.Warmed39 s.vm) {own C : String} {index : Nat} {y z : MethodName} {bytes : ByteArray} {maxL : Nat} {ret : Option FieldType} {rm : Room} {as' : Array Value} {r : Option Value}
    (hown : s.vm.findClass own = some m.cls) (w1 : (Jvm.Cond.methodLink own index y).before a0 Z = true) (w2 : (Jvm.Cond.declares y).before a0 Z = true) (hnf : NotFace s y) (w5 : (Jvm.Cond.selects C y z).before a0 Z = true) (w6 : (Jvm.Cond.instanceMethod z).before a0 Z = true)
    (w3 : (Jvm.Cond.initialized z.cls).before a0 Z = true) (w4 : (Jvm.Cond.code z bytes maxL ret).before a0 Z = true)
    (hy : y.cls ≠ "java/lang/invoke/MethodHandle" ∧ y.cls ≠ "java/lang/invoke/VarHandle") (hM : Ctr l Z z bytes maxL ret [] rm as' h (PureQ r h)) (eT : T.heap = h) {b : Addr} (E : Exa Z h b C)
    {g : JFrame} (hg : g.method = m) (hsize : g.locals.size = c.maxLocals) (argsL rest : List Value) (W : Nat) (hlen : ∀ sig, parseMethodDescriptor y.desc = some sig → argsL.length = sig.parameters.length)
    (hstack : g.stack = argsL.reverse ++ .ref b :: rest) (has : (Value.ref b :: argsL).toArray = as') (hW : 2 * g.monitorRoom + (rest.map fun v => v.category).sum ≤ W) (hdg : decode c.code g.pc = .ok (.invokevirtual index, 3))
    (hf : rm.frames + 1 ≤ R.frames) (hl : W + (maxL + 11) + rm.locals ≤ R.locals) (hc : cells ≤ R.cells) (hs : slots ≤ R.slots) (rc : rm.cells = 0) (rs : rm.slots = 0)
    (k : ∀ (T' : State), Stand p l e R s m args below meth c T' locs cells slots → T'.heap = h → Done p e below s R Q (T'.setTop { g with pc := g.pc + 3, stack := r.toList ++ rest })) :
    Done p e below s R Q (T.setTop g) := by
  refine Done.callV X hx hZ hown w1 w2 hnf w5 w6 w3 w4 hy hM eT E hg hsize argsL rest W hlen hstack has hW hdg hf hl (by rw [rc]; exact hc) (by rw [rs]; exact hs) ?_
  intro T' v L X' q
  obtain ⟨rfl, e1, rfl⟩ := q
  rw [List.append_nil, rc, rs] at X'
  exact k T' X' e1
end Own
end Jvm.OwnKit
namespace Jvm.Pilot.@@N@@
open Jvm Jvm.ClassFile Sem Op Lib Jvm.Free Jvm.Stand Jvm.LawKit Jvm.RoadKit Jvm.OwnKit Bundle Jvm.Pilot.@@N@@.Jvm.D
theorem mh_mul (a b : Int32) : (a.toInt64 < (b.toInt64 * (1 : Int64))) ↔ a < b := by
  have q : b.toInt64 * (1 : Int64) = b.toInt64 := Int64.mul_one _
  rw [q, Int64.lt_iff_toInt_lt, Int32.lt_iff_toInt_lt, Int32.toInt_toInt64, Int32.toInt_toInt64]
theorem mh_t {a b : Int32} (h : ¬ (a.toInt64) < ((b.toInt64) * (1 : Int64))) : ¬ a < b := fun q => h ((mh_mul a b).mpr q)
theorem mh_f {a b : Int32} (h : (a.toInt64) < ((b.toInt64) * (1 : Int64))) : ¬ ¬ a < b := fun q => q ((mh_mul a b).mp h)
theorem lt_succ32 {b : Int32} (h : ¬ b = (2147483647 : Int32)) : b < b + (1 : Int32) := by
  have h1 : b.toInt ≠ 2147483647 := fun q => h (Int32.toInt_inj.mp q)
  have h2 := b.toInt_lt
  have h3 := b.le_toInt
  rw [Int32.lt_iff_toInt_lt, Int32.toInt_add, Int.bmod_eq_of_le] <;> simp <;> omega
theorem pn_com_example_ithuriel_ithuriel_lcms_StoreFormat : plainName "com/example/ithuriel/ithuriel/lcms/StoreFormat" = true := by first | (simp [plainName, overriddenIn]; done) | decide +kernel
theorem d1_0 : decode prog_51_method_2_code 0 = .ok (.iload_n 1, 1) := by decide +kernel
theorem d1_1 : decode prog_51_method_2_code 1 = .ok (.i2l, 1) := by decide +kernel
theorem d1_2 : decode prog_51_method_2_code 2 = .ok (.lconst 1, 1) := by decide +kernel
theorem d1_3 : decode prog_51_method_2_code 3 = .ok (.lmul, 1) := by decide +kernel
theorem d1_4 : decode prog_51_method_2_code 4 = .ok (.iload_n 0, 1) := by decide +kernel
theorem d1_5 : decode prog_51_method_2_code 5 = .ok (.i2l, 1) := by decide +kernel
theorem d1_6 : decode prog_51_method_2_code 6 = .ok (.lcmp, 1) := by decide +kernel
theorem d1_7 : decode prog_51_method_2_code 7 = .ok (.ifCond .gt 7, 3) := by decide +kernel
theorem d1_14 : decode prog_51_method_2_code 14 = .ok (.iconst 0, 1) := by decide +kernel
theorem d1_15 : decode prog_51_method_2_code 15 = .ok (.ireturn, 1) := by decide +kernel
theorem d1_10 : decode prog_51_method_2_code 10 = .ok (.iconst 1, 1) := by decide +kernel
theorem d1_11 : decode prog_51_method_2_code 11 = .ok (.goto 4, 3) := by decide +kernel
set_option maxRecDepth 65536 in
set_option maxHeartbeats 40000000 in
theorem rmh (l : Launch) (Z : State) (a0 : Array Value) (hw : ∀ d ∈ tables_1, d.before a0 Z = true) (ws : List Jvm.Cond) (a b r : Int32) (h0 : Heap) (n0 : Nat) (Z0 : n0 ≤ h0.size) (hr : r = bP (¬ a < b)) :
    Ctr l Z (⟨"com/example/ithuriel/ithuriel/lcms/StoreFormat", "mayHold", "(II)Z"⟩ : MethodName) prog_51_method_2_code 2 (some .boolean) ws ({ frames := 0, cells := 0, slots := 0, locals := 0 } : Room) #[(.int a), (.int b)] h0 (PureQ (some (.int r)) h0) := by
  refine Ctr.intro (plainFor_of_name pn_com_example_ithuriel_ithuriel_lcms_StoreFormat) (Ls := #[.val (.int a), .val (.int b)]) (fun m => by first | (simp [entryFrame, mkF, argsToLocals, Value.category]; done) | rfl) ?_
  intro p e s m below meth c T0 hx hby hml hown hnm hret hlk hZ e0 X0
  have N0 := Fr.nil n0
  show Done p e below s _ _ (T0.setTop (mkF m 0 #[.val (.int a), .val (.int b)] []))
  refine Done.step (fun _ => XS.iloadN X0.here hx rfl (hb hby d1_0) rfl) ?_
  show Done p e below s _ _ (T0.setTop (mkF m 1 #[.val (.int a), .val (.int b)] [(.int b)]))
  refine Done.step (fun _ => XT.i2l X0.here hx rfl (hb hby d1_1) rfl) ?_
  show Done p e below s _ _ (T0.setTop (mkF m 2 #[.val (.int a), .val (.int b)] [(.long (b.toInt64))]))
  refine Done.step (fun _ => XT.lconstV X0.here hx rfl (1 : Int64) (hb hby d1_2) (by decide)) ?_
  show Done p e below s _ _ (T0.setTop (mkF m 3 #[.val (.int a), .val (.int b)] [(.long (1 : Int64)), (.long (b.toInt64))]))
  refine Done.step (fun _ => XT.lmul X0.here hx rfl (hb hby d1_3) rfl) ?_
  show Done p e below s _ _ (T0.setTop (mkF m 4 #[.val (.int a), .val (.int b)] [(.long ((b.toInt64) * (1 : Int64)))]))
  refine Done.step (fun _ => XS.iloadN X0.here hx rfl (hb hby d1_4) rfl) ?_
  show Done p e below s _ _ (T0.setTop (mkF m 5 #[.val (.int a), .val (.int b)] [(.int a), (.long ((b.toInt64) * (1 : Int64)))]))
  refine Done.step (fun _ => XT.i2l X0.here hx rfl (hb hby d1_5) rfl) ?_
  show Done p e below s _ _ (T0.setTop (mkF m 6 #[.val (.int a), .val (.int b)] [(.long (a.toInt64)), (.long ((b.toInt64) * (1 : Int64)))]))
  refine Done.step (fun _ => XT.lcmp X0.here hx rfl (hb hby d1_6) rfl) ?_
  show Done p e below s _ _ (T0.setTop (mkF m 7 #[.val (.int a), .val (.int b)] [(.int (XT.cmpL ((b.toInt64) * (1 : Int64)) (a.toInt64)))]))
  by_cases hc1 : (a.toInt64) < ((b.toInt64) * (1 : Int64))
  · refine Done.step (fun _ => XS.ifYes X0.here hx rfl (pc0 := 7) (pc' := 14) rfl (hb hby d1_7) rfl (XT.ll_gt_t hc1) (by decide) (by decide)) ?_
    show Done p e below s _ _ (T0.setTop (mkF m 14 #[.val (.int a), .val (.int b)] []))
    refine Done.step (fun _ => XT.iconstV X0.here hx rfl (0 : Int32) (hb hby d1_14) (by decide)) ?_
    show Done p e below s _ _ (T0.setTop (mkF m 15 #[.val (.int a), .val (.int b)] [(.int (0 : Int32))]))
    exact Done.retN X0 hx hlk (t := .boolean) hret (by simp) (hb hby d1_15) (by decide) (by decide) ⟨by rw [hr, bP_f (mh_f hc1)]; rfl, e0, rfl⟩
  · refine Done.step (fun _ => XS.ifNo X0.here hx rfl (hb hby d1_7) rfl (XT.ll_gt_f hc1)) ?_
    show Done p e below s _ _ (T0.setTop (mkF m 10 #[.val (.int a), .val (.int b)] []))
    refine Done.step (fun _ => XT.iconstV X0.here hx rfl (1 : Int32) (hb hby d1_10) (by decide)) ?_
    show Done p e below s _ _ (T0.setTop (mkF m 11 #[.val (.int a), .val (.int b)] [(.int (1 : Int32))]))
    refine Done.step (fun _ => XS.goto X0.here hx rfl (pc0 := 11) (pc' := 15) rfl (hb hby d1_11) (by decide) (by decide)) ?_
    show Done p e below s _ _ (T0.setTop (mkF m 15 #[.val (.int a), .val (.int b)] [(.int (1 : Int32))]))
    exact Done.retN X0 hx hlk (t := .boolean) hret (by simp) (hb hby d1_15) (by decide) (by decide) ⟨by rw [hr, bP_t (mh_t hc1)]; rfl, e0, rfl⟩
theorem pn_com_example_ithuriel_ithuriel_lcms_StoreFormatMayHoldPinLaw : plainName "com/example/ithuriel/ithuriel/lcms/StoreFormatMayHoldPinLaw" = true := by first | (simp [plainName, overriddenIn]; done) | decide +kernel
theorem pd_0 : parseMethodDescriptor "(II)Z" = some ⟨[.int, .int], some .boolean⟩ := by decide +kernel
set_option maxRecDepth 65536 in
set_option maxHeartbeats 40000000 in
theorem rm0 (l : Launch) (Z : State) (a0 : Array Value) (hw : ∀ d ∈ tables_1, d.before a0 Z = true) (ws : List Jvm.Cond) (a b : Int32) (h0 : Heap) (n0 : Nat) (Z0 : n0 ≤ h0.size)  :
    Ctr l Z x code maxLocals ret ws room_1 #[(.int a), (.int b)] h0 (LawQ n0) := by
  refine Ctr.intro (plainFor_of_name pn_com_example_ithuriel_ithuriel_lcms_StoreFormatMayHoldPinLaw) (Ls := #[.val (.int a), .val (.int b), .unset, .unset, .unset]) (fun m => by first | (simp [entryFrame, mkF, argsToLocals, Value.category, maxLocals]; done) | rfl) ?_
  intro p e s m below meth c T0 hx hby hml hown hnm hret hlk hZ e0 X0
  have N0 := Fr.nil n0
  have hown : s.vm.findClass "com/example/ithuriel/ithuriel/lcms/StoreFormatMayHoldPinLaw" = some m.cls := hown
  have hret : meth.sig.returnType = (some .boolean) := hret
  have hml : c.maxLocals = 5 := hml
  show Done p e below s _ _ (T0.setTop (mkF m 0 #[.val (.int a), .val (.int b), .unset, .unset, .unset] []))
  refine Done.step (fun _ => XS.iloadN X0.here hx rfl (hb hby at_0) rfl) ?_
  show Done p e below s _ _ (T0.setTop (mkF m 1 #[.val (.int a), .val (.int b), .unset, .unset, .unset] [(.int a)]))
  refine Done.step (fun _ => XS.iloadN X0.here hx rfl (hb hby at_1) rfl) ?_
  show Done p e below s _ _ (T0.setTop (mkF m 2 #[.val (.int a), .val (.int b), .unset, .unset, .unset] [(.int b), (.int a)]))
  by_cases hc1 : ¬ a < b
  · refine Done.callSP X0 hx hZ hown (wAt hw 0 rfl) (wAt hw 1 rfl) (wAt hw 2 rfl) (wAt hw 3 rfl) (by decide) (rmh l Z a0 hw [] a b (1 : Int32) h0 n0 Z0 (bP_t hc1).symm) e0 (g := (mkF m 2 #[.val (.int a), .val (.int b), .unset, .unset, .unset] [(.int b), (.int a)])) rfl (by rw [hml]; rfl) [(.int a), (.int b)] [] 0 (lenOf pd_0 rfl) rfl rfl (by show 2 * 0 + _ ≤ _; exact Nat.le_of_eq rfl) (hb hby at_2) (by decide) (by decide) (by decide) (by decide) rfl rfl ?_
    intro T2 X2 e2
    show Done p e below s _ _ (T2.setTop (mkF m 5 #[.val (.int a), .val (.int b), .unset, .unset, .unset] [(.int (1 : Int32))]))
    refine Done.step (fun _ => XS.iloadN X2.here hx rfl (hb hby at_5) rfl) ?_
    show Done p e below s _ _ (T2.setTop (mkF m 6 #[.val (.int a), .val (.int b), .unset, .unset, .unset] [(.int b), (.int (1 : Int32))]))
    refine Done.step (fun _ => XS.iloadN X2.here hx rfl (hb hby at_6) rfl) ?_
    show Done p e below s _ _ (T2.setTop (mkF m 7 #[.val (.int a), .val (.int b), .unset, .unset, .unset] [(.int a), (.int b), (.int (1 : Int32))]))
    refine Done.step (fun _ => XS.icmpNo X2.here hx rfl (hb hby at_7) rfl (XT.ii_gt_f hc1)) ?_
    show Done p e below s _ _ (T2.setTop (mkF m 10 #[.val (.int a), .val (.int b), .unset, .unset, .unset] [(.int (1 : Int32))]))
    refine Done.step (fun _ => XT.iconstV X2.here hx rfl (1 : Int32) (hb hby at_10) (by decide)) ?_
    show Done p e below s _ _ (T2.setTop (mkF m 11 #[.val (.int a), .val (.int b), .unset, .unset, .unset] [(.int (1 : Int32)), (.int (1 : Int32))]))
    refine Done.step (fun _ => XS.goto X2.here hx rfl (pc0 := 11) (pc' := 15) rfl (hb hby at_11) (by decide) (by decide)) ?_
    show Done p e below s _ _ (T2.setTop (mkF m 15 #[.val (.int a), .val (.int b), .unset, .unset, .unset] [(.int (1 : Int32)), (.int (1 : Int32))]))
    refine Done.step (fun _ => XS.icmpNo X2.here hx rfl (hb hby at_15) rfl (XT.ii_ne_f rfl)) ?_
    show Done p e below s _ _ (T2.setTop (mkF m 18 #[.val (.int a), .val (.int b), .unset, .unset, .unset] []))
    refine Done.step (fun _ => XT.iconstV X2.here hx rfl (1 : Int32) (hb hby at_18) (by decide)) ?_
    show Done p e below s _ _ (T2.setTop (mkF m 19 #[.val (.int a), .val (.int b), .unset, .unset, .unset] [(.int (1 : Int32))]))
    refine Done.step (fun _ => XS.goto X2.here hx rfl (pc0 := 19) (pc' := 23) rfl (hb hby at_19) (by decide) (by decide)) ?_
    show Done p e below s _ _ (T2.setTop (mkF m 23 #[.val (.int a), .val (.int b), .unset, .unset, .unset] [(.int (1 : Int32))]))
    refine Done.step (fun _ => XS.istoreN X2.here hx rfl (hb hby at_23) rfl (l' := #[.val (.int a), .val (.int b), .val (.int (1 : Int32)), .unset, .unset]) rfl) ?_
    show Done p e below s _ _ (T2.setTop (mkF m 24 #[.val (.int a), .val (.int b), .val (.int (1 : Int32)), .unset, .unset] []))
    refine Done.step (fun _ => XS.iloadN X2.here hx rfl (hb hby at_24) rfl) ?_
    show Done p e below s _ _ (T2.setTop (mkF m 25 #[.val (.int a), .val (.int b), .val (.int (1 : Int32)), .unset, .unset] [(.int a)]))
    refine Done.step (fun _ => XS.iloadN X2.here hx rfl (hb hby at_25) rfl) ?_
    show Done p e below s _ _ (T2.setTop (mkF m 26 #[.val (.int a), .val (.int b), .val (.int (1 : Int32)), .unset, .unset] [(.int a), (.int a)]))
    refine Done.callSP X2 hx hZ hown (wAt hw 0 rfl) (wAt hw 1 rfl) (wAt hw 2 rfl) (wAt hw 3 rfl) (by decide) (rmh l Z a0 hw [] a a (1 : Int32) h0 n0 Z0 (bP_t Int32.lt_irrefl).symm) e2 (g := (mkF m 26 #[.val (.int a), .val (.int b), .val (.int (1 : Int32)), .unset, .unset] [(.int a), (.int a)])) rfl (by rw [hml]; rfl) [(.int a), (.int a)] [] 0 (lenOf pd_0 rfl) rfl rfl (by show 2 * 0 + _ ≤ _; exact Nat.le_of_eq rfl) (hb hby at_26) (by decide) (by decide) (by decide) (by decide) rfl rfl ?_
    intro T3 X3 e3
    show Done p e below s _ _ (T3.setTop (mkF m 29 #[.val (.int a), .val (.int b), .val (.int (1 : Int32)), .unset, .unset] [(.int (1 : Int32))]))
    refine Done.step (fun _ => XS.istoreN X3.here hx rfl (hb hby at_29) rfl (l' := #[.val (.int a), .val (.int b), .val (.int (1 : Int32)), .val (.int (1 : Int32)), .unset]) rfl) ?_
    show Done p e below s _ _ (T3.setTop (mkF m 30 #[.val (.int a), .val (.int b), .val (.int (1 : Int32)), .val (.int (1 : Int32)), .unset] []))
    refine Done.step (fun _ => XS.iloadN X3.here hx rfl (hb hby at_30) rfl) ?_
    show Done p e below s _ _ (T3.setTop (mkF m 31 #[.val (.int a), .val (.int b), .val (.int (1 : Int32)), .val (.int (1 : Int32)), .unset] [(.int a)]))
    refine Done.step (fun _ => Stand.ldcI X3 hx hown (mvT hZ (wAt hw 4 rfl)) (g := (mkF m 31 #[.val (.int a), .val (.int b), .val (.int (1 : Int32)), .val (.int (1 : Int32)), .unset] [(.int a)])) rfl (hb hby at_31)) ?_
    show Done p e below s _ _ (T3.setTop (mkF m 33 #[.val (.int a), .val (.int b), .val (.int (1 : Int32)), .val (.int (1 : Int32)), .unset] [(.int (2147483647 : Int32)), (.int a)]))
    by_cases hc4 : a = (2147483647 : Int32)
    · refine Done.step (fun _ => XS.icmpYes X3.here hx rfl (pc0 := 33) (pc' := 46) rfl (hb hby at_33) rfl (XT.ii_eq_t hc4) (by decide) (by decide)) ?_
      show Done p e below s _ _ (T3.setTop (mkF m 46 #[.val (.int a), .val (.int b), .val (.int (1 : Int32)), .val (.int (1 : Int32)), .unset] []))
      refine Done.step (fun _ => XT.iconstV X3.here hx rfl (1 : Int32) (hb hby at_46) (by decide)) ?_
      show Done p e below s _ _ (T3.setTop (mkF m 47 #[.val (.int a), .val (.int b), .val (.int (1 : Int32)), .val (.int (1 : Int32)), .unset] [(.int (1 : Int32))]))
      refine Done.step (fun _ => XS.goto X3.here hx rfl (pc0 := 47) (pc' := 51) rfl (hb hby at_47) (by decide) (by decide)) ?_
      show Done p e below s _ _ (T3.setTop (mkF m 51 #[.val (.int a), .val (.int b), .val (.int (1 : Int32)), .val (.int (1 : Int32)), .unset] [(.int (1 : Int32))]))
      refine Done.step (fun _ => XS.istore X3.here hx rfl (hb hby at_51) rfl (l' := #[.val (.int a), .val (.int b), .val (.int (1 : Int32)), .val (.int (1 : Int32)), .val (.int (1 : Int32))]) rfl) ?_
      show Done p e below s _ _ (T3.setTop (mkF m 53 #[.val (.int a), .val (.int b), .val (.int (1 : Int32)), .val (.int (1 : Int32)), .val (.int (1 : Int32))] []))
      refine Done.step (fun _ => XS.iloadN X3.here hx rfl (hb hby at_53) rfl) ?_
      show Done p e below s _ _ (T3.setTop (mkF m 54 #[.val (.int a), .val (.int b), .val (.int (1 : Int32)), .val (.int (1 : Int32)), .val (.int (1 : Int32))] [(.int (1 : Int32))]))
      refine Done.step (fun _ => XS.ifNo X3.here hx rfl (hb hby at_54) rfl (XT.i0_eq_f (by decide))) ?_
      show Done p e below s _ _ (T3.setTop (mkF m 57 #[.val (.int a), .val (.int b), .val (.int (1 : Int32)), .val (.int (1 : Int32)), .val (.int (1 : Int32))] []))
      refine Done.step (fun _ => XS.iloadN X3.here hx rfl (hb hby at_57) rfl) ?_
      show Done p e below s _ _ (T3.setTop (mkF m 58 #[.val (.int a), .val (.int b), .val (.int (1 : Int32)), .val (.int (1 : Int32)), .val (.int (1 : Int32))] [(.int (1 : Int32))]))
      refine Done.step (fun _ => XS.ifNo X3.here hx rfl (hb hby at_58) rfl (XT.i0_eq_f (by decide))) ?_
      show Done p e below s _ _ (T3.setTop (mkF m 61 #[.val (.int a), .val (.int b), .val (.int (1 : Int32)), .val (.int (1 : Int32)), .val (.int (1 : Int32))] []))
      refine Done.step (fun _ => XS.iload X3.here hx rfl (hb hby at_61) rfl) ?_
      show Done p e below s _ _ (T3.setTop (mkF m 63 #[.val (.int a), .val (.int b), .val (.int (1 : Int32)), .val (.int (1 : Int32)), .val (.int (1 : Int32))] [(.int (1 : Int32))]))
      refine Done.step (fun _ => XS.ifNo X3.here hx rfl (hb hby at_63) rfl (XT.i0_eq_f (by decide))) ?_
      show Done p e below s _ _ (T3.setTop (mkF m 66 #[.val (.int a), .val (.int b), .val (.int (1 : Int32)), .val (.int (1 : Int32)), .val (.int (1 : Int32))] []))
      refine Done.step (fun _ => XT.iconstV X3.here hx rfl (1 : Int32) (hb hby at_66) (by decide)) ?_
      show Done p e below s _ _ (T3.setTop (mkF m 67 #[.val (.int a), .val (.int b), .val (.int (1 : Int32)), .val (.int (1 : Int32)), .val (.int (1 : Int32))] [(.int (1 : Int32))]))
      refine Done.step (fun _ => XS.goto X3.here hx rfl (pc0 := 67) (pc' := 71) rfl (hb hby at_67) (by decide) (by decide)) ?_
      show Done p e below s _ _ (T3.setTop (mkF m 71 #[.val (.int a), .val (.int b), .val (.int (1 : Int32)), .val (.int (1 : Int32)), .val (.int (1 : Int32))] [(.int (1 : Int32))]))
      exact Done.retN X3 hx hlk (t := .boolean) hret (by simp) (hb hby at_71) (by decide) (by decide) ⟨rfl, N0⟩
    · refine Done.step (fun _ => XS.icmpNo X3.here hx rfl (hb hby at_33) rfl (XT.ii_eq_f hc4)) ?_
      show Done p e below s _ _ (T3.setTop (mkF m 36 #[.val (.int a), .val (.int b), .val (.int (1 : Int32)), .val (.int (1 : Int32)), .unset] []))
      refine Done.step (fun _ => XS.iloadN X3.here hx rfl (hb hby at_36) rfl) ?_
      show Done p e below s _ _ (T3.setTop (mkF m 37 #[.val (.int a), .val (.int b), .val (.int (1 : Int32)), .val (.int (1 : Int32)), .unset] [(.int a)]))
      refine Done.step (fun _ => XS.iloadN X3.here hx rfl (hb hby at_37) rfl) ?_
      show Done p e below s _ _ (T3.setTop (mkF m 38 #[.val (.int a), .val (.int b), .val (.int (1 : Int32)), .val (.int (1 : Int32)), .unset] [(.int a), (.int a)]))
      refine Done.step (fun _ => XT.iconstV X3.here hx rfl (1 : Int32) (hb hby at_38) (by decide)) ?_
      show Done p e below s _ _ (T3.setTop (mkF m 39 #[.val (.int a), .val (.int b), .val (.int (1 : Int32)), .val (.int (1 : Int32)), .unset] [(.int (1 : Int32)), (.int a), (.int a)]))
      refine Done.step (fun _ => XS.iadd X3.here hx rfl (hb hby at_39) rfl) ?_
      show Done p e below s _ _ (T3.setTop (mkF m 40 #[.val (.int a), .val (.int b), .val (.int (1 : Int32)), .val (.int (1 : Int32)), .unset] [(.int (a + (1 : Int32))), (.int a)]))
      refine Done.callSP X3 hx hZ hown (wAt hw 0 rfl) (wAt hw 1 rfl) (wAt hw 2 rfl) (wAt hw 3 rfl) (by decide) (rmh l Z a0 hw [] a (a + (1 : Int32)) (0 : Int32) h0 n0 Z0 (bP_f (fun q => q (lt_succ32 hc4))).symm) e3 (g := (mkF m 40 #[.val (.int a), .val (.int b), .val (.int (1 : Int32)), .val (.int (1 : Int32)), .unset] [(.int (a + (1 : Int32))), (.int a)])) rfl (by rw [hml]; rfl) [(.int a), (.int (a + (1 : Int32)))] [] 0 (lenOf pd_0 rfl) rfl rfl (by show 2 * 0 + _ ≤ _; exact Nat.le_of_eq rfl) (hb hby at_40) (by decide) (by decide) (by decide) (by decide) rfl rfl ?_
      intro T5 X5 e5
      show Done p e below s _ _ (T5.setTop (mkF m 43 #[.val (.int a), .val (.int b), .val (.int (1 : Int32)), .val (.int (1 : Int32)), .unset] [(.int (0 : Int32))]))
      refine Done.step (fun _ => XS.ifNo X5.here hx rfl (hb hby at_43) rfl (XT.i0_ne_f rfl)) ?_
      show Done p e below s _ _ (T5.setTop (mkF m 46 #[.val (.int a), .val (.int b), .val (.int (1 : Int32)), .val (.int (1 : Int32)), .unset] []))
      refine Done.step (fun _ => XT.iconstV X5.here hx rfl (1 : Int32) (hb hby at_46) (by decide)) ?_
      show Done p e below s _ _ (T5.setTop (mkF m 47 #[.val (.int a), .val (.int b), .val (.int (1 : Int32)), .val (.int (1 : Int32)), .unset] [(.int (1 : Int32))]))
      refine Done.step (fun _ => XS.goto X5.here hx rfl (pc0 := 47) (pc' := 51) rfl (hb hby at_47) (by decide) (by decide)) ?_
      show Done p e below s _ _ (T5.setTop (mkF m 51 #[.val (.int a), .val (.int b), .val (.int (1 : Int32)), .val (.int (1 : Int32)), .unset] [(.int (1 : Int32))]))
      refine Done.step (fun _ => XS.istore X5.here hx rfl (hb hby at_51) rfl (l' := #[.val (.int a), .val (.int b), .val (.int (1 : Int32)), .val (.int (1 : Int32)), .val (.int (1 : Int32))]) rfl) ?_
      show Done p e below s _ _ (T5.setTop (mkF m 53 #[.val (.int a), .val (.int b), .val (.int (1 : Int32)), .val (.int (1 : Int32)), .val (.int (1 : Int32))] []))
      refine Done.step (fun _ => XS.iloadN X5.here hx rfl (hb hby at_53) rfl) ?_
      show Done p e below s _ _ (T5.setTop (mkF m 54 #[.val (.int a), .val (.int b), .val (.int (1 : Int32)), .val (.int (1 : Int32)), .val (.int (1 : Int32))] [(.int (1 : Int32))]))
      refine Done.step (fun _ => XS.ifNo X5.here hx rfl (hb hby at_54) rfl (XT.i0_eq_f (by decide))) ?_
      show Done p e below s _ _ (T5.setTop (mkF m 57 #[.val (.int a), .val (.int b), .val (.int (1 : Int32)), .val (.int (1 : Int32)), .val (.int (1 : Int32))] []))
      refine Done.step (fun _ => XS.iloadN X5.here hx rfl (hb hby at_57) rfl) ?_
      show Done p e below s _ _ (T5.setTop (mkF m 58 #[.val (.int a), .val (.int b), .val (.int (1 : Int32)), .val (.int (1 : Int32)), .val (.int (1 : Int32))] [(.int (1 : Int32))]))
      refine Done.step (fun _ => XS.ifNo X5.here hx rfl (hb hby at_58) rfl (XT.i0_eq_f (by decide))) ?_
      show Done p e below s _ _ (T5.setTop (mkF m 61 #[.val (.int a), .val (.int b), .val (.int (1 : Int32)), .val (.int (1 : Int32)), .val (.int (1 : Int32))] []))
      refine Done.step (fun _ => XS.iload X5.here hx rfl (hb hby at_61) rfl) ?_
      show Done p e below s _ _ (T5.setTop (mkF m 63 #[.val (.int a), .val (.int b), .val (.int (1 : Int32)), .val (.int (1 : Int32)), .val (.int (1 : Int32))] [(.int (1 : Int32))]))
      refine Done.step (fun _ => XS.ifNo X5.here hx rfl (hb hby at_63) rfl (XT.i0_eq_f (by decide))) ?_
      show Done p e below s _ _ (T5.setTop (mkF m 66 #[.val (.int a), .val (.int b), .val (.int (1 : Int32)), .val (.int (1 : Int32)), .val (.int (1 : Int32))] []))
      refine Done.step (fun _ => XT.iconstV X5.here hx rfl (1 : Int32) (hb hby at_66) (by decide)) ?_
      show Done p e below s _ _ (T5.setTop (mkF m 67 #[.val (.int a), .val (.int b), .val (.int (1 : Int32)), .val (.int (1 : Int32)), .val (.int (1 : Int32))] [(.int (1 : Int32))]))
      refine Done.step (fun _ => XS.goto X5.here hx rfl (pc0 := 67) (pc' := 71) rfl (hb hby at_67) (by decide) (by decide)) ?_
      show Done p e below s _ _ (T5.setTop (mkF m 71 #[.val (.int a), .val (.int b), .val (.int (1 : Int32)), .val (.int (1 : Int32)), .val (.int (1 : Int32))] [(.int (1 : Int32))]))
      exact Done.retN X5 hx hlk (t := .boolean) hret (by simp) (hb hby at_71) (by decide) (by decide) ⟨rfl, N0⟩
  · refine Done.callSP X0 hx hZ hown (wAt hw 0 rfl) (wAt hw 1 rfl) (wAt hw 2 rfl) (wAt hw 3 rfl) (by decide) (rmh l Z a0 hw [] a b (0 : Int32) h0 n0 Z0 (bP_f hc1).symm) e0 (g := (mkF m 2 #[.val (.int a), .val (.int b), .unset, .unset, .unset] [(.int b), (.int a)])) rfl (by rw [hml]; rfl) [(.int a), (.int b)] [] 0 (lenOf pd_0 rfl) rfl rfl (by show 2 * 0 + _ ≤ _; exact Nat.le_of_eq rfl) (hb hby at_2) (by decide) (by decide) (by decide) (by decide) rfl rfl ?_
    intro T6 X6 e6
    show Done p e below s _ _ (T6.setTop (mkF m 5 #[.val (.int a), .val (.int b), .unset, .unset, .unset] [(.int (0 : Int32))]))
    refine Done.step (fun _ => XS.iloadN X6.here hx rfl (hb hby at_5) rfl) ?_
    show Done p e below s _ _ (T6.setTop (mkF m 6 #[.val (.int a), .val (.int b), .unset, .unset, .unset] [(.int b), (.int (0 : Int32))]))
    refine Done.step (fun _ => XS.iloadN X6.here hx rfl (hb hby at_6) rfl) ?_
    show Done p e below s _ _ (T6.setTop (mkF m 7 #[.val (.int a), .val (.int b), .unset, .unset, .unset] [(.int a), (.int b), (.int (0 : Int32))]))
    refine Done.step (fun _ => XS.icmpYes X6.here hx rfl (pc0 := 7) (pc' := 14) rfl (hb hby at_7) rfl (XT.ii_gt_t (Decidable.not_not.mp hc1)) (by decide) (by decide)) ?_
    show Done p e below s _ _ (T6.setTop (mkF m 14 #[.val (.int a), .val (.int b), .unset, .unset, .unset] [(.int (0 : Int32))]))
    refine Done.step (fun _ => XT.iconstV X6.here hx rfl (0 : Int32) (hb hby at_14) (by decide)) ?_
    show Done p e below s _ _ (T6.setTop (mkF m 15 #[.val (.int a), .val (.int b), .unset, .unset, .unset] [(.int (0 : Int32)), (.int (0 : Int32))]))
    refine Done.step (fun _ => XS.icmpNo X6.here hx rfl (hb hby at_15) rfl (XT.ii_ne_f rfl)) ?_
    show Done p e below s _ _ (T6.setTop (mkF m 18 #[.val (.int a), .val (.int b), .unset, .unset, .unset] []))
    refine Done.step (fun _ => XT.iconstV X6.here hx rfl (1 : Int32) (hb hby at_18) (by decide)) ?_
    show Done p e below s _ _ (T6.setTop (mkF m 19 #[.val (.int a), .val (.int b), .unset, .unset, .unset] [(.int (1 : Int32))]))
    refine Done.step (fun _ => XS.goto X6.here hx rfl (pc0 := 19) (pc' := 23) rfl (hb hby at_19) (by decide) (by decide)) ?_
    show Done p e below s _ _ (T6.setTop (mkF m 23 #[.val (.int a), .val (.int b), .unset, .unset, .unset] [(.int (1 : Int32))]))
    refine Done.step (fun _ => XS.istoreN X6.here hx rfl (hb hby at_23) rfl (l' := #[.val (.int a), .val (.int b), .val (.int (1 : Int32)), .unset, .unset]) rfl) ?_
    show Done p e below s _ _ (T6.setTop (mkF m 24 #[.val (.int a), .val (.int b), .val (.int (1 : Int32)), .unset, .unset] []))
    refine Done.step (fun _ => XS.iloadN X6.here hx rfl (hb hby at_24) rfl) ?_
    show Done p e below s _ _ (T6.setTop (mkF m 25 #[.val (.int a), .val (.int b), .val (.int (1 : Int32)), .unset, .unset] [(.int a)]))
    refine Done.step (fun _ => XS.iloadN X6.here hx rfl (hb hby at_25) rfl) ?_
    show Done p e below s _ _ (T6.setTop (mkF m 26 #[.val (.int a), .val (.int b), .val (.int (1 : Int32)), .unset, .unset] [(.int a), (.int a)]))
    refine Done.callSP X6 hx hZ hown (wAt hw 0 rfl) (wAt hw 1 rfl) (wAt hw 2 rfl) (wAt hw 3 rfl) (by decide) (rmh l Z a0 hw [] a a (1 : Int32) h0 n0 Z0 (bP_t Int32.lt_irrefl).symm) e6 (g := (mkF m 26 #[.val (.int a), .val (.int b), .val (.int (1 : Int32)), .unset, .unset] [(.int a), (.int a)])) rfl (by rw [hml]; rfl) [(.int a), (.int a)] [] 0 (lenOf pd_0 rfl) rfl rfl (by show 2 * 0 + _ ≤ _; exact Nat.le_of_eq rfl) (hb hby at_26) (by decide) (by decide) (by decide) (by decide) rfl rfl ?_
    intro T7 X7 e7
    show Done p e below s _ _ (T7.setTop (mkF m 29 #[.val (.int a), .val (.int b), .val (.int (1 : Int32)), .unset, .unset] [(.int (1 : Int32))]))
    refine Done.step (fun _ => XS.istoreN X7.here hx rfl (hb hby at_29) rfl (l' := #[.val (.int a), .val (.int b), .val (.int (1 : Int32)), .val (.int (1 : Int32)), .unset]) rfl) ?_
    show Done p e below s _ _ (T7.setTop (mkF m 30 #[.val (.int a), .val (.int b), .val (.int (1 : Int32)), .val (.int (1 : Int32)), .unset] []))
    refine Done.step (fun _ => XS.iloadN X7.here hx rfl (hb hby at_30) rfl) ?_
    show Done p e below s _ _ (T7.setTop (mkF m 31 #[.val (.int a), .val (.int b), .val (.int (1 : Int32)), .val (.int (1 : Int32)), .unset] [(.int a)]))
    refine Done.step (fun _ => Stand.ldcI X7 hx hown (mvT hZ (wAt hw 4 rfl)) (g := (mkF m 31 #[.val (.int a), .val (.int b), .val (.int (1 : Int32)), .val (.int (1 : Int32)), .unset] [(.int a)])) rfl (hb hby at_31)) ?_
    show Done p e below s _ _ (T7.setTop (mkF m 33 #[.val (.int a), .val (.int b), .val (.int (1 : Int32)), .val (.int (1 : Int32)), .unset] [(.int (2147483647 : Int32)), (.int a)]))
    by_cases hc8 : a = (2147483647 : Int32)
    · refine Done.step (fun _ => XS.icmpYes X7.here hx rfl (pc0 := 33) (pc' := 46) rfl (hb hby at_33) rfl (XT.ii_eq_t hc8) (by decide) (by decide)) ?_
      show Done p e below s _ _ (T7.setTop (mkF m 46 #[.val (.int a), .val (.int b), .val (.int (1 : Int32)), .val (.int (1 : Int32)), .unset] []))
      refine Done.step (fun _ => XT.iconstV X7.here hx rfl (1 : Int32) (hb hby at_46) (by decide)) ?_
      show Done p e below s _ _ (T7.setTop (mkF m 47 #[.val (.int a), .val (.int b), .val (.int (1 : Int32)), .val (.int (1 : Int32)), .unset] [(.int (1 : Int32))]))
      refine Done.step (fun _ => XS.goto X7.here hx rfl (pc0 := 47) (pc' := 51) rfl (hb hby at_47) (by decide) (by decide)) ?_
      show Done p e below s _ _ (T7.setTop (mkF m 51 #[.val (.int a), .val (.int b), .val (.int (1 : Int32)), .val (.int (1 : Int32)), .unset] [(.int (1 : Int32))]))
      refine Done.step (fun _ => XS.istore X7.here hx rfl (hb hby at_51) rfl (l' := #[.val (.int a), .val (.int b), .val (.int (1 : Int32)), .val (.int (1 : Int32)), .val (.int (1 : Int32))]) rfl) ?_
      show Done p e below s _ _ (T7.setTop (mkF m 53 #[.val (.int a), .val (.int b), .val (.int (1 : Int32)), .val (.int (1 : Int32)), .val (.int (1 : Int32))] []))
      refine Done.step (fun _ => XS.iloadN X7.here hx rfl (hb hby at_53) rfl) ?_
      show Done p e below s _ _ (T7.setTop (mkF m 54 #[.val (.int a), .val (.int b), .val (.int (1 : Int32)), .val (.int (1 : Int32)), .val (.int (1 : Int32))] [(.int (1 : Int32))]))
      refine Done.step (fun _ => XS.ifNo X7.here hx rfl (hb hby at_54) rfl (XT.i0_eq_f (by decide))) ?_
      show Done p e below s _ _ (T7.setTop (mkF m 57 #[.val (.int a), .val (.int b), .val (.int (1 : Int32)), .val (.int (1 : Int32)), .val (.int (1 : Int32))] []))
      refine Done.step (fun _ => XS.iloadN X7.here hx rfl (hb hby at_57) rfl) ?_
      show Done p e below s _ _ (T7.setTop (mkF m 58 #[.val (.int a), .val (.int b), .val (.int (1 : Int32)), .val (.int (1 : Int32)), .val (.int (1 : Int32))] [(.int (1 : Int32))]))
      refine Done.step (fun _ => XS.ifNo X7.here hx rfl (hb hby at_58) rfl (XT.i0_eq_f (by decide))) ?_
      show Done p e below s _ _ (T7.setTop (mkF m 61 #[.val (.int a), .val (.int b), .val (.int (1 : Int32)), .val (.int (1 : Int32)), .val (.int (1 : Int32))] []))
      refine Done.step (fun _ => XS.iload X7.here hx rfl (hb hby at_61) rfl) ?_
      show Done p e below s _ _ (T7.setTop (mkF m 63 #[.val (.int a), .val (.int b), .val (.int (1 : Int32)), .val (.int (1 : Int32)), .val (.int (1 : Int32))] [(.int (1 : Int32))]))
      refine Done.step (fun _ => XS.ifNo X7.here hx rfl (hb hby at_63) rfl (XT.i0_eq_f (by decide))) ?_
      show Done p e below s _ _ (T7.setTop (mkF m 66 #[.val (.int a), .val (.int b), .val (.int (1 : Int32)), .val (.int (1 : Int32)), .val (.int (1 : Int32))] []))
      refine Done.step (fun _ => XT.iconstV X7.here hx rfl (1 : Int32) (hb hby at_66) (by decide)) ?_
      show Done p e below s _ _ (T7.setTop (mkF m 67 #[.val (.int a), .val (.int b), .val (.int (1 : Int32)), .val (.int (1 : Int32)), .val (.int (1 : Int32))] [(.int (1 : Int32))]))
      refine Done.step (fun _ => XS.goto X7.here hx rfl (pc0 := 67) (pc' := 71) rfl (hb hby at_67) (by decide) (by decide)) ?_
      show Done p e below s _ _ (T7.setTop (mkF m 71 #[.val (.int a), .val (.int b), .val (.int (1 : Int32)), .val (.int (1 : Int32)), .val (.int (1 : Int32))] [(.int (1 : Int32))]))
      exact Done.retN X7 hx hlk (t := .boolean) hret (by simp) (hb hby at_71) (by decide) (by decide) ⟨rfl, N0⟩
    · refine Done.step (fun _ => XS.icmpNo X7.here hx rfl (hb hby at_33) rfl (XT.ii_eq_f hc8)) ?_
      show Done p e below s _ _ (T7.setTop (mkF m 36 #[.val (.int a), .val (.int b), .val (.int (1 : Int32)), .val (.int (1 : Int32)), .unset] []))
      refine Done.step (fun _ => XS.iloadN X7.here hx rfl (hb hby at_36) rfl) ?_
      show Done p e below s _ _ (T7.setTop (mkF m 37 #[.val (.int a), .val (.int b), .val (.int (1 : Int32)), .val (.int (1 : Int32)), .unset] [(.int a)]))
      refine Done.step (fun _ => XS.iloadN X7.here hx rfl (hb hby at_37) rfl) ?_
      show Done p e below s _ _ (T7.setTop (mkF m 38 #[.val (.int a), .val (.int b), .val (.int (1 : Int32)), .val (.int (1 : Int32)), .unset] [(.int a), (.int a)]))
      refine Done.step (fun _ => XT.iconstV X7.here hx rfl (1 : Int32) (hb hby at_38) (by decide)) ?_
      show Done p e below s _ _ (T7.setTop (mkF m 39 #[.val (.int a), .val (.int b), .val (.int (1 : Int32)), .val (.int (1 : Int32)), .unset] [(.int (1 : Int32)), (.int a), (.int a)]))
      refine Done.step (fun _ => XS.iadd X7.here hx rfl (hb hby at_39) rfl) ?_
      show Done p e below s _ _ (T7.setTop (mkF m 40 #[.val (.int a), .val (.int b), .val (.int (1 : Int32)), .val (.int (1 : Int32)), .unset] [(.int (a + (1 : Int32))), (.int a)]))
      refine Done.callSP X7 hx hZ hown (wAt hw 0 rfl) (wAt hw 1 rfl) (wAt hw 2 rfl) (wAt hw 3 rfl) (by decide) (rmh l Z a0 hw [] a (a + (1 : Int32)) (0 : Int32) h0 n0 Z0 (bP_f (fun q => q (lt_succ32 hc8))).symm) e7 (g := (mkF m 40 #[.val (.int a), .val (.int b), .val (.int (1 : Int32)), .val (.int (1 : Int32)), .unset] [(.int (a + (1 : Int32))), (.int a)])) rfl (by rw [hml]; rfl) [(.int a), (.int (a + (1 : Int32)))] [] 0 (lenOf pd_0 rfl) rfl rfl (by show 2 * 0 + _ ≤ _; exact Nat.le_of_eq rfl) (hb hby at_40) (by decide) (by decide) (by decide) (by decide) rfl rfl ?_
      intro T9 X9 e9
      show Done p e below s _ _ (T9.setTop (mkF m 43 #[.val (.int a), .val (.int b), .val (.int (1 : Int32)), .val (.int (1 : Int32)), .unset] [(.int (0 : Int32))]))
      refine Done.step (fun _ => XS.ifNo X9.here hx rfl (hb hby at_43) rfl (XT.i0_ne_f rfl)) ?_
      show Done p e below s _ _ (T9.setTop (mkF m 46 #[.val (.int a), .val (.int b), .val (.int (1 : Int32)), .val (.int (1 : Int32)), .unset] []))
      refine Done.step (fun _ => XT.iconstV X9.here hx rfl (1 : Int32) (hb hby at_46) (by decide)) ?_
      show Done p e below s _ _ (T9.setTop (mkF m 47 #[.val (.int a), .val (.int b), .val (.int (1 : Int32)), .val (.int (1 : Int32)), .unset] [(.int (1 : Int32))]))
      refine Done.step (fun _ => XS.goto X9.here hx rfl (pc0 := 47) (pc' := 51) rfl (hb hby at_47) (by decide) (by decide)) ?_
      show Done p e below s _ _ (T9.setTop (mkF m 51 #[.val (.int a), .val (.int b), .val (.int (1 : Int32)), .val (.int (1 : Int32)), .unset] [(.int (1 : Int32))]))
      refine Done.step (fun _ => XS.istore X9.here hx rfl (hb hby at_51) rfl (l' := #[.val (.int a), .val (.int b), .val (.int (1 : Int32)), .val (.int (1 : Int32)), .val (.int (1 : Int32))]) rfl) ?_
      show Done p e below s _ _ (T9.setTop (mkF m 53 #[.val (.int a), .val (.int b), .val (.int (1 : Int32)), .val (.int (1 : Int32)), .val (.int (1 : Int32))] []))
      refine Done.step (fun _ => XS.iloadN X9.here hx rfl (hb hby at_53) rfl) ?_
      show Done p e below s _ _ (T9.setTop (mkF m 54 #[.val (.int a), .val (.int b), .val (.int (1 : Int32)), .val (.int (1 : Int32)), .val (.int (1 : Int32))] [(.int (1 : Int32))]))
      refine Done.step (fun _ => XS.ifNo X9.here hx rfl (hb hby at_54) rfl (XT.i0_eq_f (by decide))) ?_
      show Done p e below s _ _ (T9.setTop (mkF m 57 #[.val (.int a), .val (.int b), .val (.int (1 : Int32)), .val (.int (1 : Int32)), .val (.int (1 : Int32))] []))
      refine Done.step (fun _ => XS.iloadN X9.here hx rfl (hb hby at_57) rfl) ?_
      show Done p e below s _ _ (T9.setTop (mkF m 58 #[.val (.int a), .val (.int b), .val (.int (1 : Int32)), .val (.int (1 : Int32)), .val (.int (1 : Int32))] [(.int (1 : Int32))]))
      refine Done.step (fun _ => XS.ifNo X9.here hx rfl (hb hby at_58) rfl (XT.i0_eq_f (by decide))) ?_
      show Done p e below s _ _ (T9.setTop (mkF m 61 #[.val (.int a), .val (.int b), .val (.int (1 : Int32)), .val (.int (1 : Int32)), .val (.int (1 : Int32))] []))
      refine Done.step (fun _ => XS.iload X9.here hx rfl (hb hby at_61) rfl) ?_
      show Done p e below s _ _ (T9.setTop (mkF m 63 #[.val (.int a), .val (.int b), .val (.int (1 : Int32)), .val (.int (1 : Int32)), .val (.int (1 : Int32))] [(.int (1 : Int32))]))
      refine Done.step (fun _ => XS.ifNo X9.here hx rfl (hb hby at_63) rfl (XT.i0_eq_f (by decide))) ?_
      show Done p e below s _ _ (T9.setTop (mkF m 66 #[.val (.int a), .val (.int b), .val (.int (1 : Int32)), .val (.int (1 : Int32)), .val (.int (1 : Int32))] []))
      refine Done.step (fun _ => XT.iconstV X9.here hx rfl (1 : Int32) (hb hby at_66) (by decide)) ?_
      show Done p e below s _ _ (T9.setTop (mkF m 67 #[.val (.int a), .val (.int b), .val (.int (1 : Int32)), .val (.int (1 : Int32)), .val (.int (1 : Int32))] [(.int (1 : Int32))]))
      refine Done.step (fun _ => XS.goto X9.here hx rfl (pc0 := 67) (pc' := 71) rfl (hb hby at_67) (by decide) (by decide)) ?_
      show Done p e below s _ _ (T9.setTop (mkF m 71 #[.val (.int a), .val (.int b), .val (.int (1 : Int32)), .val (.int (1 : Int32)), .val (.int (1 : Int32))] [(.int (1 : Int32))]))
      exact Done.retN X9 hx hlk (t := .boolean) hret (by simp) (hb hby at_71) (by decide) (by decide) ⟨rfl, N0⟩
set_option maxRecDepth 65536 in
set_option maxHeartbeats 40000000 in
theorem comes_1 {Post : Tables → Env → Array Value → State → Outcome → State → Prop} (hpost : ∀ tb e args s v u, (limb_1_1.after args s (.returned v) u = true ∧ limb_1_2.after args s (.returned v) u = true ∧ True) → FrameEnd s (.returned v) u (Jvm.fieldLocs frame_1_writes args s ++ Jvm.arrayLocs frame_1_arrays args s ++ Jvm.staticLocs frame_1_statics s) 0 0 → Post tb e args s (.returned v) u) :
    ArmFor flags0 classFile x code maxLocals ret World_1 tables_1 room_1 Calls_1 rest_1 Pre_1 Post := by
  intro l hfl _ _ p e ha hc hk s m args below hf hA hF happ hP
  obtain ⟨hcalls, hrest, hpre⟩ := hP
  obtain ⟨-, -, -, hnamed, -, -, -, hat⟩ := (Spec.applies_iff hf).mp happ
  obtain ⟨hg, hn⟩ := and_e (Cond.before_iff.mp (show (Jvm.Cond.and given_1 narrow_1).before args s = true from hpre))
  obtain ⟨w0, w1, rfl⟩ : ∃ w0 w1 : Value, args = #[w0, w1] := by
    have hs : args.size = 2 := by simpa [Cond.value] using (and_e hg).1
    obtain ⟨L⟩ := args
    match L, hs with
    | [w0, w1], _ => exact ⟨w0, w1, rfl⟩
  have hw := fun d (hd : d ∈ tables_1) => atoms_spec (ws := Jvm.Cond.code x code maxLocals ret :: tables_1) hat d (List.mem_cons_of_mem _ hd)
  have hfit : Fit s := fun {y c} hc i hi => by
    obtain ⟨ha, rfl⟩ := Array.getElem?_eq_some_iff.mp hc
    have q := List.all_eq_true.mp ((Array.all_eq_true_iff_forall_mem.mp hF) _ (Array.getElem_mem ha)) i (List.mem_range.mpr hi)
    simpa [Array.getElem?_eq_getElem hi] using q
  obtain ⟨_, hg0⟩ := and_e hg
  obtain ⟨ga0, hg1⟩ := and_e hg0
  obtain ⟨i0, ei0⟩ := is_v ga0
  obtain rfl : w0 = (.int i0) := Option.some.inj ei0
  obtain ⟨i1, ei1⟩ := is_v hg1
  obtain rfl : w1 = (.int i1) := Option.some.inj ei1
  obtain ⟨n, o, h1, h2, h3, _, L, rfl, ⟨rfl, N⟩, hq⟩ := rm0 l s _ hw tables_1 i0 i1 s.heap s.heap.size (Nat.le_refl _)  p e ha hc hk s m _ below hf ((Spec.applies_iff_loose hf).mp happ).1 ⟨rfl, State.Warmed39.refl s, rfl⟩ trivial
  refine ⟨n, _, h1, h2, h3, hpost _ _ _ _ _ _ ⟨Cond.after_iff.mpr rfl, Cond.after_iff.mpr (eq_i res_at (Term.int_eval (1)) rfl), trivial⟩ ⟨hq.1, hq.2.1, (hq.2.2.sift fun y hy => Or.inr (N y hy)).mono (by decide) (by decide)⟩⟩
theorem main_1_1 : Claimed_1_1 := comes_1 fun _ _ _ _ _ _ h hF => ⟨h.1, hF⟩
theorem main_1_2 : Claimed_1_2 := comes_1 fun _ _ _ _ _ _ h hF => ⟨h.2.1, hF⟩
end Jvm.Pilot.@@N@@
namespace Jvm.Pilot.@@N@@
open Jvm Jvm.ClassFile Sem Op Lib Jvm.Free Jvm.Stand Jvm.Pilot.@@N@@.Jvm.D
/-! MADE BY PROGRAM (witnessworld.py) out of the Statement's table words and the real class files: 9 classes; the members and pool entries that the words name. The judged class is class 1, her method 1. -/
namespace start1
open Jvm.ClassFile
def u (s : String) : CpInfo := .utf8 (stringToUtf16 s)
/-- a pool by its gaps: so many unusable entries, then the entry; so many at the end -/
def gap : Nat → List CpInfo → List CpInfo
  | 0, r => r
  | n + 1, r => .unusable :: gap n r
def poolList (es : List (Nat × CpInfo)) (last : Nat) : List CpInfo := es.foldr (fun e r => gap e.1 (e.2 :: r)) (gap last [])
def pool (es : List (Nat × CpInfo)) (last : Nat) : Array CpInfo := ⟨poolList es last⟩
def fileOf (pool : Array CpInfo) (this : Nat) (attrs : Array Attribute := #[]) (ms : Array MethodInfo := #[]) (fl : Nat := 33) (sup : Nat := 0) (ifs : Array Nat := #[]) (fds : Array FieldInfo := #[]) : ClassFile where
  minorVersion := 0
  majorVersion := 65
  constantPool := pool
  accessFlags := fl
  thisClass := this
  superClass := sup
  interfaces := ifs
  fields := fds
  methods := ms
  attributes := attrs
def plain (name : String) (sup : Option ClassId) : Class where
  name := name
  kind := .ordinary
  loader := none
  accessFlags := 33
  super := sup
  interfaces := #[]
  cf := none
  fields := #[]
  methods := #[]
  instanceTypes := #[]
  staticTypes := #[]
  resolved := #[]
  callSites := []
  init := .initialized
  statics := none
  mirror := none

def pool0 : Array CpInfo := pool [(5, u "<init>"), (0, u "()V"), (1, .class_ 10), (1, u "java/lang/Object")] 113

def k0m0 : Method := { name := "<init>", desc := "()V", sig := { parameters := [], returnType := none }, accessFlags := 1, code := none }
/-- java/lang/Object -/
def k0 : Class := { plain "java/lang/Object" none with
  accessFlags := 33
  interfaces := #[]
  cf := some (fileOf pool0 8 #[] #[{ accessFlags := 1, nameIndex := 5, descriptorIndex := 6, attributes := #[] }] 33 0 #[] #[])
  fields := #[]
  methods := #[k0m0]
  instanceTypes := #[]
  staticTypes := #[]
  resolved := Array.replicate 124 none
  statics := none }

def pool1 : Array CpInfo := pool [(2, .class_ 4), (1, u "java/lang/Object"), (0, u "<init>"), (0, u "()V"), (0, .methodref 8 9), (0, .class_ 10), (0, .nameAndType 11 12), (0, u "com/example/ithuriel/ithuriel/lcms/StoreFormat"), (0, u "mayHold"), (0, u "(II)Z"), (2, .integer 2147483647), (0, .class_ 17), (0, u "com/example/ithuriel/ithuriel/lcms/StoreFormatMayHoldPinLaw"), (2, u "law")] 3

def k1m0 : Method := { name := "<init>", desc := "()V", sig := { parameters := [], returnType := none }, accessFlags := 2, code := none }
def k1c1 : Code := { maxStack := 3, maxLocals := 5, code := code, exceptionTable := #[], attributes := #[] }
def k1m1 : Method := { name := "law", desc := "(II)Z", sig := { parameters := [.int, .int], returnType := some .boolean }, accessFlags := 9, code := some k1c1 }
/-- com/example/ithuriel/ithuriel/lcms/StoreFormatMayHoldPinLaw -/
def k1 : Class := { plain "com/example/ithuriel/ithuriel/lcms/StoreFormatMayHoldPinLaw" (some 0) with
  accessFlags := 49
  interfaces := #[]
  cf := some (fileOf pool1 16 #[] #[{ accessFlags := 2, nameIndex := 5, descriptorIndex := 6, attributes := #[] }, { accessFlags := 9, nameIndex := 20, descriptorIndex := 12, attributes := #[] }] 49 2 #[] #[])
  fields := #[]
  methods := #[k1m0, k1m1]
  instanceTypes := #[]
  staticTypes := #[]
  resolved := Array.replicate 24 none
  statics := none }

def pool2 : Array CpInfo := pool [(2, .class_ 4), (1, u "java/lang/Object"), (0, u "<init>"), (0, u "()V"), (0, .class_ 8), (0, u "com/example/ithuriel/ithuriel/lcms/StoreFormat"), (58, u "MAGIC"), (0, u "[B"), (0, u "VERSION"), (0, u "I"), (2, u "HEADER_BYTES"), (1, u "SCAN_BYTES"), (1, u "BLOCK_BYTES"), (1, u "LEAST_BODY_BYTES_PER_POINT"), (3, u "mayHold"), (0, u "(II)Z"), (12, .class_ 98), (0, u "com/example/ithuriel/ithuriel/lcms/StoreFormat$BlockEntry"), (0, .class_ 100), (0, u "com/example/ithuriel/ithuriel/lcms/StoreFormat$ScanEntry"), (0, .class_ 102), (0, u "com/example/ithuriel/ithuriel/lcms/StoreFormat$Header")] 4

def k2m0 : Method := { name := "<init>", desc := "()V", sig := { parameters := [], returnType := none }, accessFlags := 2, code := none }
def k2c1 : Code := { maxStack := 4, maxLocals := 2, code := prog_51_method_2_code, exceptionTable := #[], attributes := #[] }
def k2m1 : Method := { name := "mayHold", desc := "(II)Z", sig := { parameters := [.int, .int], returnType := some .boolean }, accessFlags := 8, code := some k2c1 }
/-- com/example/ithuriel/ithuriel/lcms/StoreFormat -/
def k2 : Class := { plain "com/example/ithuriel/ithuriel/lcms/StoreFormat" (some 0) with
  accessFlags := 32
  interfaces := #[]
  cf := some (fileOf pool2 7 #[.nestMembers #[97, 99, 101]] #[{ accessFlags := 2, nameIndex := 5, descriptorIndex := 6, attributes := #[] }, { accessFlags := 8, nameIndex := 83, descriptorIndex := 84, attributes := #[] }] 32 2 #[] #[{ accessFlags := 24, nameIndex := 67, descriptorIndex := 68, attributes := #[] }, { accessFlags := 24, nameIndex := 69, descriptorIndex := 70, attributes := #[] }, { accessFlags := 24, nameIndex := 73, descriptorIndex := 70, attributes := #[] }, { accessFlags := 24, nameIndex := 75, descriptorIndex := 70, attributes := #[] }, { accessFlags := 24, nameIndex := 77, descriptorIndex := 70, attributes := #[] }, { accessFlags := 24, nameIndex := 79, descriptorIndex := 70, attributes := #[] }])
  fields := #[{ name := "MAGIC", type := (.array .byte), accessFlags := 24, slot := 0, constantValue := 0 }, { name := "VERSION", type := .int, accessFlags := 24, slot := 1, constantValue := 0 }, { name := "HEADER_BYTES", type := .int, accessFlags := 24, slot := 2, constantValue := 0 }, { name := "SCAN_BYTES", type := .int, accessFlags := 24, slot := 3, constantValue := 0 }, { name := "BLOCK_BYTES", type := .int, accessFlags := 24, slot := 4, constantValue := 0 }, { name := "LEAST_BODY_BYTES_PER_POINT", type := .int, accessFlags := 24, slot := 5, constantValue := 0 }]
  methods := #[k2m0, k2m1]
  instanceTypes := #[]
  staticTypes := #[(.array .byte), .int, .int, .int, .int, .int]
  resolved := Array.replicate 107 none
  statics := none }

def pool3 : Array CpInfo := pool [(1, u "java/lang/Cloneable"), (0, .class_ 1), (0, u "java/lang/Object"), (0, .class_ 3)] 3

/-- java/lang/Cloneable -/
def k3 : Class := { plain "java/lang/Cloneable" (some 0) with
  accessFlags := 1537
  interfaces := #[]
  cf := some (fileOf pool3 2 #[] #[] 1537 4 #[] #[])
  fields := #[]
  methods := #[]
  instanceTypes := #[]
  staticTypes := #[]
  resolved := Array.replicate 8 none
  statics := none }

def pool4 : Array CpInfo := pool [(1, u "java/io/Serializable"), (0, .class_ 1), (0, u "java/lang/Object"), (0, .class_ 3)] 3

/-- java/io/Serializable -/
def k4 : Class := { plain "java/io/Serializable" (some 0) with
  accessFlags := 1537
  interfaces := #[]
  cf := some (fileOf pool4 2 #[] #[] 1537 4 #[] #[])
  fields := #[]
  methods := #[]
  instanceTypes := #[]
  staticTypes := #[]
  resolved := Array.replicate 8 none
  statics := none }

/-- the primitive byte -/
def k5 : Class := { plain "byte" none with kind := .primitive 'B', accessFlags := 0x411 }
/-- [B -/
def k6 : Class := { plain "[B" (some 0) with kind := .array 5 .byte, interfaces := #[3, 4], accessFlags := 1041 }

/-- the primitive int -/
def k7 : Class := { plain "int" none with kind := .primitive 'I', accessFlags := 0x411 }
/-- [I -/
def k8 : Class := { plain "[I" (some 0) with kind := .array 7 .int, interfaces := #[3, 4], accessFlags := 1041 }

def heap : Heap := #[]
def classes : Array Class := #[k0, k1, k2, k3, k4, k5, k6, k7, k8]
def interned : List (Array UInt16 × Addr) := []
def slotsUsed : Nat := 0
def theMethod : MethodId := ⟨1, 1⟩
def args0 : Array Value := #[.int 5, .int 3]
def aboutOver (below : List Frame) : State where
  vm := { classes := classes, interned := interned.toArray }
  heap := heap
  slotsUsed := slotsUsed
  threads := #[{ frames := .invoking theMethod args0 :: below }]
def below0 : List Frame := [.native { method := ⟨0, 0⟩, args := #[] }]
def about1 : State := aboutOver below0
def p0 : Program := .bare "" "" ""
def e0 : Env := launch0.env 0 0 0
theorem w_frames : about1.frames = Frame.invoking theMethod args0 :: below0 := rfl
set_option maxRecDepth 65536 in
theorem w_args : argsFit about1.vm theMethod args0 = true := by decide +kernel
set_option maxRecDepth 65536 in
theorem w_heap : heapFits about1 = true := by decide +kernel
set_option maxRecDepth 65536 in
theorem w_runnable : about1.curStatus? = some .runnable := by decide +kernel
set_option maxRecDepth 65536 in
theorem w_alone : about1.alone = true := by decide +kernel
set_option maxRecDepth 65536 in
theorem w_named : about1.methodNamed? x = some theMethod := by decide +kernel
set_option maxRecDepth 65536 in
theorem w_hears : about1.hears theMethod below0 = true := by decide +kernel
set_option maxRecDepth 65536 in
theorem w_ripe : about1.ripe theMethod args0 below0 = true := by decide +kernel
theorem w_running : about1.status = .running := rfl
set_option maxRecDepth 65536 in
theorem w_room : about1.hasRoom e0.platform room_1 = true :=
  launch0.hasRoom_least _ room_1 (by decide +kernel) (by decide +kernel) (by decide +kernel) (by decide +kernel) (by decide +kernel) (by decide +kernel)
theorem allAtoms_all (ts : List Jvm.Cond) (a : Array Jvm.Value) (st : Jvm.State) : (allAtoms ts).before a st = ts.all (fun c => c.before a st) := by
  induction ts with
  | nil => rfl
  | cons c t ih =>
    show (Jvm.Cond.and c (allAtoms t)).before a st = _
    rw [Jvm.Cond.before_and, ih, List.all_cons]
def words1 : List Jvm.Cond := Jvm.Cond.code x code maxLocals ret :: tables_1
/-- a 'code' word, met by the world's own term for the bytes: nothing is compared byte by byte -/
theorem code_word {y : MethodName} {bytes : ByteArray} {mx : Nat} {rt : Option FieldType} {a : Array Value} {s : State} {m : MethodId} {meth : Method} {c : Code} (h1 : s.methodNamed? y = some m) (h2 : s.vm.method? m = some meth) (h3 : meth.code = some c) (h4 : c.code = bytes)
    (h5 : (c.maxLocals == mx && c.exceptionTable.isEmpty && decide (c.maxStack ≤ mostOperands) && decide (meth.sig.returnType = rt) && !meth.locks && decide (parseMethodDescriptor y.desc = some meth.sig)) = true) : (Jvm.Cond.code y bytes mx rt).before a s = true := by
  simp only [Bool.and_eq_true, beq_iff_eq, Bool.not_eq_true', decide_eq_true_eq] at h5
  obtain ⟨⟨⟨⟨⟨g1, g2⟩, g3⟩, g4⟩, g5⟩, g6⟩ := h5
  simp [Cond.before, Cond.holds, Cond.value, h1, h2, h3, h4, g1, g2, g3, g4, g5, g6]
def isCode : Jvm.Cond → Bool
  | .code _ _ _ _ => true
  | _ => false
theorem all_split {L : List Jvm.Cond} {P : Jvm.Cond → Bool} (h1 : L.all (fun c => isCode c || P c) = true) (h2 : ∀ c ∈ L.filter isCode, P c = true) : L.all P = true := by
  refine List.all_eq_true.mpr fun c hc => ?_
  have h := List.all_eq_true.mp h1 c hc
  rcases Bool.eq_false_or_eq_true (isCode c) with hi | hi
  · exact h2 c (List.mem_filter.mpr ⟨hc, hi⟩)
  · simpa [hi] using h
set_option maxRecDepth 65536 in
theorem w_c0 : (Jvm.Cond.code x code maxLocals ret).before args0 about1 = true := code_word (m := ⟨1, 1⟩) (meth := k1m1) (c := k1c1) (by decide +kernel) rfl rfl rfl (by decide +kernel)
set_option maxRecDepth 65536 in
theorem w_c1 : (Jvm.Cond.code ({ cls := "com/example/ithuriel/ithuriel/lcms/StoreFormat", name := "mayHold", desc := "(II)Z" } : Jvm.MethodName) prog_51_method_2_code (2 : Nat) (Option.some Jvm.ClassFile.FieldType.boolean)).before args0 about1 = true := code_word (m := ⟨2, 1⟩) (meth := k2m1) (c := k2c1) (by decide +kernel) rfl rfl rfl (by decide +kernel)
def codes1 : List Jvm.Cond := [Jvm.Cond.code x code maxLocals ret, Jvm.Cond.code ({ cls := "com/example/ithuriel/ithuriel/lcms/StoreFormat", name := "mayHold", desc := "(II)Z" } : Jvm.MethodName) prog_51_method_2_code (2 : Nat) (Option.some Jvm.ClassFile.FieldType.boolean)]
set_option maxRecDepth 65536 in
theorem codes_eq : words1.filter isCode = codes1 := rfl
theorem w_codes : ∀ c ∈ words1.filter isCode, c.before args0 about1 = true := by
  rw [codes_eq]
  intro c hc
  simp only [codes1, List.mem_cons, List.not_mem_nil, or_false] at hc
  rcases hc with rfl | rfl
  · exact w_c0
  · exact w_c1
set_option maxRecDepth 65536 in
theorem w_t1 : words1.all (fun c => isCode c || c.before args0 about1) = true := by decide +kernel
theorem w_tables : (allAtoms (Jvm.Cond.code x code maxLocals ret :: tables_1)).before args0 about1 = true := by
  rw [allAtoms_all]
  show words1.all (fun c => c.before args0 about1) = true
  refine all_split ?_ w_codes
  rw [w_t1]
set_option maxRecDepth 65536 in
theorem w_case : (Jvm.Cond.and given_1 narrow_1).before args0 about1 = true := by decide +kernel
theorem w_applies : (headSpec (Jvm.Cond.code x code maxLocals ret :: tables_1) room_1).applies x e0.platform about1 = true :=
  (Spec.applies_iff w_frames).mpr ⟨w_running, w_runnable, w_alone, w_named, w_hears, w_ripe, w_room, w_tables⟩
theorem atStart : AtStart classFile x code maxLocals ret World_1 tables_1 room_1 Calls_1 rest_1 Pre_1 launch0 p0 e0 about1 theMethod args0 below0 :=
  ⟨lists_1, trivial, launch0.admits_env _ _ _, launch0.least_env, fairChoices_fair.cas, fairChoices_fair.clock, w_frames, w_args, w_heap, w_applies, trivial, trivial, w_case⟩
end start1
theorem witness_1 : WitnessClaimed_1 := ⟨start1.p0, start1.e0, start1.about1, start1.theMethod, start1.args0, start1.below0, start1.atStart⟩
end Jvm.Pilot.@@N@@
