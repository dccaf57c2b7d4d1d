import JvmDerived
import JvmDerived.Pilot.@@N@@Statement
import JvmDerived.Pilot.@@N@@Code
set_option linter.unusedVariables false
set_option linter.unusedSimpArgs false
namespace Jvm.OwnKit
open Sem ClassFile Op Lib Jvm.Stand Jvm.Free Jvm.LawKit Jvm.RoadKit
section Own
variable {p : Program} {l : Launch} {e : Env} {R : Room} {s : State} {m : MethodId} {args : Array Value} {below : List Frame} {meth : Method} {c : Code} {T : State} {locs : List Loc} {cells slots : Nat} {Z : State} {a0 : Array Value} {h : Heap}
/-- a walk comes to its return; Q says what it leaves -/
def Done (p : Program) (e : Env) (below : List Frame) (s : State) (R : Room) (Q : Option Value → Heap → List Loc → Prop) (U : State) : Prop :=
  ∃ s₂ o, Steps p.tables e below U s₂ ∧ s₂.status = .running ∧ Ended s₂ below o ∧ ∃ v L, o = .returned v ∧ Q v s₂.heap L ∧ FrameEnd s o s₂ L R.cells R.slots
variable {Q : Option Value → Heap → List Loc → Prop} {U U' : State}
theorem Done.step (k : ∀ t, Steps p.tables e below U' t → Steps p.tables e below U t) (h : Done p e below s R Q U') : Done p e below s R Q U := by
  obtain ⟨s₂, o, h1, r⟩ := h
  exact ⟨s₂, o, k _ h1, r⟩
theorem Done.go (k : Steps p.tables e below U U') (h : Done p e below s R Q U') : Done p e below s R Q U := by
  obtain ⟨s₂, o, h1, r⟩ := h
  exact ⟨s₂, o, k.trans h1, r⟩
theorem Done.mono {Q' : Option Value → Heap → List Loc → Prop} (q : ∀ v h L, Q v h L → Q' v h L) (h : Done p e below s R Q U) : Done p e below s R Q' U := by
  obtain ⟨s₂, o, h1, h2, h3, v, L, h4, h5, h6⟩ := h
  exact ⟨s₂, o, h1, h2, h3, v, L, h4, q _ _ _ h5, h6⟩
theorem Done.retI (X : Stand p l e R s m args below meth c T locs cells slots) (hx : p.tables.exec = Jvm.exec) (hlk : meth.locks = false) {pc : Nat} {Ls : Array Slot} {z : Int32} {rest : List Value} (hret : meth.sig.returnType = some .int) (hd : decode c.code pc = .ok (.ireturn, 1))
    (hc : cells ≤ R.cells) (hs : slots ≤ R.slots) (hq : Q (some (.int z)) T.heap locs) : Done p e below s R Q (T.setTop (mkF m pc Ls (.int z :: rest))) := by
  obtain ⟨fs, hr, hrun, hended, hW, hsame⟩ := X.leave (v := some (.int z)) (fun h => by rw [hret] at h; cases h) hlk
  exact ⟨_, _, retOut X hx hret rfl (Or.inl ⟨rfl, Or.inl rfl, z, rfl⟩) hd hr, hrun, hended, _, _, rfl, hq, ⟨_, rfl⟩, hW, hsame.mono hc hs⟩
theorem Done.retJ (X : Stand p l e R s m args below meth c T locs cells slots) (hx : p.tables.exec = Jvm.exec) (hlk : meth.locks = false) {pc : Nat} {Ls : Array Slot} {z : Int64} {rest : List Value} (hret : meth.sig.returnType = some .long) (hd : decode c.code pc = .ok (.lreturn, 1))
    (hc : cells ≤ R.cells) (hs : slots ≤ R.slots) (hq : Q (some (.long z)) T.heap locs) : Done p e below s R Q (T.setTop (mkF m pc Ls (.long z :: rest))) := by
  obtain ⟨fs, hr, hrun, hended, hW, hsame⟩ := X.leave (v := some (.long z)) (fun h => by rw [hret] at h; cases h) hlk
  exact ⟨_, _, retOut X hx hret rfl (Or.inr (Or.inl ⟨rfl, rfl, z, rfl⟩)) hd hr, hrun, hended, _, _, rfl, hq, ⟨_, rfl⟩, hW, hsame.mono hc hs⟩
theorem Done.retD (X : Stand p l e R s m args below meth c T locs cells slots) (hx : p.tables.exec = Jvm.exec) (hlk : meth.locks = false) {pc : Nat} {Ls : Array Slot} {z : UInt64} {rest : List Value} (hret : meth.sig.returnType = some .double) (hd : decode c.code pc = .ok (.dreturn, 1))
    (hc : cells ≤ R.cells) (hs : slots ≤ R.slots) (hq : Q (some (.double z)) T.heap locs) : Done p e below s R Q (T.setTop (mkF m pc Ls (.double z :: rest))) := by
  obtain ⟨fs, hr, hrun, hended, hW, hsame⟩ := X.leave (v := some (.double z)) (fun h => by rw [hret] at h; cases h) hlk
  exact ⟨_, _, retOut X hx hret rfl (Or.inr (Or.inr (Or.inl ⟨rfl, rfl, z, rfl⟩))) hd hr, hrun, hended, _, _, rfl, hq, ⟨_, rfl⟩, hW, hsame.mono hc hs⟩
theorem Done.retA (X : Stand p l e R s m args below meth c T locs cells slots) (hx : p.tables.exec = Jvm.exec) (hlk : meth.locks = false) {pc : Nat} {Ls : Array Slot} {w : Value} {t : FieldType} {rest : List Value} (hret : meth.sig.returnType = some t) (ht : t.isReference = true) (hw : w.isRef = true) (hd : decode c.code pc = .ok (.areturn, 1))
    (hc : cells ≤ R.cells) (hs : slots ≤ R.slots) (hq : Q (some w) T.heap locs) : Done p e below s R Q (T.setTop (mkF m pc Ls (w :: rest))) := by
  obtain ⟨fs, hr, hrun, hended, hW, hsame⟩ := X.leave (v := some w) (fun h => by rw [hret] at h; cases h) hlk
  have hn : narrow t w = w := by rcases ref_cases hw with rfl | ⟨a, rfl⟩ <;> cases t <;> rfl
  exact ⟨_, _, retOut X hx hret hn (Or.inr (Or.inr (Or.inr (Or.inr ⟨rfl, ht, hw⟩)))) hd hr, hrun, hended, _, _, rfl, hq, ⟨_, rfl⟩, hW, hsame.mono hc hs⟩
theorem Done.retN (X : Stand p l e R s m args below meth c T locs cells slots) (hx : p.tables.exec = Jvm.exec) (hlk : meth.locks = false) {pc : Nat} {Ls : Array Slot} {z : Int32} {t : FieldType} {rest : List Value} (hret : meth.sig.returnType = some t) (ht : t = .boolean ∨ t = .byte ∨ t = .char ∨ t = .short) (hd : decode c.code pc = .ok (.ireturn, 1))
    (hc : cells ≤ R.cells) (hs : slots ≤ R.slots) (hq : Q (some (.int (nar t z))) T.heap locs) : Done p e below s R Q (T.setTop (mkF m pc Ls (.int z :: rest))) := by
  obtain ⟨fs, hr, hrun, hended, hW, hsame⟩ := X.leave (v := some (.int (nar t z))) (fun h => by rw [hret] at h; cases h) hlk
  exact ⟨_, _, Jvm.RoadKit.retN X hx hret ht hd hr, hrun, hended, _, _, rfl, hq, ⟨_, rfl⟩, hW, hsame.mono hc hs⟩
theorem Done.retV (X : Stand p l e R s m args below meth c T locs cells slots) (hx : p.tables.exec = Jvm.exec) (hlk : meth.locks = false) {pc : Nat} {Ls : Array Slot} (hret : meth.sig.returnType = none) (hd : decode c.code pc = .ok (.return_, 1))
    (hc : cells ≤ R.cells) (hs : slots ≤ R.slots) (hq : Q none T.heap locs) : Done p e below s R Q (T.setTop (mkF m pc Ls [])) := by
  obtain ⟨fs, hr, hrun, hended, hW, hsame⟩ := X.leave (v := none) (fun _ => rfl) hlk
  exact ⟨_, _, X.returnOut hx hret hd hr, hrun, hended, _, _, rfl, hq, ⟨_, rfl⟩, hW, hsame.mono hc hs⟩
/-- a body's contract: from the arguments as' and the heap h0 it returns, and Q holds -/
def Ctr (l : Launch) (Z : State) (y : MethodName) (code : ByteArray) (ml : Nat) (rt : Option FieldType) (ws : List Jvm.Cond) (rm : Room) (as' : Array Value) (h0 : Heap) (Q : Option Value → Heap → List Loc → Prop) : Prop :=
  MetFree l y (head1 (Jvm.Cond.code y code ml rt :: ws) rm) (fun a U => a = as' ∧ Z.Warmed39 U.vm ∧ U.heap = h0) (fun _ _ _ _ _ => True) (fun _ U o U' => ∃ v L, o = .returned v ∧ Q v U'.heap L ∧ FrameEnd U o U' L rm.cells rm.slots)
theorem Ctr.mono {y : MethodName} {code : ByteArray} {ml : Nat} {rt : Option FieldType} {ws : List Jvm.Cond} {rm : Room} {as' : Array Value} {h0 : Heap} {Q' : Option Value → Heap → List Loc → Prop} (H : Ctr l Z y code ml rt ws rm as' h0 Q) (q : ∀ v h L, Q v h L → Q' v h L) : Ctr l Z y code ml rt ws rm as' h0 Q' := by
  intro p e ha hc hk s m args below hf happ hP hK
  obtain ⟨n, o, h1, h2, h3, v, L, h4, h5, h6⟩ := H p e ha hc hk s m args below hf happ hP hK
  exact ⟨n, o, h1, h2, h3, v, L, h4, q _ _ _ h5, h6⟩
theorem Ctr.intro {y : MethodName} {code : ByteArray} {ml : Nat} {rt : Option FieldType} {ws : List Jvm.Cond} {rm : Room} {as' : Array Value} {h0 : Heap} {Ls : Array Slot} (hpl : plainFor y = true) (hf : ∀ m, entryFrame m as' ml = mkF m 0 Ls [])
    (body : ∀ (p : Program) (e : Env) (s : State) (m : MethodId) (below : List Frame) (meth : Method) (c : Code) (T : State), p.tables.exec = Jvm.exec → c.code = code → c.maxLocals = ml → s.vm.findClass y.cls = some m.cls → meth.name = y.name → meth.sig.returnType = rt → meth.locks = false → Z.Warmed39 s.vm → T.heap = h0 →
      Stand p l e rm s m as' below meth c T [] 0 0 → Done p e below s rm Q (T.setTop (mkF m 0 Ls []))) : Ctr l Z y code ml rt ws rm as' h0 Q := by
  refine MetFree.of_bodySF hpl hisR ?_
  intro p e s m args below meth c s₁ Bd hml0 hP hK
  obtain ⟨rfl, hZ, hh⟩ := hP
  have X0 : Stand p l e rm s m args below meth c s₁ [] 0 0 := Stand.of_body Bd
  have e0 : s₁.heap = h0 := by rw [← hh, Bd.state]; rfl
  obtain ⟨s₂, o, h1, r⟩ := body p e s m below meth c s₁ Bd.exec Bd.bytes hml0 (findClass_of_methodNamed Bd.named) (name_of_methodNamed Bd.named Bd.method).1 Bd.returns Bd.notSynchronized hZ e0 X0
  exact ⟨s₂, o, castTop (hf m) h1, r⟩
theorem Ctr.back {y : MethodName} {bytes : ByteArray} {maxL : Nat} {ret : Option FieldType} {rm : Room} {len W : Nat} {as' : Array Value} (hM : Ctr l Z y bytes maxL ret [] rm as' h Q)
    (hZ : Z.Warmed39 s.vm) (wc : (Jvm.Cond.code y bytes maxL ret).before a0 Z = true) (wz : (Jvm.Cond.initialized y.cls).before a0 Z = true) (hf : rm.frames + 1 ≤ R.frames) (hl : W + (maxL + 11) + rm.locals ≤ R.locals) :
    Back l R p e below s args y len W (fun A a => a = as' ∧ A.U.heap = h ∧ A.cells + rm.cells ≤ R.cells ∧ A.slots + rm.slots ≤ R.slots)
      (fun A _ v B => ∃ L, Q v B.U.heap L ∧ B.locs = A.locs ++ L ∧ B.cells = A.cells + rm.cells ∧ B.slots = A.slots + rm.slots) := backOf (Q := Q) hM hZ wc wz hf hl
theorem wAt {ws : List Jvm.Cond} (hw : ∀ d ∈ ws, d.before a0 Z = true) (k : Nat) {d : Jvm.Cond} (q : ws[k]? = some d) : d.before a0 Z = true := hw _ (List.mem_of_getElem? q)
theorem int_eq_v {first s : State} {o : Option Outcome} {idx : List Nat} {t : Term} {k : Int32} (q : (Jvm.Cond.eq t (.int k)).value args first o s idx = some true) : t.eval args first o idx s = some (.int k) := by
  cases ht : t.eval args first o idx s with
  | none => simp [Cond.value, ht] at q
  | some x => cases x <;> simp [Cond.value, Term.eval, ht] at q ⊢; exact q
/-- a truth value as the JVM returns it -/
def bP (P : Prop) [Decidable P] : Int32 := if P then 1 else 0
theorem bP_t {P : Prop} [Decidable P] (q : P) : bP P = 1 := if_pos q
theorem bP_f {P : Prop} [Decidable P] (q : ¬ P) : bP P = 0 := if_neg q
/-- what a law leaves: it returns 1, and wrote in new cells alone -/
def LawQ (n0 : Nat) : Option Value → Heap → List Loc → Prop := fun v _ L => v = some (.int 1) ∧ Fr n0 L
/-- what a body leaves that writes and makes nothing -/
def PureQ (r : Option Value) (h0 : Heap) : Option Value → Heap → List Loc → Prop := fun v h L => v = r ∧ h = h0 ∧ L = []
/-- what a constructor leaves of which no more is wanted: it wrote in ws and in new cells alone -/
def QW (n0 : Nat) (h0 : Heap) (ws : List Addr) : Option Value → Heap → List Loc → Prop := fun v h L => v = none ∧ Fr n0 L ∧ Keep h0 h ws
variable {Qc : Option Value → Heap → List Loc → Prop}
theorem Done.callS (X : Stand p l e R s m args below meth c T locs cells slots) (hx : p.tables.exec = Jvm.exec) (hZ : Z.Warmed39 s.vm) {own : String} {index : Nat} {y : MethodName} {bytes : ByteArray} {maxL : Nat} {ret : Option FieldType} {rm : Room} {as' : Array Value}
    (hown : s.vm.findClass own = some m.cls) (w1 : (Jvm.Cond.methodLink own index y).before a0 Z = true) (w2 : (Jvm.Cond.static y).before a0 Z = true) (w3 : (Jvm.Cond.initialized y.cls).before a0 Z = true) (w4 : (Jvm.Cond.code y bytes maxL ret).before a0 Z = true)
    (hy : y.cls ≠ "java/lang/invoke/MethodHandle" ∧ y.cls ≠ "java/lang/invoke/VarHandle") (hM : Ctr l Z y bytes maxL ret [] rm as' h Qc) (eT : T.heap = h)
    {g : JFrame} (hg : g.method = m) (hsize : g.locals.size = c.maxLocals) (argsL rest : List Value) (W : Nat) (hlen : ∀ sig, parseMethodDescriptor y.desc = some sig → argsL.length = sig.parameters.length)
    (hstack : g.stack = argsL.reverse ++ rest) (has : argsL.toArray = as') (hW : 2 * g.monitorRoom + (rest.map fun v => v.category).sum ≤ W) (hdg : decode c.code g.pc = .ok (.invokestatic index, 3))
    (hf : rm.frames + 1 ≤ R.frames) (hl : W + (maxL + 11) + rm.locals ≤ R.locals) (hc : cells + rm.cells ≤ R.cells) (hs : slots + rm.slots ≤ R.slots)
    (k : ∀ (T' : State) (v : Option Value) (L : List Loc), Stand p l e R s m args below meth c T' (locs ++ L) (cells + rm.cells) (slots + rm.slots) → Qc v T'.heap L → Done p e below s R Q (T'.setTop { g with pc := g.pc + 3, stack := v.toList ++ rest })) :
    Done p e below s R Q (T.setTop g) := by
  subst has
  obtain ⟨v, vm₁, ⟨T', L', k', n'⟩, -, X', ⟨L, hq, e1, e2, e3⟩, st⟩ := Jvm.LawKit.callS X hx (y := y) hown (mvT hZ w1) (mvT hZ w2) (mvT hZ w3) (mvT hZ w4) hy (hM.back (W := W) hZ w4 w3 hf hl) hg hsize (argsL := argsL) (rest := rest) hlen hstack hW hdg (fun _ _ => ⟨rfl, eT, hc, hs⟩)
  dsimp only [Pt.U, Pt.locs, Pt.cells, Pt.slots] at X' e1 e2 e3 st hq
  subst e1 e2 e3
  exact Done.step st (k _ _ _ X' hq)
theorem Done.callSP (X : Stand p l e R s m args below meth c T locs cells slots) (hx : p.tables.exec = Jvm.exec) (hZ : Z.Warmed39 s.vm) {own : String} {index : Nat} {y : MethodName} {bytes : ByteArray} {maxL : Nat} {ret : Option FieldType} {rm : Room} {as' : Array Value} {r : Option Value}
    (hown : s.vm.findClass own = some m.cls) (w1 : (Jvm.Cond.methodLink own index y).before a0 Z = true) (w2 : (Jvm.Cond.static y).before a0 Z = true) (w3 : (Jvm.Cond.initialized y.cls).before a0 Z = true) (w4 : (Jvm.Cond.code y bytes maxL ret).before a0 Z = true)
    (hy : y.cls ≠ "java/lang/invoke/MethodHandle" ∧ y.cls ≠ "java/lang/invoke/VarHandle") (hM : Ctr l Z y bytes maxL ret [] rm as' h (PureQ r h)) (eT : T.heap = h)
    {g : JFrame} (hg : g.method = m) (hsize : g.locals.size = c.maxLocals) (argsL rest : List Value) (W : Nat) (hlen : ∀ sig, parseMethodDescriptor y.desc = some sig → argsL.length = sig.parameters.length)
    (hstack : g.stack = argsL.reverse ++ rest) (has : argsL.toArray = as') (hW : 2 * g.monitorRoom + (rest.map fun v => v.category).sum ≤ W) (hdg : decode c.code g.pc = .ok (.invokestatic index, 3))
    (hf : rm.frames + 1 ≤ R.frames) (hl : W + (maxL + 11) + rm.locals ≤ R.locals) (hc : cells ≤ R.cells) (hs : slots ≤ R.slots) (rc : rm.cells = 0) (rs : rm.slots = 0)
    (k : ∀ (T' : State), Stand p l e R s m args below meth c T' locs cells slots → T'.heap = h → Done p e below s R Q (T'.setTop { g with pc := g.pc + 3, stack := r.toList ++ rest })) :
    Done p e below s R Q (T.setTop g) := by
  refine Done.callS X hx hZ hown w1 w2 w3 w4 hy hM eT hg hsize argsL rest W hlen hstack has hW hdg hf hl (by rw [rc]; exact hc) (by rw [rs]; exact hs) ?_
  intro T' v L X' q
  obtain ⟨rfl, e1, rfl⟩ := q
  rw [List.append_nil, rc, rs] at X'
  exact k T' X' e1
theorem Done.callI (X : Stand p l e R s m args below meth c T locs cells slots) (hx : p.tables.exec = Jvm.exec) (hZ : Z.Warmed39 s.vm) {own : String} {index : Nat} {y : MethodName} {bytes : ByteArray} {maxL : Nat} {rm : Room} {as' : Array Value} (hy1 : y.name = "<init>")
    (hown : s.vm.findClass own = some m.cls) (w1 : (Jvm.Cond.methodLink own index y).before a0 Z = true) (w2 : (Jvm.Cond.instanceMethod y).before a0 Z = true) (w3 : (Jvm.Cond.initialized y.cls).before a0 Z = true) (w4 : (Jvm.Cond.code y bytes maxL none).before a0 Z = true)
    (hy : y.cls ≠ "java/lang/invoke/MethodHandle" ∧ y.cls ≠ "java/lang/invoke/VarHandle") (hM : Ctr l Z y bytes maxL none [] rm as' h Qc) (eT : T.heap = h)
    {g : JFrame} (hg : g.method = m) (hsize : g.locals.size = c.maxLocals) (a : Addr) (argsL rest : List Value) (W : Nat) (hlen : ∀ sig, parseMethodDescriptor y.desc = some sig → argsL.length = sig.parameters.length)
    (hstack : g.stack = argsL.reverse ++ .ref a :: rest) (has : (Value.ref a :: argsL).toArray = as') (hW : 2 * g.monitorRoom + (rest.map fun v => v.category).sum ≤ W) (hdg : decode c.code g.pc = .ok (.invokespecial index, 3))
    (hf : rm.frames + 1 ≤ R.frames) (hl : W + (maxL + 11) + rm.locals ≤ R.locals) (hc : cells + rm.cells ≤ R.cells) (hs : slots + rm.slots ≤ R.slots)
    (k : ∀ (T' : State) (v : Option Value) (L : List Loc), Stand p l e R s m args below meth c T' (locs ++ L) (cells + rm.cells) (slots + rm.slots) → Qc v T'.heap L → Done p e below s R Q (T'.setTop { g with pc := g.pc + 3, stack := v.toList ++ rest })) :
    Done p e below s R Q (T.setTop g) := by
  subst has
  obtain ⟨v, vm₁, ⟨T', L', k', n'⟩, -, X', ⟨L, hq, e1, e2, e3⟩, st⟩ := X.specialBack hx (y := y) hy1 hown (mvT hZ w1) (mvT hZ w2) (mvT hZ w4) hy (hM.back (W := W) hZ w4 w3 hf hl) hg hsize (Steps.refl _) (a := a) (argsL := argsL) (rest := rest) hlen hstack hW hdg (fun _ _ => ⟨rfl, eT, hc, hs⟩)
  dsimp only [Pt.U, Pt.locs, Pt.cells, Pt.slots] at X' e1 e2 e3 st hq
  subst e1 e2 e3
  exact Done.go st (k _ _ _ X' hq)
theorem Done.callV (X : Stand p l e R s m args below meth c T locs cells slots) (hx : p.tables.exec = Jvm.exec) (hZ : Z.Warmed39 s.vm) {own C : String} {index : Nat} {y z : MethodName} {bytes : ByteArray} {maxL : Nat} {ret : Option FieldType} {rm : Room} {as' : Array Value}
    (hown : s.vm.findClass own = some m.cls) (w1 : (Jvm.Cond.methodLink own index y).before a0 Z = true) (w2 : (Jvm.Cond.declares y).before a0 Z = true) (hnf : NotFace s y) (w5 : (Jvm.Cond.selects C y z).before a0 Z = true) (w6 : (Jvm.Cond.instanceMethod z).before a0 Z = true)
    (w3 : (Jvm.Cond.initialized z.cls).before a0 Z = true) (w4 : (Jvm.Cond.code z bytes maxL ret).before a0 Z = true)
    (hy : y.cls ≠ "java/lang/invoke/MethodHandle" ∧ y.cls ≠ "java/lang/invoke/VarHandle") (hM : Ctr l Z z bytes maxL ret [] rm as' h Qc) (eT : T.heap = h) {b : Addr} (E : Exa Z h b C)
    {g : JFrame} (hg : g.method = m) (hsize : g.locals.size = c.maxLocals) (argsL rest : List Value) (W : Nat) (hlen : ∀ sig, parseMethodDescriptor y.desc = some sig → argsL.length = sig.parameters.length)
    (hstack : g.stack = argsL.reverse ++ .ref b :: rest) (has : (Value.ref b :: argsL).toArray = as') (hW : 2 * g.monitorRoom + (rest.map fun v => v.category).sum ≤ W) (hdg : decode c.code g.pc = .ok (.invokevirtual index, 3))
    (hf : rm.frames + 1 ≤ R.frames) (hl : W + (maxL + 11) + rm.locals ≤ R.locals) (hc : cells + rm.cells ≤ R.cells) (hs : slots + rm.slots ≤ R.slots)
    (k : ∀ (T' : State) (v : Option Value) (L : List Loc), Stand p l e R s m args below meth c T' (locs ++ L) (cells + rm.cells) (slots + rm.slots) → Qc v T'.heap L → Done p e below s R Q (T'.setTop { g with pc := g.pc + 3, stack := v.toList ++ rest })) :
    Done p e below s R Q (T.setTop g) := by
  subst has
  obtain ⟨cq, kq, qa, qb, qc⟩ := isOf (T := T) hZ eT E
  obtain ⟨v, vm₁, ⟨T', L', k', n'⟩, -, X', ⟨L, hq, e1, e2, e3⟩, st⟩ := X.virtualBack hx (y := y) (z := z) hown (mvT hZ w1) (mvT hZ w2) hnf (mvT hZ w5) (mvT hZ w6) hy (hM.back (W := W) hZ w4 w3 hf hl) qa qc hg hsize (Steps.refl _) (argsL := argsL) (rest := rest) hlen hstack hW hdg (fun _ _ => ⟨rfl, eT, hc, hs⟩)
  dsimp only [Pt.U, Pt.locs, Pt.cells, Pt.slots] at X' e1 e2 e3 st hq
  subst e1 e2 e3
  exact Done.go st (k _ _ _ X' hq)
theorem Done.callVP (X : Stand p l e R s m args below meth c T locs cells slots) (hx : p.tables.exec = Jvm.exec) (hZ : Z.Warmed39 s.vm) {own C : String} {index : Nat} {y z : MethodName} {bytes : ByteArray} {maxL : Nat} {ret : Option FieldType} {rm : Room} {as' : Array Value} {r : Option Value}
    (hown : s.vm.findClass own = some m.cls) (w1 : (Jvm.Cond.methodLink own index y).before a0 Z = true) (w2 : (Jvm.Cond.declares y).before a0 Z = true) (hnf : NotFace s y) (w5 : (Jvm.Cond.selects C y z).before a0 Z = true) (w6 : (Jvm.Cond.instanceMethod z).before a0 Z = true)
    (w3 : (Jvm.Cond.initialized z.cls).before a0 Z = true) (w4 : (Jvm.Cond.code z bytes maxL ret).before a0 Z = true)
    (hy : y.cls ≠ "java/lang/invoke/MethodHandle" ∧ y.cls ≠ "java/lang/invoke/VarHandle") (hM : Ctr l Z z bytes maxL ret [] rm as' h (PureQ r h)) (eT : T.heap = h) {b : Addr} (E : Exa Z h b C)
    {g : JFrame} (hg : g.method = m) (hsize : g.locals.size = c.maxLocals) (argsL rest : List Value) (W : Nat) (hlen : ∀ sig, parseMethodDescriptor y.desc = some sig → argsL.length = sig.parameters.length)
    (hstack : g.stack = argsL.reverse ++ .ref b :: rest) (has : (Value.ref b :: argsL).toArray = as') (hW : 2 * g.monitorRoom + (rest.map fun v => v.category).sum ≤ W) (hdg : decode c.code g.pc = .ok (.invokevirtual index, 3))
    (hf : rm.frames + 1 ≤ R.frames) (hl : W + (maxL + 11) + rm.locals ≤ R.locals) (hc : cells ≤ R.cells) (hs : slots ≤ R.slots) (rc : rm.cells = 0) (rs : rm.slots = 0)
    (k : ∀ (T' : State), Stand p l e R s m args below meth c T' locs cells slots → T'.heap = h → Done p e below s R Q (T'.setTop { g with pc := g.pc + 3, stack := r.toList ++ rest })) :
    Done p e below s R Q (T.setTop g) := by
  refine Done.callV X hx hZ hown w1 w2 hnf w5 w6 w3 w4 hy hM eT E hg hsize argsL rest W hlen hstack has hW hdg hf hl (by rw [rc]; exact hc) (by rw [rs]; exact hs) ?_
  intro T' v L X' q
  obtain ⟨rfl, e1, rfl⟩ := q
  rw [List.append_nil, rc, rs] at X'
  exact k T' X' e1
end Own
end Jvm.OwnKit
namespace Jvm.Pilot.@@N@@
open Jvm Jvm.ClassFile Sem Op Lib Jvm.Free Jvm.Stand Jvm.LawKit Jvm.RoadKit Jvm.OwnKit Bundle Jvm.Pilot.@@N@@.Jvm.D
theorem own_xor (a b c d : Int64) : ((a ^^^ b) ||| (c ^^^ d)) = (0 : Int64) ↔ (b = a ∧ d = c) := by
  rw [Int64.or_eq_zero_iff, Int64.xor_eq_zero_iff, Int64.xor_eq_zero_iff]
  constructor
  · rintro ⟨rfl, rfl⟩; exact ⟨rfl, rfl⟩
  · rintro ⟨rfl, rfl⟩; exact ⟨rfl, rfl⟩
theorem pn_java_io_OutputStream : plainName "java/io/OutputStream" = true := by first | (simp [plainName, overriddenIn]; done) | decide +kernel
theorem d5_0 : decode jdk_2038_method_1_code 0 = .ok (.aload_n 0, 1) := by decide +kernel
theorem d5_1 : decode jdk_2038_method_1_code 1 = .ok (.invokespecial 1, 3) := by decide +kernel
theorem d5_4 : decode jdk_2038_method_1_code 4 = .ok (.return_, 1) := by decide +kernel
set_option maxRecDepth 65536 in
set_option maxHeartbeats 40000000 in
theorem rmOS (l : Launch) (Z : State) (a0 : Array Value) (hw : ∀ d ∈ tables_1, d.before a0 Z = true) (ws : List Jvm.Cond) (a : Addr) (h0 : Heap) (n0 : Nat) (Z0 : n0 ≤ h0.size)  :
    Ctr l Z (⟨"java/io/OutputStream", "<init>", "()V"⟩ : MethodName) jdk_2038_method_1_code 1 none ws ({ frames := 1, cells := 0, slots := 0, locals := 12 } : Room) #[(.ref a)] h0 (PureQ none h0) := by
  refine Ctr.intro (plainFor_of_name pn_java_io_OutputStream) (Ls := #[.val (.ref a)]) (fun m => by first | (simp [entryFrame, mkF, argsToLocals, Value.category]; done) | rfl) ?_
  intro p e s m below meth c T0 hx hby hml hown hnm hret hlk hZ e0 X0
  have N0 := Fr.nil n0
  show Done p e below s _ _ (T0.setTop (mkF m 0 #[.val (.ref a)] []))
  refine Done.step (fun _ => XS.aloadN X0.here hx rfl (hb hby d5_0) rfl rfl) ?_
  show Done p e below s _ _ (T0.setTop (mkF m 1 #[.val (.ref a)] [(.ref a)]))
  obtain ⟨T1, X1, e1, st1⟩ := initO X0 hx hZ hown (wAt hw 25 rfl) (wAt hw 7 rfl) (wAt hw 8 rfl) e0 (g := (mkF m 1 #[.val (.ref a)] [(.ref a)])) rfl (by rw [hml]; rfl) rfl (hb hby d5_1) (by decide) (W := 0) (by show 2 * 0 + _ ≤ _; exact Nat.le_of_eq rfl) (by decide)
  refine Done.step st1 ?_
  show Done p e below s _ _ (T1.setTop (mkF m 4 #[.val (.ref a)] []))
  exact Done.retV X1 hx hlk hret (hb hby d5_4) (by decide) (by decide) ⟨rfl, e1, rfl⟩
theorem pn_java_io_ByteArrayOutputStream : plainName "java/io/ByteArrayOutputStream" = true := by first | (simp [plainName, overriddenIn]; done) | decide +kernel
theorem d4_0 : decode jdk_2005_method_2_code 0 = .ok (.aload_n 0, 1) := by decide +kernel
theorem d4_1 : decode jdk_2005_method_2_code 1 = .ok (.invokespecial 7, 3) := by decide +kernel
theorem pd_0 : parseMethodDescriptor "()V" = some ⟨[], none⟩ := by decide +kernel
theorem d4_4 : decode jdk_2005_method_2_code 4 = .ok (.iload_n 1, 1) := by decide +kernel
theorem d4_5 : decode jdk_2005_method_2_code 5 = .ok (.ifCond .ge 30, 3) := by decide +kernel
theorem d4_35 : decode jdk_2005_method_2_code 35 = .ok (.aload_n 0, 1) := by decide +kernel
theorem d4_36 : decode jdk_2005_method_2_code 36 = .ok (.iload_n 1, 1) := by decide +kernel
theorem d4_37 : decode jdk_2005_method_2_code 37 = .ok (.newarray .byte, 2) := by decide +kernel
theorem d4_39 : decode jdk_2005_method_2_code 39 = .ok (.putfield 33, 3) := by decide +kernel
theorem d4_42 : decode jdk_2005_method_2_code 42 = .ok (.return_, 1) := by decide +kernel
set_option maxRecDepth 65536 in
set_option maxHeartbeats 40000000 in
theorem rmB1 (l : Launch) (Z : State) (a0 : Array Value) (hw : ∀ d ∈ tables_1, d.before a0 Z = true) (ws : List Jvm.Cond) (a : Addr) (h0 : Heap) (n0 : Nat) (Z0 : n0 ≤ h0.size) (Ea : Exa Z h0 a "java/io/ByteArrayOutputStream") (Fb : Fld Z h0 a "java/io/ByteArrayOutputStream" "buf" "[B" .null) (ga : n0 ≤ a) :
    Ctr l Z (⟨"java/io/ByteArrayOutputStream", "<init>", "(I)V"⟩ : MethodName) jdk_2005_method_2_code 2 none ws ({ frames := 2, cells := 1, slots := 32, locals := 24 } : Room) #[(.ref a), (.int (32 : Int32))] h0 (QW n0 h0 [a]) := by
  refine Ctr.intro (plainFor_of_name pn_java_io_ByteArrayOutputStream) (Ls := #[.val (.ref a), .val (.int (32 : Int32))]) (fun m => by first | (simp [entryFrame, mkF, argsToLocals, Value.category]; done) | rfl) ?_
  intro p e s m below meth c T0 hx hby hml hown hnm hret hlk hZ e0 X0
  have N0 := Fr.nil n0
  show Done p e below s _ _ (T0.setTop (mkF m 0 #[.val (.ref a), .val (.int (32 : Int32))] []))
  refine Done.step (fun _ => XS.aloadN X0.here hx rfl (hb hby d4_0) rfl rfl) ?_
  show Done p e below s _ _ (T0.setTop (mkF m 1 #[.val (.ref a), .val (.int (32 : Int32))] [(.ref a)]))
  refine Done.callI X0 hx hZ rfl hown (wAt hw 19 rfl) (wAt hw 20 rfl) (wAt hw 23 rfl) (wAt hw 24 rfl) (by decide) (rmOS l Z a0 hw [] a  h0 n0 Z0 ) e0 (g := (mkF m 1 #[.val (.ref a), .val (.int (32 : Int32))] [(.ref a)])) rfl (by rw [hml]; rfl) a [] [] 0 (lenOf pd_0 rfl) rfl rfl (by show 2 * 0 + _ ≤ _; exact Nat.le_of_eq rfl) (hb hby d4_1) (by decide) (by decide) (by decide) (by decide) ?_
  intro T1 v1 L1 X1 q1
  obtain ⟨rfl, e1, rfl⟩ := q1
  rw [List.append_nil] at X1
  show Done p e below s _ _ (T1.setTop (mkF m 4 #[.val (.ref a), .val (.int (32 : Int32))] []))
  refine Done.step (fun _ => XS.iloadN X1.here hx rfl (hb hby d4_4) rfl) ?_
  show Done p e below s _ _ (T1.setTop (mkF m 5 #[.val (.ref a), .val (.int (32 : Int32))] [(.int (32 : Int32))]))
  refine Done.step (fun _ => XS.ifYes X1.here hx rfl (pc0 := 5) (pc' := 35) rfl (hb hby d4_5) rfl (XT.i0_ge_t (by decide)) (by decide) (by decide)) ?_
  show Done p e below s _ _ (T1.setTop (mkF m 35 #[.val (.ref a), .val (.int (32 : Int32))] []))
  refine Done.step (fun _ => XS.aloadN X1.here hx rfl (hb hby d4_35) rfl rfl) ?_
  show Done p e below s _ _ (T1.setTop (mkF m 36 #[.val (.ref a), .val (.int (32 : Int32))] [(.ref a)]))
  refine Done.step (fun _ => XS.iloadN X1.here hx rfl (hb hby d4_36) rfl) ?_
  show Done p e below s _ _ (T1.setTop (mkF m 37 #[.val (.ref a), .val (.int (32 : Int32))] [(.int (32 : Int32)), (.ref a)]))
  obtain ⟨T2, h2, k2, X2, e2, E2, A2, st2⟩ := newP X1 hx hZ (wAt hw 26 rfl) e1 (g := (mkF m 37 #[.val (.ref a), .val (.int (32 : Int32))] [(.int (32 : Int32)), (.ref a)])) rfl (hb hby d4_37) rfl (by decide) (cap := 32) (by decide) (by decide) (by decide) (by decide)
  obtain ⟨b2, g2⟩ : ∃ z, z = h0.size := ⟨_, rfl⟩
  rw [← g2] at A2 st2
  have ne_a_b2 : a ≠ b2 := by rw [g2]; exact Nat.ne_of_lt Ea.lt
  have n0_b2 : n0 ≤ b2 := by rw [g2]; exact Z0
  have sz_b2 : h0.size ≤ b2 := by rw [g2]; exact (Keep.refl h0 [a]).1
  have K2 := (Keep.refl h0 [a]).ext E2
  have Zs2 := Nat.le_trans Z0 E2.1
  have V_b2 : Arv Z h2 b2 k2 .byte (32 : Int32) [(.int (0 : Int32)), (.int (0 : Int32)), (.int (0 : Int32)), (.int (0 : Int32)), (.int (0 : Int32)), (.int (0 : Int32)), (.int (0 : Int32)), (.int (0 : Int32)), (.int (0 : Int32)), (.int (0 : Int32)), (.int (0 : Int32)), (.int (0 : Int32)), (.int (0 : Int32)), (.int (0 : Int32)), (.int (0 : Int32)), (.int (0 : Int32)), (.int (0 : Int32)), (.int (0 : Int32)), (.int (0 : Int32)), (.int (0 : Int32)), (.int (0 : Int32)), (.int (0 : Int32)), (.int (0 : Int32)), (.int (0 : Int32)), (.int (0 : Int32)), (.int (0 : Int32)), (.int (0 : Int32)), (.int (0 : Int32)), (.int (0 : Int32)), (.int (0 : Int32)), (.int (0 : Int32)), (.int (0 : Int32))] (.int (0 : Int32)) := (Arv.new A2 (by decide)).pad (pad_rep [] (.int (0 : Int32)) 32)
  refine Done.step st2 ?_
  show Done p e below s _ _ (T2.setTop (mkF m 39 #[.val (.ref a), .val (.int (32 : Int32))] [(.ref b2), (.ref a)]))
  obtain ⟨T3, h3, X3, e3, W3, st3⟩ := putF X2 hx hZ hown (host := "") (Or.inl (wAt hw 27 rfl)) Via.refl e2 (Fb.ext E2) (Ea.ext E2) (Or.inl (wAt hw 28 rfl)) (wAt hw 10 rfl) (ty := (.array .byte)) (by decide) rfl rfl (g := (mkF m 39 #[.val (.ref a), .val (.int (32 : Int32))] [(.ref b2), (.ref a)])) rfl rfl (hb hby d4_39)
  have F3 := (Fb.ext E2).same W3
  have N3 := Fr.snoc X3 N0 ga
  have Zs3 := Nat.le_trans Zs2 (Keep.of_wr W3).1
  have K3 := K2.wr W3 (Or.inl (List.mem_of_getElem? (i := 0) rfl))
  refine Done.step st3 ?_
  show Done p e below s _ _ (T3.setTop (mkF m 42 #[.val (.ref a), .val (.int (32 : Int32))] []))
  refine Done.retV X3 hx hlk hret (hb hby d4_42) (by decide) (by decide) ?_
  rw [e3]
  exact ⟨rfl, N3, K3⟩
theorem d3_0 : decode jdk_2005_method_1_code 0 = .ok (.aload_n 0, 1) := by decide +kernel
theorem d3_1 : decode jdk_2005_method_1_code 1 = .ok (.bipush 32, 2) := by decide +kernel
theorem d3_3 : decode jdk_2005_method_1_code 3 = .ok (.invokespecial 1, 3) := by decide +kernel
theorem pd_1 : parseMethodDescriptor "(I)V" = some ⟨[.int], none⟩ := by decide +kernel
theorem d3_6 : decode jdk_2005_method_1_code 6 = .ok (.return_, 1) := by decide +kernel
set_option maxRecDepth 65536 in
set_option maxHeartbeats 40000000 in
theorem rmB0 (l : Launch) (Z : State) (a0 : Array Value) (hw : ∀ d ∈ tables_1, d.before a0 Z = true) (ws : List Jvm.Cond) (a : Addr) (h0 : Heap) (n0 : Nat) (Z0 : n0 ≤ h0.size) (Ea : Exa Z h0 a "java/io/ByteArrayOutputStream") (Fb : Fld Z h0 a "java/io/ByteArrayOutputStream" "buf" "[B" .null) (ga : n0 ≤ a) :
    Ctr l Z (⟨"java/io/ByteArrayOutputStream", "<init>", "()V"⟩ : MethodName) jdk_2005_method_1_code 1 none ws ({ frames := 3, cells := 1, slots := 32, locals := 37 } : Room) #[(.ref a)] h0 (QW n0 h0 [a]) := by
  refine Ctr.intro (plainFor_of_name pn_java_io_ByteArrayOutputStream) (Ls := #[.val (.ref a)]) (fun m => by first | (simp [entryFrame, mkF, argsToLocals, Value.category]; done) | rfl) ?_
  intro p e s m below meth c T0 hx hby hml hown hnm hret hlk hZ e0 X0
  have N0 := Fr.nil n0
  show Done p e below s _ _ (T0.setTop (mkF m 0 #[.val (.ref a)] []))
  refine Done.step (fun _ => XS.aloadN X0.here hx rfl (hb hby d3_0) rfl rfl) ?_
  show Done p e below s _ _ (T0.setTop (mkF m 1 #[.val (.ref a)] [(.ref a)]))
  refine Done.step (fun _ => XT.bipushV X0.here hx rfl (32 : Int32) (hb hby d3_1) (by decide)) ?_
  show Done p e below s _ _ (T0.setTop (mkF m 3 #[.val (.ref a)] [(.int (32 : Int32)), (.ref a)]))
  refine Done.callI X0 hx hZ rfl hown (wAt hw 15 rfl) (wAt hw 16 rfl) (wAt hw 11 rfl) (wAt hw 18 rfl) (by decide) (rmB1 l Z a0 hw [] a h0 n0 Z0 Ea Fb ga) e0 (g := (mkF m 3 #[.val (.ref a)] [(.int (32 : Int32)), (.ref a)])) rfl (by rw [hml]; rfl) a [(.int (32 : Int32))] [] 0 (lenOf pd_1 rfl) rfl rfl (by show 2 * 0 + _ ≤ _; exact Nat.le_of_eq rfl) (hb hby d3_3) (by decide) (by decide) (by decide) (by decide) ?_
  intro T1 v1 L1 X1 q1
  obtain ⟨rfl, Nq1, K1q⟩ := q1
  have N1 := Fr.app N0 Nq1
  have Zs1 := Nat.le_trans Z0 K1q.1
  have K1 := (Keep.refl h0 [a]).trans K1q (allS (Or.inl (List.mem_of_getElem? (i := 0) rfl)) all0)
  show Done p e below s _ _ (T1.setTop (mkF m 6 #[.val (.ref a)] []))
  exact Done.retV X1 hx hlk hret (hb hby d3_6) (by decide) (by decide) ⟨rfl, N1, K1⟩
theorem pn_com_example_minho_minho_server_Snapshot_Incoming : plainName "com/example/minho/minho/server/Snapshot$Incoming" = true := by first | (simp [plainName, overriddenIn]; done) | decide +kernel
theorem d1_0 : decode prog_57_method_1_code 0 = .ok (.aload_n 0, 1) := by decide +kernel
theorem d1_1 : decode prog_57_method_1_code 1 = .ok (.invokespecial 1, 3) := by decide +kernel
theorem d1_4 : decode prog_57_method_1_code 4 = .ok (.aload_n 0, 1) := by decide +kernel
theorem d1_5 : decode prog_57_method_1_code 5 = .ok (.new 7, 3) := by decide +kernel
theorem d1_8 : decode prog_57_method_1_code 8 = .ok (.dup, 1) := by decide +kernel
theorem d1_9 : decode prog_57_method_1_code 9 = .ok (.invokespecial 9, 3) := by decide +kernel
theorem d1_12 : decode prog_57_method_1_code 12 = .ok (.putfield 10, 3) := by decide +kernel
theorem d1_15 : decode prog_57_method_1_code 15 = .ok (.aload_n 0, 1) := by decide +kernel
theorem d1_16 : decode prog_57_method_1_code 16 = .ok (.lload_n 1, 1) := by decide +kernel
theorem d1_17 : decode prog_57_method_1_code 17 = .ok (.putfield 16, 3) := by decide +kernel
theorem d1_20 : decode prog_57_method_1_code 20 = .ok (.aload_n 0, 1) := by decide +kernel
theorem d1_21 : decode prog_57_method_1_code 21 = .ok (.lload_n 3, 1) := by decide +kernel
theorem d1_22 : decode prog_57_method_1_code 22 = .ok (.putfield 20, 3) := by decide +kernel
theorem d1_25 : decode prog_57_method_1_code 25 = .ok (.return_, 1) := by decide +kernel
def QI (Z : State) (n0 : Nat) (h0 : Heap) (a : Addr) (i t : Int64) (v : Option Value) (h : Heap) (L : List Loc) : Prop := v = none ∧ Fr n0 L ∧ Keep h0 h [a] ∧ Exa Z h a "com/example/minho/minho/server/Snapshot$Incoming" ∧ Fld Z h a "com/example/minho/minho/server/Snapshot$Incoming" "m_index" "J" (.long i) ∧ Fld Z h a "com/example/minho/minho/server/Snapshot$Incoming" "m_term" "J" (.long t)
set_option maxRecDepth 65536 in
set_option maxHeartbeats 40000000 in
theorem rmI (l : Launch) (Z : State) (a0 : Array Value) (hw : ∀ d ∈ tables_1, d.before a0 Z = true) (ws : List Jvm.Cond) (a : Addr) (i t : Int64) (h0 : Heap) (n0 : Nat) (Z0 : n0 ≤ h0.size) (Ea : Exa Z h0 a "com/example/minho/minho/server/Snapshot$Incoming") (F_m_bytes : Fld Z h0 a "com/example/minho/minho/server/Snapshot$Incoming" "m_bytes" "Ljava/io/ByteArrayOutputStream;" .null) (F_m_index : Fld Z h0 a "com/example/minho/minho/server/Snapshot$Incoming" "m_index" "J" (.long (0 : Int64))) (F_m_term : Fld Z h0 a "com/example/minho/minho/server/Snapshot$Incoming" "m_term" "J" (.long (0 : Int64))) (ga : n0 ≤ a) :
    Ctr l Z (⟨"com/example/minho/minho/server/Snapshot$Incoming", "<init>", "(JJ)V"⟩ : MethodName) prog_57_method_1_code 5 none ws ({ frames := 4, cells := 2, slots := 34, locals := 51 } : Room) #[(.ref a), (.long i), (.long t)] h0 (QI Z n0 h0 a i t) := by
  refine Ctr.intro (plainFor_of_name pn_com_example_minho_minho_server_Snapshot_Incoming) (Ls := #[.val (.ref a), .val (.long i), .second, .val (.long t), .second]) (fun m => by first | (simp [entryFrame, mkF, argsToLocals, Value.category]; done) | rfl) ?_
  intro p e s m below meth c T0 hx hby hml hown hnm hret hlk hZ e0 X0
  have N0 := Fr.nil n0
  show Done p e below s _ _ (T0.setTop (mkF m 0 #[.val (.ref a), .val (.long i), .second, .val (.long t), .second] []))
  refine Done.step (fun _ => XS.aloadN X0.here hx rfl (hb hby d1_0) rfl rfl) ?_
  show Done p e below s _ _ (T0.setTop (mkF m 1 #[.val (.ref a), .val (.long i), .second, .val (.long t), .second] [(.ref a)]))
  obtain ⟨T1, X1, e1, st1⟩ := initO X0 hx hZ hown (wAt hw 6 rfl) (wAt hw 7 rfl) (wAt hw 8 rfl) e0 (g := (mkF m 1 #[.val (.ref a), .val (.long i), .second, .val (.long t), .second] [(.ref a)])) rfl (by rw [hml]; rfl) rfl (hb hby d1_1) (by decide) (W := 0) (by show 2 * 0 + _ ≤ _; exact Nat.le_of_eq rfl) (by decide)
  refine Done.step st1 ?_
  show Done p e below s _ _ (T1.setTop (mkF m 4 #[.val (.ref a), .val (.long i), .second, .val (.long t), .second] []))
  refine Done.step (fun _ => XS.aloadN X1.here hx rfl (hb hby d1_4) rfl rfl) ?_
  show Done p e below s _ _ (T1.setTop (mkF m 5 #[.val (.ref a), .val (.long i), .second, .val (.long t), .second] [(.ref a)]))
  obtain ⟨T2, h2, X2, e2, E2, A2, D2, -, st2⟩ := newO X1 hx hZ hown (wAt hw 9 rfl) (wAt hw 10 rfl) (wAt hw 11 rfl) e1 (g := (mkF m 5 #[.val (.ref a), .val (.long i), .second, .val (.long t), .second] [(.ref a)])) rfl (hb hby d1_5) (by decide) (by decide)
  obtain ⟨b2, g2⟩ : ∃ z, z = h0.size := ⟨_, rfl⟩
  rw [← g2] at A2 D2 st2
  have ne_a_b2 : a ≠ b2 := by rw [g2]; exact Nat.ne_of_lt Ea.lt
  have n0_b2 : n0 ≤ b2 := by rw [g2]; exact Z0
  have sz_b2 : h0.size ≤ b2 := by rw [g2]; exact (Keep.refl h0 [a]).1
  have K2 := (Keep.refl h0 [a]).ext E2
  have Zs2 := Nat.le_trans Z0 E2.1
  have F_buf_b2 : Fld Z h2 b2 "java/io/ByteArrayOutputStream" "buf" "[B" .null := D2 (Or.inl (wAt hw 28 rfl)) (ty := (.array .byte)) (by decide)
  refine Done.step st2 ?_
  show Done p e below s _ _ (T2.setTop (mkF m 8 #[.val (.ref a), .val (.long i), .second, .val (.long t), .second] [(.ref b2), (.ref a)]))
  refine Done.step (fun _ => XS.dup X2.here hx rfl (hb hby d1_8) rfl rfl) ?_
  show Done p e below s _ _ (T2.setTop (mkF m 9 #[.val (.ref a), .val (.long i), .second, .val (.long t), .second] [(.ref b2), (.ref b2), (.ref a)]))
  refine Done.callI X2 hx hZ rfl hown (wAt hw 12 rfl) (wAt hw 13 rfl) (wAt hw 11 rfl) (wAt hw 14 rfl) (by decide) (rmB0 l Z a0 hw [] b2 h2 n0 Zs2 A2 F_buf_b2 n0_b2) e2 (g := (mkF m 9 #[.val (.ref a), .val (.long i), .second, .val (.long t), .second] [(.ref b2), (.ref b2), (.ref a)])) rfl (by rw [hml]; rfl) b2 [] [(.ref b2), (.ref a)] 2 (lenOf pd_0 rfl) rfl rfl (by show 2 * 0 + _ ≤ _; exact Nat.le_of_eq rfl) (hb hby d1_9) (by decide) (by decide) (by decide) (by decide) ?_
  intro T3 v3 L3 X3 q3
  obtain ⟨rfl, Nq3, K3q⟩ := q3
  have N3 := Fr.app N0 Nq3
  have Zs3 := Nat.le_trans Zs2 K3q.1
  have K3 := K2.trans K3q (allS (Or.inr sz_b2) all0)
  show Done p e below s _ _ (T3.setTop (mkF m 12 #[.val (.ref a), .val (.long i), .second, .val (.long t), .second] [(.ref b2), (.ref a)]))
  obtain ⟨T4, h4, X4, e4, W4, st4⟩ := putF X3 hx hZ hown (host := "") (Or.inl (wAt hw 29 rfl)) Via.refl rfl ((F_m_bytes.ext E2).keep K3q (ninS ne_a_b2 nin0)) ((Ea.ext E2).keep K3q) (Or.inr ⟨(wAt hw 30 rfl), rfl, hnm⟩) (wAt hw 1 rfl) (ty := (.object "java/io/ByteArrayOutputStream")) (by decide) rfl rfl (g := (mkF m 12 #[.val (.ref a), .val (.long i), .second, .val (.long t), .second] [(.ref b2), (.ref a)])) rfl rfl (hb hby d1_12)
  have F4 := ((F_m_bytes.ext E2).keep K3q (ninS ne_a_b2 nin0)).same W4
  have N4 := Fr.snoc X4 N3 ga
  have Zs4 := Nat.le_trans Zs3 (Keep.of_wr W4).1
  have K4 := K3.wr W4 (Or.inl (List.mem_of_getElem? (i := 0) rfl))
  refine Done.step st4 ?_
  show Done p e below s _ _ (T4.setTop (mkF m 15 #[.val (.ref a), .val (.long i), .second, .val (.long t), .second] []))
  refine Done.step (fun _ => XS.aloadN X4.here hx rfl (hb hby d1_15) rfl rfl) ?_
  show Done p e below s _ _ (T4.setTop (mkF m 16 #[.val (.ref a), .val (.long i), .second, .val (.long t), .second] [(.ref a)]))
  refine Done.step (fun _ => XT.lloadN X4.here hx rfl (hb hby d1_16) rfl) ?_
  show Done p e below s _ _ (T4.setTop (mkF m 17 #[.val (.ref a), .val (.long i), .second, .val (.long t), .second] [(.long i), (.ref a)]))
  obtain ⟨T5, h5, X5, e5, W5, st5⟩ := putF X4 hx hZ hown (host := "") (Or.inl (wAt hw 31 rfl)) Via.refl e4 (((F_m_index.ext E2).keep K3q (ninS ne_a_b2 nin0)).other W4 (Or.inr (slot_ne (Or.inr (wAt hw 32 rfl)) (Or.inr (wAt hw 30 rfl)) (by decide) (t := .long) (t' := (.object "java/io/ByteArrayOutputStream")) (by decide) (by decide)))) (((Ea.ext E2).keep K3q).wr W4) (Or.inr ⟨(wAt hw 32 rfl), rfl, hnm⟩) (wAt hw 1 rfl) (ty := .long) (by decide) rfl rfl (g := (mkF m 17 #[.val (.ref a), .val (.long i), .second, .val (.long t), .second] [(.long i), (.ref a)])) rfl rfl (hb hby d1_17)
  have F5 := (((F_m_index.ext E2).keep K3q (ninS ne_a_b2 nin0)).other W4 (Or.inr (slot_ne (Or.inr (wAt hw 32 rfl)) (Or.inr (wAt hw 30 rfl)) (by decide) (t := .long) (t' := (.object "java/io/ByteArrayOutputStream")) (by decide) (by decide)))).same W5
  have N5 := Fr.snoc X5 N4 ga
  have Zs5 := Nat.le_trans Zs4 (Keep.of_wr W5).1
  have K5 := K4.wr W5 (Or.inl (List.mem_of_getElem? (i := 0) rfl))
  refine Done.step st5 ?_
  show Done p e below s _ _ (T5.setTop (mkF m 20 #[.val (.ref a), .val (.long i), .second, .val (.long t), .second] []))
  refine Done.step (fun _ => XS.aloadN X5.here hx rfl (hb hby d1_20) rfl rfl) ?_
  show Done p e below s _ _ (T5.setTop (mkF m 21 #[.val (.ref a), .val (.long i), .second, .val (.long t), .second] [(.ref a)]))
  refine Done.step (fun _ => XT.lloadN X5.here hx rfl (hb hby d1_21) rfl) ?_
  show Done p e below s _ _ (T5.setTop (mkF m 22 #[.val (.ref a), .val (.long i), .second, .val (.long t), .second] [(.long t), (.ref a)]))
  obtain ⟨T6, h6, X6, e6, W6, st6⟩ := putF X5 hx hZ hown (host := "") (Or.inl (wAt hw 33 rfl)) Via.refl e5 ((((F_m_term.ext E2).keep K3q (ninS ne_a_b2 nin0)).other W4 (Or.inr (slot_ne (Or.inr (wAt hw 34 rfl)) (Or.inr (wAt hw 30 rfl)) (by decide) (t := .long) (t' := (.object "java/io/ByteArrayOutputStream")) (by decide) (by decide)))).other W5 (Or.inr (slot_ne (Or.inr (wAt hw 34 rfl)) (Or.inr (wAt hw 32 rfl)) (by decide) (t := .long) (t' := .long) (by decide) (by decide)))) ((((Ea.ext E2).keep K3q).wr W4).wr W5) (Or.inr ⟨(wAt hw 34 rfl), rfl, hnm⟩) (wAt hw 1 rfl) (ty := .long) (by decide) rfl rfl (g := (mkF m 22 #[.val (.ref a), .val (.long i), .second, .val (.long t), .second] [(.long t), (.ref a)])) rfl rfl (hb hby d1_22)
  have F6 := ((((F_m_term.ext E2).keep K3q (ninS ne_a_b2 nin0)).other W4 (Or.inr (slot_ne (Or.inr (wAt hw 34 rfl)) (Or.inr (wAt hw 30 rfl)) (by decide) (t := .long) (t' := (.object "java/io/ByteArrayOutputStream")) (by decide) (by decide)))).other W5 (Or.inr (slot_ne (Or.inr (wAt hw 34 rfl)) (Or.inr (wAt hw 32 rfl)) (by decide) (t := .long) (t' := .long) (by decide) (by decide)))).same W6
  have N6 := Fr.snoc X6 N5 ga
  have Zs6 := Nat.le_trans Zs5 (Keep.of_wr W6).1
  have K6 := K5.wr W6 (Or.inl (List.mem_of_getElem? (i := 0) rfl))
  refine Done.step st6 ?_
  show Done p e below s _ _ (T6.setTop (mkF m 25 #[.val (.ref a), .val (.long i), .second, .val (.long t), .second] []))
  refine Done.retV X6 hx hlk hret (hb hby d1_25) (by decide) (by decide) ?_
  rw [e6]
  exact ⟨rfl, N6, K6, (((((Ea.ext E2).keep K3q).wr W4).wr W5).wr W6), (F5.other W6 (Or.inr (slot_ne (Or.inr (wAt hw 32 rfl)) (Or.inr (wAt hw 34 rfl)) (by decide) (t := .long) (t' := .long) (by decide) (by decide)))), F6⟩
theorem d6_0 : decode prog_57_method_2_code 0 = .ok (.aload_n 0, 1) := by decide +kernel
theorem d6_1 : decode prog_57_method_2_code 1 = .ok (.getfield 16, 3) := by decide +kernel
theorem d6_4 : decode prog_57_method_2_code 4 = .ok (.lload_n 1, 1) := by decide +kernel
theorem d6_5 : decode prog_57_method_2_code 5 = .ok (.lcmp, 1) := by decide +kernel
theorem d6_6 : decode prog_57_method_2_code 6 = .ok (.ifCond .ne 16, 3) := by decide +kernel
theorem d6_9 : decode prog_57_method_2_code 9 = .ok (.aload_n 0, 1) := by decide +kernel
theorem d6_10 : decode prog_57_method_2_code 10 = .ok (.getfield 20, 3) := by decide +kernel
theorem d6_13 : decode prog_57_method_2_code 13 = .ok (.lload_n 3, 1) := by decide +kernel
theorem d6_14 : decode prog_57_method_2_code 14 = .ok (.lcmp, 1) := by decide +kernel
theorem d6_15 : decode prog_57_method_2_code 15 = .ok (.ifCond .ne 7, 3) := by decide +kernel
theorem d6_18 : decode prog_57_method_2_code 18 = .ok (.iconst 1, 1) := by decide +kernel
theorem d6_19 : decode prog_57_method_2_code 19 = .ok (.goto 4, 3) := by decide +kernel
theorem d6_23 : decode prog_57_method_2_code 23 = .ok (.ireturn, 1) := by decide +kernel
theorem d6_22 : decode prog_57_method_2_code 22 = .ok (.iconst 0, 1) := by decide +kernel
set_option maxRecDepth 65536 in
set_option maxHeartbeats 40000000 in
theorem rmO (l : Launch) (Z : State) (a0 : Array Value) (hw : ∀ d ∈ tables_1, d.before a0 Z = true) (ws : List Jvm.Cond) (a : Addr) (q u i t : Int64) (r : Int32) (h0 : Heap) (n0 : Nat) (Z0 : n0 ≤ h0.size) (F_m_index : Fld Z h0 a "com/example/minho/minho/server/Snapshot$Incoming" "m_index" "J" (.long i)) (F_m_term : Fld Z h0 a "com/example/minho/minho/server/Snapshot$Incoming" "m_term" "J" (.long t)) (hr : r = bP (i = q ∧ t = u)) :
    Ctr l Z (⟨"com/example/minho/minho/server/Snapshot$Incoming", "isOf", "(JJ)Z"⟩ : MethodName) prog_57_method_2_code 5 (some .boolean) ws ({ frames := 0, cells := 0, slots := 0, locals := 0 } : Room) #[(.ref a), (.long q), (.long u)] h0 (PureQ (some (.int r)) h0) := by
  refine Ctr.intro (plainFor_of_name pn_com_example_minho_minho_server_Snapshot_Incoming) (Ls := #[.val (.ref a), .val (.long q), .second, .val (.long u), .second]) (fun m => by first | (simp [entryFrame, mkF, argsToLocals, Value.category]; done) | rfl) ?_
  intro p e s m below meth c T0 hx hby hml hown hnm hret hlk hZ e0 X0
  have N0 := Fr.nil n0
  show Done p e below s _ _ (T0.setTop (mkF m 0 #[.val (.ref a), .val (.long q), .second, .val (.long u), .second] []))
  refine Done.step (fun _ => XS.aloadN X0.here hx rfl (hb hby d6_0) rfl rfl) ?_
  show Done p e below s _ _ (T0.setTop (mkF m 1 #[.val (.ref a), .val (.long q), .second, .val (.long u), .second] [(.ref a)]))
  obtain ⟨T1, X1, e1, st1⟩ := getF X0 hx hZ hown (host := "") (Or.inl (wAt hw 31 rfl)) Via.refl e0 F_m_index (g := (mkF m 1 #[.val (.ref a), .val (.long q), .second, .val (.long u), .second] [(.ref a)])) rfl rfl (hb hby d6_1)
  refine Done.step st1 ?_
  show Done p e below s _ _ (T1.setTop (mkF m 4 #[.val (.ref a), .val (.long q), .second, .val (.long u), .second] [(.long i)]))
  refine Done.step (fun _ => XT.lloadN X1.here hx rfl (hb hby d6_4) rfl) ?_
  show Done p e below s _ _ (T1.setTop (mkF m 5 #[.val (.ref a), .val (.long q), .second, .val (.long u), .second] [(.long q), (.long i)]))
  refine Done.step (fun _ => XT.lcmp X1.here hx rfl (hb hby d6_5) rfl) ?_
  show Done p e below s _ _ (T1.setTop (mkF m 6 #[.val (.ref a), .val (.long q), .second, .val (.long u), .second] [(.int (XT.cmpL i q))]))
  by_cases hc2 : i = q
  · refine Done.step (fun _ => XS.ifNo X1.here hx rfl (hb hby d6_6) rfl (XT.ll_ne_f hc2)) ?_
    show Done p e below s _ _ (T1.setTop (mkF m 9 #[.val (.ref a), .val (.long q), .second, .val (.long u), .second] []))
    refine Done.step (fun _ => XS.aloadN X1.here hx rfl (hb hby d6_9) rfl rfl) ?_
    show Done p e below s _ _ (T1.setTop (mkF m 10 #[.val (.ref a), .val (.long q), .second, .val (.long u), .second] [(.ref a)]))
    obtain ⟨T3, X3, e3, st3⟩ := getF X1 hx hZ hown (host := "") (Or.inl (wAt hw 33 rfl)) Via.refl e1 F_m_term (g := (mkF m 10 #[.val (.ref a), .val (.long q), .second, .val (.long u), .second] [(.ref a)])) rfl rfl (hb hby d6_10)
    refine Done.step st3 ?_
    show Done p e below s _ _ (T3.setTop (mkF m 13 #[.val (.ref a), .val (.long q), .second, .val (.long u), .second] [(.long t)]))
    refine Done.step (fun _ => XT.lloadN X3.here hx rfl (hb hby d6_13) rfl) ?_
    show Done p e below s _ _ (T3.setTop (mkF m 14 #[.val (.ref a), .val (.long q), .second, .val (.long u), .second] [(.long u), (.long t)]))
    refine Done.step (fun _ => XT.lcmp X3.here hx rfl (hb hby d6_14) rfl) ?_
    show Done p e below s _ _ (T3.setTop (mkF m 15 #[.val (.ref a), .val (.long q), .second, .val (.long u), .second] [(.int (XT.cmpL t u))]))
    by_cases hc4 : t = u
    · refine Done.step (fun _ => XS.ifNo X3.here hx rfl (hb hby d6_15) rfl (XT.ll_ne_f hc4)) ?_
      show Done p e below s _ _ (T3.setTop (mkF m 18 #[.val (.ref a), .val (.long q), .second, .val (.long u), .second] []))
      refine Done.step (fun _ => XT.iconstV X3.here hx rfl (1 : Int32) (hb hby d6_18) (by decide)) ?_
      show Done p e below s _ _ (T3.setTop (mkF m 19 #[.val (.ref a), .val (.long q), .second, .val (.long u), .second] [(.int (1 : Int32))]))
      refine Done.step (fun _ => XS.goto X3.here hx rfl (pc0 := 19) (pc' := 23) rfl (hb hby d6_19) (by decide) (by decide)) ?_
      show Done p e below s _ _ (T3.setTop (mkF m 23 #[.val (.ref a), .val (.long q), .second, .val (.long u), .second] [(.int (1 : Int32))]))
      exact Done.retN X3 hx hlk (t := .boolean) hret (by simp) (hb hby d6_23) (by decide) (by decide) ⟨by rw [hr, bP_t ⟨hc2, hc4⟩]; rfl, e3, rfl⟩
    · refine Done.step (fun _ => XS.ifYes X3.here hx rfl (pc0 := 15) (pc' := 22) rfl (hb hby d6_15) rfl (XT.ll_ne_t hc4) (by decide) (by decide)) ?_
      show Done p e below s _ _ (T3.setTop (mkF m 22 #[.val (.ref a), .val (.long q), .second, .val (.long u), .second] []))
      refine Done.step (fun _ => XT.iconstV X3.here hx rfl (0 : Int32) (hb hby d6_22) (by decide)) ?_
      show Done p e below s _ _ (T3.setTop (mkF m 23 #[.val (.ref a), .val (.long q), .second, .val (.long u), .second] [(.int (0 : Int32))]))
      exact Done.retN X3 hx hlk (t := .boolean) hret (by simp) (hb hby d6_23) (by decide) (by decide) ⟨by rw [hr, bP_f (fun q => hc4 q.2)]; rfl, e3, rfl⟩
  · refine Done.step (fun _ => XS.ifYes X1.here hx rfl (pc0 := 6) (pc' := 22) rfl (hb hby d6_6) rfl (XT.ll_ne_t hc2) (by decide) (by decide)) ?_
    show Done p e below s _ _ (T1.setTop (mkF m 22 #[.val (.ref a), .val (.long q), .second, .val (.long u), .second] []))
    refine Done.step (fun _ => XT.iconstV X1.here hx rfl (0 : Int32) (hb hby d6_22) (by decide)) ?_
    show Done p e below s _ _ (T1.setTop (mkF m 23 #[.val (.ref a), .val (.long q), .second, .val (.long u), .second] [(.int (0 : Int32))]))
    exact Done.retN X1 hx hlk (t := .boolean) hret (by simp) (hb hby d6_23) (by decide) (by decide) ⟨by rw [hr, bP_f (fun q => hc2 q.1)]; rfl, e1, rfl⟩
theorem pn_com_example_minho_minho_server_IncomingIsOfPinLaw : plainName "com/example/minho/minho/server/IncomingIsOfPinLaw" = true := by first | (simp [plainName, overriddenIn]; done) | decide +kernel
theorem pd_2 : parseMethodDescriptor "(JJ)V" = some ⟨[.long, .long], none⟩ := by decide +kernel
theorem pd_3 : parseMethodDescriptor "(JJ)Z" = some ⟨[.long, .long], some .boolean⟩ := by decide +kernel
set_option maxRecDepth 65536 in
set_option maxHeartbeats 40000000 in
theorem rm0 (l : Launch) (Z : State) (a0 : Array Value) (hw : ∀ d ∈ tables_1, d.before a0 Z = true) (ws : List Jvm.Cond) (i t oi ot : Int64) (md : Int32) (h0 : Heap) (n0 : Nat) (Z0 : n0 ≤ h0.size)  :
    Ctr l Z x code maxLocals ret ws room_1 #[(.long i), (.long t), (.long oi), (.long ot), (.int md)] h0 (LawQ n0) := by
  refine Ctr.intro (plainFor_of_name pn_com_example_minho_minho_server_IncomingIsOfPinLaw) (Ls := #[.val (.long i), .second, .val (.long t), .second, .val (.long oi), .second, .val (.long ot), .second, .val (.int md), .unset, .unset, .unset, .unset, .unset, .unset, .unset, .unset]) (fun m => by first | (simp [entryFrame, mkF, argsToLocals, Value.category, maxLocals]; done) | rfl) ?_
  intro p e s m below meth c T0 hx hby hml hown hnm hret hlk hZ e0 X0
  have N0 := Fr.nil n0
  have hown : s.vm.findClass "com/example/minho/minho/server/IncomingIsOfPinLaw" = some m.cls := hown
  have hret : meth.sig.returnType = (some .boolean) := hret
  have hml : c.maxLocals = 17 := hml
  show Done p e below s _ _ (T0.setTop (mkF m 0 #[.val (.long i), .second, .val (.long t), .second, .val (.long oi), .second, .val (.long ot), .second, .val (.int md), .unset, .unset, .unset, .unset, .unset, .unset, .unset, .unset] []))
  obtain ⟨T1, h1, X1, e1, E1, A1, D1, -, st1⟩ := newO X0 hx hZ hown (wAt hw 0 rfl) (wAt hw 1 rfl) (wAt hw 2 rfl) e0 (g := (mkF m 0 #[.val (.long i), .second, .val (.long t), .second, .val (.long oi), .second, .val (.long ot), .second, .val (.int md), .unset, .unset, .unset, .unset, .unset, .unset, .unset, .unset] [])) rfl (hb hby at_0) (by decide) (by decide)
  obtain ⟨b1, g1⟩ : ∃ z, z = h0.size := ⟨_, rfl⟩
  rw [← g1] at A1 D1 st1
  have n0_b1 : n0 ≤ b1 := by rw [g1]; exact Z0
  have Zs1 := Nat.le_trans Z0 E1.1
  have F_m_bytes_b1 : Fld Z h1 b1 "com/example/minho/minho/server/Snapshot$Incoming" "m_bytes" "Ljava/io/ByteArrayOutputStream;" .null := D1 (Or.inr (wAt hw 30 rfl)) (ty := (.object "java/io/ByteArrayOutputStream")) (by decide)
  have F_m_index_b1 : Fld Z h1 b1 "com/example/minho/minho/server/Snapshot$Incoming" "m_index" "J" (.long (0 : Int64)) := D1 (Or.inr (wAt hw 32 rfl)) (ty := .long) (by decide)
  have F_m_term_b1 : Fld Z h1 b1 "com/example/minho/minho/server/Snapshot$Incoming" "m_term" "J" (.long (0 : Int64)) := D1 (Or.inr (wAt hw 34 rfl)) (ty := .long) (by decide)
  refine Done.step st1 ?_
  show Done p e below s _ _ (T1.setTop (mkF m 3 #[.val (.long i), .second, .val (.long t), .second, .val (.long oi), .second, .val (.long ot), .second, .val (.int md), .unset, .unset, .unset, .unset, .unset, .unset, .unset, .unset] [(.ref b1)]))
  refine Done.step (fun _ => XS.dup X1.here hx rfl (hb hby at_3) rfl rfl) ?_
  show Done p e below s _ _ (T1.setTop (mkF m 4 #[.val (.long i), .second, .val (.long t), .second, .val (.long oi), .second, .val (.long ot), .second, .val (.int md), .unset, .unset, .unset, .unset, .unset, .unset, .unset, .unset] [(.ref b1), (.ref b1)]))
  refine Done.step (fun _ => XT.lloadN X1.here hx rfl (hb hby at_4) rfl) ?_
  show Done p e below s _ _ (T1.setTop (mkF m 5 #[.val (.long i), .second, .val (.long t), .second, .val (.long oi), .second, .val (.long ot), .second, .val (.int md), .unset, .unset, .unset, .unset, .unset, .unset, .unset, .unset] [(.long i), (.ref b1), (.ref b1)]))
  refine Done.step (fun _ => XT.lloadN X1.here hx rfl (hb hby at_5) rfl) ?_
  show Done p e below s _ _ (T1.setTop (mkF m 6 #[.val (.long i), .second, .val (.long t), .second, .val (.long oi), .second, .val (.long ot), .second, .val (.int md), .unset, .unset, .unset, .unset, .unset, .unset, .unset, .unset] [(.long t), (.long i), (.ref b1), (.ref b1)]))
  refine Done.callI X1 hx hZ rfl hown (wAt hw 3 rfl) (wAt hw 4 rfl) (wAt hw 2 rfl) (wAt hw 5 rfl) (by decide) (rmI l Z a0 hw [] b1 i t h1 n0 Zs1 A1 F_m_bytes_b1 F_m_index_b1 F_m_term_b1 n0_b1) e1 (g := (mkF m 6 #[.val (.long i), .second, .val (.long t), .second, .val (.long oi), .second, .val (.long ot), .second, .val (.int md), .unset, .unset, .unset, .unset, .unset, .unset, .unset, .unset] [(.long t), (.long i), (.ref b1), (.ref b1)])) rfl (by rw [hml]; rfl) b1 [(.long i), (.long t)] [(.ref b1)] 1 (lenOf pd_2 rfl) rfl rfl (by show 2 * 0 + _ ≤ _; exact Nat.le_of_eq rfl) (hb hby at_6) (by decide) (by decide) (by decide) (by decide) ?_
  intro T2 v2 L2 X2 q2
  obtain ⟨rfl, Nq2, K2q, f2_0, f2_1, f2_2⟩ := q2
  have N2 := Fr.app N0 Nq2
  have Zs2 := Nat.le_trans Zs1 K2q.1
  show Done p e below s _ _ (T2.setTop (mkF m 9 #[.val (.long i), .second, .val (.long t), .second, .val (.long oi), .second, .val (.long ot), .second, .val (.int md), .unset, .unset, .unset, .unset, .unset, .unset, .unset, .unset] [(.ref b1)]))
  refine Done.step (fun _ => XS.astore X2.here hx rfl (hb hby at_9) rfl rfl (l' := #[.val (.long i), .second, .val (.long t), .second, .val (.long oi), .second, .val (.long ot), .second, .val (.int md), .val (.ref b1), .unset, .unset, .unset, .unset, .unset, .unset, .unset]) rfl) ?_
  show Done p e below s _ _ (T2.setTop (mkF m 11 #[.val (.long i), .second, .val (.long t), .second, .val (.long oi), .second, .val (.long ot), .second, .val (.int md), .val (.ref b1), .unset, .unset, .unset, .unset, .unset, .unset, .unset] []))
  have K41 : ∀ (qi qt : Int64), Done p e below s room_1 (LawQ n0) (T2.setTop (mkF m 41 #[.val (.long i), .second, .val (.long t), .second, .val (.long oi), .second, .val (.long ot), .second, .val (.int md), .val (.ref b1), .val (.long qi), .second, .val (.long qt), .second, .unset, .unset, .unset] [])) := by
    intro qi qt
    show Done p e below s _ _ (T2.setTop (mkF m 41 #[.val (.long i), .second, .val (.long t), .second, .val (.long oi), .second, .val (.long ot), .second, .val (.int md), .val (.ref b1), .val (.long qi), .second, .val (.long qt), .second, .unset, .unset, .unset] []))
    refine Done.step (fun _ => XT.lload X2.here hx rfl (hb hby at_41) rfl) ?_
    show Done p e below s _ _ (T2.setTop (mkF m 43 #[.val (.long i), .second, .val (.long t), .second, .val (.long oi), .second, .val (.long ot), .second, .val (.int md), .val (.ref b1), .val (.long qi), .second, .val (.long qt), .second, .unset, .unset, .unset] [(.long qi)]))
    refine Done.step (fun _ => XT.lloadN X2.here hx rfl (hb hby at_43) rfl) ?_
    show Done p e below s _ _ (T2.setTop (mkF m 44 #[.val (.long i), .second, .val (.long t), .second, .val (.long oi), .second, .val (.long ot), .second, .val (.int md), .val (.ref b1), .val (.long qi), .second, .val (.long qt), .second, .unset, .unset, .unset] [(.long i), (.long qi)]))
    refine Done.step (fun _ => XT.lxor X2.here hx rfl (hb hby at_44) rfl) ?_
    show Done p e below s _ _ (T2.setTop (mkF m 45 #[.val (.long i), .second, .val (.long t), .second, .val (.long oi), .second, .val (.long ot), .second, .val (.int md), .val (.ref b1), .val (.long qi), .second, .val (.long qt), .second, .unset, .unset, .unset] [(.long (qi ^^^ i))]))
    refine Done.step (fun _ => XT.lload X2.here hx rfl (hb hby at_45) rfl) ?_
    show Done p e below s _ _ (T2.setTop (mkF m 47 #[.val (.long i), .second, .val (.long t), .second, .val (.long oi), .second, .val (.long ot), .second, .val (.int md), .val (.ref b1), .val (.long qi), .second, .val (.long qt), .second, .unset, .unset, .unset] [(.long qt), (.long (qi ^^^ i))]))
    refine Done.step (fun _ => XT.lloadN X2.here hx rfl (hb hby at_47) rfl) ?_
    show Done p e below s _ _ (T2.setTop (mkF m 48 #[.val (.long i), .second, .val (.long t), .second, .val (.long oi), .second, .val (.long ot), .second, .val (.int md), .val (.ref b1), .val (.long qi), .second, .val (.long qt), .second, .unset, .unset, .unset] [(.long t), (.long qt), (.long (qi ^^^ i))]))
    refine Done.step (fun _ => XT.lxor X2.here hx rfl (hb hby at_48) rfl) ?_
    show Done p e below s _ _ (T2.setTop (mkF m 49 #[.val (.long i), .second, .val (.long t), .second, .val (.long oi), .second, .val (.long ot), .second, .val (.int md), .val (.ref b1), .val (.long qi), .second, .val (.long qt), .second, .unset, .unset, .unset] [(.long (qt ^^^ t)), (.long (qi ^^^ i))]))
    refine Done.step (fun _ => XT.lor X2.here hx rfl (hb hby at_49) rfl) ?_
    show Done p e below s _ _ (T2.setTop (mkF m 50 #[.val (.long i), .second, .val (.long t), .second, .val (.long oi), .second, .val (.long ot), .second, .val (.int md), .val (.ref b1), .val (.long qi), .second, .val (.long qt), .second, .unset, .unset, .unset] [(.long ((qi ^^^ i) ||| (qt ^^^ t)))]))
    refine Done.step (fun _ => XT.lconstV X2.here hx rfl (0 : Int64) (hb hby at_50) (by decide)) ?_
    show Done p e below s _ _ (T2.setTop (mkF m 51 #[.val (.long i), .second, .val (.long t), .second, .val (.long oi), .second, .val (.long ot), .second, .val (.int md), .val (.ref b1), .val (.long qi), .second, .val (.long qt), .second, .unset, .unset, .unset] [(.long (0 : Int64)), (.long ((qi ^^^ i) ||| (qt ^^^ t)))]))
    refine Done.step (fun _ => XT.lcmp X2.here hx rfl (hb hby at_51) rfl) ?_
    show Done p e below s _ _ (T2.setTop (mkF m 52 #[.val (.long i), .second, .val (.long t), .second, .val (.long oi), .second, .val (.long ot), .second, .val (.int md), .val (.ref b1), .val (.long qi), .second, .val (.long qt), .second, .unset, .unset, .unset] [(.int (XT.cmpL ((qi ^^^ i) ||| (qt ^^^ t)) (0 : Int64)))]))
    by_cases hc3 : ((qi ^^^ i) ||| (qt ^^^ t)) = (0 : Int64)
    · refine Done.step (fun _ => XS.ifNo X2.here hx rfl (hb hby at_52) rfl (XT.ll_ne_f hc3)) ?_
      show Done p e below s _ _ (T2.setTop (mkF m 55 #[.val (.long i), .second, .val (.long t), .second, .val (.long oi), .second, .val (.long ot), .second, .val (.int md), .val (.ref b1), .val (.long qi), .second, .val (.long qt), .second, .unset, .unset, .unset] []))
      refine Done.step (fun _ => XT.iconstV X2.here hx rfl (1 : Int32) (hb hby at_55) (by decide)) ?_
      show Done p e below s _ _ (T2.setTop (mkF m 56 #[.val (.long i), .second, .val (.long t), .second, .val (.long oi), .second, .val (.long ot), .second, .val (.int md), .val (.ref b1), .val (.long qi), .second, .val (.long qt), .second, .unset, .unset, .unset] [(.int (1 : Int32))]))
      refine Done.step (fun _ => XS.goto X2.here hx rfl (pc0 := 56) (pc' := 60) rfl (hb hby at_56) (by decide) (by decide)) ?_
      show Done p e below s _ _ (T2.setTop (mkF m 60 #[.val (.long i), .second, .val (.long t), .second, .val (.long oi), .second, .val (.long ot), .second, .val (.int md), .val (.ref b1), .val (.long qi), .second, .val (.long qt), .second, .unset, .unset, .unset] [(.int (1 : Int32))]))
      refine Done.step (fun _ => XS.istore X2.here hx rfl (hb hby at_60) rfl (l' := #[.val (.long i), .second, .val (.long t), .second, .val (.long oi), .second, .val (.long ot), .second, .val (.int md), .val (.ref b1), .val (.long qi), .second, .val (.long qt), .second, .val (.int (1 : Int32)), .unset, .unset]) rfl) ?_
      show Done p e below s _ _ (T2.setTop (mkF m 62 #[.val (.long i), .second, .val (.long t), .second, .val (.long oi), .second, .val (.long ot), .second, .val (.int md), .val (.ref b1), .val (.long qi), .second, .val (.long qt), .second, .val (.int (1 : Int32)), .unset, .unset] []))
      refine Done.step (fun _ => XS.aload X2.here hx rfl (hb hby at_62) rfl rfl) ?_
      show Done p e below s _ _ (T2.setTop (mkF m 64 #[.val (.long i), .second, .val (.long t), .second, .val (.long oi), .second, .val (.long ot), .second, .val (.int md), .val (.ref b1), .val (.long qi), .second, .val (.long qt), .second, .val (.int (1 : Int32)), .unset, .unset] [(.ref b1)]))
      refine Done.step (fun _ => XT.lload X2.here hx rfl (hb hby at_64) rfl) ?_
      show Done p e below s _ _ (T2.setTop (mkF m 66 #[.val (.long i), .second, .val (.long t), .second, .val (.long oi), .second, .val (.long ot), .second, .val (.int md), .val (.ref b1), .val (.long qi), .second, .val (.long qt), .second, .val (.int (1 : Int32)), .unset, .unset] [(.long qi), (.ref b1)]))
      refine Done.step (fun _ => XT.lload X2.here hx rfl (hb hby at_66) rfl) ?_
      show Done p e below s _ _ (T2.setTop (mkF m 68 #[.val (.long i), .second, .val (.long t), .second, .val (.long oi), .second, .val (.long ot), .second, .val (.int md), .val (.ref b1), .val (.long qi), .second, .val (.long qt), .second, .val (.int (1 : Int32)), .unset, .unset] [(.long qt), (.long qi), (.ref b1)]))
      refine Done.callVP X2 hx hZ (C := "com/example/minho/minho/server/Snapshot$Incoming") hown (wAt hw 35 rfl) (wAt hw 36 rfl) (notFace_of_selects (args := #[]) (mvT hZ (wAt hw 38 rfl))) (wAt hw 38 rfl) (wAt hw 37 rfl) (wAt hw 2 rfl) (wAt hw 39 rfl) (by decide) (rmO l Z a0 hw [] b1 qi qt i t (1 : Int32) T2.heap n0 Zs2 f2_1 f2_2 (bP_t ((own_xor qi i qt t).mp hc3)).symm) rfl f2_0 (g := (mkF m 68 #[.val (.long i), .second, .val (.long t), .second, .val (.long oi), .second, .val (.long ot), .second, .val (.int md), .val (.ref b1), .val (.long qi), .second, .val (.long qt), .second, .val (.int (1 : Int32)), .unset, .unset] [(.long qt), (.long qi), (.ref b1)])) rfl (by rw [hml]; rfl) [(.long qi), (.long qt)] [] 0 (lenOf pd_3 rfl) rfl rfl (by show 2 * 0 + _ ≤ _; exact Nat.le_of_eq rfl) (hb hby at_68) (by decide) (by decide) (by decide) (by decide) rfl rfl ?_
      intro T4 X4 e4
      show Done p e below s _ _ (T4.setTop (mkF m 71 #[.val (.long i), .second, .val (.long t), .second, .val (.long oi), .second, .val (.long ot), .second, .val (.int md), .val (.ref b1), .val (.long qi), .second, .val (.long qt), .second, .val (.int (1 : Int32)), .unset, .unset] [(.int (1 : Int32))]))
      refine Done.step (fun _ => XS.istore X4.here hx rfl (hb hby at_71) rfl (l' := #[.val (.long i), .second, .val (.long t), .second, .val (.long oi), .second, .val (.long ot), .second, .val (.int md), .val (.ref b1), .val (.long qi), .second, .val (.long qt), .second, .val (.int (1 : Int32)), .val (.int (1 : Int32)), .unset]) rfl) ?_
      show Done p e below s _ _ (T4.setTop (mkF m 73 #[.val (.long i), .second, .val (.long t), .second, .val (.long oi), .second, .val (.long ot), .second, .val (.int md), .val (.ref b1), .val (.long qi), .second, .val (.long qt), .second, .val (.int (1 : Int32)), .val (.int (1 : Int32)), .unset] []))
      refine Done.step (fun _ => XS.aload X4.here hx rfl (hb hby at_73) rfl rfl) ?_
      show Done p e below s _ _ (T4.setTop (mkF m 75 #[.val (.long i), .second, .val (.long t), .second, .val (.long oi), .second, .val (.long ot), .second, .val (.int md), .val (.ref b1), .val (.long qi), .second, .val (.long qt), .second, .val (.int (1 : Int32)), .val (.int (1 : Int32)), .unset] [(.ref b1)]))
      refine Done.step (fun _ => XT.lloadN X4.here hx rfl (hb hby at_75) rfl) ?_
      show Done p e below s _ _ (T4.setTop (mkF m 76 #[.val (.long i), .second, .val (.long t), .second, .val (.long oi), .second, .val (.long ot), .second, .val (.int md), .val (.ref b1), .val (.long qi), .second, .val (.long qt), .second, .val (.int (1 : Int32)), .val (.int (1 : Int32)), .unset] [(.long i), (.ref b1)]))
      refine Done.step (fun _ => XT.lloadN X4.here hx rfl (hb hby at_76) rfl) ?_
      show Done p e below s _ _ (T4.setTop (mkF m 77 #[.val (.long i), .second, .val (.long t), .second, .val (.long oi), .second, .val (.long ot), .second, .val (.int md), .val (.ref b1), .val (.long qi), .second, .val (.long qt), .second, .val (.int (1 : Int32)), .val (.int (1 : Int32)), .unset] [(.long t), (.long i), (.ref b1)]))
      refine Done.callVP X4 hx hZ (C := "com/example/minho/minho/server/Snapshot$Incoming") hown (wAt hw 35 rfl) (wAt hw 36 rfl) (notFace_of_selects (args := #[]) (mvT hZ (wAt hw 38 rfl))) (wAt hw 38 rfl) (wAt hw 37 rfl) (wAt hw 2 rfl) (wAt hw 39 rfl) (by decide) (rmO l Z a0 hw [] b1 i t i t (1 : Int32) T2.heap n0 Zs2 f2_1 f2_2 (bP_t ⟨rfl, rfl⟩).symm) e4 f2_0 (g := (mkF m 77 #[.val (.long i), .second, .val (.long t), .second, .val (.long oi), .second, .val (.long ot), .second, .val (.int md), .val (.ref b1), .val (.long qi), .second, .val (.long qt), .second, .val (.int (1 : Int32)), .val (.int (1 : Int32)), .unset] [(.long t), (.long i), (.ref b1)])) rfl (by rw [hml]; rfl) [(.long i), (.long t)] [] 0 (lenOf pd_3 rfl) rfl rfl (by show 2 * 0 + _ ≤ _; exact Nat.le_of_eq rfl) (hb hby at_77) (by decide) (by decide) (by decide) (by decide) rfl rfl ?_
      intro T5 X5 e5
      show Done p e below s _ _ (T5.setTop (mkF m 80 #[.val (.long i), .second, .val (.long t), .second, .val (.long oi), .second, .val (.long ot), .second, .val (.int md), .val (.ref b1), .val (.long qi), .second, .val (.long qt), .second, .val (.int (1 : Int32)), .val (.int (1 : Int32)), .unset] [(.int (1 : Int32))]))
      refine Done.step (fun _ => XS.istore X5.here hx rfl (hb hby at_80) rfl (l' := #[.val (.long i), .second, .val (.long t), .second, .val (.long oi), .second, .val (.long ot), .second, .val (.int md), .val (.ref b1), .val (.long qi), .second, .val (.long qt), .second, .val (.int (1 : Int32)), .val (.int (1 : Int32)), .val (.int (1 : Int32))]) rfl) ?_
      show Done p e below s _ _ (T5.setTop (mkF m 82 #[.val (.long i), .second, .val (.long t), .second, .val (.long oi), .second, .val (.long ot), .second, .val (.int md), .val (.ref b1), .val (.long qi), .second, .val (.long qt), .second, .val (.int (1 : Int32)), .val (.int (1 : Int32)), .val (.int (1 : Int32))] []))
      refine Done.step (fun _ => XS.iload X5.here hx rfl (hb hby at_82) rfl) ?_
      show Done p e below s _ _ (T5.setTop (mkF m 84 #[.val (.long i), .second, .val (.long t), .second, .val (.long oi), .second, .val (.long ot), .second, .val (.int md), .val (.ref b1), .val (.long qi), .second, .val (.long qt), .second, .val (.int (1 : Int32)), .val (.int (1 : Int32)), .val (.int (1 : Int32))] [(.int (1 : Int32))]))
      refine Done.step (fun _ => XS.iload X5.here hx rfl (hb hby at_84) rfl) ?_
      show Done p e below s _ _ (T5.setTop (mkF m 86 #[.val (.long i), .second, .val (.long t), .second, .val (.long oi), .second, .val (.long ot), .second, .val (.int md), .val (.ref b1), .val (.long qi), .second, .val (.long qt), .second, .val (.int (1 : Int32)), .val (.int (1 : Int32)), .val (.int (1 : Int32))] [(.int (1 : Int32)), (.int (1 : Int32))]))
      refine Done.step (fun _ => XS.icmpNo X5.here hx rfl (hb hby at_86) rfl (XT.ii_ne_f rfl)) ?_
      show Done p e below s _ _ (T5.setTop (mkF m 89 #[.val (.long i), .second, .val (.long t), .second, .val (.long oi), .second, .val (.long ot), .second, .val (.int md), .val (.ref b1), .val (.long qi), .second, .val (.long qt), .second, .val (.int (1 : Int32)), .val (.int (1 : Int32)), .val (.int (1 : Int32))] []))
      refine Done.step (fun _ => XS.iload X5.here hx rfl (hb hby at_89) rfl) ?_
      show Done p e below s _ _ (T5.setTop (mkF m 91 #[.val (.long i), .second, .val (.long t), .second, .val (.long oi), .second, .val (.long ot), .second, .val (.int md), .val (.ref b1), .val (.long qi), .second, .val (.long qt), .second, .val (.int (1 : Int32)), .val (.int (1 : Int32)), .val (.int (1 : Int32))] [(.int (1 : Int32))]))
      refine Done.step (fun _ => XS.ifNo X5.here hx rfl (hb hby at_91) rfl (XT.i0_eq_f (by decide))) ?_
      show Done p e below s _ _ (T5.setTop (mkF m 94 #[.val (.long i), .second, .val (.long t), .second, .val (.long oi), .second, .val (.long ot), .second, .val (.int md), .val (.ref b1), .val (.long qi), .second, .val (.long qt), .second, .val (.int (1 : Int32)), .val (.int (1 : Int32)), .val (.int (1 : Int32))] []))
      refine Done.step (fun _ => XT.iconstV X5.here hx rfl (1 : Int32) (hb hby at_94) (by decide)) ?_
      show Done p e below s _ _ (T5.setTop (mkF m 95 #[.val (.long i), .second, .val (.long t), .second, .val (.long oi), .second, .val (.long ot), .second, .val (.int md), .val (.ref b1), .val (.long qi), .second, .val (.long qt), .second, .val (.int (1 : Int32)), .val (.int (1 : Int32)), .val (.int (1 : Int32))] [(.int (1 : Int32))]))
      refine Done.step (fun _ => XS.goto X5.here hx rfl (pc0 := 95) (pc' := 99) rfl (hb hby at_95) (by decide) (by decide)) ?_
      show Done p e below s _ _ (T5.setTop (mkF m 99 #[.val (.long i), .second, .val (.long t), .second, .val (.long oi), .second, .val (.long ot), .second, .val (.int md), .val (.ref b1), .val (.long qi), .second, .val (.long qt), .second, .val (.int (1 : Int32)), .val (.int (1 : Int32)), .val (.int (1 : Int32))] [(.int (1 : Int32))]))
      exact Done.retN X5 hx hlk (t := .boolean) hret (by simp) (hb hby at_99) (by decide) (by decide) ⟨rfl, N2⟩
    · refine Done.step (fun _ => XS.ifYes X2.here hx rfl (pc0 := 52) (pc' := 59) rfl (hb hby at_52) rfl (XT.ll_ne_t hc3) (by decide) (by decide)) ?_
      show Done p e below s _ _ (T2.setTop (mkF m 59 #[.val (.long i), .second, .val (.long t), .second, .val (.long oi), .second, .val (.long ot), .second, .val (.int md), .val (.ref b1), .val (.long qi), .second, .val (.long qt), .second, .unset, .unset, .unset] []))
      refine Done.step (fun _ => XT.iconstV X2.here hx rfl (0 : Int32) (hb hby at_59) (by decide)) ?_
      show Done p e below s _ _ (T2.setTop (mkF m 60 #[.val (.long i), .second, .val (.long t), .second, .val (.long oi), .second, .val (.long ot), .second, .val (.int md), .val (.ref b1), .val (.long qi), .second, .val (.long qt), .second, .unset, .unset, .unset] [(.int (0 : Int32))]))
      refine Done.step (fun _ => XS.istore X2.here hx rfl (hb hby at_60) rfl (l' := #[.val (.long i), .second, .val (.long t), .second, .val (.long oi), .second, .val (.long ot), .second, .val (.int md), .val (.ref b1), .val (.long qi), .second, .val (.long qt), .second, .val (.int (0 : Int32)), .unset, .unset]) rfl) ?_
      show Done p e below s _ _ (T2.setTop (mkF m 62 #[.val (.long i), .second, .val (.long t), .second, .val (.long oi), .second, .val (.long ot), .second, .val (.int md), .val (.ref b1), .val (.long qi), .second, .val (.long qt), .second, .val (.int (0 : Int32)), .unset, .unset] []))
      refine Done.step (fun _ => XS.aload X2.here hx rfl (hb hby at_62) rfl rfl) ?_
      show Done p e below s _ _ (T2.setTop (mkF m 64 #[.val (.long i), .second, .val (.long t), .second, .val (.long oi), .second, .val (.long ot), .second, .val (.int md), .val (.ref b1), .val (.long qi), .second, .val (.long qt), .second, .val (.int (0 : Int32)), .unset, .unset] [(.ref b1)]))
      refine Done.step (fun _ => XT.lload X2.here hx rfl (hb hby at_64) rfl) ?_
      show Done p e below s _ _ (T2.setTop (mkF m 66 #[.val (.long i), .second, .val (.long t), .second, .val (.long oi), .second, .val (.long ot), .second, .val (.int md), .val (.ref b1), .val (.long qi), .second, .val (.long qt), .second, .val (.int (0 : Int32)), .unset, .unset] [(.long qi), (.ref b1)]))
      refine Done.step (fun _ => XT.lload X2.here hx rfl (hb hby at_66) rfl) ?_
      show Done p e below s _ _ (T2.setTop (mkF m 68 #[.val (.long i), .second, .val (.long t), .second, .val (.long oi), .second, .val (.long ot), .second, .val (.int md), .val (.ref b1), .val (.long qi), .second, .val (.long qt), .second, .val (.int (0 : Int32)), .unset, .unset] [(.long qt), (.long qi), (.ref b1)]))
      refine Done.callVP X2 hx hZ (C := "com/example/minho/minho/server/Snapshot$Incoming") hown (wAt hw 35 rfl) (wAt hw 36 rfl) (notFace_of_selects (args := #[]) (mvT hZ (wAt hw 38 rfl))) (wAt hw 38 rfl) (wAt hw 37 rfl) (wAt hw 2 rfl) (wAt hw 39 rfl) (by decide) (rmO l Z a0 hw [] b1 qi qt i t (0 : Int32) T2.heap n0 Zs2 f2_1 f2_2 (bP_f (fun q => hc3 ((own_xor qi i qt t).mpr q))).symm) rfl f2_0 (g := (mkF m 68 #[.val (.long i), .second, .val (.long t), .second, .val (.long oi), .second, .val (.long ot), .second, .val (.int md), .val (.ref b1), .val (.long qi), .second, .val (.long qt), .second, .val (.int (0 : Int32)), .unset, .unset] [(.long qt), (.long qi), (.ref b1)])) rfl (by rw [hml]; rfl) [(.long qi), (.long qt)] [] 0 (lenOf pd_3 rfl) rfl rfl (by show 2 * 0 + _ ≤ _; exact Nat.le_of_eq rfl) (hb hby at_68) (by decide) (by decide) (by decide) (by decide) rfl rfl ?_
      intro T6 X6 e6
      show Done p e below s _ _ (T6.setTop (mkF m 71 #[.val (.long i), .second, .val (.long t), .second, .val (.long oi), .second, .val (.long ot), .second, .val (.int md), .val (.ref b1), .val (.long qi), .second, .val (.long qt), .second, .val (.int (0 : Int32)), .unset, .unset] [(.int (0 : Int32))]))
      refine Done.step (fun _ => XS.istore X6.here hx rfl (hb hby at_71) rfl (l' := #[.val (.long i), .second, .val (.long t), .second, .val (.long oi), .second, .val (.long ot), .second, .val (.int md), .val (.ref b1), .val (.long qi), .second, .val (.long qt), .second, .val (.int (0 : Int32)), .val (.int (0 : Int32)), .unset]) rfl) ?_
      show Done p e below s _ _ (T6.setTop (mkF m 73 #[.val (.long i), .second, .val (.long t), .second, .val (.long oi), .second, .val (.long ot), .second, .val (.int md), .val (.ref b1), .val (.long qi), .second, .val (.long qt), .second, .val (.int (0 : Int32)), .val (.int (0 : Int32)), .unset] []))
      refine Done.step (fun _ => XS.aload X6.here hx rfl (hb hby at_73) rfl rfl) ?_
      show Done p e below s _ _ (T6.setTop (mkF m 75 #[.val (.long i), .second, .val (.long t), .second, .val (.long oi), .second, .val (.long ot), .second, .val (.int md), .val (.ref b1), .val (.long qi), .second, .val (.long qt), .second, .val (.int (0 : Int32)), .val (.int (0 : Int32)), .unset] [(.ref b1)]))
      refine Done.step (fun _ => XT.lloadN X6.here hx rfl (hb hby at_75) rfl) ?_
      show Done p e below s _ _ (T6.setTop (mkF m 76 #[.val (.long i), .second, .val (.long t), .second, .val (.long oi), .second, .val (.long ot), .second, .val (.int md), .val (.ref b1), .val (.long qi), .second, .val (.long qt), .second, .val (.int (0 : Int32)), .val (.int (0 : Int32)), .unset] [(.long i), (.ref b1)]))
      refine Done.step (fun _ => XT.lloadN X6.here hx rfl (hb hby at_76) rfl) ?_
      show Done p e below s _ _ (T6.setTop (mkF m 77 #[.val (.long i), .second, .val (.long t), .second, .val (.long oi), .second, .val (.long ot), .second, .val (.int md), .val (.ref b1), .val (.long qi), .second, .val (.long qt), .second, .val (.int (0 : Int32)), .val (.int (0 : Int32)), .unset] [(.long t), (.long i), (.ref b1)]))
      refine Done.callVP X6 hx hZ (C := "com/example/minho/minho/server/Snapshot$Incoming") hown (wAt hw 35 rfl) (wAt hw 36 rfl) (notFace_of_selects (args := #[]) (mvT hZ (wAt hw 38 rfl))) (wAt hw 38 rfl) (wAt hw 37 rfl) (wAt hw 2 rfl) (wAt hw 39 rfl) (by decide) (rmO l Z a0 hw [] b1 i t i t (1 : Int32) T2.heap n0 Zs2 f2_1 f2_2 (bP_t ⟨rfl, rfl⟩).symm) e6 f2_0 (g := (mkF m 77 #[.val (.long i), .second, .val (.long t), .second, .val (.long oi), .second, .val (.long ot), .second, .val (.int md), .val (.ref b1), .val (.long qi), .second, .val (.long qt), .second, .val (.int (0 : Int32)), .val (.int (0 : Int32)), .unset] [(.long t), (.long i), (.ref b1)])) rfl (by rw [hml]; rfl) [(.long i), (.long t)] [] 0 (lenOf pd_3 rfl) rfl rfl (by show 2 * 0 + _ ≤ _; exact Nat.le_of_eq rfl) (hb hby at_77) (by decide) (by decide) (by decide) (by decide) rfl rfl ?_
      intro T7 X7 e7
      show Done p e below s _ _ (T7.setTop (mkF m 80 #[.val (.long i), .second, .val (.long t), .second, .val (.long oi), .second, .val (.long ot), .second, .val (.int md), .val (.ref b1), .val (.long qi), .second, .val (.long qt), .second, .val (.int (0 : Int32)), .val (.int (0 : Int32)), .unset] [(.int (1 : Int32))]))
      refine Done.step (fun _ => XS.istore X7.here hx rfl (hb hby at_80) rfl (l' := #[.val (.long i), .second, .val (.long t), .second, .val (.long oi), .second, .val (.long ot), .second, .val (.int md), .val (.ref b1), .val (.long qi), .second, .val (.long qt), .second, .val (.int (0 : Int32)), .val (.int (0 : Int32)), .val (.int (1 : Int32))]) rfl) ?_
      show Done p e below s _ _ (T7.setTop (mkF m 82 #[.val (.long i), .second, .val (.long t), .second, .val (.long oi), .second, .val (.long ot), .second, .val (.int md), .val (.ref b1), .val (.long qi), .second, .val (.long qt), .second, .val (.int (0 : Int32)), .val (.int (0 : Int32)), .val (.int (1 : Int32))] []))
      refine Done.step (fun _ => XS.iload X7.here hx rfl (hb hby at_82) rfl) ?_
      show Done p e below s _ _ (T7.setTop (mkF m 84 #[.val (.long i), .second, .val (.long t), .second, .val (.long oi), .second, .val (.long ot), .second, .val (.int md), .val (.ref b1), .val (.long qi), .second, .val (.long qt), .second, .val (.int (0 : Int32)), .val (.int (0 : Int32)), .val (.int (1 : Int32))] [(.int (0 : Int32))]))
      refine Done.step (fun _ => XS.iload X7.here hx rfl (hb hby at_84) rfl) ?_
      show Done p e below s _ _ (T7.setTop (mkF m 86 #[.val (.long i), .second, .val (.long t), .second, .val (.long oi), .second, .val (.long ot), .second, .val (.int md), .val (.ref b1), .val (.long qi), .second, .val (.long qt), .second, .val (.int (0 : Int32)), .val (.int (0 : Int32)), .val (.int (1 : Int32))] [(.int (0 : Int32)), (.int (0 : Int32))]))
      refine Done.step (fun _ => XS.icmpNo X7.here hx rfl (hb hby at_86) rfl (XT.ii_ne_f rfl)) ?_
      show Done p e below s _ _ (T7.setTop (mkF m 89 #[.val (.long i), .second, .val (.long t), .second, .val (.long oi), .second, .val (.long ot), .second, .val (.int md), .val (.ref b1), .val (.long qi), .second, .val (.long qt), .second, .val (.int (0 : Int32)), .val (.int (0 : Int32)), .val (.int (1 : Int32))] []))
      refine Done.step (fun _ => XS.iload X7.here hx rfl (hb hby at_89) rfl) ?_
      show Done p e below s _ _ (T7.setTop (mkF m 91 #[.val (.long i), .second, .val (.long t), .second, .val (.long oi), .second, .val (.long ot), .second, .val (.int md), .val (.ref b1), .val (.long qi), .second, .val (.long qt), .second, .val (.int (0 : Int32)), .val (.int (0 : Int32)), .val (.int (1 : Int32))] [(.int (1 : Int32))]))
      refine Done.step (fun _ => XS.ifNo X7.here hx rfl (hb hby at_91) rfl (XT.i0_eq_f (by decide))) ?_
      show Done p e below s _ _ (T7.setTop (mkF m 94 #[.val (.long i), .second, .val (.long t), .second, .val (.long oi), .second, .val (.long ot), .second, .val (.int md), .val (.ref b1), .val (.long qi), .second, .val (.long qt), .second, .val (.int (0 : Int32)), .val (.int (0 : Int32)), .val (.int (1 : Int32))] []))
      refine Done.step (fun _ => XT.iconstV X7.here hx rfl (1 : Int32) (hb hby at_94) (by decide)) ?_
      show Done p e below s _ _ (T7.setTop (mkF m 95 #[.val (.long i), .second, .val (.long t), .second, .val (.long oi), .second, .val (.long ot), .second, .val (.int md), .val (.ref b1), .val (.long qi), .second, .val (.long qt), .second, .val (.int (0 : Int32)), .val (.int (0 : Int32)), .val (.int (1 : Int32))] [(.int (1 : Int32))]))
      refine Done.step (fun _ => XS.goto X7.here hx rfl (pc0 := 95) (pc' := 99) rfl (hb hby at_95) (by decide) (by decide)) ?_
      show Done p e below s _ _ (T7.setTop (mkF m 99 #[.val (.long i), .second, .val (.long t), .second, .val (.long oi), .second, .val (.long ot), .second, .val (.int md), .val (.ref b1), .val (.long qi), .second, .val (.long qt), .second, .val (.int (0 : Int32)), .val (.int (0 : Int32)), .val (.int (1 : Int32))] [(.int (1 : Int32))]))
      exact Done.retN X7 hx hlk (t := .boolean) hret (by simp) (hb hby at_99) (by decide) (by decide) ⟨rfl, N2⟩
  refine Done.step (fun _ => XS.iload X2.here hx rfl (hb hby at_11) rfl) ?_
  show Done p e below s _ _ (T2.setTop (mkF m 13 #[.val (.long i), .second, .val (.long t), .second, .val (.long oi), .second, .val (.long ot), .second, .val (.int md), .val (.ref b1), .unset, .unset, .unset, .unset, .unset, .unset, .unset] [(.int md)]))
  refine Done.step (fun _ => XT.iconstV X2.here hx rfl (1 : Int32) (hb hby at_13) (by decide)) ?_
  show Done p e below s _ _ (T2.setTop (mkF m 14 #[.val (.long i), .second, .val (.long t), .second, .val (.long oi), .second, .val (.long ot), .second, .val (.int md), .val (.ref b1), .unset, .unset, .unset, .unset, .unset, .unset, .unset] [(.int (1 : Int32)), (.int md)]))
  refine Done.step (fun _ => XS.iand X2.here hx rfl (hb hby at_14) rfl) ?_
  show Done p e below s _ _ (T2.setTop (mkF m 15 #[.val (.long i), .second, .val (.long t), .second, .val (.long oi), .second, .val (.long ot), .second, .val (.int md), .val (.ref b1), .unset, .unset, .unset, .unset, .unset, .unset, .unset] [(.int (md &&& (1 : Int32)))]))
  by_cases hc8 : (md &&& (1 : Int32)) = (0 : Int32)
  · refine Done.step (fun _ => XS.ifYes X2.here hx rfl (pc0 := 15) (pc' := 22) rfl (hb hby at_15) rfl (XT.i0_eq_t hc8) (by decide) (by decide)) ?_
    show Done p e below s _ _ (T2.setTop (mkF m 22 #[.val (.long i), .second, .val (.long t), .second, .val (.long oi), .second, .val (.long ot), .second, .val (.int md), .val (.ref b1), .unset, .unset, .unset, .unset, .unset, .unset, .unset] []))
    refine Done.step (fun _ => XT.lload X2.here hx rfl (hb hby at_22) rfl) ?_
    show Done p e below s _ _ (T2.setTop (mkF m 24 #[.val (.long i), .second, .val (.long t), .second, .val (.long oi), .second, .val (.long ot), .second, .val (.int md), .val (.ref b1), .unset, .unset, .unset, .unset, .unset, .unset, .unset] [(.long oi)]))
    refine Done.step (fun _ => XT.lstore X2.here hx rfl (hb hby at_24) rfl (l' := #[.val (.long i), .second, .val (.long t), .second, .val (.long oi), .second, .val (.long ot), .second, .val (.int md), .val (.ref b1), .val (.long oi), .second, .unset, .unset, .unset, .unset, .unset]) rfl) ?_
    show Done p e below s _ _ (T2.setTop (mkF m 26 #[.val (.long i), .second, .val (.long t), .second, .val (.long oi), .second, .val (.long ot), .second, .val (.int md), .val (.ref b1), .val (.long oi), .second, .unset, .unset, .unset, .unset, .unset] []))
    refine Done.step (fun _ => XS.iload X2.here hx rfl (hb hby at_26) rfl) ?_
    show Done p e below s _ _ (T2.setTop (mkF m 28 #[.val (.long i), .second, .val (.long t), .second, .val (.long oi), .second, .val (.long ot), .second, .val (.int md), .val (.ref b1), .val (.long oi), .second, .unset, .unset, .unset, .unset, .unset] [(.int md)]))
    refine Done.step (fun _ => XT.iconstV X2.here hx rfl (2 : Int32) (hb hby at_28) (by decide)) ?_
    show Done p e below s _ _ (T2.setTop (mkF m 29 #[.val (.long i), .second, .val (.long t), .second, .val (.long oi), .second, .val (.long ot), .second, .val (.int md), .val (.ref b1), .val (.long oi), .second, .unset, .unset, .unset, .unset, .unset] [(.int (2 : Int32)), (.int md)]))
    refine Done.step (fun _ => XS.iand X2.here hx rfl (hb hby at_29) rfl) ?_
    show Done p e below s _ _ (T2.setTop (mkF m 30 #[.val (.long i), .second, .val (.long t), .second, .val (.long oi), .second, .val (.long ot), .second, .val (.int md), .val (.ref b1), .val (.long oi), .second, .unset, .unset, .unset, .unset, .unset] [(.int (md &&& (2 : Int32)))]))
    by_cases hc9 : (md &&& (2 : Int32)) = (0 : Int32)
    · refine Done.step (fun _ => XS.ifYes X2.here hx rfl (pc0 := 30) (pc' := 37) rfl (hb hby at_30) rfl (XT.i0_eq_t hc9) (by decide) (by decide)) ?_
      show Done p e below s _ _ (T2.setTop (mkF m 37 #[.val (.long i), .second, .val (.long t), .second, .val (.long oi), .second, .val (.long ot), .second, .val (.int md), .val (.ref b1), .val (.long oi), .second, .unset, .unset, .unset, .unset, .unset] []))
      refine Done.step (fun _ => XT.lload X2.here hx rfl (hb hby at_37) rfl) ?_
      show Done p e below s _ _ (T2.setTop (mkF m 39 #[.val (.long i), .second, .val (.long t), .second, .val (.long oi), .second, .val (.long ot), .second, .val (.int md), .val (.ref b1), .val (.long oi), .second, .unset, .unset, .unset, .unset, .unset] [(.long ot)]))
      refine Done.step (fun _ => XT.lstore X2.here hx rfl (hb hby at_39) rfl (l' := #[.val (.long i), .second, .val (.long t), .second, .val (.long oi), .second, .val (.long ot), .second, .val (.int md), .val (.ref b1), .val (.long oi), .second, .val (.long ot), .second, .unset, .unset, .unset]) rfl) ?_
      show Done p e below s _ _ (T2.setTop (mkF m 41 #[.val (.long i), .second, .val (.long t), .second, .val (.long oi), .second, .val (.long ot), .second, .val (.int md), .val (.ref b1), .val (.long oi), .second, .val (.long ot), .second, .unset, .unset, .unset] []))
      exact K41 oi ot
    · refine Done.step (fun _ => XS.ifNo X2.here hx rfl (hb hby at_30) rfl (XT.i0_eq_f hc9)) ?_
      show Done p e below s _ _ (T2.setTop (mkF m 33 #[.val (.long i), .second, .val (.long t), .second, .val (.long oi), .second, .val (.long ot), .second, .val (.int md), .val (.ref b1), .val (.long oi), .second, .unset, .unset, .unset, .unset, .unset] []))
      refine Done.step (fun _ => XT.lloadN X2.here hx rfl (hb hby at_33) rfl) ?_
      show Done p e below s _ _ (T2.setTop (mkF m 34 #[.val (.long i), .second, .val (.long t), .second, .val (.long oi), .second, .val (.long ot), .second, .val (.int md), .val (.ref b1), .val (.long oi), .second, .unset, .unset, .unset, .unset, .unset] [(.long t)]))
      refine Done.step (fun _ => XS.goto X2.here hx rfl (pc0 := 34) (pc' := 39) rfl (hb hby at_34) (by decide) (by decide)) ?_
      show Done p e below s _ _ (T2.setTop (mkF m 39 #[.val (.long i), .second, .val (.long t), .second, .val (.long oi), .second, .val (.long ot), .second, .val (.int md), .val (.ref b1), .val (.long oi), .second, .unset, .unset, .unset, .unset, .unset] [(.long t)]))
      refine Done.step (fun _ => XT.lstore X2.here hx rfl (hb hby at_39) rfl (l' := #[.val (.long i), .second, .val (.long t), .second, .val (.long oi), .second, .val (.long ot), .second, .val (.int md), .val (.ref b1), .val (.long oi), .second, .val (.long t), .second, .unset, .unset, .unset]) rfl) ?_
      show Done p e below s _ _ (T2.setTop (mkF m 41 #[.val (.long i), .second, .val (.long t), .second, .val (.long oi), .second, .val (.long ot), .second, .val (.int md), .val (.ref b1), .val (.long oi), .second, .val (.long t), .second, .unset, .unset, .unset] []))
      exact K41 oi t
  · refine Done.step (fun _ => XS.ifNo X2.here hx rfl (hb hby at_15) rfl (XT.i0_eq_f hc8)) ?_
    show Done p e below s _ _ (T2.setTop (mkF m 18 #[.val (.long i), .second, .val (.long t), .second, .val (.long oi), .second, .val (.long ot), .second, .val (.int md), .val (.ref b1), .unset, .unset, .unset, .unset, .unset, .unset, .unset] []))
    refine Done.step (fun _ => XT.lloadN X2.here hx rfl (hb hby at_18) rfl) ?_
    show Done p e below s _ _ (T2.setTop (mkF m 19 #[.val (.long i), .second, .val (.long t), .second, .val (.long oi), .second, .val (.long ot), .second, .val (.int md), .val (.ref b1), .unset, .unset, .unset, .unset, .unset, .unset, .unset] [(.long i)]))
    refine Done.step (fun _ => XS.goto X2.here hx rfl (pc0 := 19) (pc' := 24) rfl (hb hby at_19) (by decide) (by decide)) ?_
    show Done p e below s _ _ (T2.setTop (mkF m 24 #[.val (.long i), .second, .val (.long t), .second, .val (.long oi), .second, .val (.long ot), .second, .val (.int md), .val (.ref b1), .unset, .unset, .unset, .unset, .unset, .unset, .unset] [(.long i)]))
    refine Done.step (fun _ => XT.lstore X2.here hx rfl (hb hby at_24) rfl (l' := #[.val (.long i), .second, .val (.long t), .second, .val (.long oi), .second, .val (.long ot), .second, .val (.int md), .val (.ref b1), .val (.long i), .second, .unset, .unset, .unset, .unset, .unset]) rfl) ?_
    show Done p e below s _ _ (T2.setTop (mkF m 26 #[.val (.long i), .second, .val (.long t), .second, .val (.long oi), .second, .val (.long ot), .second, .val (.int md), .val (.ref b1), .val (.long i), .second, .unset, .unset, .unset, .unset, .unset] []))
    refine Done.step (fun _ => XS.iload X2.here hx rfl (hb hby at_26) rfl) ?_
    show Done p e below s _ _ (T2.setTop (mkF m 28 #[.val (.long i), .second, .val (.long t), .second, .val (.long oi), .second, .val (.long ot), .second, .val (.int md), .val (.ref b1), .val (.long i), .second, .unset, .unset, .unset, .unset, .unset] [(.int md)]))
    refine Done.step (fun _ => XT.iconstV X2.here hx rfl (2 : Int32) (hb hby at_28) (by decide)) ?_
    show Done p e below s _ _ (T2.setTop (mkF m 29 #[.val (.long i), .second, .val (.long t), .second, .val (.long oi), .second, .val (.long ot), .second, .val (.int md), .val (.ref b1), .val (.long i), .second, .unset, .unset, .unset, .unset, .unset] [(.int (2 : Int32)), (.int md)]))
    refine Done.step (fun _ => XS.iand X2.here hx rfl (hb hby at_29) rfl) ?_
    show Done p e below s _ _ (T2.setTop (mkF m 30 #[.val (.long i), .second, .val (.long t), .second, .val (.long oi), .second, .val (.long ot), .second, .val (.int md), .val (.ref b1), .val (.long i), .second, .unset, .unset, .unset, .unset, .unset] [(.int (md &&& (2 : Int32)))]))
    by_cases hc10 : (md &&& (2 : Int32)) = (0 : Int32)
    · refine Done.step (fun _ => XS.ifYes X2.here hx rfl (pc0 := 30) (pc' := 37) rfl (hb hby at_30) rfl (XT.i0_eq_t hc10) (by decide) (by decide)) ?_
      show Done p e below s _ _ (T2.setTop (mkF m 37 #[.val (.long i), .second, .val (.long t), .second, .val (.long oi), .second, .val (.long ot), .second, .val (.int md), .val (.ref b1), .val (.long i), .second, .unset, .unset, .unset, .unset, .unset] []))
      refine Done.step (fun _ => XT.lload X2.here hx rfl (hb hby at_37) rfl) ?_
      show Done p e below s _ _ (T2.setTop (mkF m 39 #[.val (.long i), .second, .val (.long t), .second, .val (.long oi), .second, .val (.long ot), .second, .val (.int md), .val (.ref b1), .val (.long i), .second, .unset, .unset, .unset, .unset, .unset] [(.long ot)]))
      refine Done.step (fun _ => XT.lstore X2.here hx rfl (hb hby at_39) rfl (l' := #[.val (.long i), .second, .val (.long t), .second, .val (.long oi), .second, .val (.long ot), .second, .val (.int md), .val (.ref b1), .val (.long i), .second, .val (.long ot), .second, .unset, .unset, .unset]) rfl) ?_
      show Done p e below s _ _ (T2.setTop (mkF m 41 #[.val (.long i), .second, .val (.long t), .second, .val (.long oi), .second, .val (.long ot), .second, .val (.int md), .val (.ref b1), .val (.long i), .second, .val (.long ot), .second, .unset, .unset, .unset] []))
      exact K41 i ot
    · refine Done.step (fun _ => XS.ifNo X2.here hx rfl (hb hby at_30) rfl (XT.i0_eq_f hc10)) ?_
      show Done p e below s _ _ (T2.setTop (mkF m 33 #[.val (.long i), .second, .val (.long t), .second, .val (.long oi), .second, .val (.long ot), .second, .val (.int md), .val (.ref b1), .val (.long i), .second, .unset, .unset, .unset, .unset, .unset] []))
      refine Done.step (fun _ => XT.lloadN X2.here hx rfl (hb hby at_33) rfl) ?_
      show Done p e below s _ _ (T2.setTop (mkF m 34 #[.val (.long i), .second, .val (.long t), .second, .val (.long oi), .second, .val (.long ot), .second, .val (.int md), .val (.ref b1), .val (.long i), .second, .unset, .unset, .unset, .unset, .unset] [(.long t)]))
      refine Done.step (fun _ => XS.goto X2.here hx rfl (pc0 := 34) (pc' := 39) rfl (hb hby at_34) (by decide) (by decide)) ?_
      show Done p e below s _ _ (T2.setTop (mkF m 39 #[.val (.long i), .second, .val (.long t), .second, .val (.long oi), .second, .val (.long ot), .second, .val (.int md), .val (.ref b1), .val (.long i), .second, .unset, .unset, .unset, .unset, .unset] [(.long t)]))
      refine Done.step (fun _ => XT.lstore X2.here hx rfl (hb hby at_39) rfl (l' := #[.val (.long i), .second, .val (.long t), .second, .val (.long oi), .second, .val (.long ot), .second, .val (.int md), .val (.ref b1), .val (.long i), .second, .val (.long t), .second, .unset, .unset, .unset]) rfl) ?_
      show Done p e below s _ _ (T2.setTop (mkF m 41 #[.val (.long i), .second, .val (.long t), .second, .val (.long oi), .second, .val (.long ot), .second, .val (.int md), .val (.ref b1), .val (.long i), .second, .val (.long t), .second, .unset, .unset, .unset] []))
      exact K41 i t
set_option maxRecDepth 65536 in
set_option maxHeartbeats 40000000 in
theorem comes_1 {Post : Tables → Env → Array Value → State → Outcome → State → Prop} (hpost : ∀ tb e args s v u, (limb_1_1.after args s (.returned v) u = true ∧ limb_1_2.after args s (.returned v) u = true ∧ True) → FrameEnd s (.returned v) u (Jvm.fieldLocs frame_1_writes args s ++ Jvm.arrayLocs frame_1_arrays args s ++ Jvm.staticLocs frame_1_statics s) 16 192 → Post tb e args s (.returned v) u) :
    ArmFor flags0 classFile x code maxLocals ret World_1 tables_1 room_1 Calls_1 rest_1 Pre_1 Post := by
  intro l hfl _ _ p e ha hc hk s m args below hf hA hF happ hP
  obtain ⟨hcalls, hrest, hpre⟩ := hP
  obtain ⟨-, -, -, hnamed, -, -, -, hat⟩ := (Spec.applies_iff hf).mp happ
  obtain ⟨hg, hn⟩ := and_e (Cond.before_iff.mp (show (Jvm.Cond.and given_1 narrow_1).before args s = true from hpre))
  obtain ⟨w0, w1, w2, w3, w4, rfl⟩ : ∃ w0 w1 w2 w3 w4 : Value, args = #[w0, w1, w2, w3, w4] := by
    have hs : args.size = 5 := by simpa [Cond.value] using (and_e hg).1
    obtain ⟨L⟩ := args
    match L, hs with
    | [w0, w1, w2, w3, w4], _ => exact ⟨w0, w1, w2, w3, w4, rfl⟩
  have hw := fun d (hd : d ∈ tables_1) => atoms_spec (ws := Jvm.Cond.code x code maxLocals ret :: tables_1) hat d (List.mem_cons_of_mem _ hd)
  have hfit : Fit s := fun {y c} hc i hi => by
    obtain ⟨ha, rfl⟩ := Array.getElem?_eq_some_iff.mp hc
    have q := List.all_eq_true.mp ((Array.all_eq_true_iff_forall_mem.mp hF) _ (Array.getElem_mem ha)) i (List.mem_range.mpr hi)
    simpa [Array.getElem?_eq_getElem hi] using q
  obtain ⟨_, hg0⟩ := and_e hg
  obtain ⟨ga0, hg1⟩ := and_e hg0
  obtain ⟨i0, ei0⟩ := isL_v ga0
  obtain rfl : w0 = (.long i0) := Option.some.inj ei0
  obtain ⟨ga1, hg2⟩ := and_e hg1
  obtain ⟨i1, ei1⟩ := isL_v ga1
  obtain rfl : w1 = (.long i1) := Option.some.inj ei1
  obtain ⟨ga2, hg3⟩ := and_e hg2
  obtain ⟨i2, ei2⟩ := isL_v ga2
  obtain rfl : w2 = (.long i2) := Option.some.inj ei2
  obtain ⟨ga3, hg4⟩ := and_e hg3
  obtain ⟨i3, ei3⟩ := isL_v ga3
  obtain rfl : w3 = (.long i3) := Option.some.inj ei3
  obtain ⟨i4, ei4⟩ := is_v hg4
  obtain rfl : w4 = (.int i4) := Option.some.inj ei4
  obtain ⟨n, o, h1, h2, h3, _, L, rfl, ⟨rfl, N⟩, hq⟩ := rm0 l s _ hw tables_1 i0 i1 i2 i3 i4 s.heap s.heap.size (Nat.le_refl _)  p e ha hc hk s m _ below hf ((Spec.applies_iff_loose hf).mp happ).1 ⟨rfl, State.Warmed39.refl s, rfl⟩ trivial
  refine ⟨n, _, h1, h2, h3, hpost _ _ _ _ _ _ ⟨Cond.after_iff.mpr rfl, Cond.after_iff.mpr (eq_i res_at (Term.int_eval (1)) rfl), trivial⟩ ⟨hq.1, hq.2.1, (hq.2.2.sift fun y hy => Or.inr (N y hy)).mono (by decide) (by decide)⟩⟩
theorem main_1_1 : Claimed_1_1 := comes_1 fun _ _ _ _ _ _ h hF => ⟨h.1, hF⟩
theorem main_1_2 : Claimed_1_2 := comes_1 fun _ _ _ _ _ _ h hF => ⟨h.2.1, hF⟩
end Jvm.Pilot.@@N@@
namespace Jvm.Pilot.@@N@@
open Jvm Jvm.ClassFile Sem Op Lib Jvm.Free Jvm.Stand Jvm.Pilot.@@N@@.Jvm.D
/-! MADE BY PROGRAM (witnessworld.py) out of the Statement's table words and the real class files: 14 classes; the members and pool entries that the words name. The judged class is class 1, her method 1. -/
namespace start1
open Jvm.ClassFile
def u (s : String) : CpInfo := .utf8 (stringToUtf16 s)
/-- a pool by its gaps: so many unusable entries, then the entry; so many at the end -/
def gap : Nat → List CpInfo → List CpInfo
  | 0, r => r
  | n + 1, r => .unusable :: gap n r
def poolList (es : List (Nat × CpInfo)) (last : Nat) : List CpInfo := es.foldr (fun e r => gap e.1 (e.2 :: r)) (gap last [])
def pool (es : List (Nat × CpInfo)) (last : Nat) : Array CpInfo := ⟨poolList es last⟩
def fileOf (pool : Array CpInfo) (this : Nat) (attrs : Array Attribute := #[]) (ms : Array MethodInfo := #[]) (fl : Nat := 33) (sup : Nat := 0) (ifs : Array Nat := #[]) (fds : Array FieldInfo := #[]) : ClassFile where
  minorVersion := 0
  majorVersion := 65
  constantPool := pool
  accessFlags := fl
  thisClass := this
  superClass := sup
  interfaces := ifs
  fields := fds
  methods := ms
  attributes := attrs
def plain (name : String) (sup : Option ClassId) : Class where
  name := name
  kind := .ordinary
  loader := none
  accessFlags := 33
  super := sup
  interfaces := #[]
  cf := none
  fields := #[]
  methods := #[]
  instanceTypes := #[]
  staticTypes := #[]
  resolved := #[]
  callSites := []
  init := .initialized
  statics := none
  mirror := none

def pool0 : Array CpInfo := pool [(5, u "<init>"), (0, u "()V"), (1, .class_ 10), (1, u "java/lang/Object")] 113

def k0c0 : Code := { maxStack := 0, maxLocals := 1, code := object_method_1_code, exceptionTable := #[], attributes := #[] }
def k0m0 : Method := { name := "<init>", desc := "()V", sig := { parameters := [], returnType := none }, accessFlags := 1, code := some k0c0 }
/-- java/lang/Object -/
def k0 : Class := { plain "java/lang/Object" none with
  accessFlags := 33
  interfaces := #[]
  cf := some (fileOf pool0 8 #[] #[{ accessFlags := 1, nameIndex := 5, descriptorIndex := 6, attributes := #[] }] 33 0 #[] #[])
  fields := #[]
  methods := #[k0m0]
  instanceTypes := #[]
  staticTypes := #[]
  resolved := Array.replicate 124 none
  statics := none }

def pool1 : Array CpInfo := pool [(2, .class_ 4), (1, u "java/lang/Object"), (0, u "<init>"), (0, u "()V"), (0, .class_ 8), (0, u "com/example/minho/minho/server/Snapshot$Incoming"), (0, .methodref 7 10), (0, .nameAndType 5 11), (0, u "(JJ)V"), (0, .methodref 7 13), (0, .nameAndType 14 15), (0, u "isOf"), (0, u "(JJ)Z"), (0, .class_ 17), (0, u "com/example/minho/minho/server/IncomingIsOfPinLaw"), (2, u "law"), (0, u "(JJJJI)Z")] 7

def k1m0 : Method := { name := "<init>", desc := "()V", sig := { parameters := [], returnType := none }, accessFlags := 1, code := none }
def k1c1 : Code := { maxStack := 6, maxLocals := 17, code := code, exceptionTable := #[], attributes := #[] }
def k1m1 : Method := { name := "law", desc := "(JJJJI)Z", sig := { parameters := [.long, .long, .long, .long, .int], returnType := some .boolean }, accessFlags := 9, code := some k1c1 }
/-- com/example/minho/minho/server/IncomingIsOfPinLaw -/
def k1 : Class := { plain "com/example/minho/minho/server/IncomingIsOfPinLaw" (some 0) with
  accessFlags := 49
  interfaces := #[]
  cf := some (fileOf pool1 16 #[] #[{ accessFlags := 1, nameIndex := 5, descriptorIndex := 6, attributes := #[] }, { accessFlags := 9, nameIndex := 20, descriptorIndex := 21, attributes := #[] }] 49 2 #[] #[])
  fields := #[]
  methods := #[k1m0, k1m1]
  instanceTypes := #[]
  staticTypes := #[]
  resolved := Array.replicate 29 none
  statics := none }

def pool2 : Array CpInfo := pool [(1, .methodref 2 3), (0, .class_ 4), (0, .nameAndType 5 6), (0, u "java/lang/Object"), (0, u "<init>"), (0, u "()V"), (0, .class_ 8), (0, u "java/io/ByteArrayOutputStream"), (0, .methodref 7 3), (0, .fieldref 11 12), (0, .class_ 13), (0, .nameAndType 14 15), (0, u "com/example/minho/minho/server/Snapshot$Incoming"), (0, u "m_bytes"), (0, u "Ljava/io/ByteArrayOutputStream;"), (0, .fieldref 11 17), (0, .nameAndType 18 19), (0, u "m_index"), (0, u "J"), (0, .fieldref 11 21), (0, .nameAndType 22 19), (0, u "m_term"), (13, .class_ 38), (1, u "com/example/minho/minho/server/Snapshot"), (2, u "(JJ)V"), (2, u "isOf"), (0, u "(JJ)Z")] 10

def k2c0 : Code := { maxStack := 3, maxLocals := 5, code := prog_57_method_1_code, exceptionTable := #[], attributes := #[] }
def k2m0 : Method := { name := "<init>", desc := "(JJ)V", sig := { parameters := [.long, .long], returnType := none }, accessFlags := 0, code := some k2c0 }
def k2c1 : Code := { maxStack := 4, maxLocals := 5, code := prog_57_method_2_code, exceptionTable := #[], attributes := #[] }
def k2m1 : Method := { name := "isOf", desc := "(JJ)Z", sig := { parameters := [.long, .long], returnType := some .boolean }, accessFlags := 0, code := some k2c1 }
/-- com/example/minho/minho/server/Snapshot$Incoming -/
def k2 : Class := { plain "com/example/minho/minho/server/Snapshot$Incoming" (some 0) with
  accessFlags := 32
  interfaces := #[]
  cf := some (fileOf pool2 11 #[.nestHost 36] #[{ accessFlags := 0, nameIndex := 5, descriptorIndex := 41, attributes := #[] }, { accessFlags := 0, nameIndex := 44, descriptorIndex := 45, attributes := #[] }] 32 2 #[] #[{ accessFlags := 18, nameIndex := 18, descriptorIndex := 19, attributes := #[] }, { accessFlags := 18, nameIndex := 22, descriptorIndex := 19, attributes := #[] }, { accessFlags := 18, nameIndex := 14, descriptorIndex := 15, attributes := #[] }])
  fields := #[{ name := "m_index", type := .long, accessFlags := 18, slot := 0, constantValue := 0 }, { name := "m_term", type := .long, accessFlags := 18, slot := 1, constantValue := 0 }, { name := "m_bytes", type := (.object "java/io/ByteArrayOutputStream"), accessFlags := 18, slot := 2, constantValue := 0 }]
  methods := #[k2m0, k2m1]
  instanceTypes := #[.long, .long, (.object "java/io/ByteArrayOutputStream")]
  staticTypes := #[]
  resolved := Array.replicate 56 none
  statics := none }

def pool3 : Array CpInfo := pool [(1, .class_ 2), (0, u "java/lang/AutoCloseable"), (0, .class_ 4), (0, u "java/lang/Object")] 7

/-- java/lang/AutoCloseable -/
def k3 : Class := { plain "java/lang/AutoCloseable" (some 0) with
  accessFlags := 1537
  interfaces := #[]
  cf := some (fileOf pool3 1 #[] #[] 1537 3 #[] #[])
  fields := #[]
  methods := #[]
  instanceTypes := #[]
  staticTypes := #[]
  resolved := Array.replicate 12 none
  statics := none }

def pool4 : Array CpInfo := pool [(1, .class_ 2), (0, u "java/io/Closeable"), (0, .class_ 4), (0, u "java/lang/Object"), (0, .class_ 6), (0, u "java/lang/AutoCloseable")] 7

/-- java/io/Closeable -/
def k4 : Class := { plain "java/io/Closeable" (some 0) with
  accessFlags := 1537
  interfaces := #[3]
  cf := some (fileOf pool4 1 #[] #[] 1537 3 #[5] #[])
  fields := #[]
  methods := #[]
  instanceTypes := #[]
  staticTypes := #[]
  resolved := Array.replicate 14 none
  statics := none }

def pool5 : Array CpInfo := pool [(1, .class_ 2), (0, u "java/io/Flushable"), (0, .class_ 4), (0, u "java/lang/Object")] 7

/-- java/io/Flushable -/
def k5 : Class := { plain "java/io/Flushable" (some 0) with
  accessFlags := 1537
  interfaces := #[]
  cf := some (fileOf pool5 1 #[] #[] 1537 3 #[] #[])
  fields := #[]
  methods := #[]
  instanceTypes := #[]
  staticTypes := #[]
  resolved := Array.replicate 12 none
  statics := none }

def pool6 : Array CpInfo := pool [(1, .methodref 2 3), (0, .class_ 4), (0, .nameAndType 5 6), (0, u "java/lang/Object"), (0, u "<init>"), (0, u "()V"), (0, .class_ 8), (0, u "java/io/OutputStream$1"), (2, .class_ 13), (1, u "java/io/OutputStream"), (11, .class_ 26), (0, u "java/io/Closeable"), (0, .class_ 28), (0, u "java/io/Flushable")] 24

def k6c0 : Code := { maxStack := 1, maxLocals := 1, code := jdk_2038_method_1_code, exceptionTable := #[], attributes := #[] }
def k6m0 : Method := { name := "<init>", desc := "()V", sig := { parameters := [], returnType := none }, accessFlags := 1, code := some k6c0 }
/-- java/io/OutputStream -/
def k6 : Class := { plain "java/io/OutputStream" (some 0) with
  accessFlags := 1057
  interfaces := #[4, 5]
  cf := some (fileOf pool6 11 #[.nestMembers #[7]] #[{ accessFlags := 1, nameIndex := 5, descriptorIndex := 6, attributes := #[] }] 1057 2 #[25, 27] #[])
  fields := #[]
  methods := #[k6m0]
  instanceTypes := #[]
  staticTypes := #[]
  resolved := Array.replicate 53 none
  statics := none }

def pool7 : Array CpInfo := pool [(1, .methodref 2 3), (0, .class_ 4), (0, .nameAndType 5 6), (0, u "java/io/ByteArrayOutputStream"), (0, u "<init>"), (0, u "(I)V"), (0, .methodref 8 9), (0, .class_ 10), (0, .nameAndType 5 11), (0, u "java/io/OutputStream"), (0, u "()V"), (21, .fieldref 2 34), (0, .nameAndType 35 36), (0, u "buf"), (0, u "[B"), (14, u "count"), (0, u "I")] 92

def k7c0 : Code := { maxStack := 2, maxLocals := 1, code := jdk_2005_method_1_code, exceptionTable := #[], attributes := #[] }
def k7m0 : Method := { name := "<init>", desc := "()V", sig := { parameters := [], returnType := none }, accessFlags := 1, code := some k7c0 }
def k7c1 : Code := { maxStack := 4, maxLocals := 2, code := jdk_2005_method_2_code, exceptionTable := #[], attributes := #[] }
def k7m1 : Method := { name := "<init>", desc := "(I)V", sig := { parameters := [.int], returnType := none }, accessFlags := 1, code := some k7c1 }
/-- java/io/ByteArrayOutputStream -/
def k7 : Class := { plain "java/io/ByteArrayOutputStream" (some 6) with
  accessFlags := 33
  interfaces := #[]
  cf := some (fileOf pool7 2 #[] #[{ accessFlags := 1, nameIndex := 5, descriptorIndex := 11, attributes := #[] }, { accessFlags := 1, nameIndex := 5, descriptorIndex := 6, attributes := #[] }] 33 8 #[] #[{ accessFlags := 4, nameIndex := 35, descriptorIndex := 36, attributes := #[] }, { accessFlags := 4, nameIndex := 51, descriptorIndex := 52, attributes := #[] }])
  fields := #[{ name := "buf", type := (.array .byte), accessFlags := 4, slot := 0, constantValue := 0 }, { name := "count", type := .int, accessFlags := 4, slot := 1, constantValue := 0 }]
  methods := #[k7m0, k7m1]
  instanceTypes := #[(.array .byte), .int]
  staticTypes := #[]
  resolved := Array.replicate 145 none
  statics := none }

def pool8 : Array CpInfo := pool [(1, u "java/lang/Cloneable"), (0, .class_ 1), (0, u "java/lang/Object"), (0, .class_ 3)] 3

/-- java/lang/Cloneable -/
def k8 : Class := { plain "java/lang/Cloneable" (some 0) with
  accessFlags := 1537
  interfaces := #[]
  cf := some (fileOf pool8 2 #[] #[] 1537 4 #[] #[])
  fields := #[]
  methods := #[]
  instanceTypes := #[]
  staticTypes := #[]
  resolved := Array.replicate 8 none
  statics := none }

def pool9 : Array CpInfo := pool [(1, u "java/io/Serializable"), (0, .class_ 1), (0, u "java/lang/Object"), (0, .class_ 3)] 3

/-- java/io/Serializable -/
def k9 : Class := { plain "java/io/Serializable" (some 0) with
  accessFlags := 1537
  interfaces := #[]
  cf := some (fileOf pool9 2 #[] #[] 1537 4 #[] #[])
  fields := #[]
  methods := #[]
  instanceTypes := #[]
  staticTypes := #[]
  resolved := Array.replicate 8 none
  statics := none }

/-- the primitive byte -/
def k10 : Class := { plain "byte" none with kind := .primitive 'B', accessFlags := 0x411 }
/-- [B -/
def k11 : Class := { plain "[B" (some 0) with kind := .array 10 .byte, interfaces := #[8, 9], accessFlags := 1041 }

/-- the primitive int -/
def k12 : Class := { plain "int" none with kind := .primitive 'I', accessFlags := 0x411 }
/-- [I -/
def k13 : Class := { plain "[I" (some 0) with kind := .array 12 .int, interfaces := #[8, 9], accessFlags := 1041 }

def heap : Heap := #[]
def classes : Array Class := #[k0, k1, k2, k3, k4, k5, k6, k7, k8, k9, k10, k11, k12, k13]
def interned : List (Array UInt16 × Addr) := []
def slotsUsed : Nat := 0
def theMethod : MethodId := ⟨1, 1⟩
def args0 : Array Value := #[.long 5, .long 6, .long 7, .long 8, .int 1]
def aboutOver (below : List Frame) : State where
  vm := { classes := classes, interned := interned.toArray }
  heap := heap
  slotsUsed := slotsUsed
  threads := #[{ frames := .invoking theMethod args0 :: below }]
def below0 : List Frame := [.native { method := ⟨0, 0⟩, args := #[] }]
def about1 : State := aboutOver below0
def p0 : Program := .bare "" "" ""
def e0 : Env := launch0.env 0 0 0
theorem w_frames : about1.frames = Frame.invoking theMethod args0 :: below0 := rfl
set_option maxRecDepth 65536 in
theorem w_args : argsFit about1.vm theMethod args0 = true := by decide +kernel
set_option maxRecDepth 65536 in
theorem w_heap : heapFits about1 = true := by decide +kernel
set_option maxRecDepth 65536 in
theorem w_runnable : about1.curStatus? = some .runnable := by decide +kernel
set_option maxRecDepth 65536 in
theorem w_alone : about1.alone = true := by decide +kernel
set_option maxRecDepth 65536 in
theorem w_named : about1.methodNamed? x = some theMethod := by decide +kernel
set_option maxRecDepth 65536 in
theorem w_hears : about1.hears theMethod below0 = true := by decide +kernel
set_option maxRecDepth 65536 in
theorem w_ripe : about1.ripe theMethod args0 below0 = true := by decide +kernel
theorem w_running : about1.status = .running := rfl
set_option maxRecDepth 65536 in
theorem w_room : about1.hasRoom e0.platform room_1 = true :=
  launch0.hasRoom_least _ room_1 (by decide +kernel) (by decide +kernel) (by decide +kernel) (by decide +kernel) (by decide +kernel) (by decide +kernel)
theorem allAtoms_all (ts : List Jvm.Cond) (a : Array Jvm.Value) (st : Jvm.State) : (allAtoms ts).before a st = ts.all (fun c => c.before a st) := by
  induction ts with
  | nil => rfl
  | cons c t ih =>
    show (Jvm.Cond.and c (allAtoms t)).before a st = _
    rw [Jvm.Cond.before_and, ih, List.all_cons]
def words1 : List Jvm.Cond := Jvm.Cond.code x code maxLocals ret :: tables_1
/-- a 'code' word, met by the world's own term for the bytes: nothing is compared byte by byte -/
theorem code_word {y : MethodName} {bytes : ByteArray} {mx : Nat} {rt : Option FieldType} {a : Array Value} {s : State} {m : MethodId} {meth : Method} {c : Code} (h1 : s.methodNamed? y = some m) (h2 : s.vm.method? m = some meth) (h3 : meth.code = some c) (h4 : c.code = bytes)
    (h5 : (c.maxLocals == mx && c.exceptionTable.isEmpty && decide (c.maxStack ≤ mostOperands) && decide (meth.sig.returnType = rt) && !meth.locks && decide (parseMethodDescriptor y.desc = some meth.sig)) = true) : (Jvm.Cond.code y bytes mx rt).before a s = true := by
  simp only [Bool.and_eq_true, beq_iff_eq, Bool.not_eq_true', decide_eq_true_eq] at h5
  obtain ⟨⟨⟨⟨⟨g1, g2⟩, g3⟩, g4⟩, g5⟩, g6⟩ := h5
  simp [Cond.before, Cond.holds, Cond.value, h1, h2, h3, h4, g1, g2, g3, g4, g5, g6]
def isCode : Jvm.Cond → Bool
  | .code _ _ _ _ => true
  | _ => false
theorem all_split {L : List Jvm.Cond} {P : Jvm.Cond → Bool} (h1 : L.all (fun c => isCode c || P c) = true) (h2 : ∀ c ∈ L.filter isCode, P c = true) : L.all P = true := by
  refine List.all_eq_true.mpr fun c hc => ?_
  have h := List.all_eq_true.mp h1 c hc
  rcases Bool.eq_false_or_eq_true (isCode c) with hi | hi
  · exact h2 c (List.mem_filter.mpr ⟨hc, hi⟩)
  · simpa [hi] using h
set_option maxRecDepth 65536 in
theorem w_c0 : (Jvm.Cond.code x code maxLocals ret).before args0 about1 = true := code_word (m := ⟨1, 1⟩) (meth := k1m1) (c := k1c1) (by decide +kernel) rfl rfl rfl (by decide +kernel)
set_option maxRecDepth 65536 in
theorem w_c1 : (Jvm.Cond.code ({ cls := "com/example/minho/minho/server/Snapshot$Incoming", name := "<init>", desc := "(JJ)V" } : Jvm.MethodName) prog_57_method_1_code (5 : Nat) (Option.none : Option Jvm.ClassFile.FieldType)).before args0 about1 = true := code_word (m := ⟨2, 0⟩) (meth := k2m0) (c := k2c0) (by decide +kernel) rfl rfl rfl (by decide +kernel)
set_option maxRecDepth 65536 in
theorem w_c2 : (Jvm.Cond.code ({ cls := "java/lang/Object", name := "<init>", desc := "()V" } : Jvm.MethodName) object_method_1_code (1 : Nat) (Option.none : Option Jvm.ClassFile.FieldType)).before args0 about1 = true := code_word (m := ⟨0, 0⟩) (meth := k0m0) (c := k0c0) (by decide +kernel) rfl rfl rfl (by decide +kernel)
set_option maxRecDepth 65536 in
theorem w_c3 : (Jvm.Cond.code ({ cls := "java/io/ByteArrayOutputStream", name := "<init>", desc := "()V" } : Jvm.MethodName) jdk_2005_method_1_code (1 : Nat) (Option.none : Option Jvm.ClassFile.FieldType)).before args0 about1 = true := code_word (m := ⟨7, 0⟩) (meth := k7m0) (c := k7c0) (by decide +kernel) rfl rfl rfl (by decide +kernel)
set_option maxRecDepth 65536 in
theorem w_c4 : (Jvm.Cond.code ({ cls := "java/io/ByteArrayOutputStream", name := "<init>", desc := "(I)V" } : Jvm.MethodName) jdk_2005_method_2_code (2 : Nat) (Option.none : Option Jvm.ClassFile.FieldType)).before args0 about1 = true := code_word (m := ⟨7, 1⟩) (meth := k7m1) (c := k7c1) (by decide +kernel) rfl rfl rfl (by decide +kernel)
set_option maxRecDepth 65536 in
theorem w_c5 : (Jvm.Cond.code ({ cls := "java/io/OutputStream", name := "<init>", desc := "()V" } : Jvm.MethodName) jdk_2038_method_1_code (1 : Nat) (Option.none : Option Jvm.ClassFile.FieldType)).before args0 about1 = true := code_word (m := ⟨6, 0⟩) (meth := k6m0) (c := k6c0) (by decide +kernel) rfl rfl rfl (by decide +kernel)
set_option maxRecDepth 65536 in
theorem w_c6 : (Jvm.Cond.code ({ cls := "com/example/minho/minho/server/Snapshot$Incoming", name := "isOf", desc := "(JJ)Z" } : Jvm.MethodName) prog_57_method_2_code (5 : Nat) (Option.some Jvm.ClassFile.FieldType.boolean)).before args0 about1 = true := code_word (m := ⟨2, 1⟩) (meth := k2m1) (c := k2c1) (by decide +kernel) rfl rfl rfl (by decide +kernel)
def codes1 : List Jvm.Cond := [Jvm.Cond.code x code maxLocals ret, Jvm.Cond.code ({ cls := "com/example/minho/minho/server/Snapshot$Incoming", name := "<init>", desc := "(JJ)V" } : Jvm.MethodName) prog_57_method_1_code (5 : Nat) (Option.none : Option Jvm.ClassFile.FieldType), Jvm.Cond.code ({ cls := "java/lang/Object", name := "<init>", desc := "()V" } : Jvm.MethodName) object_method_1_code (1 : Nat) (Option.none : Option Jvm.ClassFile.FieldType), Jvm.Cond.code ({ cls := "java/io/ByteArrayOutputStream", name := "<init>", desc := "()V" } : Jvm.MethodName) jdk_2005_method_1_code (1 : Nat) (Option.none : Option Jvm.ClassFile.FieldType), Jvm.Cond.code ({ cls := "java/io/ByteArrayOutputStream", name := "<init>", desc := "(I)V" } : Jvm.MethodName) jdk_2005_method_2_code (2 : Nat) (Option.none : Option Jvm.ClassFile.FieldType), Jvm.Cond.code ({ cls := "java/io/OutputStream", name := "<init>", desc := "()V" } : Jvm.MethodName) jdk_2038_method_1_code (1 : Nat) (Option.none : Option Jvm.ClassFile.FieldType), Jvm.Cond.code ({ cls := "com/example/minho/minho/server/Snapshot$Incoming", name := "isOf", desc := "(JJ)Z" } : Jvm.MethodName) prog_57_method_2_code (5 : Nat) (Option.some Jvm.ClassFile.FieldType.boolean)]
set_option maxRecDepth 65536 in
theorem codes_eq : words1.filter isCode = codes1 := rfl
theorem w_codes : ∀ c ∈ words1.filter isCode, c.before args0 about1 = true := by
  rw [codes_eq]
  intro c hc
  simp only [codes1, List.mem_cons, List.not_mem_nil, or_false] at hc
  rcases hc with rfl | rfl | rfl | rfl | rfl | rfl | rfl
  · exact w_c0
  · exact w_c1
  · exact w_c2
  · exact w_c3
  · exact w_c4
  · exact w_c5
  · exact w_c6
set_option maxRecDepth 65536 in
theorem w_t1 : (words1.take 24).all (fun c => isCode c || c.before args0 about1) = true := by decide +kernel
set_option maxRecDepth 65536 in
theorem w_t2 : (words1.drop 24).all (fun c => isCode c || c.before args0 about1) = true := by decide +kernel
theorem w_tables : (allAtoms (Jvm.Cond.code x code maxLocals ret :: tables_1)).before args0 about1 = true := by
  rw [allAtoms_all]
  show words1.all (fun c => c.before args0 about1) = true
  refine all_split ?_ w_codes
  rw [← List.take_append_drop 24 words1, List.all_append, w_t1, w_t2]
  rfl
set_option maxRecDepth 65536 in
theorem w_case : (Jvm.Cond.and given_1 narrow_1).before args0 about1 = true := by decide +kernel
theorem w_applies : (headSpec (Jvm.Cond.code x code maxLocals ret :: tables_1) room_1).applies x e0.platform about1 = true :=
  (Spec.applies_iff w_frames).mpr ⟨w_running, w_runnable, w_alone, w_named, w_hears, w_ripe, w_room, w_tables⟩
theorem atStart : AtStart classFile x code maxLocals ret World_1 tables_1 room_1 Calls_1 rest_1 Pre_1 launch0 p0 e0 about1 theMethod args0 below0 :=
  ⟨lists_1, trivial, launch0.admits_env _ _ _, launch0.least_env, fairChoices_fair.cas, fairChoices_fair.clock, w_frames, w_args, w_heap, w_applies, trivial, trivial, w_case⟩
end start1
theorem witness_1 : WitnessClaimed_1 := ⟨start1.p0, start1.e0, start1.about1, start1.theMethod, start1.args0, start1.below0, start1.atStart⟩
end Jvm.Pilot.@@N@@
