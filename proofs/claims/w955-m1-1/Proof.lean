import JvmDerived
import JvmDerived.Pilot.@@N@@Statement
import JvmDerived.Pilot.@@N@@Code
set_option linter.unusedVariables false
set_option linter.unusedSimpArgs false
namespace Jvm.OwnKit
open Sem ClassFile Op Lib Jvm.Stand Jvm.Free Jvm.LawKit Jvm.RoadKit
section Own
variable {p : Program} {l : Launch} {e : Env} {R : Room} {s s0 : State} {m : MethodId} {args : Array Value} {below : List Frame} {meth : Method} {c : Code} {T : State} {locs : List Loc} {cells slots : Nat} {Z : State} {a0 : Array Value} {h : Heap}
/-- a walk comes to its return; Q says what it leaves; En is the frame's word -/
def Done (En : State → Outcome → State → List Loc → Nat → Nat → Prop) (p : Program) (e : Env) (below : List Frame) (s : State) (R : Room) (Q : Option Value → Heap → Vm → List Loc → Prop) (U : State) : Prop :=
  ∃ s₂ o, Steps p.tables e below U s₂ ∧ s₂.status = .running ∧ Ended s₂ below o ∧ ∃ v L, o = .returned v ∧ Q v s₂.heap s₂.vm L ∧ En s o s₂ L R.cells R.slots
variable {En : State → Outcome → State → List Loc → Nat → Nat → Prop} {Q : Option Value → Heap → Vm → List Loc → Prop} {U U' : State}
theorem Done.step (k : ∀ t, Steps p.tables e below U' t → Steps p.tables e below U t) (h : Done En p e below s R Q U') : Done En p e below s R Q U := by
  obtain ⟨s₂, o, h1, r⟩ := h
  exact ⟨s₂, o, k _ h1, r⟩
theorem Done.go (k : Steps p.tables e below U U') (h : Done En p e below s R Q U') : Done En p e below s R Q U := by
  obtain ⟨s₂, o, h1, r⟩ := h
  exact ⟨s₂, o, k.trans h1, r⟩
/-- the method may be left here -/
def Leaves (En : State → Outcome → State → List Loc → Nat → Nat → Prop) (e : Env) (below : List Frame) (s : State) (m : MethodId) (meth : Method) (T : State) (locs : List Loc) (R : Room) : Prop :=
  ∀ v : Option Value, (meth.sig.returnType = none → v = none) → ∃ fs, (∀ (f : JFrame) (acts : List Action), f.method = m → f.locked = none → f.entered = [] → (doReturn e (T.setTop f) acts v).1 = T.setFrames fs) ∧
    (T.setFrames fs).status = .running ∧ Ended (T.setFrames fs) below (.returned v) ∧ En s (.returned v) (T.setFrames fs) locs R.cells R.slots
theorem leavesF (X : Stand p l e R s m args below meth c T locs cells slots) (hlk : meth.locks = false) (hc : cells ≤ R.cells) (hs : slots ≤ R.slots) : Leaves FrameEnd e below s m meth T locs R := by
  intro v hv
  obtain ⟨fs, hr, hrun, hended, hW, hsame⟩ := X.leave hv hlk
  exact ⟨fs, hr, hrun, hended, ⟨_, rfl⟩, hW, hsame.mono hc hs⟩
theorem leavesW {vm0 : Vm} (X : Stand p l e R (s.setVm vm0) m args below meth c T locs cells slots) {n : Nat} (hS : s.Since vm0 n) (hn : n ≤ T.heap.size) (hlk : meth.locks = false) (hc : cells ≤ R.cells) (hs : slots ≤ R.slots) : Leaves ReturnedEndW e below s m meth T locs R := by
  intro v hv
  obtain ⟨fs, hr, hrun, hended, h1, h2, h3, h4⟩ := X.leaveW hS hn hv hlk
  exact ⟨fs, hr, hrun, hended, h1, h2, h3, h4.mono hc hs⟩
theorem Done.retI (Lv : Leaves En e below s0 m meth T locs R) (X : Stand p l e R s m args below meth c T locs cells slots) (hx : p.tables.exec = Jvm.exec) {pc : Nat} {Ls : Array Slot} {z : Int32} {rest : List Value} (hret : meth.sig.returnType = some .int) (hd : decode c.code pc = .ok (.ireturn, 1))
    (hq : Q (some (.int z)) T.heap T.vm locs) : Done En p e below s0 R Q (T.setTop (mkF m pc Ls (.int z :: rest))) := by
  obtain ⟨fs, hr, hrun, hended, hE⟩ := Lv (some (.int z)) (fun h => by rw [hret] at h; cases h)
  exact ⟨_, _, retOut X hx hret rfl (Or.inl ⟨rfl, Or.inl rfl, z, rfl⟩) hd hr, hrun, hended, _, _, rfl, hq, hE⟩
theorem Done.retJ (Lv : Leaves En e below s0 m meth T locs R) (X : Stand p l e R s m args below meth c T locs cells slots) (hx : p.tables.exec = Jvm.exec) {pc : Nat} {Ls : Array Slot} {z : Int64} {rest : List Value} (hret : meth.sig.returnType = some .long) (hd : decode c.code pc = .ok (.lreturn, 1))
    (hq : Q (some (.long z)) T.heap T.vm locs) : Done En p e below s0 R Q (T.setTop (mkF m pc Ls (.long z :: rest))) := by
  obtain ⟨fs, hr, hrun, hended, hE⟩ := Lv (some (.long z)) (fun h => by rw [hret] at h; cases h)
  exact ⟨_, _, retOut X hx hret rfl (Or.inr (Or.inl ⟨rfl, rfl, z, rfl⟩)) hd hr, hrun, hended, _, _, rfl, hq, hE⟩
theorem Done.retD (Lv : Leaves En e below s0 m meth T locs R) (X : Stand p l e R s m args below meth c T locs cells slots) (hx : p.tables.exec = Jvm.exec) {pc : Nat} {Ls : Array Slot} {z : UInt64} {rest : List Value} (hret : meth.sig.returnType = some .double) (hd : decode c.code pc = .ok (.dreturn, 1))
    (hq : Q (some (.double z)) T.heap T.vm locs) : Done En p e below s0 R Q (T.setTop (mkF m pc Ls (.double z :: rest))) := by
  obtain ⟨fs, hr, hrun, hended, hE⟩ := Lv (some (.double z)) (fun h => by rw [hret] at h; cases h)
  exact ⟨_, _, retOut X hx hret rfl (Or.inr (Or.inr (Or.inl ⟨rfl, rfl, z, rfl⟩))) hd hr, hrun, hended, _, _, rfl, hq, hE⟩
theorem Done.retA (Lv : Leaves En e below s0 m meth T locs R) (X : Stand p l e R s m args below meth c T locs cells slots) (hx : p.tables.exec = Jvm.exec) {pc : Nat} {Ls : Array Slot} {w : Value} {t : FieldType} {rest : List Value} (hret : meth.sig.returnType = some t) (ht : t.isReference = true) (hw : w.isRef = true) (hd : decode c.code pc = .ok (.areturn, 1))
    (hq : Q (some w) T.heap T.vm locs) : Done En p e below s0 R Q (T.setTop (mkF m pc Ls (w :: rest))) := by
  obtain ⟨fs, hr, hrun, hended, hE⟩ := Lv (some w) (fun h => by rw [hret] at h; cases h)
  have hn : narrow t w = w := by rcases ref_cases hw with rfl | ⟨a, rfl⟩ <;> cases t <;> rfl
  exact ⟨_, _, retOut X hx hret hn (Or.inr (Or.inr (Or.inr (Or.inr ⟨rfl, ht, hw⟩)))) hd hr, hrun, hended, _, _, rfl, hq, hE⟩
theorem Done.retN (Lv : Leaves En e below s0 m meth T locs R) (X : Stand p l e R s m args below meth c T locs cells slots) (hx : p.tables.exec = Jvm.exec) {pc : Nat} {Ls : Array Slot} {z : Int32} {t : FieldType} {rest : List Value} (hret : meth.sig.returnType = some t) (ht : t = .boolean ∨ t = .byte ∨ t = .char ∨ t = .short) (hd : decode c.code pc = .ok (.ireturn, 1))
    (hq : Q (some (.int (nar t z))) T.heap T.vm locs) : Done En p e below s0 R Q (T.setTop (mkF m pc Ls (.int z :: rest))) := by
  obtain ⟨fs, hr, hrun, hended, hE⟩ := Lv (some (.int (nar t z))) (fun h => by rw [hret] at h; cases h)
  exact ⟨_, _, Jvm.RoadKit.retN X hx hret ht hd hr, hrun, hended, _, _, rfl, hq, hE⟩
theorem Done.retV (Lv : Leaves En e below s0 m meth T locs R) (X : Stand p l e R s m args below meth c T locs cells slots) (hx : p.tables.exec = Jvm.exec) {pc : Nat} {Ls : Array Slot} (hret : meth.sig.returnType = none) (hd : decode c.code pc = .ok (.return_, 1))
    (hq : Q none T.heap T.vm locs) : Done En p e below s0 R Q (T.setTop (mkF m pc Ls [])) := by
  obtain ⟨fs, hr, hrun, hended, hE⟩ := Lv none (fun _ => rfl)
  exact ⟨_, _, X.returnOut hx hret hd hr, hrun, hended, _, _, rfl, hq, hE⟩
/-- a body's contract: from the arguments as' and the heap h0 it returns, and Q holds; PV is asked of the tables -/
def Ctr (En : State → Outcome → State → List Loc → Nat → Nat → Prop) (l : Launch) (Z : State) (y : MethodName) (code : ByteArray) (ml : Nat) (rt : Option FieldType) (ws : List Jvm.Cond) (rm : Room) (as' : Array Value) (h0 : Heap) (PV : Vm → Prop) (Q : Option Value → Heap → Vm → List Loc → Prop) : Prop :=
  MetFree l y (head1 (Jvm.Cond.code y code ml rt :: ws) rm) (fun a U => a = as' ∧ Z.Warmed39 U.vm ∧ U.heap = h0 ∧ PV U.vm) (fun _ _ _ _ _ => True) (fun _ U o U' => ∃ v L, o = .returned v ∧ Q v U'.heap U'.vm L ∧ En U o U' L rm.cells rm.slots)
abbrev TrueV : Vm → Prop := fun _ => True
theorem Ctr.intro {y : MethodName} {code : ByteArray} {ml : Nat} {rt : Option FieldType} {ws : List Jvm.Cond} {rm : Room} {as' : Array Value} {h0 : Heap} {PV : Vm → Prop} {Ls : Array Slot} (hpl : plainFor y = true) (hf : ∀ m, entryFrame m as' ml = mkF m 0 Ls [])
    (body : ∀ (p : Program) (e : Env) (s : State) (m : MethodId) (below : List Frame) (meth : Method) (c : Code) (T : State), p.tables.exec = Jvm.exec → c.code = code → c.maxLocals = ml → s.vm.findClass y.cls = some m.cls → meth.name = y.name → meth.sig.returnType = rt → meth.locks = false → Z.Warmed39 s.vm → PV s.vm → s.heap = h0 → T.heap = h0 →
      Stand p l e rm s m as' below meth c T [] 0 0 → Done En p e below s rm Q (T.setTop (mkF m 0 Ls []))) : Ctr En l Z y code ml rt ws rm as' h0 PV Q := by
  refine MetFree.of_bodySF hpl hisR ?_
  intro p e s m args below meth c s₁ Bd hml0 hP hK
  obtain ⟨rfl, hZ, hh, hV⟩ := hP
  have X0 : Stand p l e rm s m args below meth c s₁ [] 0 0 := Stand.of_body Bd
  have e0 : s₁.heap = h0 := by rw [← hh, Bd.state]; rfl
  obtain ⟨s₂, o, h1, r⟩ := body p e s m below meth c s₁ Bd.exec Bd.bytes hml0 (findClass_of_methodNamed Bd.named) (name_of_methodNamed Bd.named Bd.method).1 Bd.returns Bd.notSynchronized hZ hV hh e0 X0
  exact ⟨s₂, o, castTop (hf m) h1, r⟩
variable {Qc : Option Value → Heap → Vm → List Loc → Prop}
theorem Ctr.back {y : MethodName} {bytes : ByteArray} {maxL : Nat} {ret : Option FieldType} {rm : Room} {len W : Nat} {as' : Array Value} {PV : Vm → Prop} (hM : Ctr FrameEnd l Z y bytes maxL ret [] rm as' h PV Qc)
    (hZ : Z.Warmed39 s.vm) (hV : ∀ vm', s.WarmedH vm' → PV vm') (wc : (Jvm.Cond.code y bytes maxL ret).before a0 Z = true) (wz : (Jvm.Cond.initialized y.cls).before a0 Z = true) (hf : rm.frames + 1 ≤ R.frames) (hl : W + (maxL + 11) + rm.locals ≤ R.locals) :
    Back l R p e below s args y len W (fun A a => a = as' ∧ A.U.heap = h ∧ A.cells + rm.cells ≤ R.cells ∧ A.slots + rm.slots ≤ R.slots)
      (fun A _ v B => ∃ L, Qc v B.U.heap B.U.vm L ∧ B.locs = A.locs ++ L ∧ B.cells = A.cells + rm.cells ∧ B.slots = A.slots + rm.slots) :=
  Back.of_free (bytes := bytes) (maxL := maxL) (ret := ret) (E := fun _ _ o t L k n => k = rm.cells ∧ n = rm.slots ∧ ∃ v, o = .returned v ∧ Qc v t.heap t.vm L) hM hf hl
    (fun m meth c A a Y hp => have hU : Z.Warmed39 A.U.vm := wtrans hZ Y.warmed
      ⟨by show (Cond.and _ .tt).before a A.U = true; rw [Cond.before_and, mv hU wc]; rfl, mv hU wc, mv hU wz, hp.2.2.1, hp.2.2.2⟩)
    (fun m meth c A a g mk Y hp => ⟨hp.1, wtrans hZ Y.warmed, hp.2.1, hV _ Y.warmed⟩) (fun _ _ _ _ _ _ _ _ _ => trivial)
    (fun _ _ _ _ ⟨v, L, h1, h2, h3⟩ => ⟨L, _, _, h3, rfl, rfl, v, h1, h2⟩)
    (fun m meth c A a g mk v t L k n Y hp _ _ ⟨e1, e2, v', e3, e4⟩ => by cases e3; subst e1 e2; exact ⟨L, e4, rfl, rfl, rfl⟩)
theorem Ctr.backW {y : MethodName} {bytes : ByteArray} {maxL : Nat} {ret : Option FieldType} {rm : Room} {len W : Nat} {as' : Array Value} {PV : Vm → Prop} (hM : Ctr ReturnedEndW l Z y bytes maxL ret [] rm as' h PV Qc)
    (hZ : Z.Warmed39 s.vm) (hV : ∀ vm', s.WarmedH vm' → PV vm') (wc : (Jvm.Cond.code y bytes maxL ret).before a0 Z = true) (wz : (Jvm.Cond.initialized y.cls).before a0 Z = true) (hf : rm.frames + 1 ≤ R.frames) (hl : W + (maxL + 11) + rm.locals ≤ R.locals) :
    BackS l R p e below s args y len W (fun A a => a = as' ∧ A.U.heap = h ∧ A.cells + rm.cells ≤ R.cells ∧ A.slots + rm.slots ≤ R.slots)
      (fun A _ v B => ∃ L, Qc v B.U.heap B.U.vm L ∧ B.locs = A.locs ++ L ∧ B.cells = A.cells + rm.cells ∧ B.slots = A.slots + rm.slots) :=
  BackS.of_freeW (bytes := bytes) (maxL := maxL) (ret := ret) (E := fun _ _ o t L k n => k = rm.cells ∧ n = rm.slots ∧ ∃ v, o = .returned v ∧ Qc v t.heap t.vm L) hM hf hl
    (fun m meth c A a Y hp => have hU : Z.Warmed39 A.U.vm := wtrans hZ Y.warmed
      ⟨by show (Cond.and _ .tt).before a A.U = true; rw [Cond.before_and, mv hU wc]; rfl, mv hU wc, mv hU wz, hp.2.2.1, hp.2.2.2⟩)
    (fun m meth c A a g mk Y hp => ⟨hp.1, wtrans hZ Y.warmed, hp.2.1, hV _ Y.warmed⟩) (fun _ _ _ _ _ _ _ _ _ => trivial)
    (fun _ _ _ _ ⟨v, L, h1, h2, h3⟩ => ⟨L, _, _, h3, rfl, rfl, v, h1, h2⟩)
    (fun m meth c A a g mk v t L k n Y hp _ _ ⟨e1, e2, v', e3, e4⟩ => by cases e3; subst e1 e2; exact ⟨L, e4, rfl, rfl, rfl⟩)
theorem wAt {ws : List Jvm.Cond} (hw : ∀ d ∈ ws, d.before a0 Z = true) (k : Nat) {d : Jvm.Cond} (q : ws[k]? = some d) : d.before a0 Z = true := hw _ (List.mem_of_getElem? q)
theorem int_eq_v {first s : State} {o : Option Outcome} {idx : List Nat} {t : Term} {k : Int32} (q : (Jvm.Cond.eq t (.int k)).value args first o s idx = some true) : t.eval args first o idx s = some (.int k) := by
  cases ht : t.eval args first o idx s with
  | none => simp [Cond.value, ht] at q
  | some x => cases x <;> simp [Cond.value, Term.eval, ht] at q ⊢; exact q
/-- a truth value as the JVM returns it -/
def bP (P : Prop) [Decidable P] : Int32 := if P then 1 else 0
theorem bP_t {P : Prop} [Decidable P] (q : P) : bP P = 1 := if_pos q
theorem bP_f {P : Prop} [Decidable P] (q : ¬ P) : bP P = 0 := if_neg q
/-- what a law leaves: it returns 1, and wrote in new cells alone -/
def LawQ (n0 : Nat) : Option Value → Heap → Vm → List Loc → Prop := fun v _ _ L => v = some (.int 1) ∧ Fr n0 L
/-- what a body leaves that writes and makes nothing -/
def PureQ (r : Option Value) (h0 : Heap) : Option Value → Heap → Vm → List Loc → Prop := fun v h _ L => v = r ∧ h = h0 ∧ L = []
/-- what a constructor leaves of which no more is wanted: it wrote in ws and in new cells alone -/
def QW (n0 : Nat) (h0 : Heap) (ws : List Addr) : Option Value → Heap → Vm → List Loc → Prop := fun v h _ L => v = none ∧ Fr n0 L ∧ Keep h0 h ws
section Calls
variable {own C : String} {index : Nat} {y z : MethodName} {bytes : ByteArray} {maxL : Nat} {ret : Option FieldType} {rm : Room} {as' : Array Value} {PV : Vm → Prop} {g : JFrame} {r : Option Value}
theorem Done.callS (X : Stand p l e R s m args below meth c T locs cells slots) (hx : p.tables.exec = Jvm.exec) (hZ : Z.Warmed39 s.vm) (hown : s.vm.findClass own = some m.cls)
    (w1 : (Jvm.Cond.methodLink own index y).before a0 Z = true) (w2 : (Jvm.Cond.static y).before a0 Z = true) (w3 : (Jvm.Cond.initialized y.cls).before a0 Z = true) (w4 : (Jvm.Cond.code y bytes maxL ret).before a0 Z = true)
    (hy : y.cls ≠ "java/lang/invoke/MethodHandle" ∧ y.cls ≠ "java/lang/invoke/VarHandle") (hM : Ctr FrameEnd l Z y bytes maxL ret [] rm as' h PV Qc) (hV : ∀ vm', s.WarmedH vm' → PV vm') (eT : T.heap = h)
    (hg : g.method = m) (hsize : g.locals.size = c.maxLocals) (argsL rest : List Value) (W : Nat) (hlen : ∀ sig, parseMethodDescriptor y.desc = some sig → argsL.length = sig.parameters.length)
    (hstack : g.stack = argsL.reverse ++ rest) (has : argsL.toArray = as') (hW : 2 * g.monitorRoom + (rest.map fun v => v.category).sum ≤ W) (hdg : decode c.code g.pc = .ok (.invokestatic index, 3))
    (hf : rm.frames + 1 ≤ R.frames) (hl : W + (maxL + 11) + rm.locals ≤ R.locals) (hc : cells + rm.cells ≤ R.cells) (hs : slots + rm.slots ≤ R.slots)
    (k : ∀ (T' : State) (v : Option Value) (L : List Loc), Stand p l e R s m args below meth c T' (locs ++ L) (cells + rm.cells) (slots + rm.slots) → Qc v T'.heap T'.vm L → Done En p e below s0 R Q (T'.setTop { g with pc := g.pc + 3, stack := v.toList ++ rest })) :
    Done En p e below s0 R Q (T.setTop g) := by
  subst has
  obtain ⟨v, vm₁, ⟨T', L', k', n'⟩, -, X', ⟨L, hq, e1, e2, e3⟩, st⟩ := Jvm.LawKit.callS X hx (y := y) hown (mvT hZ w1) (mvT hZ w2) (mvT hZ w3) (mvT hZ w4) hy (hM.back (W := W) hZ hV w4 w3 hf hl) hg hsize (argsL := argsL) (rest := rest) hlen hstack hW hdg (fun _ _ => ⟨rfl, eT, hc, hs⟩)
  dsimp only [Pt.U, Pt.locs, Pt.cells, Pt.slots] at X' e1 e2 e3 st hq
  subst e1 e2 e3
  exact Done.step st (k _ _ _ X' hq)
theorem Done.callSP (X : Stand p l e R s m args below meth c T locs cells slots) (hx : p.tables.exec = Jvm.exec) (hZ : Z.Warmed39 s.vm) (hown : s.vm.findClass own = some m.cls)
    (w1 : (Jvm.Cond.methodLink own index y).before a0 Z = true) (w2 : (Jvm.Cond.static y).before a0 Z = true) (w3 : (Jvm.Cond.initialized y.cls).before a0 Z = true) (w4 : (Jvm.Cond.code y bytes maxL ret).before a0 Z = true)
    (hy : y.cls ≠ "java/lang/invoke/MethodHandle" ∧ y.cls ≠ "java/lang/invoke/VarHandle") (hM : Ctr FrameEnd l Z y bytes maxL ret [] rm as' h TrueV (PureQ r h)) (eT : T.heap = h)
    (hg : g.method = m) (hsize : g.locals.size = c.maxLocals) (argsL rest : List Value) (W : Nat) (hlen : ∀ sig, parseMethodDescriptor y.desc = some sig → argsL.length = sig.parameters.length)
    (hstack : g.stack = argsL.reverse ++ rest) (has : argsL.toArray = as') (hW : 2 * g.monitorRoom + (rest.map fun v => v.category).sum ≤ W) (hdg : decode c.code g.pc = .ok (.invokestatic index, 3))
    (hf : rm.frames + 1 ≤ R.frames) (hl : W + (maxL + 11) + rm.locals ≤ R.locals) (hc : cells ≤ R.cells) (hs : slots ≤ R.slots) (rc : rm.cells = 0) (rs : rm.slots = 0)
    (k : ∀ (T' : State), Stand p l e R s m args below meth c T' locs cells slots → T'.heap = h → Done En p e below s0 R Q (T'.setTop { g with pc := g.pc + 3, stack := r.toList ++ rest })) :
    Done En p e below s0 R Q (T.setTop g) := by
  refine Done.callS X hx hZ hown w1 w2 w3 w4 hy hM (fun _ _ => trivial) eT hg hsize argsL rest W hlen hstack has hW hdg hf hl (by rw [rc]; exact hc) (by rw [rs]; exact hs) ?_
  intro T' v L X' q
  obtain ⟨rfl, e1, rfl⟩ := q
  rw [List.append_nil, rc, rs] at X'
  exact k T' X' e1
theorem Done.callI (X : Stand p l e R s m args below meth c T locs cells slots) (hx : p.tables.exec = Jvm.exec) (hZ : Z.Warmed39 s.vm) (hy1 : y.name = "<init>") (hown : s.vm.findClass own = some m.cls)
    (w1 : (Jvm.Cond.methodLink own index y).before a0 Z = true) (w2 : (Jvm.Cond.instanceMethod y).before a0 Z = true) (w3 : (Jvm.Cond.initialized y.cls).before a0 Z = true) (w4 : (Jvm.Cond.code y bytes maxL none).before a0 Z = true)
    (hy : y.cls ≠ "java/lang/invoke/MethodHandle" ∧ y.cls ≠ "java/lang/invoke/VarHandle") (hM : Ctr FrameEnd l Z y bytes maxL none [] rm as' h PV Qc) (hV : ∀ vm', s.WarmedH vm' → PV vm') (eT : T.heap = h)
    (hg : g.method = m) (hsize : g.locals.size = c.maxLocals) (a : Addr) (argsL rest : List Value) (W : Nat) (hlen : ∀ sig, parseMethodDescriptor y.desc = some sig → argsL.length = sig.parameters.length)
    (hstack : g.stack = argsL.reverse ++ .ref a :: rest) (has : (Value.ref a :: argsL).toArray = as') (hW : 2 * g.monitorRoom + (rest.map fun v => v.category).sum ≤ W) (hdg : decode c.code g.pc = .ok (.invokespecial index, 3))
    (hf : rm.frames + 1 ≤ R.frames) (hl : W + (maxL + 11) + rm.locals ≤ R.locals) (hc : cells + rm.cells ≤ R.cells) (hs : slots + rm.slots ≤ R.slots)
    (k : ∀ (T' : State) (v : Option Value) (L : List Loc), Stand p l e R s m args below meth c T' (locs ++ L) (cells + rm.cells) (slots + rm.slots) → Qc v T'.heap T'.vm L → Done En p e below s0 R Q (T'.setTop { g with pc := g.pc + 3, stack := v.toList ++ rest })) :
    Done En p e below s0 R Q (T.setTop g) := by
  subst has
  obtain ⟨v, vm₁, ⟨T', L', k', n'⟩, -, X', ⟨L, hq, e1, e2, e3⟩, st⟩ := X.specialBack hx (y := y) hy1 hown (mvT hZ w1) (mvT hZ w2) (mvT hZ w4) hy (hM.back (W := W) hZ hV w4 w3 hf hl) hg hsize (Steps.refl _) (a := a) (argsL := argsL) (rest := rest) hlen hstack hW hdg (fun _ _ => ⟨rfl, eT, hc, hs⟩)
  dsimp only [Pt.U, Pt.locs, Pt.cells, Pt.slots] at X' e1 e2 e3 st hq
  subst e1 e2 e3
  exact Done.go st (k _ _ _ X' hq)
theorem Done.callV (X : Stand p l e R s m args below meth c T locs cells slots) (hx : p.tables.exec = Jvm.exec) (hZ : Z.Warmed39 s.vm) (hown : s.vm.findClass own = some m.cls)
    (w1 : (Jvm.Cond.methodLink own index y).before a0 Z = true) (w2 : (Jvm.Cond.declares y).before a0 Z = true) (hnf : NotFace s y) (w5 : (Jvm.Cond.selects C y z).before a0 Z = true) (w6 : (Jvm.Cond.instanceMethod z).before a0 Z = true)
    (w3 : (Jvm.Cond.initialized z.cls).before a0 Z = true) (w4 : (Jvm.Cond.code z bytes maxL ret).before a0 Z = true)
    (hy : y.cls ≠ "java/lang/invoke/MethodHandle" ∧ y.cls ≠ "java/lang/invoke/VarHandle") (hM : Ctr FrameEnd l Z z bytes maxL ret [] rm as' h PV Qc) (hV : ∀ vm', s.WarmedH vm' → PV vm') (eT : T.heap = h) {b : Addr} (E : Exa Z h b C)
    (hg : g.method = m) (hsize : g.locals.size = c.maxLocals) (argsL rest : List Value) (W : Nat) (hlen : ∀ sig, parseMethodDescriptor y.desc = some sig → argsL.length = sig.parameters.length)
    (hstack : g.stack = argsL.reverse ++ .ref b :: rest) (has : (Value.ref b :: argsL).toArray = as') (hW : 2 * g.monitorRoom + (rest.map fun v => v.category).sum ≤ W) (hdg : decode c.code g.pc = .ok (.invokevirtual index, 3))
    (hf : rm.frames + 1 ≤ R.frames) (hl : W + (maxL + 11) + rm.locals ≤ R.locals) (hc : cells + rm.cells ≤ R.cells) (hs : slots + rm.slots ≤ R.slots)
    (k : ∀ (T' : State) (v : Option Value) (L : List Loc), Stand p l e R s m args below meth c T' (locs ++ L) (cells + rm.cells) (slots + rm.slots) → Qc v T'.heap T'.vm L → Done En p e below s0 R Q (T'.setTop { g with pc := g.pc + 3, stack := v.toList ++ rest })) :
    Done En p e below s0 R Q (T.setTop g) := by
  subst has
  obtain ⟨cq, kq, qa, qb, qc⟩ := isOf (T := T) hZ eT E
  obtain ⟨v, vm₁, ⟨T', L', k', n'⟩, -, X', ⟨L, hq, e1, e2, e3⟩, st⟩ := X.virtualBack hx (y := y) (z := z) hown (mvT hZ w1) (mvT hZ w2) hnf (mvT hZ w5) (mvT hZ w6) hy (hM.back (W := W) hZ hV w4 w3 hf hl) qa qc hg hsize (Steps.refl _) (argsL := argsL) (rest := rest) hlen hstack hW hdg (fun _ _ => ⟨rfl, eT, hc, hs⟩)
  dsimp only [Pt.U, Pt.locs, Pt.cells, Pt.slots] at X' e1 e2 e3 st hq
  subst e1 e2 e3
  exact Done.go st (k _ _ _ X' hq)
theorem Done.callVP (X : Stand p l e R s m args below meth c T locs cells slots) (hx : p.tables.exec = Jvm.exec) (hZ : Z.Warmed39 s.vm) (hown : s.vm.findClass own = some m.cls)
    (w1 : (Jvm.Cond.methodLink own index y).before a0 Z = true) (w2 : (Jvm.Cond.declares y).before a0 Z = true) (hnf : NotFace s y) (w5 : (Jvm.Cond.selects C y z).before a0 Z = true) (w6 : (Jvm.Cond.instanceMethod z).before a0 Z = true)
    (w3 : (Jvm.Cond.initialized z.cls).before a0 Z = true) (w4 : (Jvm.Cond.code z bytes maxL ret).before a0 Z = true)
    (hy : y.cls ≠ "java/lang/invoke/MethodHandle" ∧ y.cls ≠ "java/lang/invoke/VarHandle") (hM : Ctr FrameEnd l Z z bytes maxL ret [] rm as' h TrueV (PureQ r h)) (eT : T.heap = h) {b : Addr} (E : Exa Z h b C)
    (hg : g.method = m) (hsize : g.locals.size = c.maxLocals) (argsL rest : List Value) (W : Nat) (hlen : ∀ sig, parseMethodDescriptor y.desc = some sig → argsL.length = sig.parameters.length)
    (hstack : g.stack = argsL.reverse ++ .ref b :: rest) (has : (Value.ref b :: argsL).toArray = as') (hW : 2 * g.monitorRoom + (rest.map fun v => v.category).sum ≤ W) (hdg : decode c.code g.pc = .ok (.invokevirtual index, 3))
    (hf : rm.frames + 1 ≤ R.frames) (hl : W + (maxL + 11) + rm.locals ≤ R.locals) (hc : cells ≤ R.cells) (hs : slots ≤ R.slots) (rc : rm.cells = 0) (rs : rm.slots = 0)
    (k : ∀ (T' : State), Stand p l e R s m args below meth c T' locs cells slots → T'.heap = h → Done En p e below s0 R Q (T'.setTop { g with pc := g.pc + 3, stack := r.toList ++ rest })) :
    Done En p e below s0 R Q (T.setTop g) := by
  refine Done.callV X hx hZ hown w1 w2 hnf w5 w6 w3 w4 hy hM (fun _ _ => trivial) eT E hg hsize argsL rest W hlen hstack has hW hdg hf hl (by rw [rc]; exact hc) (by rw [rs]; exact hs) ?_
  intro T' v L X' q
  obtain ⟨rfl, e1, rfl⟩ := q
  rw [List.append_nil, rc, rs] at X'
  exact k T' X' e1
/-- calls that a law of the library or of a paste pays -/
theorem Done.callIB {nc ns W : Nat} {Qh : Option Value → Heap → List Loc → Prop} (X : Stand p l e R s m args below meth c T locs cells slots) (hx : p.tables.exec = Jvm.exec) (hZ : Z.Warmed39 s.vm) (hy1 : y.name = "<init>") (hown : s.vm.findClass own = some m.cls)
    (w1 : (Jvm.Cond.methodLink own index y).before a0 Z = true) (w2 : (Jvm.Cond.instanceMethod y).before a0 Z = true) (w4 : (Jvm.Cond.code y bytes maxL none).before a0 Z = true)
    (hy : y.cls ≠ "java/lang/invoke/MethodHandle" ∧ y.cls ≠ "java/lang/invoke/VarHandle")
    (hK : Back l R p e below s args y 3 W (fun A a => a = as' ∧ A.U.heap = h ∧ A.cells + nc ≤ R.cells ∧ A.slots + ns ≤ R.slots) (fun A _ v B => ∃ L, Qh v B.U.heap L ∧ B.locs = A.locs ++ L ∧ B.cells = A.cells + nc ∧ B.slots = A.slots + ns)) (eT : T.heap = h)
    (hg : g.method = m) (hsize : g.locals.size = c.maxLocals) (a : Addr) (argsL rest : List Value) (hlen : ∀ sig, parseMethodDescriptor y.desc = some sig → argsL.length = sig.parameters.length)
    (hstack : g.stack = argsL.reverse ++ .ref a :: rest) (has : (Value.ref a :: argsL).toArray = as') (hW : 2 * g.monitorRoom + (rest.map fun v => v.category).sum ≤ W) (hdg : decode c.code g.pc = .ok (.invokespecial index, 3))
    (hc : cells + nc ≤ R.cells) (hs : slots + ns ≤ R.slots)
    (k : ∀ (T' : State) (v : Option Value) (L : List Loc), Stand p l e R s m args below meth c T' (locs ++ L) (cells + nc) (slots + ns) → Qh v T'.heap L → Done En p e below s0 R Q (T'.setTop { g with pc := g.pc + 3, stack := v.toList ++ rest })) :
    Done En p e below s0 R Q (T.setTop g) := by
  subst has
  obtain ⟨v, vm₁, ⟨T', L', k', n'⟩, -, X', ⟨L, hq, e1, e2, e3⟩, st⟩ := X.specialBack hx (y := y) hy1 hown (mvT hZ w1) (mvT hZ w2) (mvT hZ w4) hy hK hg hsize (Steps.refl _) (a := a) (argsL := argsL) (rest := rest) hlen hstack hW hdg (fun _ _ => ⟨rfl, eT, hc, hs⟩)
  dsimp only [Pt.U, Pt.locs, Pt.cells, Pt.slots] at X' e1 e2 e3 st hq
  subst e1 e2 e3
  exact Done.go st (k _ _ _ X' hq)
theorem Done.callVB {nc ns W : Nat} {Qh : Option Value → Heap → List Loc → Prop} (X : Stand p l e R s m args below meth c T locs cells slots) (hx : p.tables.exec = Jvm.exec) (hZ : Z.Warmed39 s.vm) (hown : s.vm.findClass own = some m.cls)
    (w1 : (Jvm.Cond.methodLink own index y).before a0 Z = true) (w2 : (Jvm.Cond.declares y).before a0 Z = true) (hnf : NotFace s y) (w5 : (Jvm.Cond.selects C y z).before a0 Z = true) (w6 : (Jvm.Cond.instanceMethod z).before a0 Z = true)
    (hy : y.cls ≠ "java/lang/invoke/MethodHandle" ∧ y.cls ≠ "java/lang/invoke/VarHandle")
    (hK : Back l R p e below s args z 3 W (fun A a => a = as' ∧ A.U.heap = h ∧ A.cells + nc ≤ R.cells ∧ A.slots + ns ≤ R.slots) (fun A _ v B => ∃ L, Qh v B.U.heap L ∧ B.locs = A.locs ++ L ∧ B.cells = A.cells + nc ∧ B.slots = A.slots + ns)) (eT : T.heap = h) {b : Addr} (E : Exa Z h b C)
    (hg : g.method = m) (hsize : g.locals.size = c.maxLocals) (argsL rest : List Value) (hlen : ∀ sig, parseMethodDescriptor y.desc = some sig → argsL.length = sig.parameters.length)
    (hstack : g.stack = argsL.reverse ++ .ref b :: rest) (has : (Value.ref b :: argsL).toArray = as') (hW : 2 * g.monitorRoom + (rest.map fun v => v.category).sum ≤ W) (hdg : decode c.code g.pc = .ok (.invokevirtual index, 3))
    (hc : cells + nc ≤ R.cells) (hs : slots + ns ≤ R.slots)
    (k : ∀ (T' : State) (v : Option Value) (L : List Loc), Stand p l e R s m args below meth c T' (locs ++ L) (cells + nc) (slots + ns) → Qh v T'.heap L → Done En p e below s0 R Q (T'.setTop { g with pc := g.pc + 3, stack := v.toList ++ rest })) :
    Done En p e below s0 R Q (T.setTop g) := by
  subst has
  obtain ⟨cq, kq, qa, qb, qc⟩ := isOf (T := T) hZ eT E
  obtain ⟨v, vm₁, ⟨T', L', k', n'⟩, -, X', ⟨L, hq, e1, e2, e3⟩, st⟩ := X.virtualBack hx (y := y) (z := z) hown (mvT hZ w1) (mvT hZ w2) hnf (mvT hZ w5) (mvT hZ w6) hy hK qa qc hg hsize (Steps.refl _) (argsL := argsL) (rest := rest) hlen hstack hW hdg (fun _ _ => ⟨rfl, eT, hc, hs⟩)
  dsimp only [Pt.U, Pt.locs, Pt.cells, Pt.slots] at X' e1 e2 e3 st hq
  subst e1 e2 e3
  exact Done.go st (k _ _ _ X' hq)
/-- the three calls of a callee that may load literals -/
theorem Done.callSW {vm0 : Vm} {k0 : Nat} (X : Stand p l e R (s.setVm vm0) m args below meth c T locs cells slots) (hx : p.tables.exec = Jvm.exec) (hZ : Z.Warmed39 vm0) (hown : vm0.findClass own = some m.cls) (hS : s.Since vm0 k0) (hk : k0 ≤ h.size)
    (w1 : (Jvm.Cond.methodLink own index y).before a0 Z = true) (w2 : (Jvm.Cond.static y).before a0 Z = true) (w3 : (Jvm.Cond.initialized y.cls).before a0 Z = true) (w4 : (Jvm.Cond.code y bytes maxL ret).before a0 Z = true)
    (hy : y.cls ≠ "java/lang/invoke/MethodHandle" ∧ y.cls ≠ "java/lang/invoke/VarHandle") (hM : Ctr ReturnedEndW l Z y bytes maxL ret [] rm as' h PV Qc) (hV : ∀ vm', (s.setVm vm0).WarmedH vm' → PV vm') (eT : T.heap = h)
    (hg : g.method = m) (hsize : g.locals.size = c.maxLocals) (argsL rest : List Value) (W : Nat) (hlen : ∀ sig, parseMethodDescriptor y.desc = some sig → argsL.length = sig.parameters.length)
    (hstack : g.stack = argsL.reverse ++ rest) (has : argsL.toArray = as') (hW : 2 * g.monitorRoom + (rest.map fun v => v.category).sum ≤ W) (hdg : decode c.code g.pc = .ok (.invokestatic index, 3))
    (hf : rm.frames + 1 ≤ R.frames) (hl : W + (maxL + 11) + rm.locals ≤ R.locals) (hc : cells + rm.cells ≤ R.cells) (hs : slots + rm.slots ≤ R.slots)
    (k : ∀ (T' : State) (v : Option Value) (L : List Loc), Stand p l e R (s.setVm T'.vm) m args below meth c T' (locs ++ L) (cells + rm.cells) (slots + rm.slots) → s.Since T'.vm T'.heap.size → Z.Warmed39 T'.vm → T'.vm.findClass own = some m.cls → (s.setVm vm0).Warmed39 T'.vm → Qc v T'.heap T'.vm L →
      Done En p e below s0 R Q (T'.setTop { g with pc := g.pc + 3, stack := v.toList ++ rest })) :
    Done En p e below s0 R Q (T.setTop g) := by
  subst has eT
  obtain ⟨v, vm₁, ⟨T', L', k', n'⟩, hW1, X', hS', hgr, ⟨L, hq, e1, e2, e3⟩, st⟩ := callSS (s := s.setVm vm0) X hx (y := y) hown (mvT (s := s.setVm vm0) hZ w1) (mvT (s := s.setVm vm0) hZ w2) (mvT (s := s.setVm vm0) hZ w3) (mvT (s := s.setVm vm0) hZ w4) hy (hM.backW (s := s.setVm vm0) (W := W) hZ hV w4 w3 hf hl) hg hsize (argsL := argsL) (rest := rest) hlen hstack hW hdg (fun _ _ => ⟨rfl, rfl, hc, hs⟩)
  dsimp only [Pt.U, Pt.locs, Pt.cells, Pt.slots] at X' e1 e2 e3 st hq hS' hgr
  subst e1 e2 e3
  exact Done.go st (k T' v L X' (hS.trans hS' (Nat.le_trans hk hgr)) (State.Warmed39.trans (t := s.setVm vm0) hZ hS'.1) (by rw [hS'.1.alike.findClass]; exact hown) hS'.1 hq)
theorem Done.callIW {vm0 : Vm} {k0 : Nat} (X : Stand p l e R (s.setVm vm0) m args below meth c T locs cells slots) (hx : p.tables.exec = Jvm.exec) (hZ : Z.Warmed39 vm0) (hy1 : y.name = "<init>") (hown : vm0.findClass own = some m.cls) (hS : s.Since vm0 k0) (hk : k0 ≤ h.size)
    (w1 : (Jvm.Cond.methodLink own index y).before a0 Z = true) (w2 : (Jvm.Cond.instanceMethod y).before a0 Z = true) (w3 : (Jvm.Cond.initialized y.cls).before a0 Z = true) (w4 : (Jvm.Cond.code y bytes maxL none).before a0 Z = true)
    (hy : y.cls ≠ "java/lang/invoke/MethodHandle" ∧ y.cls ≠ "java/lang/invoke/VarHandle") (hM : Ctr ReturnedEndW l Z y bytes maxL none [] rm as' h PV Qc) (hV : ∀ vm', (s.setVm vm0).WarmedH vm' → PV vm') (eT : T.heap = h)
    (hg : g.method = m) (hsize : g.locals.size = c.maxLocals) (a : Addr) (argsL rest : List Value) (W : Nat) (hlen : ∀ sig, parseMethodDescriptor y.desc = some sig → argsL.length = sig.parameters.length)
    (hstack : g.stack = argsL.reverse ++ .ref a :: rest) (has : (Value.ref a :: argsL).toArray = as') (hW : 2 * g.monitorRoom + (rest.map fun v => v.category).sum ≤ W) (hdg : decode c.code g.pc = .ok (.invokespecial index, 3))
    (hf : rm.frames + 1 ≤ R.frames) (hl : W + (maxL + 11) + rm.locals ≤ R.locals) (hc : cells + rm.cells ≤ R.cells) (hs : slots + rm.slots ≤ R.slots)
    (k : ∀ (T' : State) (v : Option Value) (L : List Loc), Stand p l e R (s.setVm T'.vm) m args below meth c T' (locs ++ L) (cells + rm.cells) (slots + rm.slots) → s.Since T'.vm T'.heap.size → Z.Warmed39 T'.vm → T'.vm.findClass own = some m.cls → (s.setVm vm0).Warmed39 T'.vm → Qc v T'.heap T'.vm L →
      Done En p e below s0 R Q (T'.setTop { g with pc := g.pc + 3, stack := v.toList ++ rest })) :
    Done En p e below s0 R Q (T.setTop g) := by
  subst has eT
  obtain ⟨v, vm₁, ⟨T', L', k', n'⟩, hW1, X', hS', hgr, ⟨L, hq, e1, e2, e3⟩, st⟩ := specialBackS (s := s.setVm vm0) X hx (y := y) hy1 hown (mvT (s := s.setVm vm0) hZ w1) (mvT (s := s.setVm vm0) hZ w2) (mvT (s := s.setVm vm0) hZ w4) hy (hM.backW (s := s.setVm vm0) (W := W) hZ hV w4 w3 hf hl) hg hsize (Steps.refl _) (a := a) (argsL := argsL) (rest := rest) hlen hstack hW hdg (fun _ _ => ⟨rfl, rfl, hc, hs⟩)
  dsimp only [Pt.U, Pt.locs, Pt.cells, Pt.slots] at X' e1 e2 e3 st hq hS' hgr
  subst e1 e2 e3
  exact Done.go st (k T' v L X' (hS.trans hS' (Nat.le_trans hk hgr)) (State.Warmed39.trans (t := s.setVm vm0) hZ hS'.1) (by rw [hS'.1.alike.findClass]; exact hown) hS'.1 hq)
end Calls
end Own
end Jvm.OwnKit
@@BLOCK:NumsL.lean.txt@@
namespace Jvm.Pilot.@@N@@
open Jvm Jvm.ClassFile Sem Op Lib Jvm.Free Jvm.Stand Jvm.LawKit Jvm.RoadKit Jvm.OwnKit Bundle Jvm.Pilot.@@N@@.Jvm.D
abbrev oI (x : Int32) : Slot := .val (.int x)
abbrev oJ (x : Int64) : Slot := .val (.long x)
abbrev oR (x : Addr) : Slot := .val (.ref x)
theorem own_up (cs : List Int32) (h : ∀ c ∈ cs, ¬ c < 0 ∧ ¬ (255 : Int32) < c) : ∀ c ∈ cs, ¬ c < 0 ∧ ¬ (65535 : Int32) < c := fun c hc => ⟨(h c hc).1, fun q => (h c hc).2 (by rw [Int32.lt_iff_toInt_lt] at q ⊢; have e1 : (65535 : Int32).toInt = 65535 := rfl; have e2 : (255 : Int32).toInt = 255 := rfl; omega)⟩
theorem own_toInt16 (x : Int32) : x.toUInt32.toUInt16.toUInt32.toInt32.toInt = x.toInt % 65536 := by
  have h : (x.toUInt32.toUInt16.toUInt32.toInt32).toBitVec.toNat = x.toBitVec.toNat % 65536 := by simp
  have h2 : (x.toUInt32.toUInt16.toUInt32.toInt32).toBitVec.toNat < 65536 := by rw [h]; exact Nat.mod_lt _ (by decide)
  have e1 : (x.toUInt32.toUInt16.toUInt32.toInt32).toInt = ((x.toUInt32.toUInt16.toUInt32.toInt32).toBitVec.toNat : Int) := by
    rw [← Int32.toInt_toBitVec, BitVec.toInt_eq_toNat_of_lt (by omega)]
  rw [e1, h, ← Int32.toInt_toBitVec, BitVec.toInt_eq_toNat_bmod, Int.bmod_def]
  split <;> omega
theorem own_nar {c : Int32} (h0 : ¬ c < 0) (h1 : ¬ (65535 : Int32) < c) : nar .char c = c := by
  have e0 : c.toUInt32.toUInt16.toUInt32.toInt32 = c := by
    apply Int32.toInt_inj.mp
    rw [own_toInt16]
    rw [Int32.lt_iff_toInt_lt] at h0 h1
    have z : (0 : Int32).toInt = 0 := rfl
    have y : (65535 : Int32).toInt = 65535 := rfl
    omega
  exact e0
theorem eq_v {args : Array Value} {first s : State} {o : Option Outcome} {idx : List Nat} {t : Term} {k z : Int32} (q : t.eval args first o idx s = some (.int z)) : (Jvm.Cond.eq t (.int k)).value args first o s idx = some (decide (z = k)) := by simp [Cond.value, Term.eval, q]
theorem own_ib {p : Program} {l : Launch} {e : Env} {R : Room} {s : State} {m : MethodId} {args : Array Value} {below : List Frame} {meth : Method} {c : Code} {T : State} {locs : List Loc} {cells slots : Nat} {Z : State} {vm0 : Vm} {Ts : List String} (X : Stand p l e R (s.setVm vm0) m args below meth c T locs cells slots) (I : IB Z vm0 Ts) : IB Z T.vm Ts := by
  have hi : T.vm.interned = vm0.interned := X.warmed.interned_eq
  obtain ⟨more, h1, h2⟩ := I
  exact ⟨more, hi.trans h1, h2⟩
theorem own_litS {s Z : State} {vm : Vm} {own : String} {i : Nat} {a : Addr} (L : Lit (s.setVm vm) own i a) : Lit (Z.setVm vm) own i a := L
theorem own_lit {p : Program} {l : Launch} {e : Env} {R : Room} {s : State} {m : MethodId} {args : Array Value} {below : List Frame} {meth : Method} {c : Code} {T : State} {locs : List Loc} {cells slots : Nat} {Z : State} {vm0 : Vm} {own : String} {i : Nat} {a : Addr} (X : Stand p l e R (s.setVm vm0) m args below meth c T locs cells slots) (L : Lit (s.setVm vm0) own i a) : Lit (Z.setVm T.vm) own i a :=
  own_litS (L.stays X.warmed.wide)
theorem own_ibV {s : State} {Z : State} {vm0 vm' : Vm} {Ts : List String} (I : IB Z vm0 Ts) (hW : (s.setVm vm0).WarmedH vm') : IB Z vm' Ts := by
  have hi : vm'.interned = vm0.interned := hW.interned_eq
  obtain ⟨more, h1, h2⟩ := I
  exact ⟨more, hi.trans h1, h2⟩
theorem own_litV {s Z : State} {vm0 vm' : Vm} {own : String} {i : Nat} {a : Addr} (L : Lit (Z.setVm vm0) own i a) (hW : (s.setVm vm0).WarmedH vm') : Lit (Z.setVm vm') own i a :=
  own_litS (s := s) ((own_litS L).stays hW.wide)
theorem own_litW {s Z : State} {vm0 vm' : Vm} {own : String} {i : Nat} {a : Addr} (L : Lit (Z.setVm vm0) own i a) (hW : (s.setVm vm0).Warmed39 vm') : Lit (Z.setVm vm') own i a :=
  own_litS (s := s) ((own_litS L).stays hW)
theorem own_wS0 {a0 : Array Value} {Z : State} (hw : ∀ d ∈ tables_1, d.before a0 Z = true) : ∀ d ∈ Bundle.stringAtoms, d.before a0 Z = true := fun d hd => hw d ((by decide +kernel : ∀ d ∈ Bundle.stringAtoms, d ∈ tables_1) d hd)
/-- a walk's Stand, begun anew at the heap where it stands (no place written since) -/
def own_at (s T : State) : State := { s with heap := T.heap, slotsUsed := T.slotsUsed }
section OwnL
variable {p : Program} {l : Launch} {e : Env} {R : Room} {s : State} {m : MethodId} {args : Array Value} {below : List Frame} {meth : Method} {c : Code} {T : State} {locs : List Loc} {cells slots : Nat} {Z : State} {a0 : Array Value} {h : Heap} {vm0 vm1 : Vm} {Ts : List String} {own text : String} {index : Nat}
theorem own_reb (X : Stand p l e R s m args below meth c T locs cells slots) {k n : Nat} (hk : cells + k ≤ R.cells) (hn : slots + n ≤ R.slots) : Stand p l e { R with cells := k, slots := n } (own_at s T) m args below meth c T [] 0 0 := by
  obtain ⟨h1, h2, h3, h4, h5, h6⟩ := X.same
  have hT : (T.setVm s.vm).heap = T.heap := rfl
  have hT2 : (T.setVm s.vm).slotsUsed = T.slotsUsed := rfl
  rw [hT] at h2 h3 h4 h5
  rw [hT2] at h4
  have hb := X.book
  have hr := X.room
  have hdrop : T.heap.toList.drop T.heap.size = [] := by simp
  refine ⟨X.admits, X.cas, X.clock, X.frames, ?_, X.hears, X.method, X.code, X.here, X.tail, X.warmed, X.limits, X.bytes, ?_⟩
  · simp only [State.hasRoom, Bool.and_eq_true, decide_eq_true_eq] at hr ⊢
    obtain ⟨⟨⟨⟨r1, r2⟩, r3⟩, r4⟩, r5⟩ := hr
    refine ⟨⟨⟨⟨r1, r2⟩, ?_⟩, ?_⟩, hb⟩
    · show T.heap.size + k ≤ _; omega
    · show T.slotsUsed + n ≤ _; omega
  · refine ⟨h1, Nat.le_refl _, Nat.le_refl _, ?_, ?_, fun a cc hcc => ⟨cc, hcc, rfl, rfl, fun _ _ => rfl⟩⟩
    · show T.slotsUsed = T.slotsUsed + ((T.heap.toList.drop T.heap.size).map _).sum
      rw [hdrop]; rfl
    · show ((T.heap.toList.drop T.heap.size).map _).sum ≤ 0
      rw [hdrop]; exact Nat.le_refl _
theorem own_back {R' : Room} {T' : State} {c2 n2 : Nat} (X : Stand p l e R s m args below meth c T locs cells slots) (Y : Stand p l e R' ((own_at s T).setVm vm1) m args below meth c T' [] c2 n2) (hW : s.Warmed39 vm1) : Stand p l e R (s.setVm vm1) m args below meth c T' locs (cells + c2) (slots + n2) := by
  have X1 := X.retabled hW
  refine ⟨X1.admits, X1.cas, X1.clock, X1.frames, X1.room, X1.hears, X1.method, X1.code, Y.here, Y.tail, Y.warmed, Y.limits, Y.bytes, ?_⟩
  have hx : (s.setVm vm1).sameButNew (T.setVm vm1) locs cells slots := X1.same
  obtain ⟨y1, y2, y3, y4, y5, y6⟩ := Y.same
  have e1 : (T.setVm vm1).setFrames (T'.setVm vm1).frames = ({ (s.setVm vm1).setFrames (T'.setVm vm1).frames with heap := T.heap, slotsUsed := T.slotsUsed } : State) := by
    refine (congrArg (fun q : State => q.setFrames (T'.setVm vm1).frames) hx.1).trans ?_
    show ({ ((s.setVm vm1).setFrames (T.setVm vm1).frames).setFrames (T'.setVm vm1).frames with heap := T.heap, slotsUsed := T.slotsUsed } : State) = _
    rw [State.setFrames_setFrames]
  have hy : (T.setVm vm1).sameButNew (T'.setVm vm1) [] c2 n2 := by
    refine ⟨?_, y2, y3, y4, y5, y6⟩
    refine y1.trans ?_
    rw [e1]
    rfl
  have hz := hx.trans hy
  rw [List.append_nil] at hz
  exact hz
/-- a String constant's first load in this run, wherever the walk has written -/
theorem own_ldcI (X : Stand p l e R (s.setVm vm0) m args below meth c T locs cells slots) (hx : p.tables.exec = Jvm.exec) (hZ : Z.Warmed39 vm0) (hown : vm0.findClass own = some m.cls) (w : (Cond.stringLink own index text).before a0 Z = true) (wS : ∀ a ∈ Bundle.stringAtoms, a.before a0 Z = true)
    (eT : T.heap = h) {k0 : Nat} (hS : s.Since vm0 k0) (hk : k0 ≤ h.size) (hkeep : ∀ (b : Addr) (cl : Cell), Z.heap[b]? = some cl → h[b]? = some cl) (I : IB Z vm0 Ts) (hnot : text ∉ Ts) (hh : Jvm.Lit.constHeld Z own index) (hcw : Jvm.Lit.compactW.before a0 Z = true)
    {vs : List Value} {z : Int32} (ht : (∀ c ∈ text.toList, c.toNat < 256) ∧ text.toList.map (fun c => Value.int (Jvm.Lit.byteI c.toNat.toUInt16)) = vs) (hz : ¬ z < 0) (hl : z.toNatClampNeg = vs.length)
    {g : JFrame} (hg : g.method = m) (hd : decode c.code g.pc = .ok (.ldc index, 2)) {n : Nat} (hn : 4 * text.toList.length ≤ n) (hbig : n ≤ 536870912) (hc : cells + 2 ≤ R.cells) (hl' : slots + (n + 4) ≤ R.slots) :
    ∃ (a : Addr) (T' : State) (h' : Heap) (k1 : Nat) (b : Addr) (k : ClassId), Stand p l e R (s.setVm T'.vm) m args below meth c T' locs (cells + 2) (slots + (n + 4)) ∧ T'.heap = h' ∧ Ext h h' ∧ s.Since T'.vm k1 ∧ k1 ≤ h'.size ∧ Z.Warmed39 (s.setVm T'.vm).vm ∧ (s.setVm T'.vm).vm.findClass own = some m.cls ∧
      Exa Z h' a "java/lang/String" ∧ Fld Z h' a "java/lang/String" "coder" "B" (.int 0) ∧ Fld Z h' a "java/lang/String" "value" "[B" (.ref b) ∧ Arv Z h' b k .byte z vs (.int 0) ∧ IB Z T'.vm (text :: Ts) ∧ Lit (s.setVm T'.vm) own index a ∧
      ∀ target, Steps p.tables e below (T'.setTop { g with pc := g.pc + 2, stack := .ref a :: g.stack }) target → Steps p.tables e below (T.setTop g) target := by
  subst eT
  have Y0 : Stand p l e { R with cells := 2, slots := n + 4 } ((own_at (s.setVm vm0) T).setVm vm0) m args below meth c T [] 0 0 := own_reb X (k := 2) (n := n + 4) hc hl'
  have hS0 : (own_at (s.setVm vm0) T).Since vm0 0 := (State.WarmedH.refl (own_at (s.setVm vm0) T)).since 0
  obtain ⟨a, T', h', k1, b, k, X', e', E, hS', hk', hZ', hown', r1, r2, r3, r4, -, -, r5, r6, -, st⟩ := ldcSVd (s := own_at (s.setVm vm0) T) Y0 hx hZ hown w wS rfl hS0 (Nat.zero_le _) (Fr.nil _) hkeep I hnot hh hcw ht hz hl hg hd hn hbig (Nat.le_refl _) (Nat.le_of_eq (Nat.zero_add _))
  have hW : (s.setVm vm0).Warmed39 T'.vm := hS'.1
  have Xb := own_back (s := s.setVm vm0) X X' hW
  rw [Nat.zero_add, Nat.zero_add] at Xb
  have hS2 : (s.setVm vm0).Since T'.vm h'.size := ⟨hW, fun j q hj hq => ⟨Nat.le_trans X.same.2.1 (hS'.2 j q hj hq).1, Nat.lt_of_lt_of_le (hS'.2 j q hj hq).2 hk'⟩⟩
  exact ⟨a, T', h', h'.size, b, k, Xb, e', E, hS.trans hS2 (Nat.le_trans hk E.1), Nat.le_refl _, hZ', hown', r1, r2, r3, r4, r5, r6, st⟩
end OwnL
def own_by (c : Int32) : Int32 := nar .byte (c.toInt8.toInt32)
theorem own_byE (c : Int32) : own_by c = c.toInt8.toInt32 := by
  unfold own_by
  show (Int8.toInt32 (Int32.toInt8 (Int8.toInt32 (Int32.toInt8 c)))) = _
  simp
def own_sc (x : Int32) : Int32 := (x &&& (255 : Int32)).toUInt32.toUInt16.toUInt32.toInt32
theorem own_m255 (x : Int32) : (x &&& (255 : Int32)).toInt = x.toInt % 2 ^ 8 := Jvm.Kit.i32_mask x _ (k := 8) (by decide) (by decide)
theorem own_scI (x : Int32) : (own_sc x).toInt = x.toInt % 256 := by
  unfold own_sc; rw [own_toInt16, own_m255]; omega
theorem own_scE (x : Int32) : own_sc x = (x &&& (255 : Int32)) := Int32.toInt_inj.mp (by rw [own_scI, own_m255]; omega)
theorem own_sc255 (x : Int32) : ¬ own_sc x < 0 ∧ ¬ (255 : Int32) < own_sc x := by
  have e0 : (0 : Int32).toInt = 0 := rfl
  have e1 : (255 : Int32).toInt = 255 := rfl
  simp only [Int32.lt_iff_toInt_lt, own_scI, e0, e1]; omega
def own_str (x : Int32) : List Int32 := if (x &&& (256 : Int32)) = (0 : Int32) then [] else [own_by (own_sc x)]
def own_norm (x : Int32) : Int32 := if (x &&& (256 : Int32)) = (0 : Int32) then (-1 : Int32) else (x &&& (255 : Int32))
theorem own_strL (x : Int32) : (own_str x).length ≤ 1 := by unfold own_str; split <;> simp
theorem own_b8 (x : Int32) : (x.toInt8.toInt32).toInt % 256 = x.toInt % 256 := by
  rw [Int8.toInt_toInt32, Int32.toInt_toInt8]; exact Int.bmod_emod (m := 2 ^ 8)
theorem own_byI (x y : Int32) (h : own_by (own_sc x) = own_by (own_sc y)) : (x &&& (255 : Int32)) = (y &&& (255 : Int32)) := by
  rw [own_byE, own_byE] at h
  have h2 := congrArg (fun q => q.toInt % 256) h
  simp only [own_b8, own_scI] at h2
  apply Int32.toInt_inj.mp
  rw [own_m255, own_m255]
  omega
theorem own_ns (x y : Int32) : own_norm x = own_norm y ↔ own_str x = own_str y := by
  have ne : ∀ q : Int32, ¬ (-1 : Int32) = (q &&& (255 : Int32)) := fun q h => by
    have h2 := congrArg Int32.toInt h
    rw [own_m255, show (-1 : Int32).toInt = -1 from rfl] at h2
    omega
  unfold own_norm own_str
  by_cases hx : (x &&& (256 : Int32)) = (0 : Int32) <;> by_cases hy : (y &&& (256 : Int32)) = (0 : Int32)
  · simp [hx, hy]
  · rw [if_pos hx, if_neg hy, if_pos hx, if_neg hy]
    exact ⟨fun h => absurd h (ne y), fun h => by cases h⟩
  · rw [if_neg hx, if_pos hy, if_neg hx, if_pos hy]
    exact ⟨fun h => absurd h.symm (ne x), fun h => by cases h⟩
  · rw [if_neg hx, if_neg hy, if_neg hx, if_neg hy]
    exact ⟨fun h => by unfold own_sc; rw [h], fun h => own_byI x y (List.cons.inj h).1⟩
theorem own_arv0 {Z : State} {h : Heap} {b : Addr} {k : ClassId} {x : Int32} (q : (x &&& (256 : Int32)) = (0 : Int32)) (A : Arv Z h b k .byte (0 : Int32) [] (.int (0 : Int32))) : Arv Z h b k .byte (Int32.ofNat (own_str x).length) ((own_str x).map Value.int) (.int (0 : Int32)) := by
  unfold own_str; rw [if_pos q]; exact A
theorem own_arv1 {Z : State} {h : Heap} {b : Addr} {k : ClassId} {x : Int32} (q : ¬ (x &&& (256 : Int32)) = (0 : Int32)) (A : Arv Z h b k .byte (1 : Int32) [(.int (own_by (own_sc x)))] (.int (0 : Int32))) : Arv Z h b k .byte (Int32.ofNat (own_str x).length) ((own_str x).map Value.int) (.int (0 : Int32)) := by
  unfold own_str; rw [if_neg q]; exact A
theorem own_same {Z : State} {h : Heap} {x1 x2 t1 t2 : Addr} {kb1 kb2 : ClassId} {bs1 bs2 : List Int32} {C n d : String} (hx : x1 = x2) (V1 : Fld Z h x1 C n d (.ref t1)) (V2 : Fld Z h x2 C n d (.ref t2)) (K1 : Arv Z h t1 kb1 .byte (Int32.ofNat bs1.length) (bs1.map Value.int) (.int (0 : Int32))) (K2 : Arv Z h t2 kb2 .byte (Int32.ofNat bs2.length) (bs2.map Value.int) (.int (0 : Int32))) (l1 : bs1.length ≤ 1) (l2 : bs2.length ≤ 1) : bs1 = bs2 := by
  have ht : t1 = t2 := Classical.byContradiction fun q => V1.ne V2 (fun e => q (Value.ref.inj e)) hx
  subst ht
  obtain ⟨c1, A1, -, S1, -, H1, -⟩ := K1
  obtain ⟨c2, A2, -, S2, -, H2, -⟩ := K2
  cases A1.1.symm.trans A2.1
  have S := S1.symm.trans S2
  rcases bs1 with _ | ⟨b1, _ | ⟨_, q1⟩⟩ <;> rcases bs2 with _ | ⟨b2, _ | ⟨_, q2⟩⟩
  · rfl
  · exact absurd (show (0 : Nat) = 1 from S) (by decide)
  · simp at l2
  · exact absurd (show (1 : Nat) = 0 from S) (by decide)
  · have e1 := H1 0 (by rw [S1]; exact Nat.zero_lt_one)
    have e2 := H2 0 (by rw [S1]; exact Nat.zero_lt_one)
    have e3 := Option.some.inj (e1.symm.trans e2)
    have e4 : Value.int b1 = Value.int b2 := e3
    rw [Value.int.inj e4]
  · simp at l2
  · simp at l1
  · simp at l1
  · simp at l1
theorem own_ibM {Z : State} {vm : Vm} {Ts Us : List String} (I : IB Z vm Ts) (h : ∀ t ∈ Ts, t ∈ Us) : IB Z vm Us := by
  obtain ⟨more, e, hm⟩ := I
  exact ⟨more, e, fun q hq => by obtain ⟨t, ht, hd⟩ := hm q hq; exact ⟨t, h t ht, hd⟩⟩
theorem own_nc {t u : String} {Us : List String} (h : t ≠ u) (g : t ∉ Us) : t ∉ u :: Us := fun q => by
  rcases List.mem_cons.mp q with q | q
  · exact h q
  · exact g q
/-- "" has been loaded, and here it lies -/
def LF (Z : State) (vm : Vm) (h : Heap) (aa bb : Addr) (kk : ClassId) : Prop := Lit (Z.setVm vm) "com/example/wide_weir/wideweir/accesslog/AccessLogLineEqualsPinLaw" 7 aa ∧ Exa Z h aa "java/lang/String" ∧ Fld Z h aa "java/lang/String" "value" "[B" (.ref bb) ∧ Fld Z h aa "java/lang/String" "coder" "B" (.int (0 : Int32)) ∧ Arv Z h bb kk .byte (0 : Int32) [] (.int (0 : Int32))
def LU (Z : State) (vm : Vm) (h : Heap) (Us : List String) : Prop := Us = [] ∨ (Us = [""] ∧ ∃ aa bb kk, LF Z vm h aa bb kk)
def LI (Z : State) (vm : Vm) (h : Heap) (Ts : List String) : Prop := ∃ Us, IB Z vm (Us ++ Ts) ∧ LU Z vm h Us
theorem own_liV {s Z : State} {vm0 vm' : Vm} {h : Heap} {Ts : List String} (I : LI Z vm0 h Ts) (hW : (s.setVm vm0).WarmedH vm') : LI Z vm' h Ts := by
  obtain ⟨Us, I, q⟩ := I
  refine ⟨Us, own_ibV I hW, ?_⟩
  rcases q with q | ⟨q, aa, bb, kk, L, r⟩
  · exact Or.inl q
  · exact Or.inr ⟨q, aa, bb, kk, own_litV L hW, r⟩
theorem own_liX {p : Program} {l : Launch} {e : Env} {R : Room} {s : State} {m : MethodId} {args : Array Value} {below : List Frame} {meth : Method} {c : Code} {T : State} {locs : List Loc} {cells slots : Nat} {Z : State} {vm0 : Vm} {h : Heap} {Ts : List String} (X : Stand p l e R (s.setVm vm0) m args below meth c T locs cells slots) (I : LI Z vm0 h Ts) : LI Z T.vm h Ts := own_liV I X.warmed
theorem own_liK {Z : State} {vm : Vm} {h h' : Heap} {Ts : List String} (I : LI Z vm h Ts) (K : Keep h h' []) : LI Z vm h' Ts := by
  obtain ⟨Us, I, q⟩ := I
  refine ⟨Us, I, ?_⟩
  rcases q with q | ⟨q, aa, bb, kk, L, r1, r2, r3, r4⟩
  · exact Or.inl q
  · exact Or.inr ⟨q, aa, bb, kk, L, r1.keep K, r2.keep K nin0, r3.keep K nin0, r4.keep K nin0⟩
theorem own_liE {Z : State} {vm : Vm} {h h' : Heap} {Ts : List String} (I : LI Z vm h Ts) (E : Ext h h') : LI Z vm h' Ts := own_liK I ((Keep.refl h []).ext E)
theorem own_liC {s Z : State} {a0 : Array Value} {vm0 vm' : Vm} {h h' : Heap} {Us : List String} {xx : Addr} {n : Nat} (q : LU Z vm0 h Us) (hW : (s.setVm vm0).Warmed39 vm') (K : Keep h h' [xx]) (E : Exa Z h xx "com/example/wide_weir/wideweir/accesslog/AccessLogLine") (w : (Jvm.Cond.instantiable "com/example/wide_weir/wideweir/accesslog/AccessLogLine" n).before a0 Z = true) (I : IB Z vm' ("path" :: "method" :: "client" :: (Us ++ []))) : LI Z vm' h' ["path", "method", "client"] := by
  refine ⟨Us, own_ibM I (fun t ht => by simp at ht ⊢; rcases ht with h | h | h | h <;> simp [h]), ?_⟩
  rcases q with q | ⟨q, aa, bb, kk, L, r1, r2, r3, r4⟩
  · exact Or.inl q
  · have n1 : aa ≠ xx := r1.ne E (by decide)
    have n2 : bb ≠ xx := Ne.symm (E.neArv r4 w)
    exact Or.inr ⟨q, aa, bb, kk, own_litW L hW, r1.keep K, r2.keep K (ninS n1 nin0), r3.keep K (ninS n1 nin0), r4.keep K (ninS n2 nin0)⟩
theorem own_luN {Z : State} {vm : Vm} {h : Heap} {Us : List String} (q : LU Z vm h Us) (t : String) (ht : t ≠ "") : t ∉ Us ++ [] := by
  rcases q with rfl | ⟨rfl, -⟩
  · simp
  · simpa using ht
def QS (Z : State) (n0 : Nat) (h0 : Heap) (cd : Int32) (Ts : List String) (v : Option Value) (h : Heap) (vm : Vm) (L : List Loc) : Prop := ∃ (x t : Addr) (kb : ClassId), v = some (.ref x) ∧ Fr n0 L ∧ Keep h0 h [] ∧ Exa Z h x "java/lang/String" ∧ Fld Z h x "java/lang/String" "value" "[B" (.ref t) ∧ Fld Z h x "java/lang/String" "coder" "B" (.int (0 : Int32)) ∧ Arv Z h t kb .byte (Int32.ofNat (own_str cd).length) ((own_str cd).map Value.int) (.int (0 : Int32)) ∧ LI Z vm h Ts
theorem own_emp : (∀ c ∈ "".toList, c.toNat < 256) ∧ "".toList.map (fun c => Value.int (Jvm.Lit.byteI c.toNat.toUInt16)) = [] := ⟨fun c hc => by simp at hc, rfl⟩
theorem own_tx_client : (∀ c ∈ "client".toList, c.toNat < 256) ∧ "client".toList.map (fun c => Value.int (Jvm.Lit.byteI c.toNat.toUInt16)) = [(.int (99 : Int32)), (.int (108 : Int32)), (.int (105 : Int32)), (.int (101 : Int32)), (.int (110 : Int32)), (.int (116 : Int32))] := by
  constructor
  · decide +kernel
  · rfl
theorem own_tx_method : (∀ c ∈ "method".toList, c.toNat < 256) ∧ "method".toList.map (fun c => Value.int (Jvm.Lit.byteI c.toNat.toUInt16)) = [(.int (109 : Int32)), (.int (101 : Int32)), (.int (116 : Int32)), (.int (104 : Int32)), (.int (111 : Int32)), (.int (100 : Int32))] := by
  constructor
  · decide +kernel
  · rfl
theorem own_tx_path : (∀ c ∈ "path".toList, c.toNat < 256) ∧ "path".toList.map (fun c => Value.int (Jvm.Lit.byteI c.toNat.toUInt16)) = [(.int (112 : Int32)), (.int (97 : Int32)), (.int (116 : Int32)), (.int (104 : Int32))] := by
  constructor
  · decide +kernel
  · rfl
theorem pn_java_lang_StringLatin1 : plainName "java/lang/StringLatin1" = true := by first | (simp [plainName, overriddenIn]; done) | decide +kernel
theorem d8_0 : decode jdk_43_method_46_code 0 = .ok (.iconst 1, 1) := by decide +kernel
theorem d8_1 : decode jdk_43_method_46_code 1 = .ok (.newarray .byte, 2) := by decide +kernel
theorem d8_3 : decode jdk_43_method_46_code 3 = .ok (.dup, 1) := by decide +kernel
theorem d8_4 : decode jdk_43_method_46_code 4 = .ok (.iconst 0, 1) := by decide +kernel
theorem d8_5 : decode jdk_43_method_46_code 5 = .ok (.iload_n 0, 1) := by decide +kernel
theorem d8_6 : decode jdk_43_method_46_code 6 = .ok (.i2b, 1) := by decide +kernel
theorem d8_7 : decode jdk_43_method_46_code 7 = .ok (.bastore, 1) := by decide +kernel
theorem d8_8 : decode jdk_43_method_46_code 8 = .ok (.areturn, 1) := by decide +kernel
set_option maxRecDepth 65536 in
set_option maxHeartbeats 40000000 in
theorem vT0 (l : Launch) (Z : State) (a0 : Array Value) (hw : ∀ d ∈ tables_1, d.before a0 Z = true) (ws : List Jvm.Cond) (c0 : Int32) (h0 : Heap) (n0 : Nat) (Z0 : n0 ≤ h0.size) (O0 : Old Z n0 h0)  :
    Ctr FrameEnd l Z (⟨"java/lang/StringLatin1", "toBytes", "(C)[B"⟩ : MethodName) jdk_43_method_46_code 1 (some (.array .byte)) ws ({ frames := 0, cells := 1, slots := 1, locals := 0 } : Room) #[(.int c0)] h0 TrueV (fun v h _ L => ∃ (b : Addr) (kb : ClassId), v = some (.ref b) ∧ Fr n0 L ∧ Keep h0 h [] ∧ h0.size ≤ b ∧ Arv Z h b kb .byte (1 : Int32) [(.int (own_by c0))] (.int (0 : Int32))) := by
  refine Ctr.intro (plainFor_of_name pn_java_lang_StringLatin1) (Ls := #[.val (.int c0)]) (fun m => by first | (simp [entryFrame, mkF, argsToLocals, Value.category]; done) | rfl) ?_
  intro p e s m below meth c T0 hx hby hml hown hnm hret hlk hZ hV hsh e0 X0
  have N0 := Fr.nil n0
  show Done _ p e below s _ _ (T0.setTop (mkF m 0 #[oI c0] []))
  refine Done.step (fun _ => XT.iconstV X0.here hx rfl (1 : Int32) (hb hby d8_0) (by decide)) ?_
  show Done _ p e below s _ _ (T0.setTop (mkF m 1 #[oI c0] [(.int (1 : Int32))]))
  obtain ⟨T1, h1, k1, X1, e1, E1, A1, st1⟩ := newP X0 hx hZ (wAt hw 10 rfl) e0 (g := (mkF m 1 #[oI c0] [(.int (1 : Int32))])) rfl (hb hby d8_1) rfl (by decide) (cap := 1) (by decide) (by decide) (by decide) (by decide)
  obtain ⟨b1, g1⟩ : ∃ z, z = h0.size := ⟨_, rfl⟩
  rw [← g1] at A1 st1
  have n0_b1 : n0 ≤ b1 := by rw [g1]; exact Z0
  have sz_b1 : h0.size ≤ b1 := by rw [g1]; exact (Keep.refl h0 []).1
  have K1 := (Keep.refl h0 []).ext E1
  have Zs1 := Nat.le_trans Z0 E1.1
  have V_b1 : Arv Z h1 b1 k1 .byte (1 : Int32) [(.int (0 : Int32))] (.int (0 : Int32)) := (Arv.new A1 (by decide)).pad (pad_rep [] (.int (0 : Int32)) 1)
  refine Done.step st1 ?_
  show Done _ p e below s _ _ (T1.setTop (mkF m 3 #[oI c0] [(.ref b1)]))
  refine Done.step (fun _ => XS.dup X1.here hx rfl (hb hby d8_3) rfl rfl) ?_
  show Done _ p e below s _ _ (T1.setTop (mkF m 4 #[oI c0] [(.ref b1), (.ref b1)]))
  refine Done.step (fun _ => XT.iconstV X1.here hx rfl (0 : Int32) (hb hby d8_4) (by decide)) ?_
  show Done _ p e below s _ _ (T1.setTop (mkF m 5 #[oI c0] [(.int (0 : Int32)), (.ref b1), (.ref b1)]))
  refine Done.step (fun _ => XS.iloadN X1.here hx rfl (hb hby d8_5) rfl) ?_
  show Done _ p e below s _ _ (T1.setTop (mkF m 6 #[oI c0] [(.int c0), (.int (0 : Int32)), (.ref b1), (.ref b1)]))
  refine Done.step (fun _ => XT.i2b X1.here hx rfl (hb hby d8_6) rfl) ?_
  show Done _ p e below s _ _ (T1.setTop (mkF m 7 #[oI c0] [(.int (c0.toInt8.toInt32)), (.int (0 : Int32)), (.ref b1), (.ref b1)]))
  obtain ⟨cl2, Ar2, q2, S2, Nn2, H2, G2⟩ := id V_b1
  have hin2 : ¬ ((0 : Int32) < 0 ∨ cl2.slots.size ≤ ((0 : Int32)).toNatClampNeg) := inb_of S2 ⟨by decide, by decide⟩
  obtain ⟨T2, h2, X2, e2, W2, st2⟩ := stB X1 hx hZ e1 Ar2 (j := (0 : Int32)) hin2 (g := (mkF m 7 #[oI c0] [(.int (c0.toInt8.toInt32)), (.int (0 : Int32)), (.ref b1), (.ref b1)])) rfl rfl (hb hby d8_7)
  have V2 := Arv.set Ar2 q2 S2 Nn2 H2 G2 (fits_nar_byte _) W2 0 rfl (Nat.le_of_ble_eq_true rfl)
  have N2 := Fr.snoc X2 N0 n0_b1
  have Zs2 := Nat.le_trans Zs1 (Keep.of_wr W2).1
  have K2 := K1.wr W2 (Or.inr sz_b1)
  refine Done.step st2 ?_
  show Done _ p e below s _ _ (T2.setTop (mkF m 8 #[oI c0] [(.ref b1)]))
  refine Done.retA (leavesF X2 hlk (by decide) (by decide)) X2 hx hret rfl rfl (hb hby d8_8) ?_
  rw [e2]
  exact ⟨b1, k1, rfl, N2, K2, sz_b1, V2⟩
theorem d7_0 : decode jdk_43_method_3_code 0 = .ok (.iload_n 0, 1) := by decide +kernel
theorem d7_1 : decode jdk_43_method_3_code 1 = .ok (.sipush 255, 3) := by decide +kernel
theorem d7_4 : decode jdk_43_method_3_code 4 = .ok (.if_icmp .gt 7, 3) := by decide +kernel
theorem d7_7 : decode jdk_43_method_3_code 7 = .ok (.iconst 1, 1) := by decide +kernel
theorem d7_8 : decode jdk_43_method_3_code 8 = .ok (.goto 4, 3) := by decide +kernel
theorem d7_12 : decode jdk_43_method_3_code 12 = .ok (.ireturn, 1) := by decide +kernel
set_option maxRecDepth 65536 in
set_option maxHeartbeats 40000000 in
theorem vC (l : Launch) (Z : State) (a0 : Array Value) (hw : ∀ d ∈ tables_1, d.before a0 Z = true) (ws : List Jvm.Cond) (c0 : Int32) (h0 : Heap) (n0 : Nat) (Z0 : n0 ≤ h0.size) (hc : ¬ (255 : Int32) < c0) :
    Ctr FrameEnd l Z (⟨"java/lang/StringLatin1", "canEncode", "(C)Z"⟩ : MethodName) jdk_43_method_3_code 1 (some .boolean) ws ({ frames := 0, cells := 0, slots := 0, locals := 0 } : Room) #[(.int c0)] h0 TrueV (PureQ (some (.int (1 : Int32))) h0) := by
  refine Ctr.intro (plainFor_of_name pn_java_lang_StringLatin1) (Ls := #[.val (.int c0)]) (fun m => by first | (simp [entryFrame, mkF, argsToLocals, Value.category]; done) | rfl) ?_
  intro p e s m below meth c T0 hx hby hml hown hnm hret hlk hZ hV hsh e0 X0
  have N0 := Fr.nil n0
  show Done _ p e below s _ _ (T0.setTop (mkF m 0 #[oI c0] []))
  refine Done.step (fun _ => XS.iloadN X0.here hx rfl (hb hby d7_0) rfl) ?_
  show Done _ p e below s _ _ (T0.setTop (mkF m 1 #[oI c0] [(.int c0)]))
  refine Done.step (fun _ => XT.sipushV X0.here hx rfl (255 : Int32) (hb hby d7_1) (by decide)) ?_
  show Done _ p e below s _ _ (T0.setTop (mkF m 4 #[oI c0] [(.int (255 : Int32)), (.int c0)]))
  refine Done.step (fun _ => XS.icmpNo X0.here hx rfl (hb hby d7_4) rfl (XT.ii_gt_f hc)) ?_
  show Done _ p e below s _ _ (T0.setTop (mkF m 7 #[oI c0] []))
  refine Done.step (fun _ => XT.iconstV X0.here hx rfl (1 : Int32) (hb hby d7_7) (by decide)) ?_
  show Done _ p e below s _ _ (T0.setTop (mkF m 8 #[oI c0] [(.int (1 : Int32))]))
  refine Done.step (fun _ => XS.goto X0.here hx rfl (pc0 := 8) (pc' := 12) rfl (hb hby d7_8) (by decide) (by decide)) ?_
  show Done _ p e below s _ _ (T0.setTop (mkF m 12 #[oI c0] [(.int (1 : Int32))]))
  exact Done.retN (leavesF X0 hlk (by decide) (by decide)) X0 hx (t := .boolean) hret (by simp) (hb hby d7_12) ⟨rfl, e0, rfl⟩
theorem pn_java_lang_String : plainName "java/lang/String" = true := by first | (simp [plainName, overriddenIn]; done) | decide +kernel
theorem d9_0 : decode jdk_42_method_151_code 0 = .ok (.aload_n 0, 1) := by decide +kernel
theorem d9_1 : decode jdk_42_method_151_code 1 = .ok (.invokespecial 1, 3) := by decide +kernel
theorem d9_4 : decode jdk_42_method_151_code 4 = .ok (.aload_n 0, 1) := by decide +kernel
theorem d9_5 : decode jdk_42_method_151_code 5 = .ok (.aload_n 1, 1) := by decide +kernel
theorem d9_6 : decode jdk_42_method_151_code 6 = .ok (.putfield 9, 3) := by decide +kernel
theorem d9_9 : decode jdk_42_method_151_code 9 = .ok (.aload_n 0, 1) := by decide +kernel
theorem d9_10 : decode jdk_42_method_151_code 10 = .ok (.iload_n 2, 1) := by decide +kernel
theorem d9_11 : decode jdk_42_method_151_code 11 = .ok (.putfield 15, 3) := by decide +kernel
theorem d9_14 : decode jdk_42_method_151_code 14 = .ok (.return_, 1) := by decide +kernel
set_option maxRecDepth 65536 in
set_option maxHeartbeats 40000000 in
theorem vI0 (l : Launch) (Z : State) (a0 : Array Value) (hw : ∀ d ∈ tables_1, d.before a0 Z = true) (ws : List Jvm.Cond) (xx bA : Addr) (h0 : Heap) (n0 : Nat) (Z0 : n0 ≤ h0.size) (Ex : Exa Z h0 xx "java/lang/String") (Fv : Fld Z h0 xx "java/lang/String" "value" "[B" .null) (Fc : Fld Z h0 xx "java/lang/String" "coder" "B" (.int (0 : Int32))) (gx : n0 ≤ xx) (O0 : Old Z n0 h0) :
    Ctr FrameEnd l Z (⟨"java/lang/String", "<init>", "([BB)V"⟩ : MethodName) jdk_42_method_151_code 3 none ws ({ frames := 1, cells := 0, slots := 0, locals := 12 } : Room) #[(.ref xx), (.ref bA), (.int (0 : Int32))] h0 TrueV (fun v h _ L => v = none ∧ Fr n0 L ∧ Keep h0 h [xx] ∧ Exa Z h xx "java/lang/String" ∧ Fld Z h xx "java/lang/String" "value" "[B" (.ref bA) ∧ Fld Z h xx "java/lang/String" "coder" "B" (.int (0 : Int32))) := by
  refine Ctr.intro (plainFor_of_name pn_java_lang_String) (Ls := #[.val (.ref xx), .val (.ref bA), .val (.int (0 : Int32))]) (fun m => by first | (simp [entryFrame, mkF, argsToLocals, Value.category]; done) | rfl) ?_
  intro p e s m below meth c T0 hx hby hml hown hnm hret hlk hZ hV hsh e0 X0
  have N0 := Fr.nil n0
  show Done _ p e below s _ _ (T0.setTop (mkF m 0 #[oR xx, oR bA, oI (0 : Int32)] []))
  refine Done.step (fun _ => XS.aloadN X0.here hx rfl (hb hby d9_0) rfl rfl) ?_
  show Done _ p e below s _ _ (T0.setTop (mkF m 1 #[oR xx, oR bA, oI (0 : Int32)] [(.ref xx)]))
  obtain ⟨T1, X1, e1, st1⟩ := initO X0 hx hZ hown (wAt hw 62 rfl) (wAt hw 19 rfl) (wAt hw 20 rfl) e0 (g := (mkF m 1 #[oR xx, oR bA, oI (0 : Int32)] [(.ref xx)])) rfl (by rw [hml]; rfl) rfl (hb hby d9_1) (by decide) (W := 0) (by show 2 * 0 + _ ≤ _; exact Nat.le_of_eq rfl) (by decide)
  refine Done.step st1 ?_
  show Done _ p e below s _ _ (T1.setTop (mkF m 4 #[oR xx, oR bA, oI (0 : Int32)] []))
  refine Done.step (fun _ => XS.aloadN X1.here hx rfl (hb hby d9_4) rfl rfl) ?_
  show Done _ p e below s _ _ (T1.setTop (mkF m 5 #[oR xx, oR bA, oI (0 : Int32)] [(.ref xx)]))
  refine Done.step (fun _ => XS.aloadN X1.here hx rfl (hb hby d9_5) rfl rfl) ?_
  show Done _ p e below s _ _ (T1.setTop (mkF m 6 #[oR xx, oR bA, oI (0 : Int32)] [(.ref bA), (.ref xx)]))
  obtain ⟨T2, h2, X2, e2, W2, st2⟩ := putF X1 hx hZ hown (host := "") (Or.inl (wAt hw 63 rfl)) Via.refl e1 Fv Ex (Or.inr ⟨(wAt hw 11 rfl), rfl, hnm⟩) (wAt hw 9 rfl) (ty := (.array .byte)) (by decide) rfl rfl (g := (mkF m 6 #[oR xx, oR bA, oI (0 : Int32)] [(.ref bA), (.ref xx)])) rfl rfl (hb hby d9_6)
  have F2 := Fv.same W2
  have N2 := Fr.snoc X2 N0 gx
  have Zs2 := Nat.le_trans Z0 (Keep.of_wr W2).1
  have K2 := (Keep.refl h0 [xx]).wr W2 (Or.inl (List.mem_of_getElem? (i := 0) rfl))
  refine Done.step st2 ?_
  show Done _ p e below s _ _ (T2.setTop (mkF m 9 #[oR xx, oR bA, oI (0 : Int32)] []))
  refine Done.step (fun _ => XS.aloadN X2.here hx rfl (hb hby d9_9) rfl rfl) ?_
  show Done _ p e below s _ _ (T2.setTop (mkF m 10 #[oR xx, oR bA, oI (0 : Int32)] [(.ref xx)]))
  refine Done.step (fun _ => XS.iloadN X2.here hx rfl (hb hby d9_10) rfl) ?_
  show Done _ p e below s _ _ (T2.setTop (mkF m 11 #[oR xx, oR bA, oI (0 : Int32)] [(.int (0 : Int32)), (.ref xx)]))
  have f4 := (Fc.other W2 (Or.inr (slot_ne (Or.inr (wAt hw 12 rfl)) (Or.inr (wAt hw 11 rfl)) (by decide) (t := .byte) (t' := (.array .byte)) (by decide) (by decide))))
  have f5 := (Ex.wr W2)
  obtain ⟨T3, h3, X3, e3, W3, st3⟩ := putFN X2 hx hZ hown (wAt hw 64 rfl) Via.refl e2 f4 f5 (Or.inr ⟨(wAt hw 12 rfl), rfl, hnm⟩) (wAt hw 9 rfl) (ty := .byte) (v' := (.int (nar .byte (0 : Int32)))) (by decide) rfl (fits_nar_byte _) (g := (mkF m 11 #[oR xx, oR bA, oI (0 : Int32)] [(.int (0 : Int32)), (.ref xx)])) rfl rfl (hb hby d9_11)
  have F3 := f4.same W3
  have N3 := Fr.snoc X3 N2 gx
  have Zs3 := Nat.le_trans Zs2 (Keep.of_wr W3).1
  have K3 := K2.wr W3 (Or.inl (List.mem_of_getElem? (i := 0) rfl))
  refine Done.step st3 ?_
  show Done _ p e below s _ _ (T3.setTop (mkF m 14 #[oR xx, oR bA, oI (0 : Int32)] []))
  have f6 := (f5.wr W3)
  have f7 := (F2.other W3 (Or.inr (slot_ne (Or.inr (wAt hw 11 rfl)) (Or.inr (wAt hw 12 rfl)) (by decide) (t := (.array .byte)) (t' := .byte) (by decide) (by decide))))
  refine Done.retV (leavesF X3 hlk (by decide) (by decide)) X3 hx hret (hb hby d9_14) ?_
  rw [e3]
  exact ⟨rfl, N3, K3, f6, f7, F3⟩
theorem d6_0 : decode jdk_42_method_139_code 0 = .ok (.getstatic 38, 3) := by decide +kernel
theorem d6_3 : decode jdk_42_method_139_code 3 = .ok (.ifCond .eq 23, 3) := by decide +kernel
theorem d6_6 : decode jdk_42_method_139_code 6 = .ok (.iload_n 0, 1) := by decide +kernel
theorem d6_7 : decode jdk_42_method_139_code 7 = .ok (.invokestatic 1015, 3) := by decide +kernel
theorem pd_0 : parseMethodDescriptor "(C)Z" = some ⟨[.char], some .boolean⟩ := by decide +kernel
theorem d6_10 : decode jdk_42_method_139_code 10 = .ok (.ifCond .eq 16, 3) := by decide +kernel
theorem d6_13 : decode jdk_42_method_139_code 13 = .ok (.new 10, 3) := by decide +kernel
theorem d6_16 : decode jdk_42_method_139_code 16 = .ok (.dup, 1) := by decide +kernel
theorem d6_17 : decode jdk_42_method_139_code 17 = .ok (.iload_n 0, 1) := by decide +kernel
theorem d6_18 : decode jdk_42_method_139_code 18 = .ok (.invokestatic 1018, 3) := by decide +kernel
theorem pd_1 : parseMethodDescriptor "(C)[B" = some ⟨[.char], some (.array .byte)⟩ := by decide +kernel
theorem d6_21 : decode jdk_42_method_139_code 21 = .ok (.iconst 0, 1) := by decide +kernel
theorem d6_22 : decode jdk_42_method_139_code 22 = .ok (.invokespecial 209, 3) := by decide +kernel
theorem pd_2 : parseMethodDescriptor "([BB)V" = some ⟨[(.array .byte), .byte], none⟩ := by decide +kernel
theorem d6_25 : decode jdk_42_method_139_code 25 = .ok (.areturn, 1) := by decide +kernel
set_option maxRecDepth 65536 in
set_option maxHeartbeats 40000000 in
theorem vO (l : Launch) (Z : State) (a0 : Array Value) (hw : ∀ d ∈ tables_1, d.before a0 Z = true) (ws : List Jvm.Cond) (c0 z : Int32) (h0 : Heap) (n0 : Nat) (Z0 : n0 ≤ h0.size) (O0 : Old Z n0 h0) (SC : Sta Z Z.heap "java/lang/String" "COMPACT_STRINGS" "Z" (.int z)) (hz : ¬ z = 0) (hc : ¬ (255 : Int32) < c0) :
    Ctr FrameEnd l Z (⟨"java/lang/String", "valueOf", "(C)Ljava/lang/String;"⟩ : MethodName) jdk_42_method_139_code 1 (some (.object "java/lang/String")) ws ({ frames := 3, cells := 2, slots := 5, locals := 40 } : Room) #[(.int c0)] h0 TrueV (fun v h _ L => ∃ (xx b : Addr) (kb : ClassId), v = some (.ref xx) ∧ Fr n0 L ∧ Keep h0 h [] ∧ Exa Z h xx "java/lang/String" ∧ Fld Z h xx "java/lang/String" "value" "[B" (.ref b) ∧ Fld Z h xx "java/lang/String" "coder" "B" (.int (0 : Int32)) ∧ Arv Z h b kb .byte (1 : Int32) [(.int (own_by c0))] (.int (0 : Int32))) := by
  refine Ctr.intro (plainFor_of_name pn_java_lang_String) (Ls := #[.val (.int c0)]) (fun m => by first | (simp [entryFrame, mkF, argsToLocals, Value.category]; done) | rfl) ?_
  intro p e s m below meth c T0 hx hby hml hown hnm hret hlk hZ hV hsh e0 X0
  have N0 := Fr.nil n0
  show Done _ p e below s _ _ (T0.setTop (mkF m 0 #[oI c0] []))
  obtain ⟨T1, X1, e1, st1⟩ := getS2 X0 hx hZ hown (host := "") (Or.inl (wAt hw 50 rfl)) Via.refl e0 (SC.ext O0.2) (g := (mkF m 0 #[oI c0] [])) rfl (hb hby d6_0)
  refine Done.step st1 ?_
  show Done _ p e below s _ _ (T1.setTop (mkF m 3 #[oI c0] [(.int z)]))
  refine Done.step (fun _ => XS.ifNo X1.here hx rfl (hb hby d6_3) rfl (XT.i0_eq_f hz)) ?_
  show Done _ p e below s _ _ (T1.setTop (mkF m 6 #[oI c0] []))
  refine Done.step (fun _ => XS.iloadN X1.here hx rfl (hb hby d6_6) rfl) ?_
  show Done _ p e below s _ _ (T1.setTop (mkF m 7 #[oI c0] [(.int c0)]))
  refine Done.callSP X1 hx hZ hown (wAt hw 51 rfl) (wAt hw 52 rfl) (wAt hw 53 rfl) (wAt hw 54 rfl) (by decide) (vC l Z a0 hw [] c0 h0 n0 Z0 hc) e1 (g := (mkF m 7 #[oI c0] [(.int c0)])) rfl (by rw [hml]; rfl) [(.int c0)] [] 0 (lenOf pd_0 rfl) rfl rfl (by show 2 * 0 + _ ≤ _; exact Nat.le_of_eq rfl) (hb hby d6_7) (by decide) (by decide) (by decide) (by decide) rfl rfl ?_
  intro T2 X2 e2
  show Done _ p e below s _ _ (T2.setTop (mkF m 10 #[oI c0] [(.int (1 : Int32))]))
  refine Done.step (fun _ => XS.ifNo X2.here hx rfl (hb hby d6_10) rfl (XT.i0_eq_f (by decide))) ?_
  show Done _ p e below s _ _ (T2.setTop (mkF m 13 #[oI c0] []))
  obtain ⟨T3, h3, X3, e3, E3, A3, D3, -, st3⟩ := newO X2 hx hZ hown (wAt hw 55 rfl) (wAt hw 9 rfl) (wAt hw 8 rfl) e2 (g := (mkF m 13 #[oI c0] [])) rfl (hb hby d6_13) (by decide) (by decide)
  obtain ⟨b3, g3⟩ : ∃ z, z = h0.size := ⟨_, rfl⟩
  rw [← g3] at A3 D3 st3
  have n0_b3 : n0 ≤ b3 := by rw [g3]; exact Z0
  have sz_b3 : h0.size ≤ b3 := by rw [g3]; exact (Keep.refl h0 []).1
  have K3 := (Keep.refl h0 []).ext E3
  have Zs3 := Nat.le_trans Z0 E3.1
  have F_value_b3 : Fld Z h3 b3 "java/lang/String" "value" "[B" .null := D3 (Or.inr (wAt hw 11 rfl)) (ty := (.array .byte)) (by decide)
  have F_coder_b3 : Fld Z h3 b3 "java/lang/String" "coder" "B" (.int (0 : Int32)) := D3 (Or.inr (wAt hw 12 rfl)) (ty := .byte) (by decide)
  refine Done.step st3 ?_
  show Done _ p e below s _ _ (T3.setTop (mkF m 16 #[oI c0] [(.ref b3)]))
  refine Done.step (fun _ => XS.dup X3.here hx rfl (hb hby d6_16) rfl rfl) ?_
  show Done _ p e below s _ _ (T3.setTop (mkF m 17 #[oI c0] [(.ref b3), (.ref b3)]))
  refine Done.step (fun _ => XS.iloadN X3.here hx rfl (hb hby d6_17) rfl) ?_
  show Done _ p e below s _ _ (T3.setTop (mkF m 18 #[oI c0] [(.int c0), (.ref b3), (.ref b3)]))
  have f4 := (O0.ext E3)
  refine Done.callS X3 hx hZ hown (wAt hw 56 rfl) (wAt hw 57 rfl) (wAt hw 53 rfl) (wAt hw 58 rfl) (by decide) (vT0 l Z a0 hw [] c0 h3 n0 Zs3 f4) (fun _ _ => trivial) e3 (g := (mkF m 18 #[oI c0] [(.int c0), (.ref b3), (.ref b3)])) rfl (by rw [hml]; rfl) [(.int c0)] [(.ref b3), (.ref b3)] 2 (lenOf pd_1 rfl) rfl rfl (by show 2 * 0 + _ ≤ _; exact Nat.le_of_eq rfl) (hb hby d6_18) (by decide) (by decide) (by decide) (by decide) ?_
  intro T5 v5 L5 X5 q5
  obtain ⟨bV, kV, rfl, Nq5, K5q, szb, VBv⟩ := q5
  have N5 := Fr.app N0 Nq5
  have Zs5 := Nat.le_trans Zs3 K5q.1
  have K5 := K3.trans K5q all0
  show Done _ p e below s _ _ (T5.setTop (mkF m 21 #[oI c0] [(.ref bV), (.ref b3), (.ref b3)]))
  have nbx : bV ≠ b3 := Nat.ne_of_gt (Nat.lt_of_lt_of_le A3.lt szb)
  refine Done.step (fun _ => XT.iconstV X5.here hx rfl (0 : Int32) (hb hby d6_21) (by decide)) ?_
  show Done _ p e below s _ _ (T5.setTop (mkF m 22 #[oI c0] [(.int (0 : Int32)), (.ref bV), (.ref b3), (.ref b3)]))
  have f6 := (A3.keep K5q)
  have f7 := (F_value_b3.keep K5q nin0)
  have f8 := (F_coder_b3.keep K5q nin0)
  have f9 := (f4.keep K5q all0)
  refine Done.callI X5 hx hZ rfl hown (wAt hw 59 rfl) (wAt hw 60 rfl) (wAt hw 8 rfl) (wAt hw 61 rfl) (by decide) (vI0 l Z a0 hw [] b3 bV T5.heap n0 Zs5 f6 f7 f8 n0_b3 f9) (fun _ _ => trivial) rfl (g := (mkF m 22 #[oI c0] [(.int (0 : Int32)), (.ref bV), (.ref b3), (.ref b3)])) rfl (by rw [hml]; rfl) b3 [(.ref bV), (.int (0 : Int32))] [(.ref b3)] 1 (lenOf pd_2 rfl) rfl rfl (by show 2 * 0 + _ ≤ _; exact Nat.le_of_eq rfl) (hb hby d6_22) (by decide) (by decide) (by decide) (by decide) ?_
  intro T10 v10 L10 X10 q10
  obtain ⟨rfl, Nq10, K10q, f10_0, f10_1, f10_2⟩ := q10
  have N10 := Fr.app N5 Nq10
  have Zs10 := Nat.le_trans Zs5 K10q.1
  have K10 := K5.trans K10q (allS (Or.inr sz_b3) all0)
  show Done _ p e below s _ _ (T10.setTop (mkF m 25 #[oI c0] [(.ref b3)]))
  have f11 := (VBv.keep K10q (ninS nbx nin0))
  exact Done.retA (leavesF X10 hlk (by decide) (by decide)) X10 hx hret rfl rfl (hb hby d6_25) ⟨b3, bV, kV, rfl, N10, K10, f10_0, f10_1, f10_2, f11⟩
theorem pn_com_example_wide_weir_wideweir_accesslog_AccessLogLineEqualsPinLaw : plainName "com/example/wide_weir/wideweir/accesslog/AccessLogLineEqualsPinLaw" = true := by first | (simp [plainName, overriddenIn]; done) | decide +kernel
theorem d1_0 : decode method_3_code 0 = .ok (.iload_n 0, 1) := by decide +kernel
theorem d1_1 : decode method_3_code 1 = .ok (.sipush 256, 3) := by decide +kernel
theorem d1_4 : decode method_3_code 4 = .ok (.iand, 1) := by decide +kernel
theorem d1_5 : decode method_3_code 5 = .ok (.ifCond .ne 6, 3) := by decide +kernel
theorem d1_8 : decode method_3_code 8 = .ok (.ldc 7, 2) := by decide +kernel
theorem d1_10 : decode method_3_code 10 = .ok (.areturn, 1) := by decide +kernel
theorem d1_11 : decode method_3_code 11 = .ok (.iload_n 0, 1) := by decide +kernel
theorem d1_12 : decode method_3_code 12 = .ok (.sipush 255, 3) := by decide +kernel
theorem d1_15 : decode method_3_code 15 = .ok (.iand, 1) := by decide +kernel
theorem d1_16 : decode method_3_code 16 = .ok (.i2c, 1) := by decide +kernel
theorem d1_17 : decode method_3_code 17 = .ok (.invokestatic 9, 3) := by decide +kernel
theorem pd_3 : parseMethodDescriptor "(C)Ljava/lang/String;" = some ⟨[.char], some (.object "java/lang/String")⟩ := by decide +kernel
theorem d1_20 : decode method_3_code 20 = .ok (.areturn, 1) := by decide +kernel
set_option maxRecDepth 65536 in
set_option maxHeartbeats 40000000 in
theorem rS (l : Launch) (Z : State) (a0 : Array Value) (hw : ∀ d ∈ tables_1, d.before a0 Z = true) (ws : List Jvm.Cond) (cd z : Int32) (Ts : List String) (h0 : Heap) (n0 : Nat) (Z0 : n0 ≤ h0.size) (O0 : Old Z n0 h0) (SC : Sta Z Z.heap "java/lang/String" "COMPACT_STRINGS" "Z" (.int z)) (hz : ¬ z = 0) (hTs : "" ∉ Ts) (hh : Jvm.Lit.constHeld Z "com/example/wide_weir/wideweir/accesslog/AccessLogLineEqualsPinLaw" 7) (hcw : Jvm.Lit.compactW.before a0 Z = true) :
    Ctr ReturnedEndW l Z (⟨"com/example/wide_weir/wideweir/accesslog/AccessLogLineEqualsPinLaw", "str", "(I)Ljava/lang/String;"⟩ : MethodName) method_3_code 1 (some (.object "java/lang/String")) ws ({ frames := 4, cells := 2, slots := 6, locals := 56 } : Room) #[(.int cd)] h0 (fun vm => LI Z vm h0 Ts) (QS Z n0 h0 cd Ts) := by
  refine Ctr.intro (plainFor_of_name pn_com_example_wide_weir_wideweir_accesslog_AccessLogLineEqualsPinLaw) (Ls := #[.val (.int cd)]) (fun m => by first | (simp [entryFrame, mkF, argsToLocals, Value.category]; done) | rfl) ?_
  intro p e s m below meth c T0 hx hby hml hown hnm hret hlk hZ hV hsh e0 X0
  have N0 := Fr.nil n0
  have hS : s.Since s.vm 0 := (State.WarmedH.refl s).since 0
  have hk : 0 ≤ h0.size := Nat.zero_le _
  have X0 : Stand p l e ({ frames := 4, cells := 2, slots := 6, locals := 56 } : Room) (s.setVm s.vm) m #[(.int cd)] below meth c T0 [] 0 0 := X0
  have hZ : Z.Warmed39 (s.setVm s.vm).vm := hZ
  have hown : (s.setVm s.vm).vm.findClass "com/example/wide_weir/wideweir/accesslog/AccessLogLineEqualsPinLaw" = some m.cls := hown
  have own_wS := own_wS0 hw
  show Done _ p e below s _ _ (T0.setTop (mkF m 0 #[oI cd] []))
  refine Done.step (fun _ => XS.iloadN X0.here hx rfl (hb hby d1_0) rfl) ?_
  show Done _ p e below s _ _ (T0.setTop (mkF m 1 #[oI cd] [(.int cd)]))
  refine Done.step (fun _ => XT.sipushV X0.here hx rfl (256 : Int32) (hb hby d1_1) (by decide)) ?_
  show Done _ p e below s _ _ (T0.setTop (mkF m 4 #[oI cd] [(.int (256 : Int32)), (.int cd)]))
  refine Done.step (fun _ => XS.iand X0.here hx rfl (hb hby d1_4) rfl) ?_
  show Done _ p e below s _ _ (T0.setTop (mkF m 5 #[oI cd] [(.int (cd &&& (256 : Int32)))]))
  by_cases hc1 : (cd &&& (256 : Int32)) = (0 : Int32)
  · refine Done.step (fun _ => XS.ifNo X0.here hx rfl (hb hby d1_5) rfl (XT.i0_ne_f hc1)) ?_
    show Done _ p e below s _ _ (T0.setTop (mkF m 8 #[oI cd] []))
    obtain ⟨Us, IBu, hu⟩ := id hV
    rcases hu with rfl | ⟨rfl, aa, bb, kk, LTa, EA, FA1, FA2, FB⟩
    · show Done _ p e below s _ _ (T0.setTop (mkF m 8 #[oI cd] []))
      obtain ⟨aa, T2, h2, k2, bb, kk, X2, e2, E2, hS, hk, hZ, hown, EA, FA2, FA1, FB, IBn, LTn, st2⟩ := own_ldcI X0 hx hZ hown (wAt hw 7 rfl) own_wS e0 hS hk O0.2.2 IBu hTs hh hcw own_emp (z := (0 : Int32)) (by decide) (by decide) (g := (mkF m 8 #[oI cd] [])) rfl (hb hby d1_8) (n := 0) (by decide) (by decide) (by decide) (by decide)
      have K2 := (Keep.refl h0 []).ext E2
      have Zs2 := Nat.le_trans Z0 E2.1
      refine Done.step st2 ?_
      show Done _ p e below s _ _ (T2.setTop (mkF m 10 #[oI cd] [(.ref aa)]))
      refine Done.retA (leavesW X2 hS (by first | exact hk | (rw [e2]; exact hk)) hlk (by decide) (by decide)) X2 hx hret rfl rfl (hb hby d1_10) ?_
      rw [e2]
      exact ⟨aa, bb, kk, rfl, N0, K2, EA, FA1, FA2, own_arv0 hc1 FB, ⟨[""], own_ib X2 IBn, Or.inr ⟨rfl, aa, bb, kk, own_lit X2 LTn, EA, FA1, FA2, FB⟩⟩⟩
    · show Done _ p e below s _ _ (T0.setTop (mkF m 8 #[oI cd] []))
      have LTn : Lit (s.setVm s.vm) "com/example/wide_weir/wideweir/accesslog/AccessLogLineEqualsPinLaw" 7 aa := own_litS LTa
      have IBn := IBu
      refine Done.step (ldcAgain X0 hx hZ hown (wAt hw 7 rfl) LTn (g := (mkF m 8 #[oI cd] [])) rfl (hb hby d1_8)) ?_
      show Done _ p e below s _ _ (T0.setTop (mkF m 10 #[oI cd] [(.ref aa)]))
      refine Done.retA (leavesW X0 hS (by first | exact hk | (rw [e0]; exact hk)) hlk (by decide) (by decide)) X0 hx hret rfl rfl (hb hby d1_10) ?_
      rw [e0]
      exact ⟨aa, bb, kk, rfl, N0, (Keep.refl h0 []), EA, FA1, FA2, own_arv0 hc1 FB, ⟨[""], own_ib X0 IBn, Or.inr ⟨rfl, aa, bb, kk, own_lit X0 LTn, EA, FA1, FA2, FB⟩⟩⟩
  · refine Done.step (fun _ => XS.ifYes X0.here hx rfl (pc0 := 5) (pc' := 11) rfl (hb hby d1_5) rfl (XT.i0_ne_t hc1) (by decide) (by decide)) ?_
    show Done _ p e below s _ _ (T0.setTop (mkF m 11 #[oI cd] []))
    refine Done.step (fun _ => XS.iloadN X0.here hx rfl (hb hby d1_11) rfl) ?_
    show Done _ p e below s _ _ (T0.setTop (mkF m 12 #[oI cd] [(.int cd)]))
    refine Done.step (fun _ => XT.sipushV X0.here hx rfl (255 : Int32) (hb hby d1_12) (by decide)) ?_
    show Done _ p e below s _ _ (T0.setTop (mkF m 15 #[oI cd] [(.int (255 : Int32)), (.int cd)]))
    refine Done.step (fun _ => XS.iand X0.here hx rfl (hb hby d1_15) rfl) ?_
    show Done _ p e below s _ _ (T0.setTop (mkF m 16 #[oI cd] [(.int (cd &&& (255 : Int32)))]))
    refine Done.step (fun _ => XT.i2c X0.here hx rfl (hb hby d1_16) rfl) ?_
    show Done _ p e below s _ _ (T0.setTop (mkF m 17 #[oI cd] [(.int ((cd &&& (255 : Int32)).toUInt32.toUInt16.toUInt32.toInt32))]))
    refine Done.callS X0 hx hZ hown (wAt hw 47 rfl) (wAt hw 48 rfl) (wAt hw 8 rfl) (wAt hw 49 rfl) (by decide) (vO l Z a0 hw [] (own_sc cd) z h0 n0 Z0 O0 SC hz (own_sc255 cd).2) (fun _ _ => trivial) e0 (g := (mkF m 17 #[oI cd] [(.int ((cd &&& (255 : Int32)).toUInt32.toUInt16.toUInt32.toInt32))])) rfl (by rw [hml]; rfl) [(.int ((cd &&& (255 : Int32)).toUInt32.toUInt16.toUInt32.toInt32))] [] 0 (lenOf pd_3 rfl) rfl rfl (by show 2 * 0 + _ ≤ _; exact Nat.le_of_eq rfl) (hb hby d1_17) (by decide) (by decide) (by decide) (by decide) ?_
    intro T3 v3 L3 X3 q3
    obtain ⟨xV, bV, kV, rfl, Nq3, K3q, EV, FV, CV, KV⟩ := q3
    have N3 := Fr.app N0 Nq3
    have Zs3 := Nat.le_trans Z0 K3q.1
    have hk := Nat.le_trans hk K3q.1
    have K3 := (Keep.refl h0 []).trans K3q all0
    show Done _ p e below s _ _ (T3.setTop (mkF m 20 #[oI cd] [(.ref xV)]))
    exact Done.retA (leavesW X3 hS (by first | exact hk | (rw [rfl]; exact hk)) hlk (by decide) (by decide)) X3 hx hret rfl rfl (hb hby d1_20) ⟨xV, bV, kV, rfl, N3, K3, EV, FV, CV, own_arv1 hc1 KV, own_liK (own_liX X3 hV) K3⟩
theorem d10_0 : decode method_2_code 0 = .ok (.iload_n 0, 1) := by decide +kernel
theorem d10_1 : decode method_2_code 1 = .ok (.sipush 256, 3) := by decide +kernel
theorem d10_4 : decode method_2_code 4 = .ok (.iand, 1) := by decide +kernel
theorem d10_5 : decode method_2_code 5 = .ok (.ifCond .ne 7, 3) := by decide +kernel
theorem d10_8 : decode method_2_code 8 = .ok (.iconst (-1), 1) := by decide +kernel
theorem d10_9 : decode method_2_code 9 = .ok (.goto 8, 3) := by decide +kernel
theorem d10_17 : decode method_2_code 17 = .ok (.ireturn, 1) := by decide +kernel
theorem d10_12 : decode method_2_code 12 = .ok (.iload_n 0, 1) := by decide +kernel
theorem d10_13 : decode method_2_code 13 = .ok (.sipush 255, 3) := by decide +kernel
theorem d10_16 : decode method_2_code 16 = .ok (.iand, 1) := by decide +kernel
set_option maxRecDepth 65536 in
set_option maxHeartbeats 40000000 in
theorem rN (l : Launch) (Z : State) (a0 : Array Value) (hw : ∀ d ∈ tables_1, d.before a0 Z = true) (ws : List Jvm.Cond) (xv : Int32) (h0 : Heap) (n0 : Nat) (Z0 : n0 ≤ h0.size)  :
    Ctr FrameEnd l Z (⟨"com/example/wide_weir/wideweir/accesslog/AccessLogLineEqualsPinLaw", "norm", "(I)I"⟩ : MethodName) method_2_code 1 (some .int) ws ({ frames := 0, cells := 0, slots := 0, locals := 0 } : Room) #[(.int xv)] h0 TrueV (PureQ (some (.int (own_norm xv))) h0) := by
  refine Ctr.intro (plainFor_of_name pn_com_example_wide_weir_wideweir_accesslog_AccessLogLineEqualsPinLaw) (Ls := #[.val (.int xv)]) (fun m => by first | (simp [entryFrame, mkF, argsToLocals, Value.category]; done) | rfl) ?_
  intro p e s m below meth c T0 hx hby hml hown hnm hret hlk hZ hV hsh e0 X0
  have N0 := Fr.nil n0
  show Done _ p e below s _ _ (T0.setTop (mkF m 0 #[oI xv] []))
  refine Done.step (fun _ => XS.iloadN X0.here hx rfl (hb hby d10_0) rfl) ?_
  show Done _ p e below s _ _ (T0.setTop (mkF m 1 #[oI xv] [(.int xv)]))
  refine Done.step (fun _ => XT.sipushV X0.here hx rfl (256 : Int32) (hb hby d10_1) (by decide)) ?_
  show Done _ p e below s _ _ (T0.setTop (mkF m 4 #[oI xv] [(.int (256 : Int32)), (.int xv)]))
  refine Done.step (fun _ => XS.iand X0.here hx rfl (hb hby d10_4) rfl) ?_
  show Done _ p e below s _ _ (T0.setTop (mkF m 5 #[oI xv] [(.int (xv &&& (256 : Int32)))]))
  by_cases hc1 : (xv &&& (256 : Int32)) = (0 : Int32)
  · refine Done.step (fun _ => XS.ifNo X0.here hx rfl (hb hby d10_5) rfl (XT.i0_ne_f hc1)) ?_
    show Done _ p e below s _ _ (T0.setTop (mkF m 8 #[oI xv] []))
    refine Done.step (fun _ => XT.iconstV X0.here hx rfl (-1 : Int32) (hb hby d10_8) (by decide)) ?_
    show Done _ p e below s _ _ (T0.setTop (mkF m 9 #[oI xv] [(.int (-1 : Int32))]))
    refine Done.step (fun _ => XS.goto X0.here hx rfl (pc0 := 9) (pc' := 17) rfl (hb hby d10_9) (by decide) (by decide)) ?_
    show Done _ p e below s _ _ (T0.setTop (mkF m 17 #[oI xv] [(.int (-1 : Int32))]))
    exact Done.retI (leavesF X0 hlk (by decide) (by decide)) X0 hx hret (hb hby d10_17) ⟨by unfold own_norm; rw [if_pos hc1], e0, rfl⟩
  · refine Done.step (fun _ => XS.ifYes X0.here hx rfl (pc0 := 5) (pc' := 12) rfl (hb hby d10_5) rfl (XT.i0_ne_t hc1) (by decide) (by decide)) ?_
    show Done _ p e below s _ _ (T0.setTop (mkF m 12 #[oI xv] []))
    refine Done.step (fun _ => XS.iloadN X0.here hx rfl (hb hby d10_12) rfl) ?_
    show Done _ p e below s _ _ (T0.setTop (mkF m 13 #[oI xv] [(.int xv)]))
    refine Done.step (fun _ => XT.sipushV X0.here hx rfl (255 : Int32) (hb hby d10_13) (by decide)) ?_
    show Done _ p e below s _ _ (T0.setTop (mkF m 16 #[oI xv] [(.int (255 : Int32)), (.int xv)]))
    refine Done.step (fun _ => XS.iand X0.here hx rfl (hb hby d10_16) rfl) ?_
    show Done _ p e below s _ _ (T0.setTop (mkF m 17 #[oI xv] [(.int (xv &&& (255 : Int32)))]))
    exact Done.retI (leavesF X0 hlk (by decide) (by decide)) X0 hx hret (hb hby d10_17) ⟨by unfold own_norm; rw [if_neg hc1], e0, rfl⟩
theorem pn_java_util_Objects : plainName "java/util/Objects" = true := by first | (simp [plainName, overriddenIn]; done) | decide +kernel
theorem d4_0 : decode jdk_31_method_11_code 0 = .ok (.aload_n 0, 1) := by decide +kernel
theorem d4_1 : decode jdk_31_method_11_code 1 = .ok (.ifnonnull 12, 3) := by decide +kernel
theorem d4_13 : decode jdk_31_method_11_code 13 = .ok (.aload_n 0, 1) := by decide +kernel
theorem d4_14 : decode jdk_31_method_11_code 14 = .ok (.areturn, 1) := by decide +kernel
set_option maxRecDepth 65536 in
set_option maxHeartbeats 40000000 in
theorem rR (l : Launch) (Z : State) (a0 : Array Value) (hw : ∀ d ∈ tables_1, d.before a0 Z = true) (ws : List Jvm.Cond) (xr mr : Addr) (h0 : Heap) (n0 : Nat) (Z0 : n0 ≤ h0.size)  :
    Ctr FrameEnd l Z (⟨"java/util/Objects", "requireNonNull", "(Ljava/lang/Object;Ljava/lang/String;)Ljava/lang/Object;"⟩ : MethodName) jdk_31_method_11_code 2 (some (.object "java/lang/Object")) ws ({ frames := 0, cells := 0, slots := 0, locals := 0 } : Room) #[(.ref xr), (.ref mr)] h0 TrueV (PureQ (some (.ref xr)) h0) := by
  refine Ctr.intro (plainFor_of_name pn_java_util_Objects) (Ls := #[.val (.ref xr), .val (.ref mr)]) (fun m => by first | (simp [entryFrame, mkF, argsToLocals, Value.category]; done) | rfl) ?_
  intro p e s m below meth c T0 hx hby hml hown hnm hret hlk hZ hV hsh e0 X0
  have N0 := Fr.nil n0
  show Done _ p e below s _ _ (T0.setTop (mkF m 0 #[oR xr, oR mr] []))
  refine Done.step (fun _ => XS.aloadN X0.here hx rfl (hb hby d4_0) rfl rfl) ?_
  show Done _ p e below s _ _ (T0.setTop (mkF m 1 #[oR xr, oR mr] [(.ref xr)]))
  refine Done.step (fun _ => XT.ifnonnullYes X0.here hx rfl (pc0 := 1) (pc' := 13) rfl (hb hby d4_1) rfl (by decide) (by decide)) ?_
  show Done _ p e below s _ _ (T0.setTop (mkF m 13 #[oR xr, oR mr] []))
  refine Done.step (fun _ => XS.aloadN X0.here hx rfl (hb hby d4_13) rfl rfl) ?_
  show Done _ p e below s _ _ (T0.setTop (mkF m 14 #[oR xr, oR mr] [(.ref xr)]))
  exact Done.retA (leavesF X0 hlk (by decide) (by decide)) X0 hx hret rfl rfl (hb hby d4_14) ⟨rfl, e0, rfl⟩
theorem pn_com_example_wide_weir_wideweir_accesslog_AccessLogLine : plainName "com/example/wide_weir/wideweir/accesslog/AccessLogLine" = true := by first | (simp [plainName, overriddenIn]; done) | decide +kernel
theorem d2_0 : decode prog_2_method_1_code 0 = .ok (.aload_n 0, 1) := by decide +kernel
theorem d2_1 : decode prog_2_method_1_code 1 = .ok (.invokespecial 1, 3) := by decide +kernel
theorem d2_4 : decode prog_2_method_1_code 4 = .ok (.aload_n 0, 1) := by decide +kernel
theorem d2_5 : decode prog_2_method_1_code 5 = .ok (.aload_n 1, 1) := by decide +kernel
theorem d2_6 : decode prog_2_method_1_code 6 = .ok (.ldc 7, 2) := by decide +kernel
theorem d2_8 : decode prog_2_method_1_code 8 = .ok (.invokestatic 9, 3) := by decide +kernel
theorem pd_4 : parseMethodDescriptor "(Ljava/lang/Object;Ljava/lang/String;)Ljava/lang/Object;" = some ⟨[(.object "java/lang/Object"), (.object "java/lang/String")], some (.object "java/lang/Object")⟩ := by decide +kernel
theorem d2_11 : decode prog_2_method_1_code 11 = .ok (.checkcast 15, 3) := by decide +kernel
theorem d2_14 : decode prog_2_method_1_code 14 = .ok (.putfield 17, 3) := by decide +kernel
theorem d2_17 : decode prog_2_method_1_code 17 = .ok (.aload_n 0, 1) := by decide +kernel
theorem d2_18 : decode prog_2_method_1_code 18 = .ok (.lload_n 2, 1) := by decide +kernel
theorem d2_19 : decode prog_2_method_1_code 19 = .ok (.putfield 22, 3) := by decide +kernel
theorem d2_22 : decode prog_2_method_1_code 22 = .ok (.aload_n 0, 1) := by decide +kernel
theorem d2_23 : decode prog_2_method_1_code 23 = .ok (.aload 4, 2) := by decide +kernel
theorem d2_25 : decode prog_2_method_1_code 25 = .ok (.ldc 26, 2) := by decide +kernel
theorem d2_27 : decode prog_2_method_1_code 27 = .ok (.invokestatic 9, 3) := by decide +kernel
theorem d2_30 : decode prog_2_method_1_code 30 = .ok (.checkcast 15, 3) := by decide +kernel
theorem d2_33 : decode prog_2_method_1_code 33 = .ok (.putfield 28, 3) := by decide +kernel
theorem d2_36 : decode prog_2_method_1_code 36 = .ok (.aload_n 0, 1) := by decide +kernel
theorem d2_37 : decode prog_2_method_1_code 37 = .ok (.aload 5, 2) := by decide +kernel
theorem d2_39 : decode prog_2_method_1_code 39 = .ok (.ldc 30, 2) := by decide +kernel
theorem d2_41 : decode prog_2_method_1_code 41 = .ok (.invokestatic 9, 3) := by decide +kernel
theorem d2_44 : decode prog_2_method_1_code 44 = .ok (.checkcast 15, 3) := by decide +kernel
theorem d2_47 : decode prog_2_method_1_code 47 = .ok (.putfield 32, 3) := by decide +kernel
theorem d2_50 : decode prog_2_method_1_code 50 = .ok (.return_, 1) := by decide +kernel
set_option maxRecDepth 65536 in
set_option maxHeartbeats 40000000 in
theorem rI (l : Launch) (Z : State) (a0 : Array Value) (hw : ∀ d ∈ tables_1, d.before a0 Z = true) (ws : List Jvm.Cond) (xx x1 x2 x3 : Addr) (tv : Int64) (Us : List String) (h0 : Heap) (n0 : Nat) (Z0 : n0 ≤ h0.size) (gE : Exa Z h0 xx "com/example/wide_weir/wideweir/accesslog/AccessLogLine") (gFc : Fld Z h0 xx "com/example/wide_weir/wideweir/accesslog/AccessLogLine" "client" "Ljava/lang/String;" .null) (gFt : Fld Z h0 xx "com/example/wide_weir/wideweir/accesslog/AccessLogLine" "epochSecond" "J" (.long (0 : Int64))) (gFm : Fld Z h0 xx "com/example/wide_weir/wideweir/accesslog/AccessLogLine" "method" "Ljava/lang/String;" .null) (gFp : Fld Z h0 xx "com/example/wide_weir/wideweir/accesslog/AccessLogLine" "path" "Ljava/lang/String;" .null) (gx : n0 ≤ xx) (O0 : Old Z n0 h0) (gE1 : Exa Z h0 x1 "java/lang/String") (gE2 : Exa Z h0 x2 "java/lang/String") (gE3 : Exa Z h0 x3 "java/lang/String") (hnC : "client" ∉ Us) (hnM : "method" ∉ Us) (hnP : "path" ∉ Us) (hh_client : Jvm.Lit.constHeld Z "com/example/wide_weir/wideweir/accesslog/AccessLogLine" 7) (hh_method : Jvm.Lit.constHeld Z "com/example/wide_weir/wideweir/accesslog/AccessLogLine" 26) (hh_path : Jvm.Lit.constHeld Z "com/example/wide_weir/wideweir/accesslog/AccessLogLine" 30) (hcw : Jvm.Lit.compactW.before a0 Z = true) :
    Ctr ReturnedEndW l Z (⟨"com/example/wide_weir/wideweir/accesslog/AccessLogLine", "<init>", "(Ljava/lang/String;JLjava/lang/String;Ljava/lang/String;)V"⟩ : MethodName) prog_2_method_1_code 6 none ws ({ frames := 2, cells := 6, slots := 76, locals := 30 } : Room) #[(.ref xx), (.ref x1), (.long tv), (.ref x2), (.ref x3)] h0 (fun vm => IB Z vm Us) (fun v h vm L => v = none ∧ Fr n0 L ∧ Keep h0 h [xx] ∧ Exa Z h xx "com/example/wide_weir/wideweir/accesslog/AccessLogLine" ∧ Fld Z h xx "com/example/wide_weir/wideweir/accesslog/AccessLogLine" "client" "Ljava/lang/String;" (.ref x1) ∧ Fld Z h xx "com/example/wide_weir/wideweir/accesslog/AccessLogLine" "epochSecond" "J" (.long tv) ∧ Fld Z h xx "com/example/wide_weir/wideweir/accesslog/AccessLogLine" "method" "Ljava/lang/String;" (.ref x2) ∧ Fld Z h xx "com/example/wide_weir/wideweir/accesslog/AccessLogLine" "path" "Ljava/lang/String;" (.ref x3) ∧ IB Z vm ("path" :: "method" :: "client" :: Us)) := by
  refine Ctr.intro (plainFor_of_name pn_com_example_wide_weir_wideweir_accesslog_AccessLogLine) (Ls := #[.val (.ref xx), .val (.ref x1), .val (.long tv), .second, .val (.ref x2), .val (.ref x3)]) (fun m => by first | (simp [entryFrame, mkF, argsToLocals, Value.category]; done) | rfl) ?_
  intro p e s m below meth c T0 hx hby hml hown hnm hret hlk hZ hV hsh e0 X0
  have N0 := Fr.nil n0
  have hS : s.Since s.vm 0 := (State.WarmedH.refl s).since 0
  have hk : 0 ≤ h0.size := Nat.zero_le _
  have X0 : Stand p l e ({ frames := 2, cells := 6, slots := 76, locals := 30 } : Room) (s.setVm s.vm) m #[(.ref xx), (.ref x1), (.long tv), (.ref x2), (.ref x3)] below meth c T0 [] 0 0 := X0
  have hZ : Z.Warmed39 (s.setVm s.vm).vm := hZ
  have hown : (s.setVm s.vm).vm.findClass "com/example/wide_weir/wideweir/accesslog/AccessLogLine" = some m.cls := hown
  have own_wS := own_wS0 hw
  show Done _ p e below s _ _ (T0.setTop (mkF m 0 #[oR xx, oR x1, oJ tv, .second, oR x2, oR x3] []))
  refine Done.step (fun _ => XS.aloadN X0.here hx rfl (hb hby d2_0) rfl rfl) ?_
  show Done _ p e below s _ _ (T0.setTop (mkF m 1 #[oR xx, oR x1, oJ tv, .second, oR x2, oR x3] [(.ref xx)]))
  obtain ⟨T1, X1, e1, st1⟩ := initO X0 hx hZ hown (wAt hw 18 rfl) (wAt hw 19 rfl) (wAt hw 20 rfl) e0 (g := (mkF m 1 #[oR xx, oR x1, oJ tv, .second, oR x2, oR x3] [(.ref xx)])) rfl (by rw [hml]; rfl) rfl (hb hby d2_1) (by decide) (W := 0) (by show 2 * 0 + _ ≤ _; exact Nat.le_of_eq rfl) (by decide)
  refine Done.step st1 ?_
  show Done _ p e below s _ _ (T1.setTop (mkF m 4 #[oR xx, oR x1, oJ tv, .second, oR x2, oR x3] []))
  refine Done.step (fun _ => XS.aloadN X1.here hx rfl (hb hby d2_4) rfl rfl) ?_
  show Done _ p e below s _ _ (T1.setTop (mkF m 5 #[oR xx, oR x1, oJ tv, .second, oR x2, oR x3] [(.ref xx)]))
  refine Done.step (fun _ => XS.aloadN X1.here hx rfl (hb hby d2_5) rfl rfl) ?_
  show Done _ p e below s _ _ (T1.setTop (mkF m 6 #[oR xx, oR x1, oJ tv, .second, oR x2, oR x3] [(.ref x1), (.ref xx)]))
  obtain ⟨a2, T2, h2, k2, -, -, X2, e2, E2, hS, hk, hZ, hown, -, -, -, -, IB2, -, st2⟩ := own_ldcI X1 hx hZ hown (wAt hw 21 rfl) own_wS e1 hS hk O0.2.2 hV hnC hh_client hcw own_tx_client (z := (6 : Int32)) (by decide) (by decide) (g := (mkF m 6 #[oR xx, oR x1, oJ tv, .second, oR x2, oR x3] [(.ref x1), (.ref xx)])) rfl (hb hby d2_6) (n := 24) (by decide) (by decide) (by decide) (by decide)
  have K2 := (Keep.refl h0 [xx]).ext E2
  have Zs2 := Nat.le_trans Z0 E2.1
  refine Done.step st2 ?_
  show Done _ p e below s _ _ (T2.setTop (mkF m 8 #[oR xx, oR x1, oJ tv, .second, oR x2, oR x3] [(.ref a2), (.ref x1), (.ref xx)]))
  refine Done.callSP X2 hx hZ hown (wAt hw 22 rfl) (wAt hw 23 rfl) (wAt hw 24 rfl) (wAt hw 25 rfl) (by decide) (rR l Z a0 hw [] x1 a2 h2 n0 Zs2) e2 (g := (mkF m 8 #[oR xx, oR x1, oJ tv, .second, oR x2, oR x3] [(.ref a2), (.ref x1), (.ref xx)])) rfl (by rw [hml]; rfl) [(.ref x1), (.ref a2)] [(.ref xx)] 1 (lenOf pd_4 rfl) rfl rfl (by show 2 * 0 + _ ≤ _; exact Nat.le_of_eq rfl) (hb hby d2_8) (by decide) (by decide) (by decide) (by decide) rfl rfl ?_
  intro T3 X3 e3
  show Done _ p e below s _ _ (T3.setTop (mkF m 11 #[oR xx, oR x1, oJ tv, .second, oR x2, oR x3] [(.ref x1), (.ref xx)]))
  have f5 := (gE1.ext E2)
  obtain ⟨T4, X4, e4, st4⟩ := castY X3 hx hZ hown (wAt hw 26 rfl) e3 (Ins.self f5) (g := (mkF m 11 #[oR xx, oR x1, oJ tv, .second, oR x2, oR x3] [(.ref x1), (.ref xx)])) rfl rfl (hb hby d2_11)
  refine Done.step st4 ?_
  show Done _ p e below s _ _ (T4.setTop (mkF m 14 #[oR xx, oR x1, oJ tv, .second, oR x2, oR x3] [(.ref x1), (.ref xx)]))
  have f7 := (gFc.ext E2)
  have f8 := (gE.ext E2)
  obtain ⟨T6, h6, X6, e6, W6, st6⟩ := putF X4 hx hZ hown (host := "") (Or.inl (wAt hw 28 rfl)) Via.refl e4 f7 f8 (Or.inr ⟨(wAt hw 29 rfl), rfl, hnm⟩) (wAt hw 1 rfl) (ty := (.object "java/lang/String")) (by decide) rfl rfl (g := (mkF m 14 #[oR xx, oR x1, oJ tv, .second, oR x2, oR x3] [(.ref x1), (.ref xx)])) rfl rfl (hb hby d2_14)
  have F6 := f7.same W6
  have N6 := Fr.snoc X6 N0 gx
  have Zs6 := Nat.le_trans Zs2 (Keep.of_wr W6).1
  have hk := Nat.le_trans hk (Keep.of_wr W6).1
  have K6 := K2.wr W6 (Or.inl (List.mem_of_getElem? (i := 0) rfl))
  refine Done.step st6 ?_
  show Done _ p e below s _ _ (T6.setTop (mkF m 17 #[oR xx, oR x1, oJ tv, .second, oR x2, oR x3] []))
  refine Done.step (fun _ => XS.aloadN X6.here hx rfl (hb hby d2_17) rfl rfl) ?_
  show Done _ p e below s _ _ (T6.setTop (mkF m 18 #[oR xx, oR x1, oJ tv, .second, oR x2, oR x3] [(.ref xx)]))
  refine Done.step (fun _ => XT.lloadN X6.here hx rfl (hb hby d2_18) rfl) ?_
  show Done _ p e below s _ _ (T6.setTop (mkF m 19 #[oR xx, oR x1, oJ tv, .second, oR x2, oR x3] [(.long tv), (.ref xx)]))
  have f10 := ((gFt.ext E2).other W6 (Or.inr (slot_ne (Or.inr (wAt hw 31 rfl)) (Or.inr (wAt hw 29 rfl)) (by decide) (t := .long) (t' := (.object "java/lang/String")) (by decide) (by decide))))
  have f11 := (f8.wr W6)
  obtain ⟨T9, h9, X9, e9, W9, st9⟩ := putF X6 hx hZ hown (host := "") (Or.inl (wAt hw 30 rfl)) Via.refl e6 f10 f11 (Or.inr ⟨(wAt hw 31 rfl), rfl, hnm⟩) (wAt hw 1 rfl) (ty := .long) (by decide) rfl rfl (g := (mkF m 19 #[oR xx, oR x1, oJ tv, .second, oR x2, oR x3] [(.long tv), (.ref xx)])) rfl rfl (hb hby d2_19)
  have F9 := f10.same W9
  have N9 := Fr.snoc X9 N6 gx
  have Zs9 := Nat.le_trans Zs6 (Keep.of_wr W9).1
  have hk := Nat.le_trans hk (Keep.of_wr W9).1
  have K9 := K6.wr W9 (Or.inl (List.mem_of_getElem? (i := 0) rfl))
  refine Done.step st9 ?_
  show Done _ p e below s _ _ (T9.setTop (mkF m 22 #[oR xx, oR x1, oJ tv, .second, oR x2, oR x3] []))
  refine Done.step (fun _ => XS.aloadN X9.here hx rfl (hb hby d2_22) rfl rfl) ?_
  show Done _ p e below s _ _ (T9.setTop (mkF m 23 #[oR xx, oR x1, oJ tv, .second, oR x2, oR x3] [(.ref xx)]))
  refine Done.step (fun _ => XS.aload X9.here hx rfl (hb hby d2_23) rfl rfl) ?_
  show Done _ p e below s _ _ (T9.setTop (mkF m 25 #[oR xx, oR x1, oJ tv, .second, oR x2, oR x3] [(.ref x2), (.ref xx)]))
  have f13 := (((O0.ext E2).wr W6 gx).wr W9 gx)
  obtain ⟨a12, T12, h12, k12, -, -, X12, e12, E12, hS, hk, hZ, hown, -, -, -, -, IB12, -, st12⟩ := own_ldcI X9 hx hZ hown (wAt hw 32 rfl) own_wS e9 hS hk f13.2.2 IB2 (own_nc (t := "method") (u := "client") (by decide) hnM) hh_method hcw own_tx_method (z := (6 : Int32)) (by decide) (by decide) (g := (mkF m 25 #[oR xx, oR x1, oJ tv, .second, oR x2, oR x3] [(.ref x2), (.ref xx)])) rfl (hb hby d2_25) (n := 24) (by decide) (by decide) (by decide) (by decide)
  have K12 := K9.ext E12
  have Zs12 := Nat.le_trans Zs9 E12.1
  refine Done.step st12 ?_
  show Done _ p e below s _ _ (T12.setTop (mkF m 27 #[oR xx, oR x1, oJ tv, .second, oR x2, oR x3] [(.ref a12), (.ref x2), (.ref xx)]))
  refine Done.callSP X12 hx hZ hown (wAt hw 22 rfl) (wAt hw 23 rfl) (wAt hw 24 rfl) (wAt hw 25 rfl) (by decide) (rR l Z a0 hw [] x2 a12 h12 n0 Zs12) e12 (g := (mkF m 27 #[oR xx, oR x1, oJ tv, .second, oR x2, oR x3] [(.ref a12), (.ref x2), (.ref xx)])) rfl (by rw [hml]; rfl) [(.ref x2), (.ref a12)] [(.ref xx)] 1 (lenOf pd_4 rfl) rfl rfl (by show 2 * 0 + _ ≤ _; exact Nat.le_of_eq rfl) (hb hby d2_27) (by decide) (by decide) (by decide) (by decide) rfl rfl ?_
  intro T14 X14 e14
  show Done _ p e below s _ _ (T14.setTop (mkF m 30 #[oR xx, oR x1, oJ tv, .second, oR x2, oR x3] [(.ref x2), (.ref xx)]))
  have f16 := ((((gE2.ext E2).wr W6).wr W9).ext E12)
  obtain ⟨T15, X15, e15, st15⟩ := castY X14 hx hZ hown (wAt hw 26 rfl) e14 (Ins.self f16) (g := (mkF m 30 #[oR xx, oR x1, oJ tv, .second, oR x2, oR x3] [(.ref x2), (.ref xx)])) rfl rfl (hb hby d2_30)
  refine Done.step st15 ?_
  show Done _ p e below s _ _ (T15.setTop (mkF m 33 #[oR xx, oR x1, oJ tv, .second, oR x2, oR x3] [(.ref x2), (.ref xx)]))
  have f18 := ((((gFm.ext E2).other W6 (Or.inr (slot_ne (Or.inr (wAt hw 34 rfl)) (Or.inr (wAt hw 29 rfl)) (by decide) (t := (.object "java/lang/String")) (t' := (.object "java/lang/String")) (by decide) (by decide)))).other W9 (Or.inr (slot_ne (Or.inr (wAt hw 34 rfl)) (Or.inr (wAt hw 31 rfl)) (by decide) (t := (.object "java/lang/String")) (t' := .long) (by decide) (by decide)))).ext E12)
  have f19 := ((f11.wr W9).ext E12)
  obtain ⟨T17, h17, X17, e17, W17, st17⟩ := putF X15 hx hZ hown (host := "") (Or.inl (wAt hw 33 rfl)) Via.refl e15 f18 f19 (Or.inr ⟨(wAt hw 34 rfl), rfl, hnm⟩) (wAt hw 1 rfl) (ty := (.object "java/lang/String")) (by decide) rfl rfl (g := (mkF m 33 #[oR xx, oR x1, oJ tv, .second, oR x2, oR x3] [(.ref x2), (.ref xx)])) rfl rfl (hb hby d2_33)
  have F17 := f18.same W17
  have N17 := Fr.snoc X17 N9 gx
  have Zs17 := Nat.le_trans Zs12 (Keep.of_wr W17).1
  have hk := Nat.le_trans hk (Keep.of_wr W17).1
  have K17 := K12.wr W17 (Or.inl (List.mem_of_getElem? (i := 0) rfl))
  refine Done.step st17 ?_
  show Done _ p e below s _ _ (T17.setTop (mkF m 36 #[oR xx, oR x1, oJ tv, .second, oR x2, oR x3] []))
  refine Done.step (fun _ => XS.aloadN X17.here hx rfl (hb hby d2_36) rfl rfl) ?_
  show Done _ p e below s _ _ (T17.setTop (mkF m 37 #[oR xx, oR x1, oJ tv, .second, oR x2, oR x3] [(.ref xx)]))
  refine Done.step (fun _ => XS.aload X17.here hx rfl (hb hby d2_37) rfl rfl) ?_
  show Done _ p e below s _ _ (T17.setTop (mkF m 39 #[oR xx, oR x1, oJ tv, .second, oR x2, oR x3] [(.ref x3), (.ref xx)]))
  have f21 := ((f13.ext E12).wr W17 gx)
  obtain ⟨a20, T20, h20, k20, -, -, X20, e20, E20, hS, hk, hZ, hown, -, -, -, -, IB20, -, st20⟩ := own_ldcI X17 hx hZ hown (wAt hw 35 rfl) own_wS e17 hS hk f21.2.2 IB12 (own_nc (t := "path") (u := "method") (by decide) (own_nc (t := "path") (u := "client") (by decide) hnP)) hh_path hcw own_tx_path (z := (4 : Int32)) (by decide) (by decide) (g := (mkF m 39 #[oR xx, oR x1, oJ tv, .second, oR x2, oR x3] [(.ref x3), (.ref xx)])) rfl (hb hby d2_39) (n := 16) (by decide) (by decide) (by decide) (by decide)
  have K20 := K17.ext E20
  have Zs20 := Nat.le_trans Zs17 E20.1
  refine Done.step st20 ?_
  show Done _ p e below s _ _ (T20.setTop (mkF m 41 #[oR xx, oR x1, oJ tv, .second, oR x2, oR x3] [(.ref a20), (.ref x3), (.ref xx)]))
  refine Done.callSP X20 hx hZ hown (wAt hw 22 rfl) (wAt hw 23 rfl) (wAt hw 24 rfl) (wAt hw 25 rfl) (by decide) (rR l Z a0 hw [] x3 a20 h20 n0 Zs20) e20 (g := (mkF m 41 #[oR xx, oR x1, oJ tv, .second, oR x2, oR x3] [(.ref a20), (.ref x3), (.ref xx)])) rfl (by rw [hml]; rfl) [(.ref x3), (.ref a20)] [(.ref xx)] 1 (lenOf pd_4 rfl) rfl rfl (by show 2 * 0 + _ ≤ _; exact Nat.le_of_eq rfl) (hb hby d2_41) (by decide) (by decide) (by decide) (by decide) rfl rfl ?_
  intro T22 X22 e22
  show Done _ p e below s _ _ (T22.setTop (mkF m 44 #[oR xx, oR x1, oJ tv, .second, oR x2, oR x3] [(.ref x3), (.ref xx)]))
  have f24 := ((((((gE3.ext E2).wr W6).wr W9).ext E12).wr W17).ext E20)
  obtain ⟨T23, X23, e23, st23⟩ := castY X22 hx hZ hown (wAt hw 26 rfl) e22 (Ins.self f24) (g := (mkF m 44 #[oR xx, oR x1, oJ tv, .second, oR x2, oR x3] [(.ref x3), (.ref xx)])) rfl rfl (hb hby d2_44)
  refine Done.step st23 ?_
  show Done _ p e below s _ _ (T23.setTop (mkF m 47 #[oR xx, oR x1, oJ tv, .second, oR x2, oR x3] [(.ref x3), (.ref xx)]))
  have f26 := ((((((gFp.ext E2).other W6 (Or.inr (slot_ne (Or.inr (wAt hw 37 rfl)) (Or.inr (wAt hw 29 rfl)) (by decide) (t := (.object "java/lang/String")) (t' := (.object "java/lang/String")) (by decide) (by decide)))).other W9 (Or.inr (slot_ne (Or.inr (wAt hw 37 rfl)) (Or.inr (wAt hw 31 rfl)) (by decide) (t := (.object "java/lang/String")) (t' := .long) (by decide) (by decide)))).ext E12).other W17 (Or.inr (slot_ne (Or.inr (wAt hw 37 rfl)) (Or.inr (wAt hw 34 rfl)) (by decide) (t := (.object "java/lang/String")) (t' := (.object "java/lang/String")) (by decide) (by decide)))).ext E20)
  have f27 := ((f19.wr W17).ext E20)
  obtain ⟨T25, h25, X25, e25, W25, st25⟩ := putF X23 hx hZ hown (host := "") (Or.inl (wAt hw 36 rfl)) Via.refl e23 f26 f27 (Or.inr ⟨(wAt hw 37 rfl), rfl, hnm⟩) (wAt hw 1 rfl) (ty := (.object "java/lang/String")) (by decide) rfl rfl (g := (mkF m 47 #[oR xx, oR x1, oJ tv, .second, oR x2, oR x3] [(.ref x3), (.ref xx)])) rfl rfl (hb hby d2_47)
  have F25 := f26.same W25
  have N25 := Fr.snoc X25 N17 gx
  have Zs25 := Nat.le_trans Zs20 (Keep.of_wr W25).1
  have hk := Nat.le_trans hk (Keep.of_wr W25).1
  have K25 := K20.wr W25 (Or.inl (List.mem_of_getElem? (i := 0) rfl))
  refine Done.step st25 ?_
  show Done _ p e below s _ _ (T25.setTop (mkF m 50 #[oR xx, oR x1, oJ tv, .second, oR x2, oR x3] []))
  have f28 := (f27.wr W25)
  have f29 := (((((F6.other W9 (Or.inr (slot_ne (Or.inr (wAt hw 29 rfl)) (Or.inr (wAt hw 31 rfl)) (by decide) (t := (.object "java/lang/String")) (t' := .long) (by decide) (by decide)))).ext E12).other W17 (Or.inr (slot_ne (Or.inr (wAt hw 29 rfl)) (Or.inr (wAt hw 34 rfl)) (by decide) (t := (.object "java/lang/String")) (t' := (.object "java/lang/String")) (by decide) (by decide)))).ext E20).other W25 (Or.inr (slot_ne (Or.inr (wAt hw 29 rfl)) (Or.inr (wAt hw 37 rfl)) (by decide) (t := (.object "java/lang/String")) (t' := (.object "java/lang/String")) (by decide) (by decide))))
  have f30 := ((((F9.ext E12).other W17 (Or.inr (slot_ne (Or.inr (wAt hw 31 rfl)) (Or.inr (wAt hw 34 rfl)) (by decide) (t := .long) (t' := (.object "java/lang/String")) (by decide) (by decide)))).ext E20).other W25 (Or.inr (slot_ne (Or.inr (wAt hw 31 rfl)) (Or.inr (wAt hw 37 rfl)) (by decide) (t := .long) (t' := (.object "java/lang/String")) (by decide) (by decide))))
  have f31 := ((F17.ext E20).other W25 (Or.inr (slot_ne (Or.inr (wAt hw 34 rfl)) (Or.inr (wAt hw 37 rfl)) (by decide) (t := (.object "java/lang/String")) (t' := (.object "java/lang/String")) (by decide) (by decide))))
  refine Done.retV (leavesW X25 hS (by first | exact hk | (rw [e25]; exact hk)) hlk (by decide) (by decide)) X25 hx hret (hb hby d2_50) ?_
  rw [e25]
  exact ⟨rfl, N25, K25, f28, f29, f30, f31, F25, own_ib X25 IB20⟩
set_option maxRecDepth 65536 in
set_option maxHeartbeats 40000000 in
theorem rJ (l : Launch) (Z : State) (a0 : Array Value) (hw : ∀ d ∈ tables_1, d.before a0 Z = true) (ws : List Jvm.Cond) (xx x1 x2 x3 : Addr) (tv : Int64) (Us : List String) (h0 : Heap) (n0 : Nat) (Z0 : n0 ≤ h0.size) (gE : Exa Z h0 xx "com/example/wide_weir/wideweir/accesslog/AccessLogLine") (gFc : Fld Z h0 xx "com/example/wide_weir/wideweir/accesslog/AccessLogLine" "client" "Ljava/lang/String;" .null) (gFt : Fld Z h0 xx "com/example/wide_weir/wideweir/accesslog/AccessLogLine" "epochSecond" "J" (.long (0 : Int64))) (gFm : Fld Z h0 xx "com/example/wide_weir/wideweir/accesslog/AccessLogLine" "method" "Ljava/lang/String;" .null) (gFp : Fld Z h0 xx "com/example/wide_weir/wideweir/accesslog/AccessLogLine" "path" "Ljava/lang/String;" .null) (gx : n0 ≤ xx) (O0 : Old Z n0 h0) (gE1 : Exa Z h0 x1 "java/lang/String") (gE2 : Exa Z h0 x2 "java/lang/String") (gE3 : Exa Z h0 x3 "java/lang/String")  :
    Ctr ReturnedEndW l Z (⟨"com/example/wide_weir/wideweir/accesslog/AccessLogLine", "<init>", "(Ljava/lang/String;JLjava/lang/String;Ljava/lang/String;)V"⟩ : MethodName) prog_2_method_1_code 6 none ws ({ frames := 2, cells := 6, slots := 76, locals := 30 } : Room) #[(.ref xx), (.ref x1), (.long tv), (.ref x2), (.ref x3)] h0 TrueV (fun v h _ L => v = none ∧ Fr n0 L ∧ Keep h0 h [xx] ∧ Exa Z h xx "com/example/wide_weir/wideweir/accesslog/AccessLogLine" ∧ Fld Z h xx "com/example/wide_weir/wideweir/accesslog/AccessLogLine" "client" "Ljava/lang/String;" (.ref x1) ∧ Fld Z h xx "com/example/wide_weir/wideweir/accesslog/AccessLogLine" "epochSecond" "J" (.long tv) ∧ Fld Z h xx "com/example/wide_weir/wideweir/accesslog/AccessLogLine" "method" "Ljava/lang/String;" (.ref x2) ∧ Fld Z h xx "com/example/wide_weir/wideweir/accesslog/AccessLogLine" "path" "Ljava/lang/String;" (.ref x3)) := by
  refine Ctr.intro (plainFor_of_name pn_com_example_wide_weir_wideweir_accesslog_AccessLogLine) (Ls := #[.val (.ref xx), .val (.ref x1), .val (.long tv), .second, .val (.ref x2), .val (.ref x3)]) (fun m => by first | (simp [entryFrame, mkF, argsToLocals, Value.category]; done) | rfl) ?_
  intro p e s m below meth c T0 hx hby hml hown hnm hret hlk hZ hV hsh e0 X0
  have N0 := Fr.nil n0
  have hS : s.Since s.vm 0 := (State.WarmedH.refl s).since 0
  have hk : 0 ≤ h0.size := Nat.zero_le _
  have X0 : Stand p l e ({ frames := 2, cells := 6, slots := 76, locals := 30 } : Room) (s.setVm s.vm) m #[(.ref xx), (.ref x1), (.long tv), (.ref x2), (.ref x3)] below meth c T0 [] 0 0 := X0
  have hZ : Z.Warmed39 (s.setVm s.vm).vm := hZ
  have hown : (s.setVm s.vm).vm.findClass "com/example/wide_weir/wideweir/accesslog/AccessLogLine" = some m.cls := hown
  have own_wS := own_wS0 hw
  show Done _ p e below s _ _ (T0.setTop (mkF m 0 #[oR xx, oR x1, oJ tv, .second, oR x2, oR x3] []))
  refine Done.step (fun _ => XS.aloadN X0.here hx rfl (hb hby d2_0) rfl rfl) ?_
  show Done _ p e below s _ _ (T0.setTop (mkF m 1 #[oR xx, oR x1, oJ tv, .second, oR x2, oR x3] [(.ref xx)]))
  obtain ⟨T1, X1, e1, st1⟩ := initO X0 hx hZ hown (wAt hw 18 rfl) (wAt hw 19 rfl) (wAt hw 20 rfl) e0 (g := (mkF m 1 #[oR xx, oR x1, oJ tv, .second, oR x2, oR x3] [(.ref xx)])) rfl (by rw [hml]; rfl) rfl (hb hby d2_1) (by decide) (W := 0) (by show 2 * 0 + _ ≤ _; exact Nat.le_of_eq rfl) (by decide)
  refine Done.step st1 ?_
  show Done _ p e below s _ _ (T1.setTop (mkF m 4 #[oR xx, oR x1, oJ tv, .second, oR x2, oR x3] []))
  refine Done.step (fun _ => XS.aloadN X1.here hx rfl (hb hby d2_4) rfl rfl) ?_
  show Done _ p e below s _ _ (T1.setTop (mkF m 5 #[oR xx, oR x1, oJ tv, .second, oR x2, oR x3] [(.ref xx)]))
  refine Done.step (fun _ => XS.aloadN X1.here hx rfl (hb hby d2_5) rfl rfl) ?_
  show Done _ p e below s _ _ (T1.setTop (mkF m 6 #[oR xx, oR x1, oJ tv, .second, oR x2, oR x3] [(.ref x1), (.ref xx)]))
  obtain ⟨a2, T2, h2, k2, X2, e2, E2, hS, hk, hZ, hown, st2⟩ := ldcS X1 hx hZ hown (wAt hw 21 rfl) own_wS e1 hS hk (g := (mkF m 6 #[oR xx, oR x1, oJ tv, .second, oR x2, oR x3] [(.ref x1), (.ref xx)])) rfl (hb hby d2_6) (n := 24) (by decide) (by decide) (by decide) (by decide)
  have K2 := (Keep.refl h0 [xx]).ext E2
  have Zs2 := Nat.le_trans Z0 E2.1
  refine Done.step st2 ?_
  show Done _ p e below s _ _ (T2.setTop (mkF m 8 #[oR xx, oR x1, oJ tv, .second, oR x2, oR x3] [(.ref a2), (.ref x1), (.ref xx)]))
  refine Done.callSP X2 hx hZ hown (wAt hw 22 rfl) (wAt hw 23 rfl) (wAt hw 24 rfl) (wAt hw 25 rfl) (by decide) (rR l Z a0 hw [] x1 a2 h2 n0 Zs2) e2 (g := (mkF m 8 #[oR xx, oR x1, oJ tv, .second, oR x2, oR x3] [(.ref a2), (.ref x1), (.ref xx)])) rfl (by rw [hml]; rfl) [(.ref x1), (.ref a2)] [(.ref xx)] 1 (lenOf pd_4 rfl) rfl rfl (by show 2 * 0 + _ ≤ _; exact Nat.le_of_eq rfl) (hb hby d2_8) (by decide) (by decide) (by decide) (by decide) rfl rfl ?_
  intro T3 X3 e3
  show Done _ p e below s _ _ (T3.setTop (mkF m 11 #[oR xx, oR x1, oJ tv, .second, oR x2, oR x3] [(.ref x1), (.ref xx)]))
  have f5 := (gE1.ext E2)
  obtain ⟨T4, X4, e4, st4⟩ := castY X3 hx hZ hown (wAt hw 26 rfl) e3 (Ins.self f5) (g := (mkF m 11 #[oR xx, oR x1, oJ tv, .second, oR x2, oR x3] [(.ref x1), (.ref xx)])) rfl rfl (hb hby d2_11)
  refine Done.step st4 ?_
  show Done _ p e below s _ _ (T4.setTop (mkF m 14 #[oR xx, oR x1, oJ tv, .second, oR x2, oR x3] [(.ref x1), (.ref xx)]))
  have f7 := (gFc.ext E2)
  have f8 := (gE.ext E2)
  obtain ⟨T6, h6, X6, e6, W6, st6⟩ := putF X4 hx hZ hown (host := "") (Or.inl (wAt hw 28 rfl)) Via.refl e4 f7 f8 (Or.inr ⟨(wAt hw 29 rfl), rfl, hnm⟩) (wAt hw 1 rfl) (ty := (.object "java/lang/String")) (by decide) rfl rfl (g := (mkF m 14 #[oR xx, oR x1, oJ tv, .second, oR x2, oR x3] [(.ref x1), (.ref xx)])) rfl rfl (hb hby d2_14)
  have F6 := f7.same W6
  have N6 := Fr.snoc X6 N0 gx
  have Zs6 := Nat.le_trans Zs2 (Keep.of_wr W6).1
  have hk := Nat.le_trans hk (Keep.of_wr W6).1
  have K6 := K2.wr W6 (Or.inl (List.mem_of_getElem? (i := 0) rfl))
  refine Done.step st6 ?_
  show Done _ p e below s _ _ (T6.setTop (mkF m 17 #[oR xx, oR x1, oJ tv, .second, oR x2, oR x3] []))
  refine Done.step (fun _ => XS.aloadN X6.here hx rfl (hb hby d2_17) rfl rfl) ?_
  show Done _ p e below s _ _ (T6.setTop (mkF m 18 #[oR xx, oR x1, oJ tv, .second, oR x2, oR x3] [(.ref xx)]))
  refine Done.step (fun _ => XT.lloadN X6.here hx rfl (hb hby d2_18) rfl) ?_
  show Done _ p e below s _ _ (T6.setTop (mkF m 19 #[oR xx, oR x1, oJ tv, .second, oR x2, oR x3] [(.long tv), (.ref xx)]))
  have f10 := ((gFt.ext E2).other W6 (Or.inr (slot_ne (Or.inr (wAt hw 31 rfl)) (Or.inr (wAt hw 29 rfl)) (by decide) (t := .long) (t' := (.object "java/lang/String")) (by decide) (by decide))))
  have f11 := (f8.wr W6)
  obtain ⟨T9, h9, X9, e9, W9, st9⟩ := putF X6 hx hZ hown (host := "") (Or.inl (wAt hw 30 rfl)) Via.refl e6 f10 f11 (Or.inr ⟨(wAt hw 31 rfl), rfl, hnm⟩) (wAt hw 1 rfl) (ty := .long) (by decide) rfl rfl (g := (mkF m 19 #[oR xx, oR x1, oJ tv, .second, oR x2, oR x3] [(.long tv), (.ref xx)])) rfl rfl (hb hby d2_19)
  have F9 := f10.same W9
  have N9 := Fr.snoc X9 N6 gx
  have Zs9 := Nat.le_trans Zs6 (Keep.of_wr W9).1
  have hk := Nat.le_trans hk (Keep.of_wr W9).1
  have K9 := K6.wr W9 (Or.inl (List.mem_of_getElem? (i := 0) rfl))
  refine Done.step st9 ?_
  show Done _ p e below s _ _ (T9.setTop (mkF m 22 #[oR xx, oR x1, oJ tv, .second, oR x2, oR x3] []))
  refine Done.step (fun _ => XS.aloadN X9.here hx rfl (hb hby d2_22) rfl rfl) ?_
  show Done _ p e below s _ _ (T9.setTop (mkF m 23 #[oR xx, oR x1, oJ tv, .second, oR x2, oR x3] [(.ref xx)]))
  refine Done.step (fun _ => XS.aload X9.here hx rfl (hb hby d2_23) rfl rfl) ?_
  show Done _ p e below s _ _ (T9.setTop (mkF m 25 #[oR xx, oR x1, oJ tv, .second, oR x2, oR x3] [(.ref x2), (.ref xx)]))
  obtain ⟨a12, T12, h12, k12, X12, e12, E12, hS, hk, hZ, hown, st12⟩ := ldcS X9 hx hZ hown (wAt hw 32 rfl) own_wS e9 hS hk (g := (mkF m 25 #[oR xx, oR x1, oJ tv, .second, oR x2, oR x3] [(.ref x2), (.ref xx)])) rfl (hb hby d2_25) (n := 24) (by decide) (by decide) (by decide) (by decide)
  have K12 := K9.ext E12
  have Zs12 := Nat.le_trans Zs9 E12.1
  refine Done.step st12 ?_
  show Done _ p e below s _ _ (T12.setTop (mkF m 27 #[oR xx, oR x1, oJ tv, .second, oR x2, oR x3] [(.ref a12), (.ref x2), (.ref xx)]))
  refine Done.callSP X12 hx hZ hown (wAt hw 22 rfl) (wAt hw 23 rfl) (wAt hw 24 rfl) (wAt hw 25 rfl) (by decide) (rR l Z a0 hw [] x2 a12 h12 n0 Zs12) e12 (g := (mkF m 27 #[oR xx, oR x1, oJ tv, .second, oR x2, oR x3] [(.ref a12), (.ref x2), (.ref xx)])) rfl (by rw [hml]; rfl) [(.ref x2), (.ref a12)] [(.ref xx)] 1 (lenOf pd_4 rfl) rfl rfl (by show 2 * 0 + _ ≤ _; exact Nat.le_of_eq rfl) (hb hby d2_27) (by decide) (by decide) (by decide) (by decide) rfl rfl ?_
  intro T13 X13 e13
  show Done _ p e below s _ _ (T13.setTop (mkF m 30 #[oR xx, oR x1, oJ tv, .second, oR x2, oR x3] [(.ref x2), (.ref xx)]))
  have f15 := ((((gE2.ext E2).wr W6).wr W9).ext E12)
  obtain ⟨T14, X14, e14, st14⟩ := castY X13 hx hZ hown (wAt hw 26 rfl) e13 (Ins.self f15) (g := (mkF m 30 #[oR xx, oR x1, oJ tv, .second, oR x2, oR x3] [(.ref x2), (.ref xx)])) rfl rfl (hb hby d2_30)
  refine Done.step st14 ?_
  show Done _ p e below s _ _ (T14.setTop (mkF m 33 #[oR xx, oR x1, oJ tv, .second, oR x2, oR x3] [(.ref x2), (.ref xx)]))
  have f17 := ((((gFm.ext E2).other W6 (Or.inr (slot_ne (Or.inr (wAt hw 34 rfl)) (Or.inr (wAt hw 29 rfl)) (by decide) (t := (.object "java/lang/String")) (t' := (.object "java/lang/String")) (by decide) (by decide)))).other W9 (Or.inr (slot_ne (Or.inr (wAt hw 34 rfl)) (Or.inr (wAt hw 31 rfl)) (by decide) (t := (.object "java/lang/String")) (t' := .long) (by decide) (by decide)))).ext E12)
  have f18 := ((f11.wr W9).ext E12)
  obtain ⟨T16, h16, X16, e16, W16, st16⟩ := putF X14 hx hZ hown (host := "") (Or.inl (wAt hw 33 rfl)) Via.refl e14 f17 f18 (Or.inr ⟨(wAt hw 34 rfl), rfl, hnm⟩) (wAt hw 1 rfl) (ty := (.object "java/lang/String")) (by decide) rfl rfl (g := (mkF m 33 #[oR xx, oR x1, oJ tv, .second, oR x2, oR x3] [(.ref x2), (.ref xx)])) rfl rfl (hb hby d2_33)
  have F16 := f17.same W16
  have N16 := Fr.snoc X16 N9 gx
  have Zs16 := Nat.le_trans Zs12 (Keep.of_wr W16).1
  have hk := Nat.le_trans hk (Keep.of_wr W16).1
  have K16 := K12.wr W16 (Or.inl (List.mem_of_getElem? (i := 0) rfl))
  refine Done.step st16 ?_
  show Done _ p e below s _ _ (T16.setTop (mkF m 36 #[oR xx, oR x1, oJ tv, .second, oR x2, oR x3] []))
  refine Done.step (fun _ => XS.aloadN X16.here hx rfl (hb hby d2_36) rfl rfl) ?_
  show Done _ p e below s _ _ (T16.setTop (mkF m 37 #[oR xx, oR x1, oJ tv, .second, oR x2, oR x3] [(.ref xx)]))
  refine Done.step (fun _ => XS.aload X16.here hx rfl (hb hby d2_37) rfl rfl) ?_
  show Done _ p e below s _ _ (T16.setTop (mkF m 39 #[oR xx, oR x1, oJ tv, .second, oR x2, oR x3] [(.ref x3), (.ref xx)]))
  obtain ⟨a19, T19, h19, k19, X19, e19, E19, hS, hk, hZ, hown, st19⟩ := ldcS X16 hx hZ hown (wAt hw 35 rfl) own_wS e16 hS hk (g := (mkF m 39 #[oR xx, oR x1, oJ tv, .second, oR x2, oR x3] [(.ref x3), (.ref xx)])) rfl (hb hby d2_39) (n := 16) (by decide) (by decide) (by decide) (by decide)
  have K19 := K16.ext E19
  have Zs19 := Nat.le_trans Zs16 E19.1
  refine Done.step st19 ?_
  show Done _ p e below s _ _ (T19.setTop (mkF m 41 #[oR xx, oR x1, oJ tv, .second, oR x2, oR x3] [(.ref a19), (.ref x3), (.ref xx)]))
  refine Done.callSP X19 hx hZ hown (wAt hw 22 rfl) (wAt hw 23 rfl) (wAt hw 24 rfl) (wAt hw 25 rfl) (by decide) (rR l Z a0 hw [] x3 a19 h19 n0 Zs19) e19 (g := (mkF m 41 #[oR xx, oR x1, oJ tv, .second, oR x2, oR x3] [(.ref a19), (.ref x3), (.ref xx)])) rfl (by rw [hml]; rfl) [(.ref x3), (.ref a19)] [(.ref xx)] 1 (lenOf pd_4 rfl) rfl rfl (by show 2 * 0 + _ ≤ _; exact Nat.le_of_eq rfl) (hb hby d2_41) (by decide) (by decide) (by decide) (by decide) rfl rfl ?_
  intro T20 X20 e20
  show Done _ p e below s _ _ (T20.setTop (mkF m 44 #[oR xx, oR x1, oJ tv, .second, oR x2, oR x3] [(.ref x3), (.ref xx)]))
  have f22 := ((((((gE3.ext E2).wr W6).wr W9).ext E12).wr W16).ext E19)
  obtain ⟨T21, X21, e21, st21⟩ := castY X20 hx hZ hown (wAt hw 26 rfl) e20 (Ins.self f22) (g := (mkF m 44 #[oR xx, oR x1, oJ tv, .second, oR x2, oR x3] [(.ref x3), (.ref xx)])) rfl rfl (hb hby d2_44)
  refine Done.step st21 ?_
  show Done _ p e below s _ _ (T21.setTop (mkF m 47 #[oR xx, oR x1, oJ tv, .second, oR x2, oR x3] [(.ref x3), (.ref xx)]))
  have f24 := ((((((gFp.ext E2).other W6 (Or.inr (slot_ne (Or.inr (wAt hw 37 rfl)) (Or.inr (wAt hw 29 rfl)) (by decide) (t := (.object "java/lang/String")) (t' := (.object "java/lang/String")) (by decide) (by decide)))).other W9 (Or.inr (slot_ne (Or.inr (wAt hw 37 rfl)) (Or.inr (wAt hw 31 rfl)) (by decide) (t := (.object "java/lang/String")) (t' := .long) (by decide) (by decide)))).ext E12).other W16 (Or.inr (slot_ne (Or.inr (wAt hw 37 rfl)) (Or.inr (wAt hw 34 rfl)) (by decide) (t := (.object "java/lang/String")) (t' := (.object "java/lang/String")) (by decide) (by decide)))).ext E19)
  have f25 := ((f18.wr W16).ext E19)
  obtain ⟨T23, h23, X23, e23, W23, st23⟩ := putF X21 hx hZ hown (host := "") (Or.inl (wAt hw 36 rfl)) Via.refl e21 f24 f25 (Or.inr ⟨(wAt hw 37 rfl), rfl, hnm⟩) (wAt hw 1 rfl) (ty := (.object "java/lang/String")) (by decide) rfl rfl (g := (mkF m 47 #[oR xx, oR x1, oJ tv, .second, oR x2, oR x3] [(.ref x3), (.ref xx)])) rfl rfl (hb hby d2_47)
  have F23 := f24.same W23
  have N23 := Fr.snoc X23 N16 gx
  have Zs23 := Nat.le_trans Zs19 (Keep.of_wr W23).1
  have hk := Nat.le_trans hk (Keep.of_wr W23).1
  have K23 := K19.wr W23 (Or.inl (List.mem_of_getElem? (i := 0) rfl))
  refine Done.step st23 ?_
  show Done _ p e below s _ _ (T23.setTop (mkF m 50 #[oR xx, oR x1, oJ tv, .second, oR x2, oR x3] []))
  have f26 := (f25.wr W23)
  have f27 := (((((F6.other W9 (Or.inr (slot_ne (Or.inr (wAt hw 29 rfl)) (Or.inr (wAt hw 31 rfl)) (by decide) (t := (.object "java/lang/String")) (t' := .long) (by decide) (by decide)))).ext E12).other W16 (Or.inr (slot_ne (Or.inr (wAt hw 29 rfl)) (Or.inr (wAt hw 34 rfl)) (by decide) (t := (.object "java/lang/String")) (t' := (.object "java/lang/String")) (by decide) (by decide)))).ext E19).other W23 (Or.inr (slot_ne (Or.inr (wAt hw 29 rfl)) (Or.inr (wAt hw 37 rfl)) (by decide) (t := (.object "java/lang/String")) (t' := (.object "java/lang/String")) (by decide) (by decide))))
  have f28 := ((((F9.ext E12).other W16 (Or.inr (slot_ne (Or.inr (wAt hw 31 rfl)) (Or.inr (wAt hw 34 rfl)) (by decide) (t := .long) (t' := (.object "java/lang/String")) (by decide) (by decide)))).ext E19).other W23 (Or.inr (slot_ne (Or.inr (wAt hw 31 rfl)) (Or.inr (wAt hw 37 rfl)) (by decide) (t := .long) (t' := (.object "java/lang/String")) (by decide) (by decide))))
  have f29 := ((F16.ext E19).other W23 (Or.inr (slot_ne (Or.inr (wAt hw 34 rfl)) (Or.inr (wAt hw 37 rfl)) (by decide) (t := (.object "java/lang/String")) (t' := (.object "java/lang/String")) (by decide) (by decide))))
  refine Done.retV (leavesW X23 hS (by first | exact hk | (rw [e23]; exact hk)) hlk (by decide) (by decide)) X23 hx hret (hb hby d2_50) ?_
  rw [e23]
  exact ⟨rfl, N23, K23, f26, f27, f28, f29, F23⟩
theorem d12_0 : decode jdk_43_method_13_code 0 = .ok (.aload_n 0, 1) := by decide +kernel
theorem d12_1 : decode jdk_43_method_13_code 1 = .ok (.arraylength, 1) := by decide +kernel
theorem d12_2 : decode jdk_43_method_13_code 2 = .ok (.aload_n 1, 1) := by decide +kernel
theorem d12_3 : decode jdk_43_method_13_code 3 = .ok (.arraylength, 1) := by decide +kernel
theorem d12_4 : decode jdk_43_method_13_code 4 = .ok (.if_icmp .ne 30, 3) := by decide +kernel
theorem d12_7 : decode jdk_43_method_13_code 7 = .ok (.iconst 0, 1) := by decide +kernel
theorem d12_8 : decode jdk_43_method_13_code 8 = .ok (.istore_n 2, 1) := by decide +kernel
theorem d12_9 : decode jdk_43_method_13_code 9 = .ok (.iload_n 2, 1) := by decide +kernel
theorem d12_10 : decode jdk_43_method_13_code 10 = .ok (.aload_n 0, 1) := by decide +kernel
theorem d12_11 : decode jdk_43_method_13_code 11 = .ok (.arraylength, 1) := by decide +kernel
theorem d12_12 : decode jdk_43_method_13_code 12 = .ok (.if_icmp .ge 20, 3) := by decide +kernel
theorem d12_32 : decode jdk_43_method_13_code 32 = .ok (.iconst 1, 1) := by decide +kernel
theorem d12_33 : decode jdk_43_method_13_code 33 = .ok (.ireturn, 1) := by decide +kernel
set_option maxRecDepth 65536 in
set_option maxHeartbeats 40000000 in
theorem rL00 (l : Launch) (Z : State) (a0 : Array Value) (hw : ∀ d ∈ tables_1, d.before a0 Z = true) (ws : List Jvm.Cond) (t1 t2 : Addr) (kb1 kb2 : ClassId) (bp bq r : Int32) (h0 : Heap) (n0 : Nat) (Z0 : n0 ≤ h0.size) (K1 : Arv Z h0 t1 kb1 .byte (0 : Int32) [] (.int (0 : Int32))) (K2 : Arv Z h0 t2 kb2 .byte (0 : Int32) [] (.int (0 : Int32))) (hr : r = bP (([] : List Int32) = ([] : List Int32))) :
    Ctr FrameEnd l Z (⟨"java/lang/StringLatin1", "equals", "([B[B)Z"⟩ : MethodName) jdk_43_method_13_code 3 (some .boolean) ws ({ frames := 0, cells := 0, slots := 0, locals := 0 } : Room) #[(.ref t1), (.ref t2)] h0 TrueV (PureQ (some (.int r)) h0) := by
  refine Ctr.intro (plainFor_of_name pn_java_lang_StringLatin1) (Ls := #[.val (.ref t1), .val (.ref t2), .unset]) (fun m => by first | (simp [entryFrame, mkF, argsToLocals, Value.category]; done) | rfl) ?_
  intro p e s m below meth c T0 hx hby hml hown hnm hret hlk hZ hV hsh e0 X0
  have N0 := Fr.nil n0
  show Done _ p e below s _ _ (T0.setTop (mkF m 0 #[oR t1, oR t2, .unset] []))
  refine Done.step (fun _ => XS.aloadN X0.here hx rfl (hb hby d12_0) rfl rfl) ?_
  show Done _ p e below s _ _ (T0.setTop (mkF m 1 #[oR t1, oR t2, .unset] [(.ref t1)]))
  obtain ⟨cl1, Ar1, q1, S1, Nn1, H1, G1⟩ := id K1
  refine Done.step (X0.arraylength hx (by first | exact Ar1.1 | (rw [e0]; exact Ar1.1)) (State.isArrayOf_alike hZ.alike Ar1.2.1) (g := (mkF m 1 #[oR t1, oR t2, .unset] [(.ref t1)])) rfl rfl (hb hby d12_1)) ?_
  rw [len_of S1 Nn1]
  show Done _ p e below s _ _ (T0.setTop (mkF m 2 #[oR t1, oR t2, .unset] [(.int (0 : Int32))]))
  refine Done.step (fun _ => XS.aloadN X0.here hx rfl (hb hby d12_2) rfl rfl) ?_
  show Done _ p e below s _ _ (T0.setTop (mkF m 3 #[oR t1, oR t2, .unset] [(.ref t2), (.int (0 : Int32))]))
  obtain ⟨cl2, Ar2, q2, S2, Nn2, H2, G2⟩ := id K2
  refine Done.step (X0.arraylength hx (by first | exact Ar2.1 | (rw [e0]; exact Ar2.1)) (State.isArrayOf_alike hZ.alike Ar2.2.1) (g := (mkF m 3 #[oR t1, oR t2, .unset] [(.ref t2), (.int (0 : Int32))])) rfl rfl (hb hby d12_3)) ?_
  rw [len_of S2 Nn2]
  show Done _ p e below s _ _ (T0.setTop (mkF m 4 #[oR t1, oR t2, .unset] [(.int (0 : Int32)), (.int (0 : Int32))]))
  refine Done.step (fun _ => XS.icmpNo X0.here hx rfl (hb hby d12_4) rfl (XT.ii_ne_f rfl)) ?_
  show Done _ p e below s _ _ (T0.setTop (mkF m 7 #[oR t1, oR t2, .unset] []))
  refine Done.step (fun _ => XT.iconstV X0.here hx rfl (0 : Int32) (hb hby d12_7) (by decide)) ?_
  show Done _ p e below s _ _ (T0.setTop (mkF m 8 #[oR t1, oR t2, .unset] [(.int (0 : Int32))]))
  refine Done.step (fun _ => XS.istoreN X0.here hx rfl (hb hby d12_8) rfl (l' := #[oR t1, oR t2, oI (0 : Int32)]) rfl) ?_
  show Done _ p e below s _ _ (T0.setTop (mkF m 9 #[oR t1, oR t2, oI (0 : Int32)] []))
  refine Done.step (fun _ => XS.iloadN X0.here hx rfl (hb hby d12_9) rfl) ?_
  show Done _ p e below s _ _ (T0.setTop (mkF m 10 #[oR t1, oR t2, oI (0 : Int32)] [(.int (0 : Int32))]))
  refine Done.step (fun _ => XS.aloadN X0.here hx rfl (hb hby d12_10) rfl rfl) ?_
  show Done _ p e below s _ _ (T0.setTop (mkF m 11 #[oR t1, oR t2, oI (0 : Int32)] [(.ref t1), (.int (0 : Int32))]))
  obtain ⟨cl3, Ar3, q3, S3, Nn3, H3, G3⟩ := id K1
  refine Done.step (X0.arraylength hx (by first | exact Ar3.1 | (rw [e0]; exact Ar3.1)) (State.isArrayOf_alike hZ.alike Ar3.2.1) (g := (mkF m 11 #[oR t1, oR t2, oI (0 : Int32)] [(.ref t1), (.int (0 : Int32))])) rfl rfl (hb hby d12_11)) ?_
  rw [len_of S3 Nn3]
  show Done _ p e below s _ _ (T0.setTop (mkF m 12 #[oR t1, oR t2, oI (0 : Int32)] [(.int (0 : Int32)), (.int (0 : Int32))]))
  refine Done.step (fun _ => XS.icmpYes X0.here hx rfl (pc0 := 12) (pc' := 32) rfl (hb hby d12_12) rfl (XT.ii_ge_t (by decide)) (by decide) (by decide)) ?_
  show Done _ p e below s _ _ (T0.setTop (mkF m 32 #[oR t1, oR t2, oI (0 : Int32)] []))
  refine Done.step (fun _ => XT.iconstV X0.here hx rfl (1 : Int32) (hb hby d12_32) (by decide)) ?_
  show Done _ p e below s _ _ (T0.setTop (mkF m 33 #[oR t1, oR t2, oI (0 : Int32)] [(.int (1 : Int32))]))
  exact Done.retN (leavesF X0 hlk (by decide) (by decide)) X0 hx (t := .boolean) hret (by simp) (hb hby d12_33) ⟨by rw [hr, bP_t rfl]; rfl, e0, rfl⟩
theorem d12_34 : decode jdk_43_method_13_code 34 = .ok (.iconst 0, 1) := by decide +kernel
theorem d12_35 : decode jdk_43_method_13_code 35 = .ok (.ireturn, 1) := by decide +kernel
set_option maxRecDepth 65536 in
set_option maxHeartbeats 40000000 in
theorem rL01 (l : Launch) (Z : State) (a0 : Array Value) (hw : ∀ d ∈ tables_1, d.before a0 Z = true) (ws : List Jvm.Cond) (t1 t2 : Addr) (kb1 kb2 : ClassId) (bp bq r : Int32) (h0 : Heap) (n0 : Nat) (Z0 : n0 ≤ h0.size) (K1 : Arv Z h0 t1 kb1 .byte (0 : Int32) [] (.int (0 : Int32))) (K2 : Arv Z h0 t2 kb2 .byte (1 : Int32) [(.int bq)] (.int (0 : Int32))) (hr : r = bP (([] : List Int32) = [bq])) :
    Ctr FrameEnd l Z (⟨"java/lang/StringLatin1", "equals", "([B[B)Z"⟩ : MethodName) jdk_43_method_13_code 3 (some .boolean) ws ({ frames := 0, cells := 0, slots := 0, locals := 0 } : Room) #[(.ref t1), (.ref t2)] h0 TrueV (PureQ (some (.int r)) h0) := by
  refine Ctr.intro (plainFor_of_name pn_java_lang_StringLatin1) (Ls := #[.val (.ref t1), .val (.ref t2), .unset]) (fun m => by first | (simp [entryFrame, mkF, argsToLocals, Value.category]; done) | rfl) ?_
  intro p e s m below meth c T0 hx hby hml hown hnm hret hlk hZ hV hsh e0 X0
  have N0 := Fr.nil n0
  show Done _ p e below s _ _ (T0.setTop (mkF m 0 #[oR t1, oR t2, .unset] []))
  refine Done.step (fun _ => XS.aloadN X0.here hx rfl (hb hby d12_0) rfl rfl) ?_
  show Done _ p e below s _ _ (T0.setTop (mkF m 1 #[oR t1, oR t2, .unset] [(.ref t1)]))
  obtain ⟨cl1, Ar1, q1, S1, Nn1, H1, G1⟩ := id K1
  refine Done.step (X0.arraylength hx (by first | exact Ar1.1 | (rw [e0]; exact Ar1.1)) (State.isArrayOf_alike hZ.alike Ar1.2.1) (g := (mkF m 1 #[oR t1, oR t2, .unset] [(.ref t1)])) rfl rfl (hb hby d12_1)) ?_
  rw [len_of S1 Nn1]
  show Done _ p e below s _ _ (T0.setTop (mkF m 2 #[oR t1, oR t2, .unset] [(.int (0 : Int32))]))
  refine Done.step (fun _ => XS.aloadN X0.here hx rfl (hb hby d12_2) rfl rfl) ?_
  show Done _ p e below s _ _ (T0.setTop (mkF m 3 #[oR t1, oR t2, .unset] [(.ref t2), (.int (0 : Int32))]))
  obtain ⟨cl2, Ar2, q2, S2, Nn2, H2, G2⟩ := id K2
  refine Done.step (X0.arraylength hx (by first | exact Ar2.1 | (rw [e0]; exact Ar2.1)) (State.isArrayOf_alike hZ.alike Ar2.2.1) (g := (mkF m 3 #[oR t1, oR t2, .unset] [(.ref t2), (.int (0 : Int32))])) rfl rfl (hb hby d12_3)) ?_
  rw [len_of S2 Nn2]
  show Done _ p e below s _ _ (T0.setTop (mkF m 4 #[oR t1, oR t2, .unset] [(.int (1 : Int32)), (.int (0 : Int32))]))
  refine Done.step (fun _ => XS.icmpYes X0.here hx rfl (pc0 := 4) (pc' := 34) rfl (hb hby d12_4) rfl (XT.ii_ne_t (by decide)) (by decide) (by decide)) ?_
  show Done _ p e below s _ _ (T0.setTop (mkF m 34 #[oR t1, oR t2, .unset] []))
  refine Done.step (fun _ => XT.iconstV X0.here hx rfl (0 : Int32) (hb hby d12_34) (by decide)) ?_
  show Done _ p e below s _ _ (T0.setTop (mkF m 35 #[oR t1, oR t2, .unset] [(.int (0 : Int32))]))
  exact Done.retN (leavesF X0 hlk (by decide) (by decide)) X0 hx (t := .boolean) hret (by simp) (hb hby d12_35) ⟨by rw [hr, bP_f (by simp)]; rfl, e0, rfl⟩
set_option maxRecDepth 65536 in
set_option maxHeartbeats 40000000 in
theorem rL10 (l : Launch) (Z : State) (a0 : Array Value) (hw : ∀ d ∈ tables_1, d.before a0 Z = true) (ws : List Jvm.Cond) (t1 t2 : Addr) (kb1 kb2 : ClassId) (bp bq r : Int32) (h0 : Heap) (n0 : Nat) (Z0 : n0 ≤ h0.size) (K1 : Arv Z h0 t1 kb1 .byte (1 : Int32) [(.int bp)] (.int (0 : Int32))) (K2 : Arv Z h0 t2 kb2 .byte (0 : Int32) [] (.int (0 : Int32))) (hr : r = bP ([bp] = ([] : List Int32))) :
    Ctr FrameEnd l Z (⟨"java/lang/StringLatin1", "equals", "([B[B)Z"⟩ : MethodName) jdk_43_method_13_code 3 (some .boolean) ws ({ frames := 0, cells := 0, slots := 0, locals := 0 } : Room) #[(.ref t1), (.ref t2)] h0 TrueV (PureQ (some (.int r)) h0) := by
  refine Ctr.intro (plainFor_of_name pn_java_lang_StringLatin1) (Ls := #[.val (.ref t1), .val (.ref t2), .unset]) (fun m => by first | (simp [entryFrame, mkF, argsToLocals, Value.category]; done) | rfl) ?_
  intro p e s m below meth c T0 hx hby hml hown hnm hret hlk hZ hV hsh e0 X0
  have N0 := Fr.nil n0
  show Done _ p e below s _ _ (T0.setTop (mkF m 0 #[oR t1, oR t2, .unset] []))
  refine Done.step (fun _ => XS.aloadN X0.here hx rfl (hb hby d12_0) rfl rfl) ?_
  show Done _ p e below s _ _ (T0.setTop (mkF m 1 #[oR t1, oR t2, .unset] [(.ref t1)]))
  obtain ⟨cl1, Ar1, q1, S1, Nn1, H1, G1⟩ := id K1
  refine Done.step (X0.arraylength hx (by first | exact Ar1.1 | (rw [e0]; exact Ar1.1)) (State.isArrayOf_alike hZ.alike Ar1.2.1) (g := (mkF m 1 #[oR t1, oR t2, .unset] [(.ref t1)])) rfl rfl (hb hby d12_1)) ?_
  rw [len_of S1 Nn1]
  show Done _ p e below s _ _ (T0.setTop (mkF m 2 #[oR t1, oR t2, .unset] [(.int (1 : Int32))]))
  refine Done.step (fun _ => XS.aloadN X0.here hx rfl (hb hby d12_2) rfl rfl) ?_
  show Done _ p e below s _ _ (T0.setTop (mkF m 3 #[oR t1, oR t2, .unset] [(.ref t2), (.int (1 : Int32))]))
  obtain ⟨cl2, Ar2, q2, S2, Nn2, H2, G2⟩ := id K2
  refine Done.step (X0.arraylength hx (by first | exact Ar2.1 | (rw [e0]; exact Ar2.1)) (State.isArrayOf_alike hZ.alike Ar2.2.1) (g := (mkF m 3 #[oR t1, oR t2, .unset] [(.ref t2), (.int (1 : Int32))])) rfl rfl (hb hby d12_3)) ?_
  rw [len_of S2 Nn2]
  show Done _ p e below s _ _ (T0.setTop (mkF m 4 #[oR t1, oR t2, .unset] [(.int (0 : Int32)), (.int (1 : Int32))]))
  refine Done.step (fun _ => XS.icmpYes X0.here hx rfl (pc0 := 4) (pc' := 34) rfl (hb hby d12_4) rfl (XT.ii_ne_t (by decide)) (by decide) (by decide)) ?_
  show Done _ p e below s _ _ (T0.setTop (mkF m 34 #[oR t1, oR t2, .unset] []))
  refine Done.step (fun _ => XT.iconstV X0.here hx rfl (0 : Int32) (hb hby d12_34) (by decide)) ?_
  show Done _ p e below s _ _ (T0.setTop (mkF m 35 #[oR t1, oR t2, .unset] [(.int (0 : Int32))]))
  exact Done.retN (leavesF X0 hlk (by decide) (by decide)) X0 hx (t := .boolean) hret (by simp) (hb hby d12_35) ⟨by rw [hr, bP_f (by simp)]; rfl, e0, rfl⟩
theorem d12_15 : decode jdk_43_method_13_code 15 = .ok (.aload_n 0, 1) := by decide +kernel
theorem d12_16 : decode jdk_43_method_13_code 16 = .ok (.iload_n 2, 1) := by decide +kernel
theorem d12_17 : decode jdk_43_method_13_code 17 = .ok (.baload, 1) := by decide +kernel
theorem d12_18 : decode jdk_43_method_13_code 18 = .ok (.aload_n 1, 1) := by decide +kernel
theorem d12_19 : decode jdk_43_method_13_code 19 = .ok (.iload_n 2, 1) := by decide +kernel
theorem d12_20 : decode jdk_43_method_13_code 20 = .ok (.baload, 1) := by decide +kernel
theorem d12_21 : decode jdk_43_method_13_code 21 = .ok (.if_icmp .eq 5, 3) := by decide +kernel
theorem d12_26 : decode jdk_43_method_13_code 26 = .ok (.iinc 2 1, 3) := by decide +kernel
theorem d12_29 : decode jdk_43_method_13_code 29 = .ok (.goto (-20), 3) := by decide +kernel
theorem d12_24 : decode jdk_43_method_13_code 24 = .ok (.iconst 0, 1) := by decide +kernel
theorem d12_25 : decode jdk_43_method_13_code 25 = .ok (.ireturn, 1) := by decide +kernel
set_option maxRecDepth 65536 in
set_option maxHeartbeats 40000000 in
theorem rL11 (l : Launch) (Z : State) (a0 : Array Value) (hw : ∀ d ∈ tables_1, d.before a0 Z = true) (ws : List Jvm.Cond) (t1 t2 : Addr) (kb1 kb2 : ClassId) (bp bq r : Int32) (h0 : Heap) (n0 : Nat) (Z0 : n0 ≤ h0.size) (K1 : Arv Z h0 t1 kb1 .byte (1 : Int32) [(.int bp)] (.int (0 : Int32))) (K2 : Arv Z h0 t2 kb2 .byte (1 : Int32) [(.int bq)] (.int (0 : Int32))) (hr : r = bP ([bp] = [bq])) :
    Ctr FrameEnd l Z (⟨"java/lang/StringLatin1", "equals", "([B[B)Z"⟩ : MethodName) jdk_43_method_13_code 3 (some .boolean) ws ({ frames := 0, cells := 0, slots := 0, locals := 0 } : Room) #[(.ref t1), (.ref t2)] h0 TrueV (PureQ (some (.int r)) h0) := by
  refine Ctr.intro (plainFor_of_name pn_java_lang_StringLatin1) (Ls := #[.val (.ref t1), .val (.ref t2), .unset]) (fun m => by first | (simp [entryFrame, mkF, argsToLocals, Value.category]; done) | rfl) ?_
  intro p e s m below meth c T0 hx hby hml hown hnm hret hlk hZ hV hsh e0 X0
  have N0 := Fr.nil n0
  show Done _ p e below s _ _ (T0.setTop (mkF m 0 #[oR t1, oR t2, .unset] []))
  refine Done.step (fun _ => XS.aloadN X0.here hx rfl (hb hby d12_0) rfl rfl) ?_
  show Done _ p e below s _ _ (T0.setTop (mkF m 1 #[oR t1, oR t2, .unset] [(.ref t1)]))
  obtain ⟨cl1, Ar1, q1, S1, Nn1, H1, G1⟩ := id K1
  refine Done.step (X0.arraylength hx (by first | exact Ar1.1 | (rw [e0]; exact Ar1.1)) (State.isArrayOf_alike hZ.alike Ar1.2.1) (g := (mkF m 1 #[oR t1, oR t2, .unset] [(.ref t1)])) rfl rfl (hb hby d12_1)) ?_
  rw [len_of S1 Nn1]
  show Done _ p e below s _ _ (T0.setTop (mkF m 2 #[oR t1, oR t2, .unset] [(.int (1 : Int32))]))
  refine Done.step (fun _ => XS.aloadN X0.here hx rfl (hb hby d12_2) rfl rfl) ?_
  show Done _ p e below s _ _ (T0.setTop (mkF m 3 #[oR t1, oR t2, .unset] [(.ref t2), (.int (1 : Int32))]))
  obtain ⟨cl2, Ar2, q2, S2, Nn2, H2, G2⟩ := id K2
  refine Done.step (X0.arraylength hx (by first | exact Ar2.1 | (rw [e0]; exact Ar2.1)) (State.isArrayOf_alike hZ.alike Ar2.2.1) (g := (mkF m 3 #[oR t1, oR t2, .unset] [(.ref t2), (.int (1 : Int32))])) rfl rfl (hb hby d12_3)) ?_
  rw [len_of S2 Nn2]
  show Done _ p e below s _ _ (T0.setTop (mkF m 4 #[oR t1, oR t2, .unset] [(.int (1 : Int32)), (.int (1 : Int32))]))
  refine Done.step (fun _ => XS.icmpNo X0.here hx rfl (hb hby d12_4) rfl (XT.ii_ne_f rfl)) ?_
  show Done _ p e below s _ _ (T0.setTop (mkF m 7 #[oR t1, oR t2, .unset] []))
  refine Done.step (fun _ => XT.iconstV X0.here hx rfl (0 : Int32) (hb hby d12_7) (by decide)) ?_
  show Done _ p e below s _ _ (T0.setTop (mkF m 8 #[oR t1, oR t2, .unset] [(.int (0 : Int32))]))
  refine Done.step (fun _ => XS.istoreN X0.here hx rfl (hb hby d12_8) rfl (l' := #[oR t1, oR t2, oI (0 : Int32)]) rfl) ?_
  show Done _ p e below s _ _ (T0.setTop (mkF m 9 #[oR t1, oR t2, oI (0 : Int32)] []))
  refine Done.step (fun _ => XS.iloadN X0.here hx rfl (hb hby d12_9) rfl) ?_
  show Done _ p e below s _ _ (T0.setTop (mkF m 10 #[oR t1, oR t2, oI (0 : Int32)] [(.int (0 : Int32))]))
  refine Done.step (fun _ => XS.aloadN X0.here hx rfl (hb hby d12_10) rfl rfl) ?_
  show Done _ p e below s _ _ (T0.setTop (mkF m 11 #[oR t1, oR t2, oI (0 : Int32)] [(.ref t1), (.int (0 : Int32))]))
  obtain ⟨cl3, Ar3, q3, S3, Nn3, H3, G3⟩ := id K1
  refine Done.step (X0.arraylength hx (by first | exact Ar3.1 | (rw [e0]; exact Ar3.1)) (State.isArrayOf_alike hZ.alike Ar3.2.1) (g := (mkF m 11 #[oR t1, oR t2, oI (0 : Int32)] [(.ref t1), (.int (0 : Int32))])) rfl rfl (hb hby d12_11)) ?_
  rw [len_of S3 Nn3]
  show Done _ p e below s _ _ (T0.setTop (mkF m 12 #[oR t1, oR t2, oI (0 : Int32)] [(.int (1 : Int32)), (.int (0 : Int32))]))
  refine Done.step (fun _ => XS.icmpNo X0.here hx rfl (hb hby d12_12) rfl (XT.ii_ge_f (by decide))) ?_
  show Done _ p e below s _ _ (T0.setTop (mkF m 15 #[oR t1, oR t2, oI (0 : Int32)] []))
  refine Done.step (fun _ => XS.aloadN X0.here hx rfl (hb hby d12_15) rfl rfl) ?_
  show Done _ p e below s _ _ (T0.setTop (mkF m 16 #[oR t1, oR t2, oI (0 : Int32)] [(.ref t1)]))
  refine Done.step (fun _ => XS.iloadN X0.here hx rfl (hb hby d12_16) rfl) ?_
  show Done _ p e below s _ _ (T0.setTop (mkF m 17 #[oR t1, oR t2, oI (0 : Int32)] [(.int (0 : Int32)), (.ref t1)]))
  obtain ⟨cl4, Ar4, q4, S4, Nn4, H4, G4⟩ := id K1
  have hin4 : ¬ ((0 : Int32) < 0 ∨ cl4.slots.size ≤ ((0 : Int32)).toNatClampNeg) := inb_of S4 ⟨by decide, by decide⟩
  have hat4 := Has.at H4 hin4 (v := (.int bp)) rfl
  refine Done.step (X0.baloadBytes hx (j := (0 : Int32)) (v := (.int bp)) (by first | exact Ar4.1 | (rw [e0]; exact Ar4.1)) (State.isArrayOf_alike hZ.alike Ar4.2.1) Ar4.2.2 hin4 hat4 (g := (mkF m 17 #[oR t1, oR t2, oI (0 : Int32)] [(.int (0 : Int32)), (.ref t1)])) rfl rfl (hb hby d12_17)) ?_
  show Done _ p e below s _ _ (T0.setTop (mkF m 18 #[oR t1, oR t2, oI (0 : Int32)] [(.int bp)]))
  refine Done.step (fun _ => XS.aloadN X0.here hx rfl (hb hby d12_18) rfl rfl) ?_
  show Done _ p e below s _ _ (T0.setTop (mkF m 19 #[oR t1, oR t2, oI (0 : Int32)] [(.ref t2), (.int bp)]))
  refine Done.step (fun _ => XS.iloadN X0.here hx rfl (hb hby d12_19) rfl) ?_
  show Done _ p e below s _ _ (T0.setTop (mkF m 20 #[oR t1, oR t2, oI (0 : Int32)] [(.int (0 : Int32)), (.ref t2), (.int bp)]))
  obtain ⟨cl5, Ar5, q5, S5, Nn5, H5, G5⟩ := id K2
  have hin5 : ¬ ((0 : Int32) < 0 ∨ cl5.slots.size ≤ ((0 : Int32)).toNatClampNeg) := inb_of S5 ⟨by decide, by decide⟩
  have hat5 := Has.at H5 hin5 (v := (.int bq)) rfl
  refine Done.step (X0.baloadBytes hx (j := (0 : Int32)) (v := (.int bq)) (by first | exact Ar5.1 | (rw [e0]; exact Ar5.1)) (State.isArrayOf_alike hZ.alike Ar5.2.1) Ar5.2.2 hin5 hat5 (g := (mkF m 20 #[oR t1, oR t2, oI (0 : Int32)] [(.int (0 : Int32)), (.ref t2), (.int bp)])) rfl rfl (hb hby d12_20)) ?_
  show Done _ p e below s _ _ (T0.setTop (mkF m 21 #[oR t1, oR t2, oI (0 : Int32)] [(.int bq), (.int bp)]))
  by_cases hc6 : bp = bq
  · refine Done.step (fun _ => XS.icmpYes X0.here hx rfl (pc0 := 21) (pc' := 26) rfl (hb hby d12_21) rfl (XT.ii_eq_t hc6) (by decide) (by decide)) ?_
    show Done _ p e below s _ _ (T0.setTop (mkF m 26 #[oR t1, oR t2, oI (0 : Int32)] []))
    refine Done.step (fun _ => XS.iinc X0.here hx rfl (hb hby d12_26) rfl (l' := #[oR t1, oR t2, oI (1 : Int32)]) rfl) ?_
    show Done _ p e below s _ _ (T0.setTop (mkF m 29 #[oR t1, oR t2, oI (1 : Int32)] []))
    refine Done.step (fun _ => XS.goto X0.here hx rfl (pc0 := 29) (pc' := 9) rfl (hb hby d12_29) (by decide) (by decide)) ?_
    show Done _ p e below s _ _ (T0.setTop (mkF m 9 #[oR t1, oR t2, oI (1 : Int32)] []))
    refine Done.step (fun _ => XS.iloadN X0.here hx rfl (hb hby d12_9) rfl) ?_
    show Done _ p e below s _ _ (T0.setTop (mkF m 10 #[oR t1, oR t2, oI (1 : Int32)] [(.int (1 : Int32))]))
    refine Done.step (fun _ => XS.aloadN X0.here hx rfl (hb hby d12_10) rfl rfl) ?_
    show Done _ p e below s _ _ (T0.setTop (mkF m 11 #[oR t1, oR t2, oI (1 : Int32)] [(.ref t1), (.int (1 : Int32))]))
    obtain ⟨cl7, Ar7, q7, S7, Nn7, H7, G7⟩ := id K1
    refine Done.step (X0.arraylength hx (by first | exact Ar7.1 | (rw [e0]; exact Ar7.1)) (State.isArrayOf_alike hZ.alike Ar7.2.1) (g := (mkF m 11 #[oR t1, oR t2, oI (1 : Int32)] [(.ref t1), (.int (1 : Int32))])) rfl rfl (hb hby d12_11)) ?_
    rw [len_of S7 Nn7]
    show Done _ p e below s _ _ (T0.setTop (mkF m 12 #[oR t1, oR t2, oI (1 : Int32)] [(.int (1 : Int32)), (.int (1 : Int32))]))
    refine Done.step (fun _ => XS.icmpYes X0.here hx rfl (pc0 := 12) (pc' := 32) rfl (hb hby d12_12) rfl (XT.ii_ge_t (by decide)) (by decide) (by decide)) ?_
    show Done _ p e below s _ _ (T0.setTop (mkF m 32 #[oR t1, oR t2, oI (1 : Int32)] []))
    refine Done.step (fun _ => XT.iconstV X0.here hx rfl (1 : Int32) (hb hby d12_32) (by decide)) ?_
    show Done _ p e below s _ _ (T0.setTop (mkF m 33 #[oR t1, oR t2, oI (1 : Int32)] [(.int (1 : Int32))]))
    exact Done.retN (leavesF X0 hlk (by decide) (by decide)) X0 hx (t := .boolean) hret (by simp) (hb hby d12_33) ⟨by rw [hr, bP_t (by rw [hc6])]; rfl, e0, rfl⟩
  · refine Done.step (fun _ => XS.icmpNo X0.here hx rfl (hb hby d12_21) rfl (XT.ii_eq_f hc6)) ?_
    show Done _ p e below s _ _ (T0.setTop (mkF m 24 #[oR t1, oR t2, oI (0 : Int32)] []))
    refine Done.step (fun _ => XT.iconstV X0.here hx rfl (0 : Int32) (hb hby d12_24) (by decide)) ?_
    show Done _ p e below s _ _ (T0.setTop (mkF m 25 #[oR t1, oR t2, oI (0 : Int32)] [(.int (0 : Int32))]))
    exact Done.retN (leavesF X0 hlk (by decide) (by decide)) X0 hx (t := .boolean) hret (by simp) (hb hby d12_25) ⟨by rw [hr, bP_f (fun q => hc6 (List.cons.inj q).1)]; rfl, e0, rfl⟩
set_option maxHeartbeats 4000000 in
theorem rL (l : Launch) (Z : State) (a0 : Array Value) (hw : ∀ d ∈ tables_1, d.before a0 Z = true) (ws : List Jvm.Cond) (t1 t2 : Addr) (kb1 kb2 : ClassId) (bs1 bs2 : List Int32) (r : Int32) (h0 : Heap) (n0 : Nat) (Z0 : n0 ≤ h0.size) (gK1 : Arv Z h0 t1 kb1 .byte (Int32.ofNat bs1.length) (bs1.map Value.int) (.int (0 : Int32))) (l1 : bs1.length ≤ 1) (gK2 : Arv Z h0 t2 kb2 .byte (Int32.ofNat bs2.length) (bs2.map Value.int) (.int (0 : Int32))) (l2 : bs2.length ≤ 1) (hr : r = bP (bs1 = bs2)) :
    Ctr FrameEnd l Z (⟨"java/lang/StringLatin1", "equals", "([B[B)Z"⟩ : MethodName) jdk_43_method_13_code 3 (some .boolean) ws ({ frames := 0, cells := 0, slots := 0, locals := 0 } : Room) #[(.ref t1), (.ref t2)] h0 TrueV (PureQ (some (.int r)) h0) := by
  rcases bs1 with _ | ⟨bp, _ | ⟨_, q1⟩⟩ <;> rcases bs2 with _ | ⟨bq, _ | ⟨_, q2⟩⟩
  · exact rL00 l Z a0 hw ws t1 t2 kb1 kb2 0 0 r h0 n0 Z0 gK1 gK2 hr
  · exact rL01 l Z a0 hw ws t1 t2 kb1 kb2 0 bq r h0 n0 Z0 gK1 gK2 hr
  · simp at l2
  · exact rL10 l Z a0 hw ws t1 t2 kb1 kb2 bp 0 r h0 n0 Z0 gK1 gK2 hr
  · exact rL11 l Z a0 hw ws t1 t2 kb1 kb2 bp bq r h0 n0 Z0 gK1 gK2 hr
  · simp at l2
  · simp at l1
  · simp at l1
  · simp at l1
theorem d11_0 : decode jdk_42_method_66_code 0 = .ok (.aload_n 0, 1) := by decide +kernel
theorem d11_1 : decode jdk_42_method_66_code 1 = .ok (.aload_n 1, 1) := by decide +kernel
theorem d11_2 : decode jdk_42_method_66_code 2 = .ok (.if_acmp .ne 5, 3) := by decide +kernel
theorem d11_5 : decode jdk_42_method_66_code 5 = .ok (.iconst 1, 1) := by decide +kernel
theorem d11_6 : decode jdk_42_method_66_code 6 = .ok (.ireturn, 1) := by decide +kernel
theorem d11_7 : decode jdk_42_method_66_code 7 = .ok (.aload_n 1, 1) := by decide +kernel
theorem d11_8 : decode jdk_42_method_66_code 8 = .ok (.instanceof 10, 3) := by decide +kernel
theorem d11_11 : decode jdk_42_method_66_code 11 = .ok (.ifCond .eq 43, 3) := by decide +kernel
theorem d11_14 : decode jdk_42_method_66_code 14 = .ok (.aload_n 1, 1) := by decide +kernel
theorem d11_15 : decode jdk_42_method_66_code 15 = .ok (.checkcast 10, 3) := by decide +kernel
theorem d11_18 : decode jdk_42_method_66_code 18 = .ok (.astore_n 2, 1) := by decide +kernel
theorem d11_19 : decode jdk_42_method_66_code 19 = .ok (.getstatic 38, 3) := by decide +kernel
theorem d11_22 : decode jdk_42_method_66_code 22 = .ok (.ifCond .eq 14, 3) := by decide +kernel
theorem d11_25 : decode jdk_42_method_66_code 25 = .ok (.aload_n 0, 1) := by decide +kernel
theorem d11_26 : decode jdk_42_method_66_code 26 = .ok (.getfield 15, 3) := by decide +kernel
theorem d11_29 : decode jdk_42_method_66_code 29 = .ok (.aload_n 2, 1) := by decide +kernel
theorem d11_30 : decode jdk_42_method_66_code 30 = .ok (.getfield 15, 3) := by decide +kernel
theorem d11_33 : decode jdk_42_method_66_code 33 = .ok (.if_icmp .ne 21, 3) := by decide +kernel
theorem d11_36 : decode jdk_42_method_66_code 36 = .ok (.aload_n 0, 1) := by decide +kernel
theorem d11_37 : decode jdk_42_method_66_code 37 = .ok (.getfield 9, 3) := by decide +kernel
theorem d11_40 : decode jdk_42_method_66_code 40 = .ok (.aload_n 2, 1) := by decide +kernel
theorem d11_41 : decode jdk_42_method_66_code 41 = .ok (.getfield 9, 3) := by decide +kernel
theorem d11_44 : decode jdk_42_method_66_code 44 = .ok (.invokestatic 541, 3) := by decide +kernel
theorem pd_5 : parseMethodDescriptor "([B[B)Z" = some ⟨[(.array .byte), (.array .byte)], some .boolean⟩ := by decide +kernel
theorem d11_47 : decode jdk_42_method_66_code 47 = .ok (.ifCond .eq 7, 3) := by decide +kernel
theorem d11_50 : decode jdk_42_method_66_code 50 = .ok (.iconst 1, 1) := by decide +kernel
theorem d11_51 : decode jdk_42_method_66_code 51 = .ok (.goto 4, 3) := by decide +kernel
theorem d11_55 : decode jdk_42_method_66_code 55 = .ok (.ireturn, 1) := by decide +kernel
theorem d11_54 : decode jdk_42_method_66_code 54 = .ok (.iconst 0, 1) := by decide +kernel
set_option maxRecDepth 65536 in
set_option maxHeartbeats 40000000 in
theorem rQ (l : Launch) (Z : State) (a0 : Array Value) (hw : ∀ d ∈ tables_1, d.before a0 Z = true) (ws : List Jvm.Cond) (x1 t1 : Addr) (kb1 : ClassId) (bs1 : List Int32) (x2 t2 : Addr) (kb2 : ClassId) (bs2 : List Int32) (r z : Int32) (h0 : Heap) (n0 : Nat) (Z0 : n0 ≤ h0.size) (O0 : Old Z n0 h0) (SC : Sta Z Z.heap "java/lang/String" "COMPACT_STRINGS" "Z" (.int z)) (hz : ¬ z = 0) (gE1 : Exa Z h0 x1 "java/lang/String") (gV1 : Fld Z h0 x1 "java/lang/String" "value" "[B" (.ref t1)) (gC1 : Fld Z h0 x1 "java/lang/String" "coder" "B" (.int (0 : Int32))) (gK1 : Arv Z h0 t1 kb1 .byte (Int32.ofNat bs1.length) (bs1.map Value.int) (.int (0 : Int32))) (l1 : bs1.length ≤ 1) (gE2 : Exa Z h0 x2 "java/lang/String") (gV2 : Fld Z h0 x2 "java/lang/String" "value" "[B" (.ref t2)) (gC2 : Fld Z h0 x2 "java/lang/String" "coder" "B" (.int (0 : Int32))) (gK2 : Arv Z h0 t2 kb2 .byte (Int32.ofNat bs2.length) (bs2.map Value.int) (.int (0 : Int32))) (l2 : bs2.length ≤ 1) (hr : r = bP (bs1 = bs2)) :
    Ctr FrameEnd l Z (⟨"java/lang/String", "equals", "(Ljava/lang/Object;)Z"⟩ : MethodName) jdk_42_method_66_code 3 (some .boolean) ws ({ frames := 1, cells := 0, slots := 0, locals := 16 } : Room) #[(.ref x1), (.ref x2)] h0 TrueV (PureQ (some (.int r)) h0) := by
  refine Ctr.intro (plainFor_of_name pn_java_lang_String) (Ls := #[.val (.ref x1), .val (.ref x2), .unset]) (fun m => by first | (simp [entryFrame, mkF, argsToLocals, Value.category]; done) | rfl) ?_
  intro p e s m below meth c T0 hx hby hml hown hnm hret hlk hZ hV hsh e0 X0
  have N0 := Fr.nil n0
  show Done _ p e below s _ _ (T0.setTop (mkF m 0 #[oR x1, oR x2, .unset] []))
  refine Done.step (fun _ => XS.aloadN X0.here hx rfl (hb hby d11_0) rfl rfl) ?_
  show Done _ p e below s _ _ (T0.setTop (mkF m 1 #[oR x1, oR x2, .unset] [(.ref x1)]))
  refine Done.step (fun _ => XS.aloadN X0.here hx rfl (hb hby d11_1) rfl rfl) ?_
  show Done _ p e below s _ _ (T0.setTop (mkF m 2 #[oR x1, oR x2, .unset] [(.ref x2), (.ref x1)]))
  by_cases hc1 : x1 = x2
  · refine Done.step (fun _ => XT.acmpNo X0.here hx rfl (hb hby d11_2) rfl rfl rfl (XT.aa_ne_f (congrArg Value.ref hc1))) ?_
    show Done _ p e below s _ _ (T0.setTop (mkF m 5 #[oR x1, oR x2, .unset] []))
    refine Done.step (fun _ => XT.iconstV X0.here hx rfl (1 : Int32) (hb hby d11_5) (by decide)) ?_
    show Done _ p e below s _ _ (T0.setTop (mkF m 6 #[oR x1, oR x2, .unset] [(.int (1 : Int32))]))
    exact Done.retN (leavesF X0 hlk (by decide) (by decide)) X0 hx (t := .boolean) hret (by simp) (hb hby d11_6) ⟨by rw [hr, bP_t (own_same hc1 gV1 gV2 gK1 gK2 l1 l2)]; rfl, e0, rfl⟩
  · refine Done.step (fun _ => XT.acmpYes X0.here hx rfl (pc0 := 2) (pc' := 7) rfl (hb hby d11_2) rfl rfl rfl (XT.aa_ne_t (fun q => hc1 (Value.ref.inj q))) (by decide) (by decide)) ?_
    show Done _ p e below s _ _ (T0.setTop (mkF m 7 #[oR x1, oR x2, .unset] []))
    refine Done.step (fun _ => XS.aloadN X0.here hx rfl (hb hby d11_7) rfl rfl) ?_
    show Done _ p e below s _ _ (T0.setTop (mkF m 8 #[oR x1, oR x2, .unset] [(.ref x2)]))
    obtain ⟨T2, X2, e2, st2⟩ := instY X0 hx hZ hown (wAt hw 55 rfl) e0 (Ins.self gE2) (g := (mkF m 8 #[oR x1, oR x2, .unset] [(.ref x2)])) rfl rfl (hb hby d11_8)
    refine Done.step st2 ?_
    show Done _ p e below s _ _ (T2.setTop (mkF m 11 #[oR x1, oR x2, .unset] [(.int (1 : Int32))]))
    refine Done.step (fun _ => XS.ifNo X2.here hx rfl (hb hby d11_11) rfl (XT.i0_eq_f (by decide))) ?_
    show Done _ p e below s _ _ (T2.setTop (mkF m 14 #[oR x1, oR x2, .unset] []))
    refine Done.step (fun _ => XS.aloadN X2.here hx rfl (hb hby d11_14) rfl rfl) ?_
    show Done _ p e below s _ _ (T2.setTop (mkF m 15 #[oR x1, oR x2, .unset] [(.ref x2)]))
    obtain ⟨T3, X3, e3, st3⟩ := castY X2 hx hZ hown (wAt hw 55 rfl) e2 (Ins.self gE2) (g := (mkF m 15 #[oR x1, oR x2, .unset] [(.ref x2)])) rfl rfl (hb hby d11_15)
    refine Done.step st3 ?_
    show Done _ p e below s _ _ (T3.setTop (mkF m 18 #[oR x1, oR x2, .unset] [(.ref x2)]))
    refine Done.step (fun _ => XS.astoreN X3.here hx rfl (hb hby d11_18) rfl rfl (l' := #[oR x1, oR x2, oR x2]) rfl) ?_
    show Done _ p e below s _ _ (T3.setTop (mkF m 19 #[oR x1, oR x2, oR x2] []))
    obtain ⟨T4, X4, e4, st4⟩ := getS2 X3 hx hZ hown (host := "") (Or.inl (wAt hw 50 rfl)) Via.refl e3 (SC.ext O0.2) (g := (mkF m 19 #[oR x1, oR x2, oR x2] [])) rfl (hb hby d11_19)
    refine Done.step st4 ?_
    show Done _ p e below s _ _ (T4.setTop (mkF m 22 #[oR x1, oR x2, oR x2] [(.int z)]))
    refine Done.step (fun _ => XS.ifNo X4.here hx rfl (hb hby d11_22) rfl (XT.i0_eq_f hz)) ?_
    show Done _ p e below s _ _ (T4.setTop (mkF m 25 #[oR x1, oR x2, oR x2] []))
    refine Done.step (fun _ => XS.aloadN X4.here hx rfl (hb hby d11_25) rfl rfl) ?_
    show Done _ p e below s _ _ (T4.setTop (mkF m 26 #[oR x1, oR x2, oR x2] [(.ref x1)]))
    obtain ⟨T5, X5, e5, st5⟩ := getF X4 hx hZ hown (host := "") (Or.inl (wAt hw 64 rfl)) Via.refl e4 gC1 (g := (mkF m 26 #[oR x1, oR x2, oR x2] [(.ref x1)])) rfl rfl (hb hby d11_26)
    refine Done.step st5 ?_
    show Done _ p e below s _ _ (T5.setTop (mkF m 29 #[oR x1, oR x2, oR x2] [(.int (0 : Int32))]))
    refine Done.step (fun _ => XS.aloadN X5.here hx rfl (hb hby d11_29) rfl rfl) ?_
    show Done _ p e below s _ _ (T5.setTop (mkF m 30 #[oR x1, oR x2, oR x2] [(.ref x2), (.int (0 : Int32))]))
    obtain ⟨T6, X6, e6, st6⟩ := getF X5 hx hZ hown (host := "") (Or.inl (wAt hw 64 rfl)) Via.refl e5 gC2 (g := (mkF m 30 #[oR x1, oR x2, oR x2] [(.ref x2), (.int (0 : Int32))])) rfl rfl (hb hby d11_30)
    refine Done.step st6 ?_
    show Done _ p e below s _ _ (T6.setTop (mkF m 33 #[oR x1, oR x2, oR x2] [(.int (0 : Int32)), (.int (0 : Int32))]))
    refine Done.step (fun _ => XS.icmpNo X6.here hx rfl (hb hby d11_33) rfl (XT.ii_ne_f rfl)) ?_
    show Done _ p e below s _ _ (T6.setTop (mkF m 36 #[oR x1, oR x2, oR x2] []))
    refine Done.step (fun _ => XS.aloadN X6.here hx rfl (hb hby d11_36) rfl rfl) ?_
    show Done _ p e below s _ _ (T6.setTop (mkF m 37 #[oR x1, oR x2, oR x2] [(.ref x1)]))
    obtain ⟨T7, X7, e7, st7⟩ := getF X6 hx hZ hown (host := "") (Or.inl (wAt hw 63 rfl)) Via.refl e6 gV1 (g := (mkF m 37 #[oR x1, oR x2, oR x2] [(.ref x1)])) rfl rfl (hb hby d11_37)
    refine Done.step st7 ?_
    show Done _ p e below s _ _ (T7.setTop (mkF m 40 #[oR x1, oR x2, oR x2] [(.ref t1)]))
    refine Done.step (fun _ => XS.aloadN X7.here hx rfl (hb hby d11_40) rfl rfl) ?_
    show Done _ p e below s _ _ (T7.setTop (mkF m 41 #[oR x1, oR x2, oR x2] [(.ref x2), (.ref t1)]))
    obtain ⟨T8, X8, e8, st8⟩ := getF X7 hx hZ hown (host := "") (Or.inl (wAt hw 63 rfl)) Via.refl e7 gV2 (g := (mkF m 41 #[oR x1, oR x2, oR x2] [(.ref x2), (.ref t1)])) rfl rfl (hb hby d11_41)
    refine Done.step st8 ?_
    show Done _ p e below s _ _ (T8.setTop (mkF m 44 #[oR x1, oR x2, oR x2] [(.ref t2), (.ref t1)]))
    by_cases hc9 : bs1 = bs2
    · refine Done.callSP X8 hx hZ hown (wAt hw 73 rfl) (wAt hw 74 rfl) (wAt hw 53 rfl) (wAt hw 75 rfl) (by decide) (rL l Z a0 hw [] t1 t2 kb1 kb2 bs1 bs2 (1 : Int32) h0 n0 Z0 gK1 l1 gK2 l2 (bP_t hc9).symm) e8 (g := (mkF m 44 #[oR x1, oR x2, oR x2] [(.ref t2), (.ref t1)])) rfl (by rw [hml]; rfl) [(.ref t1), (.ref t2)] [] 0 (lenOf pd_5 rfl) rfl rfl (by show 2 * 0 + _ ≤ _; exact Nat.le_of_eq rfl) (hb hby d11_44) (by decide) (by decide) (by decide) (by decide) rfl rfl ?_
      intro T10 X10 e10
      show Done _ p e below s _ _ (T10.setTop (mkF m 47 #[oR x1, oR x2, oR x2] [(.int (1 : Int32))]))
      refine Done.step (fun _ => XS.ifNo X10.here hx rfl (hb hby d11_47) rfl (XT.i0_eq_f (by decide))) ?_
      show Done _ p e below s _ _ (T10.setTop (mkF m 50 #[oR x1, oR x2, oR x2] []))
      refine Done.step (fun _ => XT.iconstV X10.here hx rfl (1 : Int32) (hb hby d11_50) (by decide)) ?_
      show Done _ p e below s _ _ (T10.setTop (mkF m 51 #[oR x1, oR x2, oR x2] [(.int (1 : Int32))]))
      refine Done.step (fun _ => XS.goto X10.here hx rfl (pc0 := 51) (pc' := 55) rfl (hb hby d11_51) (by decide) (by decide)) ?_
      show Done _ p e below s _ _ (T10.setTop (mkF m 55 #[oR x1, oR x2, oR x2] [(.int (1 : Int32))]))
      exact Done.retN (leavesF X10 hlk (by decide) (by decide)) X10 hx (t := .boolean) hret (by simp) (hb hby d11_55) ⟨by rw [hr, bP_t hc9]; rfl, e10, rfl⟩
    · refine Done.callSP X8 hx hZ hown (wAt hw 73 rfl) (wAt hw 74 rfl) (wAt hw 53 rfl) (wAt hw 75 rfl) (by decide) (rL l Z a0 hw [] t1 t2 kb1 kb2 bs1 bs2 (0 : Int32) h0 n0 Z0 gK1 l1 gK2 l2 (bP_f hc9).symm) e8 (g := (mkF m 44 #[oR x1, oR x2, oR x2] [(.ref t2), (.ref t1)])) rfl (by rw [hml]; rfl) [(.ref t1), (.ref t2)] [] 0 (lenOf pd_5 rfl) rfl rfl (by show 2 * 0 + _ ≤ _; exact Nat.le_of_eq rfl) (hb hby d11_44) (by decide) (by decide) (by decide) (by decide) rfl rfl ?_
      intro T11 X11 e11
      show Done _ p e below s _ _ (T11.setTop (mkF m 47 #[oR x1, oR x2, oR x2] [(.int (0 : Int32))]))
      refine Done.step (fun _ => XS.ifYes X11.here hx rfl (pc0 := 47) (pc' := 54) rfl (hb hby d11_47) rfl (XT.i0_eq_t rfl) (by decide) (by decide)) ?_
      show Done _ p e below s _ _ (T11.setTop (mkF m 54 #[oR x1, oR x2, oR x2] []))
      refine Done.step (fun _ => XT.iconstV X11.here hx rfl (0 : Int32) (hb hby d11_54) (by decide)) ?_
      show Done _ p e below s _ _ (T11.setTop (mkF m 55 #[oR x1, oR x2, oR x2] [(.int (0 : Int32))]))
      exact Done.retN (leavesF X11 hlk (by decide) (by decide)) X11 hx (t := .boolean) hret (by simp) (hb hby d11_55) ⟨by rw [hr, bP_f hc9]; rfl, e11, rfl⟩
theorem d5_0 : decode prog_2_method_7_code 0 = .ok (.aload_n 0, 1) := by decide +kernel
theorem d5_1 : decode prog_2_method_7_code 1 = .ok (.aload_n 1, 1) := by decide +kernel
theorem d5_2 : decode prog_2_method_7_code 2 = .ok (.if_acmp .ne 5, 3) := by decide +kernel
theorem d5_7 : decode prog_2_method_7_code 7 = .ok (.aload_n 1, 1) := by decide +kernel
theorem d5_8 : decode prog_2_method_7_code 8 = .ok (.instanceof 18, 3) := by decide +kernel
theorem d5_11 : decode prog_2_method_7_code 11 = .ok (.ifCond .ne 5, 3) := by decide +kernel
theorem d5_16 : decode prog_2_method_7_code 16 = .ok (.aload_n 1, 1) := by decide +kernel
theorem d5_17 : decode prog_2_method_7_code 17 = .ok (.checkcast 18, 3) := by decide +kernel
theorem d5_20 : decode prog_2_method_7_code 20 = .ok (.astore_n 2, 1) := by decide +kernel
theorem d5_21 : decode prog_2_method_7_code 21 = .ok (.aload_n 0, 1) := by decide +kernel
theorem d5_22 : decode prog_2_method_7_code 22 = .ok (.getfield 22, 3) := by decide +kernel
theorem d5_25 : decode prog_2_method_7_code 25 = .ok (.aload_n 2, 1) := by decide +kernel
theorem d5_26 : decode prog_2_method_7_code 26 = .ok (.getfield 22, 3) := by decide +kernel
theorem d5_29 : decode prog_2_method_7_code 29 = .ok (.lcmp, 1) := by decide +kernel
theorem d5_30 : decode prog_2_method_7_code 30 = .ok (.ifCond .ne 49, 3) := by decide +kernel
theorem d5_33 : decode prog_2_method_7_code 33 = .ok (.aload_n 0, 1) := by decide +kernel
theorem d5_34 : decode prog_2_method_7_code 34 = .ok (.getfield 17, 3) := by decide +kernel
theorem d5_37 : decode prog_2_method_7_code 37 = .ok (.aload_n 2, 1) := by decide +kernel
theorem d5_38 : decode prog_2_method_7_code 38 = .ok (.getfield 17, 3) := by decide +kernel
theorem d5_41 : decode prog_2_method_7_code 41 = .ok (.invokevirtual 57, 3) := by decide +kernel
theorem pd_6 : parseMethodDescriptor "(Ljava/lang/Object;)Z" = some ⟨[(.object "java/lang/Object")], some .boolean⟩ := by decide +kernel
theorem d5_44 : decode prog_2_method_7_code 44 = .ok (.ifCond .eq 35, 3) := by decide +kernel
theorem d5_47 : decode prog_2_method_7_code 47 = .ok (.aload_n 0, 1) := by decide +kernel
theorem d5_48 : decode prog_2_method_7_code 48 = .ok (.getfield 28, 3) := by decide +kernel
theorem d5_51 : decode prog_2_method_7_code 51 = .ok (.aload_n 2, 1) := by decide +kernel
theorem d5_52 : decode prog_2_method_7_code 52 = .ok (.getfield 28, 3) := by decide +kernel
theorem d5_55 : decode prog_2_method_7_code 55 = .ok (.invokevirtual 57, 3) := by decide +kernel
theorem d5_58 : decode prog_2_method_7_code 58 = .ok (.ifCond .eq 21, 3) := by decide +kernel
theorem d5_61 : decode prog_2_method_7_code 61 = .ok (.aload_n 0, 1) := by decide +kernel
theorem d5_62 : decode prog_2_method_7_code 62 = .ok (.getfield 32, 3) := by decide +kernel
theorem d5_65 : decode prog_2_method_7_code 65 = .ok (.aload_n 2, 1) := by decide +kernel
theorem d5_66 : decode prog_2_method_7_code 66 = .ok (.getfield 32, 3) := by decide +kernel
theorem d5_69 : decode prog_2_method_7_code 69 = .ok (.invokevirtual 57, 3) := by decide +kernel
theorem d5_72 : decode prog_2_method_7_code 72 = .ok (.ifCond .eq 7, 3) := by decide +kernel
theorem d5_75 : decode prog_2_method_7_code 75 = .ok (.iconst 1, 1) := by decide +kernel
theorem d5_76 : decode prog_2_method_7_code 76 = .ok (.goto 4, 3) := by decide +kernel
theorem d5_80 : decode prog_2_method_7_code 80 = .ok (.ireturn, 1) := by decide +kernel
theorem d5_79 : decode prog_2_method_7_code 79 = .ok (.iconst 0, 1) := by decide +kernel
set_option maxRecDepth 65536 in
set_option maxHeartbeats 40000000 in
theorem rE (l : Launch) (Z : State) (a0 : Array Value) (hw : ∀ d ∈ tables_1, d.before a0 Z = true) (ws : List Jvm.Cond) (xx yy : Addr) (x1 t1 : Addr) (kb1 : ClassId) (bs1 : List Int32) (x2 t2 : Addr) (kb2 : ClassId) (bs2 : List Int32) (x3 t3 : Addr) (kb3 : ClassId) (bs3 : List Int32) (x4 t4 : Addr) (kb4 : ClassId) (bs4 : List Int32) (x5 t5 : Addr) (kb5 : ClassId) (bs5 : List Int32) (x6 t6 : Addr) (kb6 : ClassId) (bs6 : List Int32) (tA tB : Int64) (r z : Int32) (h0 : Heap) (n0 : Nat) (Z0 : n0 ≤ h0.size) (O0 : Old Z n0 h0) (SC : Sta Z Z.heap "java/lang/String" "COMPACT_STRINGS" "Z" (.int z)) (hz : ¬ z = 0) (hne : xx ≠ yy) (EA : Exa Z h0 xx "com/example/wide_weir/wideweir/accesslog/AccessLogLine") (FAc : Fld Z h0 xx "com/example/wide_weir/wideweir/accesslog/AccessLogLine" "client" "Ljava/lang/String;" (.ref x1)) (FAt : Fld Z h0 xx "com/example/wide_weir/wideweir/accesslog/AccessLogLine" "epochSecond" "J" (.long tA)) (FAm : Fld Z h0 xx "com/example/wide_weir/wideweir/accesslog/AccessLogLine" "method" "Ljava/lang/String;" (.ref x2)) (FAp : Fld Z h0 xx "com/example/wide_weir/wideweir/accesslog/AccessLogLine" "path" "Ljava/lang/String;" (.ref x3)) (EB : Exa Z h0 yy "com/example/wide_weir/wideweir/accesslog/AccessLogLine") (FBc : Fld Z h0 yy "com/example/wide_weir/wideweir/accesslog/AccessLogLine" "client" "Ljava/lang/String;" (.ref x4)) (FBt : Fld Z h0 yy "com/example/wide_weir/wideweir/accesslog/AccessLogLine" "epochSecond" "J" (.long tB)) (FBm : Fld Z h0 yy "com/example/wide_weir/wideweir/accesslog/AccessLogLine" "method" "Ljava/lang/String;" (.ref x5)) (FBp : Fld Z h0 yy "com/example/wide_weir/wideweir/accesslog/AccessLogLine" "path" "Ljava/lang/String;" (.ref x6)) (gE1 : Exa Z h0 x1 "java/lang/String") (gV1 : Fld Z h0 x1 "java/lang/String" "value" "[B" (.ref t1)) (gC1 : Fld Z h0 x1 "java/lang/String" "coder" "B" (.int (0 : Int32))) (gK1 : Arv Z h0 t1 kb1 .byte (Int32.ofNat bs1.length) (bs1.map Value.int) (.int (0 : Int32))) (l1 : bs1.length ≤ 1) (gE2 : Exa Z h0 x2 "java/lang/String") (gV2 : Fld Z h0 x2 "java/lang/String" "value" "[B" (.ref t2)) (gC2 : Fld Z h0 x2 "java/lang/String" "coder" "B" (.int (0 : Int32))) (gK2 : Arv Z h0 t2 kb2 .byte (Int32.ofNat bs2.length) (bs2.map Value.int) (.int (0 : Int32))) (l2 : bs2.length ≤ 1) (gE3 : Exa Z h0 x3 "java/lang/String") (gV3 : Fld Z h0 x3 "java/lang/String" "value" "[B" (.ref t3)) (gC3 : Fld Z h0 x3 "java/lang/String" "coder" "B" (.int (0 : Int32))) (gK3 : Arv Z h0 t3 kb3 .byte (Int32.ofNat bs3.length) (bs3.map Value.int) (.int (0 : Int32))) (l3 : bs3.length ≤ 1) (gE4 : Exa Z h0 x4 "java/lang/String") (gV4 : Fld Z h0 x4 "java/lang/String" "value" "[B" (.ref t4)) (gC4 : Fld Z h0 x4 "java/lang/String" "coder" "B" (.int (0 : Int32))) (gK4 : Arv Z h0 t4 kb4 .byte (Int32.ofNat bs4.length) (bs4.map Value.int) (.int (0 : Int32))) (l4 : bs4.length ≤ 1) (gE5 : Exa Z h0 x5 "java/lang/String") (gV5 : Fld Z h0 x5 "java/lang/String" "value" "[B" (.ref t5)) (gC5 : Fld Z h0 x5 "java/lang/String" "coder" "B" (.int (0 : Int32))) (gK5 : Arv Z h0 t5 kb5 .byte (Int32.ofNat bs5.length) (bs5.map Value.int) (.int (0 : Int32))) (l5 : bs5.length ≤ 1) (gE6 : Exa Z h0 x6 "java/lang/String") (gV6 : Fld Z h0 x6 "java/lang/String" "value" "[B" (.ref t6)) (gC6 : Fld Z h0 x6 "java/lang/String" "coder" "B" (.int (0 : Int32))) (gK6 : Arv Z h0 t6 kb6 .byte (Int32.ofNat bs6.length) (bs6.map Value.int) (.int (0 : Int32))) (l6 : bs6.length ≤ 1) (hr : r = bP (tA = tB ∧ bs1 = bs4 ∧ bs2 = bs5 ∧ bs3 = bs6)) :
    Ctr FrameEnd l Z (⟨"com/example/wide_weir/wideweir/accesslog/AccessLogLine", "equals", "(Ljava/lang/Object;)Z"⟩ : MethodName) prog_2_method_7_code 3 (some .boolean) ws ({ frames := 2, cells := 0, slots := 0, locals := 34 } : Room) #[(.ref xx), (.ref yy)] h0 TrueV (PureQ (some (.int r)) h0) := by
  refine Ctr.intro (plainFor_of_name pn_com_example_wide_weir_wideweir_accesslog_AccessLogLine) (Ls := #[.val (.ref xx), .val (.ref yy), .unset]) (fun m => by first | (simp [entryFrame, mkF, argsToLocals, Value.category]; done) | rfl) ?_
  intro p e s m below meth c T0 hx hby hml hown hnm hret hlk hZ hV hsh e0 X0
  have N0 := Fr.nil n0
  show Done _ p e below s _ _ (T0.setTop (mkF m 0 #[oR xx, oR yy, .unset] []))
  refine Done.step (fun _ => XS.aloadN X0.here hx rfl (hb hby d5_0) rfl rfl) ?_
  show Done _ p e below s _ _ (T0.setTop (mkF m 1 #[oR xx, oR yy, .unset] [(.ref xx)]))
  refine Done.step (fun _ => XS.aloadN X0.here hx rfl (hb hby d5_1) rfl rfl) ?_
  show Done _ p e below s _ _ (T0.setTop (mkF m 2 #[oR xx, oR yy, .unset] [(.ref yy), (.ref xx)]))
  refine Done.step (fun _ => XT.acmpYes X0.here hx rfl (pc0 := 2) (pc' := 7) rfl (hb hby d5_2) rfl rfl rfl (XT.aa_ne_t (fun q => hne (Value.ref.inj q))) (by decide) (by decide)) ?_
  show Done _ p e below s _ _ (T0.setTop (mkF m 7 #[oR xx, oR yy, .unset] []))
  refine Done.step (fun _ => XS.aloadN X0.here hx rfl (hb hby d5_7) rfl rfl) ?_
  show Done _ p e below s _ _ (T0.setTop (mkF m 8 #[oR xx, oR yy, .unset] [(.ref yy)]))
  obtain ⟨T1, X1, e1, st1⟩ := instY X0 hx hZ hown (wAt hw 43 rfl) e0 (Ins.self EB) (g := (mkF m 8 #[oR xx, oR yy, .unset] [(.ref yy)])) rfl rfl (hb hby d5_8)
  refine Done.step st1 ?_
  show Done _ p e below s _ _ (T1.setTop (mkF m 11 #[oR xx, oR yy, .unset] [(.int (1 : Int32))]))
  refine Done.step (fun _ => XS.ifYes X1.here hx rfl (pc0 := 11) (pc' := 16) rfl (hb hby d5_11) rfl (XT.i0_ne_t (by decide)) (by decide) (by decide)) ?_
  show Done _ p e below s _ _ (T1.setTop (mkF m 16 #[oR xx, oR yy, .unset] []))
  refine Done.step (fun _ => XS.aloadN X1.here hx rfl (hb hby d5_16) rfl rfl) ?_
  show Done _ p e below s _ _ (T1.setTop (mkF m 17 #[oR xx, oR yy, .unset] [(.ref yy)]))
  obtain ⟨T2, X2, e2, st2⟩ := castY X1 hx hZ hown (wAt hw 43 rfl) e1 (Ins.self EB) (g := (mkF m 17 #[oR xx, oR yy, .unset] [(.ref yy)])) rfl rfl (hb hby d5_17)
  refine Done.step st2 ?_
  show Done _ p e below s _ _ (T2.setTop (mkF m 20 #[oR xx, oR yy, .unset] [(.ref yy)]))
  refine Done.step (fun _ => XS.astoreN X2.here hx rfl (hb hby d5_20) rfl rfl (l' := #[oR xx, oR yy, oR yy]) rfl) ?_
  show Done _ p e below s _ _ (T2.setTop (mkF m 21 #[oR xx, oR yy, oR yy] []))
  refine Done.step (fun _ => XS.aloadN X2.here hx rfl (hb hby d5_21) rfl rfl) ?_
  show Done _ p e below s _ _ (T2.setTop (mkF m 22 #[oR xx, oR yy, oR yy] [(.ref xx)]))
  obtain ⟨T3, X3, e3, st3⟩ := getF X2 hx hZ hown (host := "") (Or.inl (wAt hw 30 rfl)) Via.refl e2 FAt (g := (mkF m 22 #[oR xx, oR yy, oR yy] [(.ref xx)])) rfl rfl (hb hby d5_22)
  refine Done.step st3 ?_
  show Done _ p e below s _ _ (T3.setTop (mkF m 25 #[oR xx, oR yy, oR yy] [(.long tA)]))
  refine Done.step (fun _ => XS.aloadN X3.here hx rfl (hb hby d5_25) rfl rfl) ?_
  show Done _ p e below s _ _ (T3.setTop (mkF m 26 #[oR xx, oR yy, oR yy] [(.ref yy), (.long tA)]))
  obtain ⟨T4, X4, e4, st4⟩ := getF X3 hx hZ hown (host := "") (Or.inl (wAt hw 30 rfl)) Via.refl e3 FBt (g := (mkF m 26 #[oR xx, oR yy, oR yy] [(.ref yy), (.long tA)])) rfl rfl (hb hby d5_26)
  refine Done.step st4 ?_
  show Done _ p e below s _ _ (T4.setTop (mkF m 29 #[oR xx, oR yy, oR yy] [(.long tB), (.long tA)]))
  refine Done.step (fun _ => XT.lcmp X4.here hx rfl (hb hby d5_29) rfl) ?_
  show Done _ p e below s _ _ (T4.setTop (mkF m 30 #[oR xx, oR yy, oR yy] [(.int (XT.cmpL tA tB))]))
  by_cases hc5 : tA = tB
  · refine Done.step (fun _ => XS.ifNo X4.here hx rfl (hb hby d5_30) rfl (XT.ll_ne_f hc5)) ?_
    show Done _ p e below s _ _ (T4.setTop (mkF m 33 #[oR xx, oR yy, oR yy] []))
    refine Done.step (fun _ => XS.aloadN X4.here hx rfl (hb hby d5_33) rfl rfl) ?_
    show Done _ p e below s _ _ (T4.setTop (mkF m 34 #[oR xx, oR yy, oR yy] [(.ref xx)]))
    obtain ⟨T6, X6, e6, st6⟩ := getF X4 hx hZ hown (host := "") (Or.inl (wAt hw 28 rfl)) Via.refl e4 FAc (g := (mkF m 34 #[oR xx, oR yy, oR yy] [(.ref xx)])) rfl rfl (hb hby d5_34)
    refine Done.step st6 ?_
    show Done _ p e below s _ _ (T6.setTop (mkF m 37 #[oR xx, oR yy, oR yy] [(.ref x1)]))
    refine Done.step (fun _ => XS.aloadN X6.here hx rfl (hb hby d5_37) rfl rfl) ?_
    show Done _ p e below s _ _ (T6.setTop (mkF m 38 #[oR xx, oR yy, oR yy] [(.ref yy), (.ref x1)]))
    obtain ⟨T7, X7, e7, st7⟩ := getF X6 hx hZ hown (host := "") (Or.inl (wAt hw 28 rfl)) Via.refl e6 FBc (g := (mkF m 38 #[oR xx, oR yy, oR yy] [(.ref yy), (.ref x1)])) rfl rfl (hb hby d5_38)
    refine Done.step st7 ?_
    show Done _ p e below s _ _ (T7.setTop (mkF m 41 #[oR xx, oR yy, oR yy] [(.ref x4), (.ref x1)]))
    by_cases hc8 : bs1 = bs4
    · refine Done.callVP X7 hx hZ (C := "java/lang/String") hown (wAt hw 68 rfl) (wAt hw 69 rfl) (notFace_of_selects (args := #[]) (mvT hZ (wAt hw 71 rfl))) (wAt hw 71 rfl) (wAt hw 70 rfl) (wAt hw 8 rfl) (wAt hw 72 rfl) (by decide) (rQ l Z a0 hw [] x1 t1 kb1 bs1 x4 t4 kb4 bs4 (1 : Int32) z h0 n0 Z0 O0 SC hz gE1 gV1 gC1 gK1 l1 gE4 gV4 gC4 gK4 l4 (bP_t hc8).symm) e7 gE1 (g := (mkF m 41 #[oR xx, oR yy, oR yy] [(.ref x4), (.ref x1)])) rfl (by rw [hml]; rfl) [(.ref x4)] [] 0 (lenOf pd_6 rfl) rfl rfl (by show 2 * 0 + _ ≤ _; exact Nat.le_of_eq rfl) (hb hby d5_41) (by decide) (by decide) (by decide) (by decide) rfl rfl ?_
      intro T9 X9 e9
      show Done _ p e below s _ _ (T9.setTop (mkF m 44 #[oR xx, oR yy, oR yy] [(.int (1 : Int32))]))
      refine Done.step (fun _ => XS.ifNo X9.here hx rfl (hb hby d5_44) rfl (XT.i0_eq_f (by decide))) ?_
      show Done _ p e below s _ _ (T9.setTop (mkF m 47 #[oR xx, oR yy, oR yy] []))
      refine Done.step (fun _ => XS.aloadN X9.here hx rfl (hb hby d5_47) rfl rfl) ?_
      show Done _ p e below s _ _ (T9.setTop (mkF m 48 #[oR xx, oR yy, oR yy] [(.ref xx)]))
      obtain ⟨T10, X10, e10, st10⟩ := getF X9 hx hZ hown (host := "") (Or.inl (wAt hw 33 rfl)) Via.refl e9 FAm (g := (mkF m 48 #[oR xx, oR yy, oR yy] [(.ref xx)])) rfl rfl (hb hby d5_48)
      refine Done.step st10 ?_
      show Done _ p e below s _ _ (T10.setTop (mkF m 51 #[oR xx, oR yy, oR yy] [(.ref x2)]))
      refine Done.step (fun _ => XS.aloadN X10.here hx rfl (hb hby d5_51) rfl rfl) ?_
      show Done _ p e below s _ _ (T10.setTop (mkF m 52 #[oR xx, oR yy, oR yy] [(.ref yy), (.ref x2)]))
      obtain ⟨T11, X11, e11, st11⟩ := getF X10 hx hZ hown (host := "") (Or.inl (wAt hw 33 rfl)) Via.refl e10 FBm (g := (mkF m 52 #[oR xx, oR yy, oR yy] [(.ref yy), (.ref x2)])) rfl rfl (hb hby d5_52)
      refine Done.step st11 ?_
      show Done _ p e below s _ _ (T11.setTop (mkF m 55 #[oR xx, oR yy, oR yy] [(.ref x5), (.ref x2)]))
      by_cases hc12 : bs2 = bs5
      · refine Done.callVP X11 hx hZ (C := "java/lang/String") hown (wAt hw 68 rfl) (wAt hw 69 rfl) (notFace_of_selects (args := #[]) (mvT hZ (wAt hw 71 rfl))) (wAt hw 71 rfl) (wAt hw 70 rfl) (wAt hw 8 rfl) (wAt hw 72 rfl) (by decide) (rQ l Z a0 hw [] x2 t2 kb2 bs2 x5 t5 kb5 bs5 (1 : Int32) z h0 n0 Z0 O0 SC hz gE2 gV2 gC2 gK2 l2 gE5 gV5 gC5 gK5 l5 (bP_t hc12).symm) e11 gE2 (g := (mkF m 55 #[oR xx, oR yy, oR yy] [(.ref x5), (.ref x2)])) rfl (by rw [hml]; rfl) [(.ref x5)] [] 0 (lenOf pd_6 rfl) rfl rfl (by show 2 * 0 + _ ≤ _; exact Nat.le_of_eq rfl) (hb hby d5_55) (by decide) (by decide) (by decide) (by decide) rfl rfl ?_
        intro T13 X13 e13
        show Done _ p e below s _ _ (T13.setTop (mkF m 58 #[oR xx, oR yy, oR yy] [(.int (1 : Int32))]))
        refine Done.step (fun _ => XS.ifNo X13.here hx rfl (hb hby d5_58) rfl (XT.i0_eq_f (by decide))) ?_
        show Done _ p e below s _ _ (T13.setTop (mkF m 61 #[oR xx, oR yy, oR yy] []))
        refine Done.step (fun _ => XS.aloadN X13.here hx rfl (hb hby d5_61) rfl rfl) ?_
        show Done _ p e below s _ _ (T13.setTop (mkF m 62 #[oR xx, oR yy, oR yy] [(.ref xx)]))
        obtain ⟨T14, X14, e14, st14⟩ := getF X13 hx hZ hown (host := "") (Or.inl (wAt hw 36 rfl)) Via.refl e13 FAp (g := (mkF m 62 #[oR xx, oR yy, oR yy] [(.ref xx)])) rfl rfl (hb hby d5_62)
        refine Done.step st14 ?_
        show Done _ p e below s _ _ (T14.setTop (mkF m 65 #[oR xx, oR yy, oR yy] [(.ref x3)]))
        refine Done.step (fun _ => XS.aloadN X14.here hx rfl (hb hby d5_65) rfl rfl) ?_
        show Done _ p e below s _ _ (T14.setTop (mkF m 66 #[oR xx, oR yy, oR yy] [(.ref yy), (.ref x3)]))
        obtain ⟨T15, X15, e15, st15⟩ := getF X14 hx hZ hown (host := "") (Or.inl (wAt hw 36 rfl)) Via.refl e14 FBp (g := (mkF m 66 #[oR xx, oR yy, oR yy] [(.ref yy), (.ref x3)])) rfl rfl (hb hby d5_66)
        refine Done.step st15 ?_
        show Done _ p e below s _ _ (T15.setTop (mkF m 69 #[oR xx, oR yy, oR yy] [(.ref x6), (.ref x3)]))
        by_cases hc16 : bs3 = bs6
        · refine Done.callVP X15 hx hZ (C := "java/lang/String") hown (wAt hw 68 rfl) (wAt hw 69 rfl) (notFace_of_selects (args := #[]) (mvT hZ (wAt hw 71 rfl))) (wAt hw 71 rfl) (wAt hw 70 rfl) (wAt hw 8 rfl) (wAt hw 72 rfl) (by decide) (rQ l Z a0 hw [] x3 t3 kb3 bs3 x6 t6 kb6 bs6 (1 : Int32) z h0 n0 Z0 O0 SC hz gE3 gV3 gC3 gK3 l3 gE6 gV6 gC6 gK6 l6 (bP_t hc16).symm) e15 gE3 (g := (mkF m 69 #[oR xx, oR yy, oR yy] [(.ref x6), (.ref x3)])) rfl (by rw [hml]; rfl) [(.ref x6)] [] 0 (lenOf pd_6 rfl) rfl rfl (by show 2 * 0 + _ ≤ _; exact Nat.le_of_eq rfl) (hb hby d5_69) (by decide) (by decide) (by decide) (by decide) rfl rfl ?_
          intro T17 X17 e17
          show Done _ p e below s _ _ (T17.setTop (mkF m 72 #[oR xx, oR yy, oR yy] [(.int (1 : Int32))]))
          refine Done.step (fun _ => XS.ifNo X17.here hx rfl (hb hby d5_72) rfl (XT.i0_eq_f (by decide))) ?_
          show Done _ p e below s _ _ (T17.setTop (mkF m 75 #[oR xx, oR yy, oR yy] []))
          refine Done.step (fun _ => XT.iconstV X17.here hx rfl (1 : Int32) (hb hby d5_75) (by decide)) ?_
          show Done _ p e below s _ _ (T17.setTop (mkF m 76 #[oR xx, oR yy, oR yy] [(.int (1 : Int32))]))
          refine Done.step (fun _ => XS.goto X17.here hx rfl (pc0 := 76) (pc' := 80) rfl (hb hby d5_76) (by decide) (by decide)) ?_
          show Done _ p e below s _ _ (T17.setTop (mkF m 80 #[oR xx, oR yy, oR yy] [(.int (1 : Int32))]))
          exact Done.retN (leavesF X17 hlk (by decide) (by decide)) X17 hx (t := .boolean) hret (by simp) (hb hby d5_80) ⟨by rw [hr, bP_t ⟨hc5, hc8, hc12, hc16⟩]; rfl, e17, rfl⟩
        · refine Done.callVP X15 hx hZ (C := "java/lang/String") hown (wAt hw 68 rfl) (wAt hw 69 rfl) (notFace_of_selects (args := #[]) (mvT hZ (wAt hw 71 rfl))) (wAt hw 71 rfl) (wAt hw 70 rfl) (wAt hw 8 rfl) (wAt hw 72 rfl) (by decide) (rQ l Z a0 hw [] x3 t3 kb3 bs3 x6 t6 kb6 bs6 (0 : Int32) z h0 n0 Z0 O0 SC hz gE3 gV3 gC3 gK3 l3 gE6 gV6 gC6 gK6 l6 (bP_f hc16).symm) e15 gE3 (g := (mkF m 69 #[oR xx, oR yy, oR yy] [(.ref x6), (.ref x3)])) rfl (by rw [hml]; rfl) [(.ref x6)] [] 0 (lenOf pd_6 rfl) rfl rfl (by show 2 * 0 + _ ≤ _; exact Nat.le_of_eq rfl) (hb hby d5_69) (by decide) (by decide) (by decide) (by decide) rfl rfl ?_
          intro T18 X18 e18
          show Done _ p e below s _ _ (T18.setTop (mkF m 72 #[oR xx, oR yy, oR yy] [(.int (0 : Int32))]))
          refine Done.step (fun _ => XS.ifYes X18.here hx rfl (pc0 := 72) (pc' := 79) rfl (hb hby d5_72) rfl (XT.i0_eq_t rfl) (by decide) (by decide)) ?_
          show Done _ p e below s _ _ (T18.setTop (mkF m 79 #[oR xx, oR yy, oR yy] []))
          refine Done.step (fun _ => XT.iconstV X18.here hx rfl (0 : Int32) (hb hby d5_79) (by decide)) ?_
          show Done _ p e below s _ _ (T18.setTop (mkF m 80 #[oR xx, oR yy, oR yy] [(.int (0 : Int32))]))
          exact Done.retN (leavesF X18 hlk (by decide) (by decide)) X18 hx (t := .boolean) hret (by simp) (hb hby d5_80) ⟨by rw [hr, bP_f (fun q => hc16 q.2.2.2)]; rfl, e18, rfl⟩
      · refine Done.callVP X11 hx hZ (C := "java/lang/String") hown (wAt hw 68 rfl) (wAt hw 69 rfl) (notFace_of_selects (args := #[]) (mvT hZ (wAt hw 71 rfl))) (wAt hw 71 rfl) (wAt hw 70 rfl) (wAt hw 8 rfl) (wAt hw 72 rfl) (by decide) (rQ l Z a0 hw [] x2 t2 kb2 bs2 x5 t5 kb5 bs5 (0 : Int32) z h0 n0 Z0 O0 SC hz gE2 gV2 gC2 gK2 l2 gE5 gV5 gC5 gK5 l5 (bP_f hc12).symm) e11 gE2 (g := (mkF m 55 #[oR xx, oR yy, oR yy] [(.ref x5), (.ref x2)])) rfl (by rw [hml]; rfl) [(.ref x5)] [] 0 (lenOf pd_6 rfl) rfl rfl (by show 2 * 0 + _ ≤ _; exact Nat.le_of_eq rfl) (hb hby d5_55) (by decide) (by decide) (by decide) (by decide) rfl rfl ?_
        intro T19 X19 e19
        show Done _ p e below s _ _ (T19.setTop (mkF m 58 #[oR xx, oR yy, oR yy] [(.int (0 : Int32))]))
        refine Done.step (fun _ => XS.ifYes X19.here hx rfl (pc0 := 58) (pc' := 79) rfl (hb hby d5_58) rfl (XT.i0_eq_t rfl) (by decide) (by decide)) ?_
        show Done _ p e below s _ _ (T19.setTop (mkF m 79 #[oR xx, oR yy, oR yy] []))
        refine Done.step (fun _ => XT.iconstV X19.here hx rfl (0 : Int32) (hb hby d5_79) (by decide)) ?_
        show Done _ p e below s _ _ (T19.setTop (mkF m 80 #[oR xx, oR yy, oR yy] [(.int (0 : Int32))]))
        exact Done.retN (leavesF X19 hlk (by decide) (by decide)) X19 hx (t := .boolean) hret (by simp) (hb hby d5_80) ⟨by rw [hr, bP_f (fun q => hc12 q.2.2.1)]; rfl, e19, rfl⟩
    · refine Done.callVP X7 hx hZ (C := "java/lang/String") hown (wAt hw 68 rfl) (wAt hw 69 rfl) (notFace_of_selects (args := #[]) (mvT hZ (wAt hw 71 rfl))) (wAt hw 71 rfl) (wAt hw 70 rfl) (wAt hw 8 rfl) (wAt hw 72 rfl) (by decide) (rQ l Z a0 hw [] x1 t1 kb1 bs1 x4 t4 kb4 bs4 (0 : Int32) z h0 n0 Z0 O0 SC hz gE1 gV1 gC1 gK1 l1 gE4 gV4 gC4 gK4 l4 (bP_f hc8).symm) e7 gE1 (g := (mkF m 41 #[oR xx, oR yy, oR yy] [(.ref x4), (.ref x1)])) rfl (by rw [hml]; rfl) [(.ref x4)] [] 0 (lenOf pd_6 rfl) rfl rfl (by show 2 * 0 + _ ≤ _; exact Nat.le_of_eq rfl) (hb hby d5_41) (by decide) (by decide) (by decide) (by decide) rfl rfl ?_
      intro T20 X20 e20
      show Done _ p e below s _ _ (T20.setTop (mkF m 44 #[oR xx, oR yy, oR yy] [(.int (0 : Int32))]))
      refine Done.step (fun _ => XS.ifYes X20.here hx rfl (pc0 := 44) (pc' := 79) rfl (hb hby d5_44) rfl (XT.i0_eq_t rfl) (by decide) (by decide)) ?_
      show Done _ p e below s _ _ (T20.setTop (mkF m 79 #[oR xx, oR yy, oR yy] []))
      refine Done.step (fun _ => XT.iconstV X20.here hx rfl (0 : Int32) (hb hby d5_79) (by decide)) ?_
      show Done _ p e below s _ _ (T20.setTop (mkF m 80 #[oR xx, oR yy, oR yy] [(.int (0 : Int32))]))
      exact Done.retN (leavesF X20 hlk (by decide) (by decide)) X20 hx (t := .boolean) hret (by simp) (hb hby d5_80) ⟨by rw [hr, bP_f (fun q => hc8 q.2.1)]; rfl, e20, rfl⟩
  · refine Done.step (fun _ => XS.ifYes X4.here hx rfl (pc0 := 30) (pc' := 79) rfl (hb hby d5_30) rfl (XT.ll_ne_t hc5) (by decide) (by decide)) ?_
    show Done _ p e below s _ _ (T4.setTop (mkF m 79 #[oR xx, oR yy, oR yy] []))
    refine Done.step (fun _ => XT.iconstV X4.here hx rfl (0 : Int32) (hb hby d5_79) (by decide)) ?_
    show Done _ p e below s _ _ (T4.setTop (mkF m 80 #[oR xx, oR yy, oR yy] [(.int (0 : Int32))]))
    exact Done.retN (leavesF X4 hlk (by decide) (by decide)) X4 hx (t := .boolean) hret (by simp) (hb hby d5_80) ⟨by rw [hr, bP_f (fun q => hc5 q.1)]; rfl, e4, rfl⟩
theorem d5_5 : decode prog_2_method_7_code 5 = .ok (.iconst 1, 1) := by decide +kernel
theorem d5_6 : decode prog_2_method_7_code 6 = .ok (.ireturn, 1) := by decide +kernel
set_option maxRecDepth 65536 in
set_option maxHeartbeats 40000000 in
theorem rE1 (l : Launch) (Z : State) (a0 : Array Value) (hw : ∀ d ∈ tables_1, d.before a0 Z = true) (ws : List Jvm.Cond) (xx : Addr) (h0 : Heap) (n0 : Nat) (Z0 : n0 ≤ h0.size)  :
    Ctr FrameEnd l Z (⟨"com/example/wide_weir/wideweir/accesslog/AccessLogLine", "equals", "(Ljava/lang/Object;)Z"⟩ : MethodName) prog_2_method_7_code 3 (some .boolean) ws ({ frames := 0, cells := 0, slots := 0, locals := 0 } : Room) #[(.ref xx), (.ref xx)] h0 TrueV (PureQ (some (.int (1 : Int32))) h0) := by
  refine Ctr.intro (plainFor_of_name pn_com_example_wide_weir_wideweir_accesslog_AccessLogLine) (Ls := #[.val (.ref xx), .val (.ref xx), .unset]) (fun m => by first | (simp [entryFrame, mkF, argsToLocals, Value.category]; done) | rfl) ?_
  intro p e s m below meth c T0 hx hby hml hown hnm hret hlk hZ hV hsh e0 X0
  have N0 := Fr.nil n0
  show Done _ p e below s _ _ (T0.setTop (mkF m 0 #[oR xx, oR xx, .unset] []))
  refine Done.step (fun _ => XS.aloadN X0.here hx rfl (hb hby d5_0) rfl rfl) ?_
  show Done _ p e below s _ _ (T0.setTop (mkF m 1 #[oR xx, oR xx, .unset] [(.ref xx)]))
  refine Done.step (fun _ => XS.aloadN X0.here hx rfl (hb hby d5_1) rfl rfl) ?_
  show Done _ p e below s _ _ (T0.setTop (mkF m 2 #[oR xx, oR xx, .unset] [(.ref xx), (.ref xx)]))
  refine Done.step (fun _ => XT.acmpNo X0.here hx rfl (hb hby d5_2) rfl rfl rfl (XT.aa_ne_f (congrArg Value.ref rfl))) ?_
  show Done _ p e below s _ _ (T0.setTop (mkF m 5 #[oR xx, oR xx, .unset] []))
  refine Done.step (fun _ => XT.iconstV X0.here hx rfl (1 : Int32) (hb hby d5_5) (by decide)) ?_
  show Done _ p e below s _ _ (T0.setTop (mkF m 6 #[oR xx, oR xx, .unset] [(.int (1 : Int32))]))
  exact Done.retN (leavesF X0 hlk (by decide) (by decide)) X0 hx (t := .boolean) hret (by simp) (hb hby d5_6) ⟨rfl, e0, rfl⟩
theorem d5_14 : decode prog_2_method_7_code 14 = .ok (.iconst 0, 1) := by decide +kernel
theorem d5_15 : decode prog_2_method_7_code 15 = .ok (.ireturn, 1) := by decide +kernel
set_option maxRecDepth 65536 in
set_option maxHeartbeats 40000000 in
theorem rE2 (l : Launch) (Z : State) (a0 : Array Value) (hw : ∀ d ∈ tables_1, d.before a0 Z = true) (ws : List Jvm.Cond) (xx : Addr) (h0 : Heap) (n0 : Nat) (Z0 : n0 ≤ h0.size)  :
    Ctr FrameEnd l Z (⟨"com/example/wide_weir/wideweir/accesslog/AccessLogLine", "equals", "(Ljava/lang/Object;)Z"⟩ : MethodName) prog_2_method_7_code 3 (some .boolean) ws ({ frames := 0, cells := 0, slots := 0, locals := 0 } : Room) #[(.ref xx), .null] h0 TrueV (PureQ (some (.int (0 : Int32))) h0) := by
  refine Ctr.intro (plainFor_of_name pn_com_example_wide_weir_wideweir_accesslog_AccessLogLine) (Ls := #[.val (.ref xx), .val .null, .unset]) (fun m => by first | (simp [entryFrame, mkF, argsToLocals, Value.category]; done) | rfl) ?_
  intro p e s m below meth c T0 hx hby hml hown hnm hret hlk hZ hV hsh e0 X0
  have N0 := Fr.nil n0
  show Done _ p e below s _ _ (T0.setTop (mkF m 0 #[oR xx, .val .null, .unset] []))
  refine Done.step (fun _ => XS.aloadN X0.here hx rfl (hb hby d5_0) rfl rfl) ?_
  show Done _ p e below s _ _ (T0.setTop (mkF m 1 #[oR xx, .val .null, .unset] [(.ref xx)]))
  refine Done.step (fun _ => XS.aloadN X0.here hx rfl (hb hby d5_1) rfl rfl) ?_
  show Done _ p e below s _ _ (T0.setTop (mkF m 2 #[oR xx, .val .null, .unset] [.null, (.ref xx)]))
  refine Done.step (fun _ => XT.acmpYes X0.here hx rfl (pc0 := 2) (pc' := 7) rfl (hb hby d5_2) rfl rfl rfl (XT.aa_ne_t nofun) (by decide) (by decide)) ?_
  show Done _ p e below s _ _ (T0.setTop (mkF m 7 #[oR xx, .val .null, .unset] []))
  refine Done.step (fun _ => XS.aloadN X0.here hx rfl (hb hby d5_7) rfl rfl) ?_
  show Done _ p e below s _ _ (T0.setTop (mkF m 8 #[oR xx, .val .null, .unset] [.null]))
  refine Done.step (X0.instanceofNull hx (g := (mkF m 8 #[oR xx, .val .null, .unset] [.null])) rfl rfl (hb hby d5_8)) ?_
  show Done _ p e below s _ _ (T0.setTop (mkF m 11 #[oR xx, .val .null, .unset] [(.int (0 : Int32))]))
  refine Done.step (fun _ => XS.ifNo X0.here hx rfl (hb hby d5_11) rfl (XT.i0_ne_f rfl)) ?_
  show Done _ p e below s _ _ (T0.setTop (mkF m 14 #[oR xx, .val .null, .unset] []))
  refine Done.step (fun _ => XT.iconstV X0.here hx rfl (0 : Int32) (hb hby d5_14) (by decide)) ?_
  show Done _ p e below s _ _ (T0.setTop (mkF m 15 #[oR xx, .val .null, .unset] [(.int (0 : Int32))]))
  exact Done.retN (leavesF X0 hlk (by decide) (by decide)) X0 hx (t := .boolean) hret (by simp) (hb hby d5_15) ⟨rfl, e0, rfl⟩
theorem own_nsRoot {Z : State} {a0 : Array Value} {O K : String} {n : Nat} (w : (Jvm.Cond.noSuperclass O).before a0 Z = true) (wk : (Jvm.Cond.instantiable K n).before a0 Z = true) (hn : O ≠ K) : NS Z O K := by
  obtain ⟨c, k, h1, h2, h3, -, -⟩ := Cond.noSuperclass_spec w
  obtain ⟨t, k', g1, -⟩ := Cond.instantiable_spec wk
  have ne := ids_ne h1 g1 hn
  refine ⟨c, t, h1, g1, fun fuel => ?_⟩
  cases fuel with
  | zero => rfl
  | succ f => simp [Vm.isSubclassAux, ne, h2, h3]
theorem own_nsNo {Z : State} {a0 : Array Value} {C S K : String} {n : Nat} (w : (Jvm.Cond.superclass C S).before a0 Z = true) (wk : (Jvm.Cond.instantiable K n).before a0 Z = true) (q : NS Z C K) (hn : C ≠ K) : ∃ c t, Z.vm.findClass C = some c ∧ Z.vm.findClass K = some t ∧ Z.vm.assignable c t = false := by
  obtain ⟨c, t, h0, g0, n3⟩ := q
  obtain ⟨p, k, kp, h1, h2, h3, h4, h5, -, h7⟩ := Cond.superclass_spec h0 w
  obtain ⟨t', k', g1, g2, g5, g7, -⟩ := Cond.instantiable_spec wk
  cases g0.symm.trans g1
  have g7' : k'.isInterface = false := by simp at g7; exact g7.1
  have ne := ids_ne h0 g0 hn
  refine ⟨c, t, h0, g0, ?_⟩
  show Z.vm.assignableAux (255 + 1) c t = false
  simp [Vm.assignableAux, ne, h2, g2, h5, g5, g7', Vm.isSubclass, n3]
set_option maxRecDepth 65536 in
set_option maxHeartbeats 40000000 in
theorem rE3 (l : Launch) (Z : State) (a0 : Array Value) (hw : ∀ d ∈ tables_1, d.before a0 Z = true) (ws : List Jvm.Cond) (xx yy : Addr) (h0 : Heap) (n0 : Nat) (Z0 : n0 ≤ h0.size) (Eb : Exa Z h0 yy "java/lang/String") (hne : xx ≠ yy) :
    Ctr FrameEnd l Z (⟨"com/example/wide_weir/wideweir/accesslog/AccessLogLine", "equals", "(Ljava/lang/Object;)Z"⟩ : MethodName) prog_2_method_7_code 3 (some .boolean) ws ({ frames := 0, cells := 0, slots := 0, locals := 0 } : Room) #[(.ref xx), (.ref yy)] h0 TrueV (PureQ (some (.int (0 : Int32))) h0) := by
  refine Ctr.intro (plainFor_of_name pn_com_example_wide_weir_wideweir_accesslog_AccessLogLine) (Ls := #[.val (.ref xx), .val (.ref yy), .unset]) (fun m => by first | (simp [entryFrame, mkF, argsToLocals, Value.category]; done) | rfl) ?_
  intro p e s m below meth c T0 hx hby hml hown hnm hret hlk hZ hV hsh e0 X0
  have N0 := Fr.nil n0
  show Done _ p e below s _ _ (T0.setTop (mkF m 0 #[oR xx, oR yy, .unset] []))
  refine Done.step (fun _ => XS.aloadN X0.here hx rfl (hb hby d5_0) rfl rfl) ?_
  show Done _ p e below s _ _ (T0.setTop (mkF m 1 #[oR xx, oR yy, .unset] [(.ref xx)]))
  refine Done.step (fun _ => XS.aloadN X0.here hx rfl (hb hby d5_1) rfl rfl) ?_
  show Done _ p e below s _ _ (T0.setTop (mkF m 2 #[oR xx, oR yy, .unset] [(.ref yy), (.ref xx)]))
  refine Done.step (fun _ => XT.acmpYes X0.here hx rfl (pc0 := 2) (pc' := 7) rfl (hb hby d5_2) rfl rfl rfl (XT.aa_ne_t (fun q => hne (Value.ref.inj q))) (by decide) (by decide)) ?_
  show Done _ p e below s _ _ (T0.setTop (mkF m 7 #[oR xx, oR yy, .unset] []))
  refine Done.step (fun _ => XS.aloadN X0.here hx rfl (hb hby d5_7) rfl rfl) ?_
  show Done _ p e below s _ _ (T0.setTop (mkF m 8 #[oR xx, oR yy, .unset] [(.ref yy)]))
  obtain ⟨T1, X1, e1, st1⟩ := instNo X0 hx hZ hown (wAt hw 43 rfl) e0 Eb (own_nsNo (wAt hw 45 rfl) (wAt hw 1 rfl) (NS.step (wAt hw 45 rfl) (own_nsRoot (wAt hw 46 rfl) (wAt hw 1 rfl) (by decide)) (by decide)) (by decide)) (g := (mkF m 8 #[oR xx, oR yy, .unset] [(.ref yy)])) rfl rfl (hb hby d5_8)
  refine Done.step st1 ?_
  show Done _ p e below s _ _ (T1.setTop (mkF m 11 #[oR xx, oR yy, .unset] [(.int (0 : Int32))]))
  refine Done.step (fun _ => XS.ifNo X1.here hx rfl (hb hby d5_11) rfl (XT.i0_ne_f rfl)) ?_
  show Done _ p e below s _ _ (T1.setTop (mkF m 14 #[oR xx, oR yy, .unset] []))
  refine Done.step (fun _ => XT.iconstV X1.here hx rfl (0 : Int32) (hb hby d5_14) (by decide)) ?_
  show Done _ p e below s _ _ (T1.setTop (mkF m 15 #[oR xx, oR yy, .unset] [(.int (0 : Int32))]))
  exact Done.retN (leavesF X1 hlk (by decide) (by decide)) X1 hx (t := .boolean) hret (by simp) (hb hby d5_15) ⟨rfl, e1, rfl⟩
theorem pd_7 : parseMethodDescriptor "(I)Ljava/lang/String;" = some ⟨[.int], some (.object "java/lang/String")⟩ := by decide +kernel
theorem pd_8 : parseMethodDescriptor "(Ljava/lang/String;JLjava/lang/String;Ljava/lang/String;)V" = some ⟨[(.object "java/lang/String"), .long, (.object "java/lang/String"), (.object "java/lang/String")], none⟩ := by decide +kernel
theorem pd_9 : parseMethodDescriptor "(I)I" = some ⟨[.int], some .int⟩ := by decide +kernel
set_option maxRecDepth 65536 in
set_option maxHeartbeats 40000000 in
theorem rm0 (l : Launch) (Z : State) (a0 : Array Value) (hw : ∀ d ∈ tables_1, d.before a0 Z = true) (ws : List Jvm.Cond) (xa ya : Int32) (ta tb : Int64) (sel z : Int32) (h0 : Heap) (n0 : Nat) (Z0 : n0 ≤ h0.size) (O0 : Old Z n0 h0) (SC : Sta Z Z.heap "java/lang/String" "COMPACT_STRINGS" "Z" (.int z)) (hz : ¬ z = 0) (hh : Jvm.Lit.constHeld Z "com/example/wide_weir/wideweir/accesslog/AccessLogLineEqualsPinLaw" 7) (hcw : Jvm.Lit.compactW.before a0 Z = true) (hhC : Jvm.Lit.constHeld Z "com/example/wide_weir/wideweir/accesslog/AccessLogLine" 7) (hhM : Jvm.Lit.constHeld Z "com/example/wide_weir/wideweir/accesslog/AccessLogLine" 26) (hhP : Jvm.Lit.constHeld Z "com/example/wide_weir/wideweir/accesslog/AccessLogLine" 30) :
    Ctr ReturnedEndW l Z x code maxLocals ret ws room_1 #[(.int xa), (.int ya), (.long ta), (.long tb), (.int sel)] h0 (fun vm => LI Z vm h0 []) (LawQ n0) := by
  refine Ctr.intro (plainFor_of_name pn_com_example_wide_weir_wideweir_accesslog_AccessLogLineEqualsPinLaw) (Ls := #[.val (.int xa), .val (.int ya), .val (.long ta), .second, .val (.long tb), .second, .val (.int sel), .unset, .unset, .unset, .unset, .unset, .unset, .unset, .unset, .unset, .unset, .unset, .unset]) (fun m => by first | (simp [entryFrame, mkF, argsToLocals, Value.category, maxLocals]; done) | rfl) ?_
  intro p e s m below meth c T0 hx hby hml hown hnm hret hlk hZ hV hsh e0 X0
  have N0 := Fr.nil n0
  have hown : s.vm.findClass "com/example/wide_weir/wideweir/accesslog/AccessLogLineEqualsPinLaw" = some m.cls := hown
  have hret : meth.sig.returnType = (some .boolean) := hret
  have hml : c.maxLocals = 19 := hml
  have hS : s.Since s.vm 0 := (State.WarmedH.refl s).since 0
  have hk : 0 ≤ h0.size := Nat.zero_le _
  have X0 : Stand p l e room_1 (s.setVm s.vm) m #[(.int xa), (.int ya), (.long ta), (.long tb), (.int sel)] below meth c T0 [] 0 0 := X0
  have hZ : Z.Warmed39 (s.setVm s.vm).vm := hZ
  have hown : (s.setVm s.vm).vm.findClass "com/example/wide_weir/wideweir/accesslog/AccessLogLineEqualsPinLaw" = some m.cls := hown
  show Done _ p e below s _ _ (T0.setTop (mkF m 0 #[oI xa, oI ya, oJ ta, .second, oJ tb, .second, oI sel, .unset, .unset, .unset, .unset, .unset, .unset, .unset, .unset, .unset, .unset, .unset, .unset] []))
  refine Done.step (fun _ => XS.iloadN X0.here hx rfl (hb hby at_0) rfl) ?_
  show Done _ p e below s _ _ (T0.setTop (mkF m 1 #[oI xa, oI ya, oJ ta, .second, oJ tb, .second, oI sel, .unset, .unset, .unset, .unset, .unset, .unset, .unset, .unset, .unset, .unset, .unset, .unset] [(.int xa)]))
  have K106 : ∀ (TL : State) (eL : TL.heap = h0) (XL : Stand p l e room_1 (s.setVm s.vm) m #[(.int xa), (.int ya), (.long ta), (.long tb), (.int sel)] below meth c TL [] 0 0) (ca ma pa cb mb pb : Int32) (ub : Int64), Done ReturnedEndW p e below s room_1 (LawQ n0) (TL.setTop (mkF m 106 #[oI xa, oI ya, oJ ta, .second, oJ tb, .second, oI sel, oI ca, oI ma, oI pa, oI cb, oI mb, oI pb, oJ ub, .second, .unset, .unset, .unset, .unset] [])) := by
    intro TL eL XL ca ma pa cb mb pb ub
    show Done _ p e below s _ _ (TL.setTop (mkF m 106 #[oI xa, oI ya, oJ ta, .second, oJ tb, .second, oI sel, oI ca, oI ma, oI pa, oI cb, oI mb, oI pb, oJ ub, .second, .unset, .unset, .unset, .unset] []))
    obtain ⟨T1, h1, X1, e1, E1, A1, D1, -, st1⟩ := newO XL hx hZ hown (wAt hw 0 rfl) (wAt hw 1 rfl) (wAt hw 2 rfl) eL (g := (mkF m 106 #[oI xa, oI ya, oJ ta, .second, oJ tb, .second, oI sel, oI ca, oI ma, oI pa, oI cb, oI mb, oI pb, oJ ub, .second, .unset, .unset, .unset, .unset] [])) rfl (hb hby at_106) (by decide) (by decide)
    obtain ⟨b1, g1⟩ : ∃ z, z = h0.size := ⟨_, rfl⟩
    rw [← g1] at A1 D1 st1
    have n0_b1 : n0 ≤ b1 := by rw [g1]; exact Z0
    have Zs1 := Nat.le_trans Z0 E1.1
    have hk := Nat.le_trans hk E1.1
    have F_client_b1 : Fld Z h1 b1 "com/example/wide_weir/wideweir/accesslog/AccessLogLine" "client" "Ljava/lang/String;" .null := D1 (Or.inr (wAt hw 29 rfl)) (ty := (.object "java/lang/String")) (by decide)
    have F_epochSecond_b1 : Fld Z h1 b1 "com/example/wide_weir/wideweir/accesslog/AccessLogLine" "epochSecond" "J" (.long (0 : Int64)) := D1 (Or.inr (wAt hw 31 rfl)) (ty := .long) (by decide)
    have F_method_b1 : Fld Z h1 b1 "com/example/wide_weir/wideweir/accesslog/AccessLogLine" "method" "Ljava/lang/String;" .null := D1 (Or.inr (wAt hw 34 rfl)) (ty := (.object "java/lang/String")) (by decide)
    have F_path_b1 : Fld Z h1 b1 "com/example/wide_weir/wideweir/accesslog/AccessLogLine" "path" "Ljava/lang/String;" .null := D1 (Or.inr (wAt hw 37 rfl)) (ty := (.object "java/lang/String")) (by decide)
    refine Done.step st1 ?_
    show Done _ p e below s _ _ (T1.setTop (mkF m 109 #[oI xa, oI ya, oJ ta, .second, oJ tb, .second, oI sel, oI ca, oI ma, oI pa, oI cb, oI mb, oI pb, oJ ub, .second, .unset, .unset, .unset, .unset] [(.ref b1)]))
    have LE1 := own_liE hV E1
    refine Done.step (fun _ => XS.dup X1.here hx rfl (hb hby at_109) rfl rfl) ?_
    show Done _ p e below s _ _ (T1.setTop (mkF m 110 #[oI xa, oI ya, oJ ta, .second, oJ tb, .second, oI sel, oI ca, oI ma, oI pa, oI cb, oI mb, oI pb, oJ ub, .second, .unset, .unset, .unset, .unset] [(.ref b1), (.ref b1)]))
    refine Done.step (fun _ => XS.iload X1.here hx rfl (hb hby at_110) rfl) ?_
    show Done _ p e below s _ _ (T1.setTop (mkF m 112 #[oI xa, oI ya, oJ ta, .second, oJ tb, .second, oI sel, oI ca, oI ma, oI pa, oI cb, oI mb, oI pb, oJ ub, .second, .unset, .unset, .unset, .unset] [(.int ca), (.ref b1), (.ref b1)]))
    have f2 := (O0.ext E1)
    refine Done.callSW X1 hx hZ hown hS hk (wAt hw 3 rfl) (wAt hw 4 rfl) (wAt hw 5 rfl) (wAt hw 6 rfl) (by decide) (rS l Z a0 hw [] ca z [] h1 n0 Zs1 f2 SC hz (by decide) hh hcw) (fun vm' hW => own_liV LE1 hW) e1 (g := (mkF m 112 #[oI xa, oI ya, oJ ta, .second, oJ tb, .second, oI sel, oI ca, oI ma, oI pa, oI cb, oI mb, oI pb, oJ ub, .second, .unset, .unset, .unset, .unset] [(.int ca), (.ref b1), (.ref b1)])) rfl (by rw [hml]; rfl) [(.int ca)] [(.ref b1), (.ref b1)] 2 (lenOf pd_7 rfl) rfl rfl (by show 2 * 0 + _ ≤ _; exact Nat.le_of_eq rfl) (hb hby at_112) (by decide) (by decide) (by decide) (by decide) ?_
    intro T3 v3 L3 X3 hS hZ hown hW3 q3
    have hk := Nat.le_refl T3.heap.size
    obtain ⟨sx1, sa1, sk1, rfl, Nq3, K3q, Es1, Fs1, Cs1, Ks1, LS1⟩ := q3
    have N3 := Fr.app N0 Nq3
    have Zs3 := Nat.le_trans Zs1 K3q.1
    show Done _ p e below s _ _ (T3.setTop (mkF m 115 #[oI xa, oI ya, oJ ta, .second, oJ tb, .second, oI sel, oI ca, oI ma, oI pa, oI cb, oI mb, oI pb, oJ ub, .second, .unset, .unset, .unset, .unset] [(.ref sx1), (.ref b1), (.ref b1)]))
    have f4 := (A1.keep K3q)
    have ne_sx1_b1 : sx1 ≠ b1 := Es1.ne f4 (by decide)
    have ne_sa1_b1 : sa1 ≠ b1 := Ne.symm (f4.neArv Ks1 (wAt hw 1 rfl))
    refine Done.step (fun _ => XT.lloadN X3.here hx rfl (hb hby at_115) rfl) ?_
    show Done _ p e below s _ _ (T3.setTop (mkF m 116 #[oI xa, oI ya, oJ ta, .second, oJ tb, .second, oI sel, oI ca, oI ma, oI pa, oI cb, oI mb, oI pb, oJ ub, .second, .unset, .unset, .unset, .unset] [(.long ta), (.ref sx1), (.ref b1), (.ref b1)]))
    refine Done.step (fun _ => XS.iload X3.here hx rfl (hb hby at_116) rfl) ?_
    show Done _ p e below s _ _ (T3.setTop (mkF m 118 #[oI xa, oI ya, oJ ta, .second, oJ tb, .second, oI sel, oI ca, oI ma, oI pa, oI cb, oI mb, oI pb, oJ ub, .second, .unset, .unset, .unset, .unset] [(.int ma), (.long ta), (.ref sx1), (.ref b1), (.ref b1)]))
    have f5 := (f2.keep K3q all0)
    refine Done.callSW X3 hx hZ hown hS hk (wAt hw 3 rfl) (wAt hw 4 rfl) (wAt hw 5 rfl) (wAt hw 6 rfl) (by decide) (rS l Z a0 hw [] ma z [] T3.heap n0 Zs3 f5 SC hz (by decide) hh hcw) (fun vm' hW => own_liV LS1 hW) rfl (g := (mkF m 118 #[oI xa, oI ya, oJ ta, .second, oJ tb, .second, oI sel, oI ca, oI ma, oI pa, oI cb, oI mb, oI pb, oJ ub, .second, .unset, .unset, .unset, .unset] [(.int ma), (.long ta), (.ref sx1), (.ref b1), (.ref b1)])) rfl (by rw [hml]; rfl) [(.int ma)] [(.long ta), (.ref sx1), (.ref b1), (.ref b1)] 5 (lenOf pd_7 rfl) rfl rfl (by show 2 * 0 + _ ≤ _; exact Nat.le_of_eq rfl) (hb hby at_118) (by decide) (by decide) (by decide) (by decide) ?_
    intro T6 v6 L6 X6 hS hZ hown hW6 q6
    have hk := Nat.le_refl T6.heap.size
    obtain ⟨sx2, sa2, sk2, rfl, Nq6, K6q, Es2, Fs2, Cs2, Ks2, LS2⟩ := q6
    have N6 := Fr.app N3 Nq6
    have Zs6 := Nat.le_trans Zs3 K6q.1
    show Done _ p e below s _ _ (T6.setTop (mkF m 121 #[oI xa, oI ya, oJ ta, .second, oJ tb, .second, oI sel, oI ca, oI ma, oI pa, oI cb, oI mb, oI pb, oJ ub, .second, .unset, .unset, .unset, .unset] [(.ref sx2), (.long ta), (.ref sx1), (.ref b1), (.ref b1)]))
    have f7 := (f4.keep K6q)
    have ne_sx2_b1 : sx2 ≠ b1 := Es2.ne f7 (by decide)
    have ne_sa2_b1 : sa2 ≠ b1 := Ne.symm (f7.neArv Ks2 (wAt hw 1 rfl))
    refine Done.step (fun _ => XS.iload X6.here hx rfl (hb hby at_121) rfl) ?_
    show Done _ p e below s _ _ (T6.setTop (mkF m 123 #[oI xa, oI ya, oJ ta, .second, oJ tb, .second, oI sel, oI ca, oI ma, oI pa, oI cb, oI mb, oI pb, oJ ub, .second, .unset, .unset, .unset, .unset] [(.int pa), (.ref sx2), (.long ta), (.ref sx1), (.ref b1), (.ref b1)]))
    have f8 := (f5.keep K6q all0)
    refine Done.callSW X6 hx hZ hown hS hk (wAt hw 3 rfl) (wAt hw 4 rfl) (wAt hw 5 rfl) (wAt hw 6 rfl) (by decide) (rS l Z a0 hw [] pa z [] T6.heap n0 Zs6 f8 SC hz (by decide) hh hcw) (fun vm' hW => own_liV LS2 hW) rfl (g := (mkF m 123 #[oI xa, oI ya, oJ ta, .second, oJ tb, .second, oI sel, oI ca, oI ma, oI pa, oI cb, oI mb, oI pb, oJ ub, .second, .unset, .unset, .unset, .unset] [(.int pa), (.ref sx2), (.long ta), (.ref sx1), (.ref b1), (.ref b1)])) rfl (by rw [hml]; rfl) [(.int pa)] [(.ref sx2), (.long ta), (.ref sx1), (.ref b1), (.ref b1)] 6 (lenOf pd_7 rfl) rfl rfl (by show 2 * 0 + _ ≤ _; exact Nat.le_of_eq rfl) (hb hby at_123) (by decide) (by decide) (by decide) (by decide) ?_
    intro T9 v9 L9 X9 hS hZ hown hW9 q9
    have hk := Nat.le_refl T9.heap.size
    obtain ⟨sx3, sa3, sk3, rfl, Nq9, K9q, Es3, Fs3, Cs3, Ks3, LS3⟩ := q9
    have N9 := Fr.app N6 Nq9
    have Zs9 := Nat.le_trans Zs6 K9q.1
    show Done _ p e below s _ _ (T9.setTop (mkF m 126 #[oI xa, oI ya, oJ ta, .second, oJ tb, .second, oI sel, oI ca, oI ma, oI pa, oI cb, oI mb, oI pb, oJ ub, .second, .unset, .unset, .unset, .unset] [(.ref sx3), (.ref sx2), (.long ta), (.ref sx1), (.ref b1), (.ref b1)]))
    have f10 := (f7.keep K9q)
    have ne_sx3_b1 : sx3 ≠ b1 := Es3.ne f10 (by decide)
    have ne_sa3_b1 : sa3 ≠ b1 := Ne.symm (f10.neArv Ks3 (wAt hw 1 rfl))
    have f11 := (((F_client_b1.keep K3q nin0).keep K6q nin0).keep K9q nin0)
    have f12 := (((F_epochSecond_b1.keep K3q nin0).keep K6q nin0).keep K9q nin0)
    have f13 := (((F_method_b1.keep K3q nin0).keep K6q nin0).keep K9q nin0)
    have f14 := (((F_path_b1.keep K3q nin0).keep K6q nin0).keep K9q nin0)
    have f15 := (f8.keep K9q all0)
    have f16 := ((Es1.keep K6q).keep K9q)
    have f17 := (Es2.keep K9q)
    obtain ⟨Us, IBu, hLU⟩ := id LS3
    refine Done.callIW X9 hx hZ rfl hown hS hk (wAt hw 15 rfl) (wAt hw 16 rfl) (wAt hw 2 rfl) (wAt hw 17 rfl) (by decide) (rI l Z a0 hw [] b1 sx1 sx2 sx3 ta (Us ++ []) T9.heap n0 Zs9 f10 f11 f12 f13 f14 n0_b1 f15 f16 f17 Es3 (own_luN hLU _ (by decide)) (own_luN hLU _ (by decide)) (own_luN hLU _ (by decide)) hhC hhM hhP hcw) (fun vm' hW => own_ibV IBu hW) rfl (g := (mkF m 126 #[oI xa, oI ya, oJ ta, .second, oJ tb, .second, oI sel, oI ca, oI ma, oI pa, oI cb, oI mb, oI pb, oJ ub, .second, .unset, .unset, .unset, .unset] [(.ref sx3), (.ref sx2), (.long ta), (.ref sx1), (.ref b1), (.ref b1)])) rfl (by rw [hml]; rfl) b1 [(.ref sx1), (.long ta), (.ref sx2), (.ref sx3)] [(.ref b1)] 1 (lenOf pd_8 rfl) rfl rfl (by show 2 * 0 + _ ≤ _; exact Nat.le_of_eq rfl) (hb hby at_126) (by decide) (by decide) (by decide) (by decide) ?_
    intro T18 v18 L18 X18 hS hZ hown hW18 q18
    have hk := Nat.le_refl T18.heap.size
    obtain ⟨rfl, Nq18, K18q, Ei_b1, Fic_b1, Fit_b1, Fim_b1, Fip_b1, IBi⟩ := q18
    have N18 := Fr.app N9 Nq18
    have Zs18 := Nat.le_trans Zs9 K18q.1
    show Done _ p e below s _ _ (T18.setTop (mkF m 129 #[oI xa, oI ya, oJ ta, .second, oJ tb, .second, oI sel, oI ca, oI ma, oI pa, oI cb, oI mb, oI pb, oJ ub, .second, .unset, .unset, .unset, .unset] [(.ref b1)]))
    have LIc := own_liC hLU hW18 K18q f10 (wAt hw 1 rfl) IBi
    refine Done.step (fun _ => XS.astore X18.here hx rfl (hb hby at_129) rfl rfl (l' := #[oI xa, oI ya, oJ ta, .second, oJ tb, .second, oI sel, oI ca, oI ma, oI pa, oI cb, oI mb, oI pb, oJ ub, .second, oR b1, .unset, .unset, .unset]) rfl) ?_
    show Done _ p e below s _ _ (T18.setTop (mkF m 131 #[oI xa, oI ya, oJ ta, .second, oJ tb, .second, oI sel, oI ca, oI ma, oI pa, oI cb, oI mb, oI pb, oJ ub, .second, oR b1, .unset, .unset, .unset] []))
    refine Done.step (fun _ => XS.iload X18.here hx rfl (hb hby at_131) rfl) ?_
    show Done _ p e below s _ _ (T18.setTop (mkF m 133 #[oI xa, oI ya, oJ ta, .second, oJ tb, .second, oI sel, oI ca, oI ma, oI pa, oI cb, oI mb, oI pb, oJ ub, .second, oR b1, .unset, .unset, .unset] [(.int sel)]))
    refine Done.step (fun _ => XT.iconstV X18.here hx rfl (4 : Int32) (hb hby at_133) (by decide)) ?_
    show Done _ p e below s _ _ (T18.setTop (mkF m 134 #[oI xa, oI ya, oJ ta, .second, oJ tb, .second, oI sel, oI ca, oI ma, oI pa, oI cb, oI mb, oI pb, oJ ub, .second, oR b1, .unset, .unset, .unset] [(.int (4 : Int32)), (.int sel)]))
    refine Done.step (fun _ => XT.iushr X18.here hx rfl (hb hby at_134) rfl) ?_
    show Done _ p e below s _ _ (T18.setTop (mkF m 135 #[oI xa, oI ya, oJ ta, .second, oJ tb, .second, oI sel, oI ca, oI ma, oI pa, oI cb, oI mb, oI pb, oJ ub, .second, oR b1, .unset, .unset, .unset] [(.int ((sel.toUInt32 >>> ((4 : Int32) &&& 31).toUInt32).toInt32))]))
    refine Done.step (fun _ => XT.iconstV X18.here hx rfl (3 : Int32) (hb hby at_135) (by decide)) ?_
    show Done _ p e below s _ _ (T18.setTop (mkF m 136 #[oI xa, oI ya, oJ ta, .second, oJ tb, .second, oI sel, oI ca, oI ma, oI pa, oI cb, oI mb, oI pb, oJ ub, .second, oR b1, .unset, .unset, .unset] [(.int (3 : Int32)), (.int ((sel.toUInt32 >>> ((4 : Int32) &&& 31).toUInt32).toInt32))]))
    refine Done.step (fun _ => XS.iand X18.here hx rfl (hb hby at_136) rfl) ?_
    show Done _ p e below s _ _ (T18.setTop (mkF m 137 #[oI xa, oI ya, oJ ta, .second, oJ tb, .second, oI sel, oI ca, oI ma, oI pa, oI cb, oI mb, oI pb, oJ ub, .second, oR b1, .unset, .unset, .unset] [(.int (((sel.toUInt32 >>> ((4 : Int32) &&& 31).toUInt32).toInt32) &&& (3 : Int32)))]))
    refine Done.step (fun _ => XS.istore X18.here hx rfl (hb hby at_137) rfl (l' := #[oI xa, oI ya, oJ ta, .second, oJ tb, .second, oI sel, oI ca, oI ma, oI pa, oI cb, oI mb, oI pb, oJ ub, .second, oR b1, oI (((sel.toUInt32 >>> ((4 : Int32) &&& 31).toUInt32).toInt32) &&& (3 : Int32)), .unset, .unset]) rfl) ?_
    show Done _ p e below s _ _ (T18.setTop (mkF m 139 #[oI xa, oI ya, oJ ta, .second, oJ tb, .second, oI sel, oI ca, oI ma, oI pa, oI cb, oI mb, oI pb, oJ ub, .second, oR b1, oI (((sel.toUInt32 >>> ((4 : Int32) &&& 31).toUInt32).toInt32) &&& (3 : Int32)), .unset, .unset] []))
    refine Done.step (fun _ => XS.iload X18.here hx rfl (hb hby at_139) rfl) ?_
    show Done _ p e below s _ _ (T18.setTop (mkF m 141 #[oI xa, oI ya, oJ ta, .second, oJ tb, .second, oI sel, oI ca, oI ma, oI pa, oI cb, oI mb, oI pb, oJ ub, .second, oR b1, oI (((sel.toUInt32 >>> ((4 : Int32) &&& 31).toUInt32).toInt32) &&& (3 : Int32)), .unset, .unset] [(.int (((sel.toUInt32 >>> ((4 : Int32) &&& 31).toUInt32).toInt32) &&& (3 : Int32)))]))
    refine Done.step (fun _ => XT.iconstV X18.here hx rfl (1 : Int32) (hb hby at_141) (by decide)) ?_
    show Done _ p e below s _ _ (T18.setTop (mkF m 142 #[oI xa, oI ya, oJ ta, .second, oJ tb, .second, oI sel, oI ca, oI ma, oI pa, oI cb, oI mb, oI pb, oJ ub, .second, oR b1, oI (((sel.toUInt32 >>> ((4 : Int32) &&& 31).toUInt32).toInt32) &&& (3 : Int32)), .unset, .unset] [(.int (1 : Int32)), (.int (((sel.toUInt32 >>> ((4 : Int32) &&& 31).toUInt32).toInt32) &&& (3 : Int32)))]))
    by_cases hc19 : (((sel.toUInt32 >>> ((4 : Int32) &&& 31).toUInt32).toInt32) &&& (3 : Int32)) = (1 : Int32)
    · refine Done.step (fun _ => XS.icmpNo X18.here hx rfl (hb hby at_142) rfl (XT.ii_ne_f hc19)) ?_
      show Done _ p e below s _ _ (T18.setTop (mkF m 145 #[oI xa, oI ya, oJ ta, .second, oJ tb, .second, oI sel, oI ca, oI ma, oI pa, oI cb, oI mb, oI pb, oJ ub, .second, oR b1, oI (((sel.toUInt32 >>> ((4 : Int32) &&& 31).toUInt32).toInt32) &&& (3 : Int32)), .unset, .unset] []))
      refine Done.step (fun _ => XS.aload X18.here hx rfl (hb hby at_145) rfl rfl) ?_
      show Done _ p e below s _ _ (T18.setTop (mkF m 147 #[oI xa, oI ya, oJ ta, .second, oJ tb, .second, oI sel, oI ca, oI ma, oI pa, oI cb, oI mb, oI pb, oJ ub, .second, oR b1, oI (((sel.toUInt32 >>> ((4 : Int32) &&& 31).toUInt32).toInt32) &&& (3 : Int32)), .unset, .unset] [(.ref b1)]))
      refine Done.step (fun _ => XS.aload X18.here hx rfl (hb hby at_147) rfl rfl) ?_
      show Done _ p e below s _ _ (T18.setTop (mkF m 149 #[oI xa, oI ya, oJ ta, .second, oJ tb, .second, oI sel, oI ca, oI ma, oI pa, oI cb, oI mb, oI pb, oJ ub, .second, oR b1, oI (((sel.toUInt32 >>> ((4 : Int32) &&& 31).toUInt32).toInt32) &&& (3 : Int32)), .unset, .unset] [(.ref b1), (.ref b1)]))
      refine Done.callVP X18 hx hZ (C := "com/example/wide_weir/wideweir/accesslog/AccessLogLine") hown (wAt hw 38 rfl) (wAt hw 39 rfl) (notFace_of_selects (args := #[]) (mvT hZ (wAt hw 41 rfl))) (wAt hw 41 rfl) (wAt hw 40 rfl) (wAt hw 2 rfl) (wAt hw 42 rfl) (by decide) (rE1 l Z a0 hw [] b1 T18.heap n0 Zs18) rfl Ei_b1 (g := (mkF m 149 #[oI xa, oI ya, oJ ta, .second, oJ tb, .second, oI sel, oI ca, oI ma, oI pa, oI cb, oI mb, oI pb, oJ ub, .second, oR b1, oI (((sel.toUInt32 >>> ((4 : Int32) &&& 31).toUInt32).toInt32) &&& (3 : Int32)), .unset, .unset] [(.ref b1), (.ref b1)])) rfl (by rw [hml]; rfl) [(.ref b1)] [] 0 (lenOf pd_6 rfl) rfl rfl (by show 2 * 0 + _ ≤ _; exact Nat.le_of_eq rfl) (hb hby at_149) (by decide) (by decide) (by decide) (by decide) rfl rfl ?_
      intro T20 X20 e20
      show Done _ p e below s _ _ (T20.setTop (mkF m 152 #[oI xa, oI ya, oJ ta, .second, oJ tb, .second, oI sel, oI ca, oI ma, oI pa, oI cb, oI mb, oI pb, oJ ub, .second, oR b1, oI (((sel.toUInt32 >>> ((4 : Int32) &&& 31).toUInt32).toInt32) &&& (3 : Int32)), .unset, .unset] [(.int (1 : Int32))]))
      exact Done.retN (leavesW X20 hS (by first | exact hk | (rw [e20]; exact hk)) hlk (by decide) (by decide)) X20 hx (t := .boolean) hret (by simp) (hb hby at_152) ⟨rfl, N18⟩
    · refine Done.step (fun _ => XS.icmpYes X18.here hx rfl (pc0 := 142) (pc' := 153) rfl (hb hby at_142) rfl (XT.ii_ne_t hc19) (by decide) (by decide)) ?_
      show Done _ p e below s _ _ (T18.setTop (mkF m 153 #[oI xa, oI ya, oJ ta, .second, oJ tb, .second, oI sel, oI ca, oI ma, oI pa, oI cb, oI mb, oI pb, oJ ub, .second, oR b1, oI (((sel.toUInt32 >>> ((4 : Int32) &&& 31).toUInt32).toInt32) &&& (3 : Int32)), .unset, .unset] []))
      refine Done.step (fun _ => XS.iload X18.here hx rfl (hb hby at_153) rfl) ?_
      show Done _ p e below s _ _ (T18.setTop (mkF m 155 #[oI xa, oI ya, oJ ta, .second, oJ tb, .second, oI sel, oI ca, oI ma, oI pa, oI cb, oI mb, oI pb, oJ ub, .second, oR b1, oI (((sel.toUInt32 >>> ((4 : Int32) &&& 31).toUInt32).toInt32) &&& (3 : Int32)), .unset, .unset] [(.int (((sel.toUInt32 >>> ((4 : Int32) &&& 31).toUInt32).toInt32) &&& (3 : Int32)))]))
      refine Done.step (fun _ => XT.iconstV X18.here hx rfl (2 : Int32) (hb hby at_155) (by decide)) ?_
      show Done _ p e below s _ _ (T18.setTop (mkF m 156 #[oI xa, oI ya, oJ ta, .second, oJ tb, .second, oI sel, oI ca, oI ma, oI pa, oI cb, oI mb, oI pb, oJ ub, .second, oR b1, oI (((sel.toUInt32 >>> ((4 : Int32) &&& 31).toUInt32).toInt32) &&& (3 : Int32)), .unset, .unset] [(.int (2 : Int32)), (.int (((sel.toUInt32 >>> ((4 : Int32) &&& 31).toUInt32).toInt32) &&& (3 : Int32)))]))
      by_cases hc21 : (((sel.toUInt32 >>> ((4 : Int32) &&& 31).toUInt32).toInt32) &&& (3 : Int32)) = (2 : Int32)
      · refine Done.step (fun _ => XS.icmpNo X18.here hx rfl (hb hby at_156) rfl (XT.ii_ne_f hc21)) ?_
        show Done _ p e below s _ _ (T18.setTop (mkF m 159 #[oI xa, oI ya, oJ ta, .second, oJ tb, .second, oI sel, oI ca, oI ma, oI pa, oI cb, oI mb, oI pb, oJ ub, .second, oR b1, oI (((sel.toUInt32 >>> ((4 : Int32) &&& 31).toUInt32).toInt32) &&& (3 : Int32)), .unset, .unset] []))
        refine Done.step (fun _ => XS.aload X18.here hx rfl (hb hby at_159) rfl rfl) ?_
        show Done _ p e below s _ _ (T18.setTop (mkF m 161 #[oI xa, oI ya, oJ ta, .second, oJ tb, .second, oI sel, oI ca, oI ma, oI pa, oI cb, oI mb, oI pb, oJ ub, .second, oR b1, oI (((sel.toUInt32 >>> ((4 : Int32) &&& 31).toUInt32).toInt32) &&& (3 : Int32)), .unset, .unset] [(.ref b1)]))
        refine Done.step (fun _ => XS.aconstNull X18.here hx rfl (hb hby at_161)) ?_
        show Done _ p e below s _ _ (T18.setTop (mkF m 162 #[oI xa, oI ya, oJ ta, .second, oJ tb, .second, oI sel, oI ca, oI ma, oI pa, oI cb, oI mb, oI pb, oJ ub, .second, oR b1, oI (((sel.toUInt32 >>> ((4 : Int32) &&& 31).toUInt32).toInt32) &&& (3 : Int32)), .unset, .unset] [.null, (.ref b1)]))
        refine Done.callVP X18 hx hZ (C := "com/example/wide_weir/wideweir/accesslog/AccessLogLine") hown (wAt hw 38 rfl) (wAt hw 39 rfl) (notFace_of_selects (args := #[]) (mvT hZ (wAt hw 41 rfl))) (wAt hw 41 rfl) (wAt hw 40 rfl) (wAt hw 2 rfl) (wAt hw 42 rfl) (by decide) (rE2 l Z a0 hw [] b1 T18.heap n0 Zs18) rfl Ei_b1 (g := (mkF m 162 #[oI xa, oI ya, oJ ta, .second, oJ tb, .second, oI sel, oI ca, oI ma, oI pa, oI cb, oI mb, oI pb, oJ ub, .second, oR b1, oI (((sel.toUInt32 >>> ((4 : Int32) &&& 31).toUInt32).toInt32) &&& (3 : Int32)), .unset, .unset] [.null, (.ref b1)])) rfl (by rw [hml]; rfl) [.null] [] 0 (lenOf pd_6 rfl) rfl rfl (by show 2 * 0 + _ ≤ _; exact Nat.le_of_eq rfl) (hb hby at_162) (by decide) (by decide) (by decide) (by decide) rfl rfl ?_
        intro T22 X22 e22
        show Done _ p e below s _ _ (T22.setTop (mkF m 165 #[oI xa, oI ya, oJ ta, .second, oJ tb, .second, oI sel, oI ca, oI ma, oI pa, oI cb, oI mb, oI pb, oJ ub, .second, oR b1, oI (((sel.toUInt32 >>> ((4 : Int32) &&& 31).toUInt32).toInt32) &&& (3 : Int32)), .unset, .unset] [(.int (0 : Int32))]))
        refine Done.step (fun _ => XS.ifNo X22.here hx rfl (hb hby at_165) rfl (XT.i0_ne_f rfl)) ?_
        show Done _ p e below s _ _ (T22.setTop (mkF m 168 #[oI xa, oI ya, oJ ta, .second, oJ tb, .second, oI sel, oI ca, oI ma, oI pa, oI cb, oI mb, oI pb, oJ ub, .second, oR b1, oI (((sel.toUInt32 >>> ((4 : Int32) &&& 31).toUInt32).toInt32) &&& (3 : Int32)), .unset, .unset] []))
        refine Done.step (fun _ => XT.iconstV X22.here hx rfl (1 : Int32) (hb hby at_168) (by decide)) ?_
        show Done _ p e below s _ _ (T22.setTop (mkF m 169 #[oI xa, oI ya, oJ ta, .second, oJ tb, .second, oI sel, oI ca, oI ma, oI pa, oI cb, oI mb, oI pb, oJ ub, .second, oR b1, oI (((sel.toUInt32 >>> ((4 : Int32) &&& 31).toUInt32).toInt32) &&& (3 : Int32)), .unset, .unset] [(.int (1 : Int32))]))
        refine Done.step (fun _ => XS.goto X22.here hx rfl (pc0 := 169) (pc' := 173) rfl (hb hby at_169) (by decide) (by decide)) ?_
        show Done _ p e below s _ _ (T22.setTop (mkF m 173 #[oI xa, oI ya, oJ ta, .second, oJ tb, .second, oI sel, oI ca, oI ma, oI pa, oI cb, oI mb, oI pb, oJ ub, .second, oR b1, oI (((sel.toUInt32 >>> ((4 : Int32) &&& 31).toUInt32).toInt32) &&& (3 : Int32)), .unset, .unset] [(.int (1 : Int32))]))
        exact Done.retN (leavesW X22 hS (by first | exact hk | (rw [e22]; exact hk)) hlk (by decide) (by decide)) X22 hx (t := .boolean) hret (by simp) (hb hby at_173) ⟨rfl, N18⟩
      · refine Done.step (fun _ => XS.icmpYes X18.here hx rfl (pc0 := 156) (pc' := 174) rfl (hb hby at_156) rfl (XT.ii_ne_t hc21) (by decide) (by decide)) ?_
        show Done _ p e below s _ _ (T18.setTop (mkF m 174 #[oI xa, oI ya, oJ ta, .second, oJ tb, .second, oI sel, oI ca, oI ma, oI pa, oI cb, oI mb, oI pb, oJ ub, .second, oR b1, oI (((sel.toUInt32 >>> ((4 : Int32) &&& 31).toUInt32).toInt32) &&& (3 : Int32)), .unset, .unset] []))
        refine Done.step (fun _ => XS.iload X18.here hx rfl (hb hby at_174) rfl) ?_
        show Done _ p e below s _ _ (T18.setTop (mkF m 176 #[oI xa, oI ya, oJ ta, .second, oJ tb, .second, oI sel, oI ca, oI ma, oI pa, oI cb, oI mb, oI pb, oJ ub, .second, oR b1, oI (((sel.toUInt32 >>> ((4 : Int32) &&& 31).toUInt32).toInt32) &&& (3 : Int32)), .unset, .unset] [(.int (((sel.toUInt32 >>> ((4 : Int32) &&& 31).toUInt32).toInt32) &&& (3 : Int32)))]))
        refine Done.step (fun _ => XT.iconstV X18.here hx rfl (3 : Int32) (hb hby at_176) (by decide)) ?_
        show Done _ p e below s _ _ (T18.setTop (mkF m 177 #[oI xa, oI ya, oJ ta, .second, oJ tb, .second, oI sel, oI ca, oI ma, oI pa, oI cb, oI mb, oI pb, oJ ub, .second, oR b1, oI (((sel.toUInt32 >>> ((4 : Int32) &&& 31).toUInt32).toInt32) &&& (3 : Int32)), .unset, .unset] [(.int (3 : Int32)), (.int (((sel.toUInt32 >>> ((4 : Int32) &&& 31).toUInt32).toInt32) &&& (3 : Int32)))]))
        by_cases hc23 : (((sel.toUInt32 >>> ((4 : Int32) &&& 31).toUInt32).toInt32) &&& (3 : Int32)) = (3 : Int32)
        · refine Done.step (fun _ => XS.icmpNo X18.here hx rfl (hb hby at_177) rfl (XT.ii_ne_f hc23)) ?_
          show Done _ p e below s _ _ (T18.setTop (mkF m 180 #[oI xa, oI ya, oJ ta, .second, oJ tb, .second, oI sel, oI ca, oI ma, oI pa, oI cb, oI mb, oI pb, oJ ub, .second, oR b1, oI (((sel.toUInt32 >>> ((4 : Int32) &&& 31).toUInt32).toInt32) &&& (3 : Int32)), .unset, .unset] []))
          refine Done.step (fun _ => XS.iload X18.here hx rfl (hb hby at_180) rfl) ?_
          show Done _ p e below s _ _ (T18.setTop (mkF m 182 #[oI xa, oI ya, oJ ta, .second, oJ tb, .second, oI sel, oI ca, oI ma, oI pa, oI cb, oI mb, oI pb, oJ ub, .second, oR b1, oI (((sel.toUInt32 >>> ((4 : Int32) &&& 31).toUInt32).toInt32) &&& (3 : Int32)), .unset, .unset] [(.int ca)]))
          have f24 := (f15.keep K18q (allS n0_b1 all0))
          refine Done.callSW X18 hx hZ hown hS hk (wAt hw 3 rfl) (wAt hw 4 rfl) (wAt hw 5 rfl) (wAt hw 6 rfl) (by decide) (rS l Z a0 hw [] ca z ["path", "method", "client"] T18.heap n0 Zs18 f24 SC hz (by decide) hh hcw) (fun vm' hW => own_liV LIc hW) rfl (g := (mkF m 182 #[oI xa, oI ya, oJ ta, .second, oJ tb, .second, oI sel, oI ca, oI ma, oI pa, oI cb, oI mb, oI pb, oJ ub, .second, oR b1, oI (((sel.toUInt32 >>> ((4 : Int32) &&& 31).toUInt32).toInt32) &&& (3 : Int32)), .unset, .unset] [(.int ca)])) rfl (by rw [hml]; rfl) [(.int ca)] [] 0 (lenOf pd_7 rfl) rfl rfl (by show 2 * 0 + _ ≤ _; exact Nat.le_of_eq rfl) (hb hby at_182) (by decide) (by decide) (by decide) (by decide) ?_
          intro T25 v25 L25 X25 hS hZ hown hW25 q25
          have hk := Nat.le_refl T25.heap.size
          obtain ⟨sx4, sa4, sk4, rfl, Nq25, K25q, Es4, Fs4, Cs4, Ks4, LS4⟩ := q25
          have N25 := Fr.app N18 Nq25
          have Zs25 := Nat.le_trans Zs18 K25q.1
          show Done _ p e below s _ _ (T25.setTop (mkF m 185 #[oI xa, oI ya, oJ ta, .second, oJ tb, .second, oI sel, oI ca, oI ma, oI pa, oI cb, oI mb, oI pb, oJ ub, .second, oR b1, oI (((sel.toUInt32 >>> ((4 : Int32) &&& 31).toUInt32).toInt32) &&& (3 : Int32)), .unset, .unset] [(.ref sx4)]))
          have f26 := (Ei_b1.keep K25q)
          have ne_sx4_b1 : sx4 ≠ b1 := Es4.ne f26 (by decide)
          have ne_sa4_b1 : sa4 ≠ b1 := Ne.symm (f26.neArv Ks4 (wAt hw 1 rfl))
          refine Done.step (fun _ => XS.astore X25.here hx rfl (hb hby at_185) rfl rfl (l' := #[oI xa, oI ya, oJ ta, .second, oJ tb, .second, oI sel, oI ca, oI ma, oI pa, oI cb, oI mb, oI pb, oJ ub, .second, oR b1, oI (((sel.toUInt32 >>> ((4 : Int32) &&& 31).toUInt32).toInt32) &&& (3 : Int32)), oR sx4, .unset]) rfl) ?_
          show Done _ p e below s _ _ (T25.setTop (mkF m 187 #[oI xa, oI ya, oJ ta, .second, oJ tb, .second, oI sel, oI ca, oI ma, oI pa, oI cb, oI mb, oI pb, oJ ub, .second, oR b1, oI (((sel.toUInt32 >>> ((4 : Int32) &&& 31).toUInt32).toInt32) &&& (3 : Int32)), oR sx4, .unset] []))
          refine Done.step (fun _ => XS.aload X25.here hx rfl (hb hby at_187) rfl rfl) ?_
          show Done _ p e below s _ _ (T25.setTop (mkF m 189 #[oI xa, oI ya, oJ ta, .second, oJ tb, .second, oI sel, oI ca, oI ma, oI pa, oI cb, oI mb, oI pb, oJ ub, .second, oR b1, oI (((sel.toUInt32 >>> ((4 : Int32) &&& 31).toUInt32).toInt32) &&& (3 : Int32)), oR sx4, .unset] [(.ref b1)]))
          refine Done.step (fun _ => XS.aload X25.here hx rfl (hb hby at_189) rfl rfl) ?_
          show Done _ p e below s _ _ (T25.setTop (mkF m 191 #[oI xa, oI ya, oJ ta, .second, oJ tb, .second, oI sel, oI ca, oI ma, oI pa, oI cb, oI mb, oI pb, oJ ub, .second, oR b1, oI (((sel.toUInt32 >>> ((4 : Int32) &&& 31).toUInt32).toInt32) &&& (3 : Int32)), oR sx4, .unset] [(.ref sx4), (.ref b1)]))
          refine Done.callVP X25 hx hZ (C := "com/example/wide_weir/wideweir/accesslog/AccessLogLine") hown (wAt hw 38 rfl) (wAt hw 39 rfl) (notFace_of_selects (args := #[]) (mvT hZ (wAt hw 41 rfl))) (wAt hw 41 rfl) (wAt hw 40 rfl) (wAt hw 2 rfl) (wAt hw 42 rfl) (by decide) (rE3 l Z a0 hw [] b1 sx4 T25.heap n0 Zs25 Es4 (Ne.symm ne_sx4_b1)) rfl f26 (g := (mkF m 191 #[oI xa, oI ya, oJ ta, .second, oJ tb, .second, oI sel, oI ca, oI ma, oI pa, oI cb, oI mb, oI pb, oJ ub, .second, oR b1, oI (((sel.toUInt32 >>> ((4 : Int32) &&& 31).toUInt32).toInt32) &&& (3 : Int32)), oR sx4, .unset] [(.ref sx4), (.ref b1)])) rfl (by rw [hml]; rfl) [(.ref sx4)] [] 0 (lenOf pd_6 rfl) rfl rfl (by show 2 * 0 + _ ≤ _; exact Nat.le_of_eq rfl) (hb hby at_191) (by decide) (by decide) (by decide) (by decide) rfl rfl ?_
          intro T27 X27 e27
          show Done _ p e below s _ _ (T27.setTop (mkF m 194 #[oI xa, oI ya, oJ ta, .second, oJ tb, .second, oI sel, oI ca, oI ma, oI pa, oI cb, oI mb, oI pb, oJ ub, .second, oR b1, oI (((sel.toUInt32 >>> ((4 : Int32) &&& 31).toUInt32).toInt32) &&& (3 : Int32)), oR sx4, .unset] [(.int (0 : Int32))]))
          refine Done.step (fun _ => XS.ifNo X27.here hx rfl (hb hby at_194) rfl (XT.i0_ne_f rfl)) ?_
          show Done _ p e below s _ _ (T27.setTop (mkF m 197 #[oI xa, oI ya, oJ ta, .second, oJ tb, .second, oI sel, oI ca, oI ma, oI pa, oI cb, oI mb, oI pb, oJ ub, .second, oR b1, oI (((sel.toUInt32 >>> ((4 : Int32) &&& 31).toUInt32).toInt32) &&& (3 : Int32)), oR sx4, .unset] []))
          refine Done.step (fun _ => XT.iconstV X27.here hx rfl (1 : Int32) (hb hby at_197) (by decide)) ?_
          show Done _ p e below s _ _ (T27.setTop (mkF m 198 #[oI xa, oI ya, oJ ta, .second, oJ tb, .second, oI sel, oI ca, oI ma, oI pa, oI cb, oI mb, oI pb, oJ ub, .second, oR b1, oI (((sel.toUInt32 >>> ((4 : Int32) &&& 31).toUInt32).toInt32) &&& (3 : Int32)), oR sx4, .unset] [(.int (1 : Int32))]))
          refine Done.step (fun _ => XS.goto X27.here hx rfl (pc0 := 198) (pc' := 202) rfl (hb hby at_198) (by decide) (by decide)) ?_
          show Done _ p e below s _ _ (T27.setTop (mkF m 202 #[oI xa, oI ya, oJ ta, .second, oJ tb, .second, oI sel, oI ca, oI ma, oI pa, oI cb, oI mb, oI pb, oJ ub, .second, oR b1, oI (((sel.toUInt32 >>> ((4 : Int32) &&& 31).toUInt32).toInt32) &&& (3 : Int32)), oR sx4, .unset] [(.int (1 : Int32))]))
          exact Done.retN (leavesW X27 hS (by first | exact hk | (rw [e27]; exact hk)) hlk (by decide) (by decide)) X27 hx (t := .boolean) hret (by simp) (hb hby at_202) ⟨rfl, N25⟩
        · refine Done.step (fun _ => XS.icmpYes X18.here hx rfl (pc0 := 177) (pc' := 203) rfl (hb hby at_177) rfl (XT.ii_ne_t hc23) (by decide) (by decide)) ?_
          show Done _ p e below s _ _ (T18.setTop (mkF m 203 #[oI xa, oI ya, oJ ta, .second, oJ tb, .second, oI sel, oI ca, oI ma, oI pa, oI cb, oI mb, oI pb, oJ ub, .second, oR b1, oI (((sel.toUInt32 >>> ((4 : Int32) &&& 31).toUInt32).toInt32) &&& (3 : Int32)), .unset, .unset] []))
          obtain ⟨T28, h28, X28, e28, E28, A28, D28, -, st28⟩ := newO X18 hx hZ hown (wAt hw 0 rfl) (wAt hw 1 rfl) (wAt hw 2 rfl) rfl (g := (mkF m 203 #[oI xa, oI ya, oJ ta, .second, oJ tb, .second, oI sel, oI ca, oI ma, oI pa, oI cb, oI mb, oI pb, oJ ub, .second, oR b1, oI (((sel.toUInt32 >>> ((4 : Int32) &&& 31).toUInt32).toInt32) &&& (3 : Int32)), .unset, .unset] [])) rfl (hb hby at_203) (by decide) (by decide)
          obtain ⟨b28, g28⟩ : ∃ z, z = T18.heap.size := ⟨_, rfl⟩
          rw [← g28] at A28 D28 st28
          have ne_b1_b28 : b1 ≠ b28 := by rw [g28]; exact Nat.ne_of_lt Ei_b1.lt
          have f29 := (f16.keep K18q)
          have ne_sx1_b28 : sx1 ≠ b28 := by rw [g28]; exact Nat.ne_of_lt f29.lt
          have f30 := (((Ks1.keep K6q nin0).keep K9q nin0).keep K18q (ninS ne_sa1_b1 nin0))
          have ne_sa1_b28 : sa1 ≠ b28 := by rw [g28]; exact Nat.ne_of_lt f30.lt
          have f31 := (f17.keep K18q)
          have ne_sx2_b28 : sx2 ≠ b28 := by rw [g28]; exact Nat.ne_of_lt f31.lt
          have f32 := ((Ks2.keep K9q nin0).keep K18q (ninS ne_sa2_b1 nin0))
          have ne_sa2_b28 : sa2 ≠ b28 := by rw [g28]; exact Nat.ne_of_lt f32.lt
          have f33 := (Es3.keep K18q)
          have ne_sx3_b28 : sx3 ≠ b28 := by rw [g28]; exact Nat.ne_of_lt f33.lt
          have f34 := (Ks3.keep K18q (ninS ne_sa3_b1 nin0))
          have ne_sa3_b28 : sa3 ≠ b28 := by rw [g28]; exact Nat.ne_of_lt f34.lt
          have n0_b28 : n0 ≤ b28 := by rw [g28]; exact Zs18
          have Zs28 := Nat.le_trans Zs18 E28.1
          have hk := Nat.le_trans hk E28.1
          have F_client_b28 : Fld Z h28 b28 "com/example/wide_weir/wideweir/accesslog/AccessLogLine" "client" "Ljava/lang/String;" .null := D28 (Or.inr (wAt hw 29 rfl)) (ty := (.object "java/lang/String")) (by decide)
          have F_epochSecond_b28 : Fld Z h28 b28 "com/example/wide_weir/wideweir/accesslog/AccessLogLine" "epochSecond" "J" (.long (0 : Int64)) := D28 (Or.inr (wAt hw 31 rfl)) (ty := .long) (by decide)
          have F_method_b28 : Fld Z h28 b28 "com/example/wide_weir/wideweir/accesslog/AccessLogLine" "method" "Ljava/lang/String;" .null := D28 (Or.inr (wAt hw 34 rfl)) (ty := (.object "java/lang/String")) (by decide)
          have F_path_b28 : Fld Z h28 b28 "com/example/wide_weir/wideweir/accesslog/AccessLogLine" "path" "Ljava/lang/String;" .null := D28 (Or.inr (wAt hw 37 rfl)) (ty := (.object "java/lang/String")) (by decide)
          refine Done.step st28 ?_
          show Done _ p e below s _ _ (T28.setTop (mkF m 206 #[oI xa, oI ya, oJ ta, .second, oJ tb, .second, oI sel, oI ca, oI ma, oI pa, oI cb, oI mb, oI pb, oJ ub, .second, oR b1, oI (((sel.toUInt32 >>> ((4 : Int32) &&& 31).toUInt32).toInt32) &&& (3 : Int32)), .unset, .unset] [(.ref b28)]))
          have LE28 := own_liE LIc E28
          refine Done.step (fun _ => XS.dup X28.here hx rfl (hb hby at_206) rfl rfl) ?_
          show Done _ p e below s _ _ (T28.setTop (mkF m 207 #[oI xa, oI ya, oJ ta, .second, oJ tb, .second, oI sel, oI ca, oI ma, oI pa, oI cb, oI mb, oI pb, oJ ub, .second, oR b1, oI (((sel.toUInt32 >>> ((4 : Int32) &&& 31).toUInt32).toInt32) &&& (3 : Int32)), .unset, .unset] [(.ref b28), (.ref b28)]))
          refine Done.step (fun _ => XS.iload X28.here hx rfl (hb hby at_207) rfl) ?_
          show Done _ p e below s _ _ (T28.setTop (mkF m 209 #[oI xa, oI ya, oJ ta, .second, oJ tb, .second, oI sel, oI ca, oI ma, oI pa, oI cb, oI mb, oI pb, oJ ub, .second, oR b1, oI (((sel.toUInt32 >>> ((4 : Int32) &&& 31).toUInt32).toInt32) &&& (3 : Int32)), .unset, .unset] [(.int cb), (.ref b28), (.ref b28)]))
          have f35 := ((f15.keep K18q (allS n0_b1 all0)).ext E28)
          refine Done.callSW X28 hx hZ hown hS hk (wAt hw 3 rfl) (wAt hw 4 rfl) (wAt hw 5 rfl) (wAt hw 6 rfl) (by decide) (rS l Z a0 hw [] cb z ["path", "method", "client"] h28 n0 Zs28 f35 SC hz (by decide) hh hcw) (fun vm' hW => own_liV LE28 hW) e28 (g := (mkF m 209 #[oI xa, oI ya, oJ ta, .second, oJ tb, .second, oI sel, oI ca, oI ma, oI pa, oI cb, oI mb, oI pb, oJ ub, .second, oR b1, oI (((sel.toUInt32 >>> ((4 : Int32) &&& 31).toUInt32).toInt32) &&& (3 : Int32)), .unset, .unset] [(.int cb), (.ref b28), (.ref b28)])) rfl (by rw [hml]; rfl) [(.int cb)] [(.ref b28), (.ref b28)] 2 (lenOf pd_7 rfl) rfl rfl (by show 2 * 0 + _ ≤ _; exact Nat.le_of_eq rfl) (hb hby at_209) (by decide) (by decide) (by decide) (by decide) ?_
          intro T36 v36 L36 X36 hS hZ hown hW36 q36
          have hk := Nat.le_refl T36.heap.size
          obtain ⟨sx4, sa4, sk4, rfl, Nq36, K36q, Es4, Fs4, Cs4, Ks4, LS4⟩ := q36
          have N36 := Fr.app N18 Nq36
          have Zs36 := Nat.le_trans Zs28 K36q.1
          show Done _ p e below s _ _ (T36.setTop (mkF m 212 #[oI xa, oI ya, oJ ta, .second, oJ tb, .second, oI sel, oI ca, oI ma, oI pa, oI cb, oI mb, oI pb, oJ ub, .second, oR b1, oI (((sel.toUInt32 >>> ((4 : Int32) &&& 31).toUInt32).toInt32) &&& (3 : Int32)), .unset, .unset] [(.ref sx4), (.ref b28), (.ref b28)]))
          have f37 := ((Ei_b1.ext E28).keep K36q)
          have ne_sx4_b1 : sx4 ≠ b1 := Es4.ne f37 (by decide)
          have ne_sa4_b1 : sa4 ≠ b1 := Ne.symm (f37.neArv Ks4 (wAt hw 1 rfl))
          have f38 := (A28.keep K36q)
          have ne_sx4_b28 : sx4 ≠ b28 := Es4.ne f38 (by decide)
          have ne_sa4_b28 : sa4 ≠ b28 := Ne.symm (f38.neArv Ks4 (wAt hw 1 rfl))
          refine Done.step (fun _ => XT.lload X36.here hx rfl (hb hby at_212) rfl) ?_
          show Done _ p e below s _ _ (T36.setTop (mkF m 214 #[oI xa, oI ya, oJ ta, .second, oJ tb, .second, oI sel, oI ca, oI ma, oI pa, oI cb, oI mb, oI pb, oJ ub, .second, oR b1, oI (((sel.toUInt32 >>> ((4 : Int32) &&& 31).toUInt32).toInt32) &&& (3 : Int32)), .unset, .unset] [(.long ub), (.ref sx4), (.ref b28), (.ref b28)]))
          refine Done.step (fun _ => XS.iload X36.here hx rfl (hb hby at_214) rfl) ?_
          show Done _ p e below s _ _ (T36.setTop (mkF m 216 #[oI xa, oI ya, oJ ta, .second, oJ tb, .second, oI sel, oI ca, oI ma, oI pa, oI cb, oI mb, oI pb, oJ ub, .second, oR b1, oI (((sel.toUInt32 >>> ((4 : Int32) &&& 31).toUInt32).toInt32) &&& (3 : Int32)), .unset, .unset] [(.int mb), (.long ub), (.ref sx4), (.ref b28), (.ref b28)]))
          have f39 := (f35.keep K36q all0)
          refine Done.callSW X36 hx hZ hown hS hk (wAt hw 3 rfl) (wAt hw 4 rfl) (wAt hw 5 rfl) (wAt hw 6 rfl) (by decide) (rS l Z a0 hw [] mb z ["path", "method", "client"] T36.heap n0 Zs36 f39 SC hz (by decide) hh hcw) (fun vm' hW => own_liV LS4 hW) rfl (g := (mkF m 216 #[oI xa, oI ya, oJ ta, .second, oJ tb, .second, oI sel, oI ca, oI ma, oI pa, oI cb, oI mb, oI pb, oJ ub, .second, oR b1, oI (((sel.toUInt32 >>> ((4 : Int32) &&& 31).toUInt32).toInt32) &&& (3 : Int32)), .unset, .unset] [(.int mb), (.long ub), (.ref sx4), (.ref b28), (.ref b28)])) rfl (by rw [hml]; rfl) [(.int mb)] [(.long ub), (.ref sx4), (.ref b28), (.ref b28)] 5 (lenOf pd_7 rfl) rfl rfl (by show 2 * 0 + _ ≤ _; exact Nat.le_of_eq rfl) (hb hby at_216) (by decide) (by decide) (by decide) (by decide) ?_
          intro T40 v40 L40 X40 hS hZ hown hW40 q40
          have hk := Nat.le_refl T40.heap.size
          obtain ⟨sx5, sa5, sk5, rfl, Nq40, K40q, Es5, Fs5, Cs5, Ks5, LS5⟩ := q40
          have N40 := Fr.app N36 Nq40
          have Zs40 := Nat.le_trans Zs36 K40q.1
          show Done _ p e below s _ _ (T40.setTop (mkF m 219 #[oI xa, oI ya, oJ ta, .second, oJ tb, .second, oI sel, oI ca, oI ma, oI pa, oI cb, oI mb, oI pb, oJ ub, .second, oR b1, oI (((sel.toUInt32 >>> ((4 : Int32) &&& 31).toUInt32).toInt32) &&& (3 : Int32)), .unset, .unset] [(.ref sx5), (.long ub), (.ref sx4), (.ref b28), (.ref b28)]))
          have f41 := (f37.keep K40q)
          have ne_sx5_b1 : sx5 ≠ b1 := Es5.ne f41 (by decide)
          have ne_sa5_b1 : sa5 ≠ b1 := Ne.symm (f41.neArv Ks5 (wAt hw 1 rfl))
          have f42 := (f38.keep K40q)
          have ne_sx5_b28 : sx5 ≠ b28 := Es5.ne f42 (by decide)
          have ne_sa5_b28 : sa5 ≠ b28 := Ne.symm (f42.neArv Ks5 (wAt hw 1 rfl))
          refine Done.step (fun _ => XS.iload X40.here hx rfl (hb hby at_219) rfl) ?_
          show Done _ p e below s _ _ (T40.setTop (mkF m 221 #[oI xa, oI ya, oJ ta, .second, oJ tb, .second, oI sel, oI ca, oI ma, oI pa, oI cb, oI mb, oI pb, oJ ub, .second, oR b1, oI (((sel.toUInt32 >>> ((4 : Int32) &&& 31).toUInt32).toInt32) &&& (3 : Int32)), .unset, .unset] [(.int pb), (.ref sx5), (.long ub), (.ref sx4), (.ref b28), (.ref b28)]))
          have f43 := (f39.keep K40q all0)
          refine Done.callSW X40 hx hZ hown hS hk (wAt hw 3 rfl) (wAt hw 4 rfl) (wAt hw 5 rfl) (wAt hw 6 rfl) (by decide) (rS l Z a0 hw [] pb z ["path", "method", "client"] T40.heap n0 Zs40 f43 SC hz (by decide) hh hcw) (fun vm' hW => own_liV LS5 hW) rfl (g := (mkF m 221 #[oI xa, oI ya, oJ ta, .second, oJ tb, .second, oI sel, oI ca, oI ma, oI pa, oI cb, oI mb, oI pb, oJ ub, .second, oR b1, oI (((sel.toUInt32 >>> ((4 : Int32) &&& 31).toUInt32).toInt32) &&& (3 : Int32)), .unset, .unset] [(.int pb), (.ref sx5), (.long ub), (.ref sx4), (.ref b28), (.ref b28)])) rfl (by rw [hml]; rfl) [(.int pb)] [(.ref sx5), (.long ub), (.ref sx4), (.ref b28), (.ref b28)] 6 (lenOf pd_7 rfl) rfl rfl (by show 2 * 0 + _ ≤ _; exact Nat.le_of_eq rfl) (hb hby at_221) (by decide) (by decide) (by decide) (by decide) ?_
          intro T44 v44 L44 X44 hS hZ hown hW44 q44
          have hk := Nat.le_refl T44.heap.size
          obtain ⟨sx6, sa6, sk6, rfl, Nq44, K44q, Es6, Fs6, Cs6, Ks6, LS6⟩ := q44
          have N44 := Fr.app N40 Nq44
          have Zs44 := Nat.le_trans Zs40 K44q.1
          show Done _ p e below s _ _ (T44.setTop (mkF m 224 #[oI xa, oI ya, oJ ta, .second, oJ tb, .second, oI sel, oI ca, oI ma, oI pa, oI cb, oI mb, oI pb, oJ ub, .second, oR b1, oI (((sel.toUInt32 >>> ((4 : Int32) &&& 31).toUInt32).toInt32) &&& (3 : Int32)), .unset, .unset] [(.ref sx6), (.ref sx5), (.long ub), (.ref sx4), (.ref b28), (.ref b28)]))
          have f45 := (f41.keep K44q)
          have ne_sx6_b1 : sx6 ≠ b1 := Es6.ne f45 (by decide)
          have ne_sa6_b1 : sa6 ≠ b1 := Ne.symm (f45.neArv Ks6 (wAt hw 1 rfl))
          have f46 := (f42.keep K44q)
          have ne_sx6_b28 : sx6 ≠ b28 := Es6.ne f46 (by decide)
          have ne_sa6_b28 : sa6 ≠ b28 := Ne.symm (f46.neArv Ks6 (wAt hw 1 rfl))
          have f47 := (((F_client_b28.keep K36q nin0).keep K40q nin0).keep K44q nin0)
          have f48 := (((F_epochSecond_b28.keep K36q nin0).keep K40q nin0).keep K44q nin0)
          have f49 := (((F_method_b28.keep K36q nin0).keep K40q nin0).keep K44q nin0)
          have f50 := (((F_path_b28.keep K36q nin0).keep K40q nin0).keep K44q nin0)
          have f51 := (f43.keep K44q all0)
          have f52 := ((Es4.keep K40q).keep K44q)
          have f53 := (Es5.keep K44q)
          refine Done.callIW X44 hx hZ rfl hown hS hk (wAt hw 15 rfl) (wAt hw 16 rfl) (wAt hw 2 rfl) (wAt hw 17 rfl) (by decide) (rJ l Z a0 hw [] b28 sx4 sx5 sx6 ub [] T44.heap n0 Zs44 f46 f47 f48 f49 f50 n0_b28 f51 f52 f53 Es6) (fun _ _ => trivial) rfl (g := (mkF m 224 #[oI xa, oI ya, oJ ta, .second, oJ tb, .second, oI sel, oI ca, oI ma, oI pa, oI cb, oI mb, oI pb, oJ ub, .second, oR b1, oI (((sel.toUInt32 >>> ((4 : Int32) &&& 31).toUInt32).toInt32) &&& (3 : Int32)), .unset, .unset] [(.ref sx6), (.ref sx5), (.long ub), (.ref sx4), (.ref b28), (.ref b28)])) rfl (by rw [hml]; rfl) b28 [(.ref sx4), (.long ub), (.ref sx5), (.ref sx6)] [(.ref b28)] 1 (lenOf pd_8 rfl) rfl rfl (by show 2 * 0 + _ ≤ _; exact Nat.le_of_eq rfl) (hb hby at_224) (by decide) (by decide) (by decide) (by decide) ?_
          intro T54 v54 L54 X54 hS hZ hown hW54 q54
          have hk := Nat.le_refl T54.heap.size
          obtain ⟨rfl, Nq54, K54q, Ei_b28, Fic_b28, Fit_b28, Fim_b28, Fip_b28⟩ := q54
          have N54 := Fr.app N44 Nq54
          have Zs54 := Nat.le_trans Zs44 K54q.1
          show Done _ p e below s _ _ (T54.setTop (mkF m 227 #[oI xa, oI ya, oJ ta, .second, oJ tb, .second, oI sel, oI ca, oI ma, oI pa, oI cb, oI mb, oI pb, oJ ub, .second, oR b1, oI (((sel.toUInt32 >>> ((4 : Int32) &&& 31).toUInt32).toInt32) &&& (3 : Int32)), .unset, .unset] [(.ref b28)]))
          refine Done.step (fun _ => XS.astore X54.here hx rfl (hb hby at_227) rfl rfl (l' := #[oI xa, oI ya, oJ ta, .second, oJ tb, .second, oI sel, oI ca, oI ma, oI pa, oI cb, oI mb, oI pb, oJ ub, .second, oR b1, oI (((sel.toUInt32 >>> ((4 : Int32) &&& 31).toUInt32).toInt32) &&& (3 : Int32)), oR b28, .unset]) rfl) ?_
          show Done _ p e below s _ _ (T54.setTop (mkF m 229 #[oI xa, oI ya, oJ ta, .second, oJ tb, .second, oI sel, oI ca, oI ma, oI pa, oI cb, oI mb, oI pb, oJ ub, .second, oR b1, oI (((sel.toUInt32 >>> ((4 : Int32) &&& 31).toUInt32).toInt32) &&& (3 : Int32)), oR b28, .unset] []))
          refine Done.step (fun _ => XT.lloadN X54.here hx rfl (hb hby at_229) rfl) ?_
          show Done _ p e below s _ _ (T54.setTop (mkF m 230 #[oI xa, oI ya, oJ ta, .second, oJ tb, .second, oI sel, oI ca, oI ma, oI pa, oI cb, oI mb, oI pb, oJ ub, .second, oR b1, oI (((sel.toUInt32 >>> ((4 : Int32) &&& 31).toUInt32).toInt32) &&& (3 : Int32)), oR b28, .unset] [(.long ta)]))
          refine Done.step (fun _ => XT.lload X54.here hx rfl (hb hby at_230) rfl) ?_
          show Done _ p e below s _ _ (T54.setTop (mkF m 232 #[oI xa, oI ya, oJ ta, .second, oJ tb, .second, oI sel, oI ca, oI ma, oI pa, oI cb, oI mb, oI pb, oJ ub, .second, oR b1, oI (((sel.toUInt32 >>> ((4 : Int32) &&& 31).toUInt32).toInt32) &&& (3 : Int32)), oR b28, .unset] [(.long ub), (.long ta)]))
          refine Done.step (fun _ => XT.lcmp X54.here hx rfl (hb hby at_232) rfl) ?_
          show Done _ p e below s _ _ (T54.setTop (mkF m 233 #[oI xa, oI ya, oJ ta, .second, oJ tb, .second, oI sel, oI ca, oI ma, oI pa, oI cb, oI mb, oI pb, oJ ub, .second, oR b1, oI (((sel.toUInt32 >>> ((4 : Int32) &&& 31).toUInt32).toInt32) &&& (3 : Int32)), oR b28, .unset] [(.int (XT.cmpL ta ub))]))
          by_cases hc55 : ta = ub
          · refine Done.step (fun _ => XS.ifNo X54.here hx rfl (hb hby at_233) rfl (XT.ll_ne_f hc55)) ?_
            show Done _ p e below s _ _ (T54.setTop (mkF m 236 #[oI xa, oI ya, oJ ta, .second, oJ tb, .second, oI sel, oI ca, oI ma, oI pa, oI cb, oI mb, oI pb, oJ ub, .second, oR b1, oI (((sel.toUInt32 >>> ((4 : Int32) &&& 31).toUInt32).toInt32) &&& (3 : Int32)), oR b28, .unset] []))
            refine Done.step (fun _ => XS.iload X54.here hx rfl (hb hby at_236) rfl) ?_
            show Done _ p e below s _ _ (T54.setTop (mkF m 238 #[oI xa, oI ya, oJ ta, .second, oJ tb, .second, oI sel, oI ca, oI ma, oI pa, oI cb, oI mb, oI pb, oJ ub, .second, oR b1, oI (((sel.toUInt32 >>> ((4 : Int32) &&& 31).toUInt32).toInt32) &&& (3 : Int32)), oR b28, .unset] [(.int ca)]))
            refine Done.callSP X54 hx hZ hown (wAt hw 65 rfl) (wAt hw 66 rfl) (wAt hw 5 rfl) (wAt hw 67 rfl) (by decide) (rN l Z a0 hw [] ca T54.heap n0 Zs54) rfl (g := (mkF m 238 #[oI xa, oI ya, oJ ta, .second, oJ tb, .second, oI sel, oI ca, oI ma, oI pa, oI cb, oI mb, oI pb, oJ ub, .second, oR b1, oI (((sel.toUInt32 >>> ((4 : Int32) &&& 31).toUInt32).toInt32) &&& (3 : Int32)), oR b28, .unset] [(.int ca)])) rfl (by rw [hml]; rfl) [(.int ca)] [] 0 (lenOf pd_9 rfl) rfl rfl (by show 2 * 0 + _ ≤ _; exact Nat.le_of_eq rfl) (hb hby at_238) (by decide) (by decide) (by decide) (by decide) rfl rfl ?_
            intro T56 X56 e56
            show Done _ p e below s _ _ (T56.setTop (mkF m 241 #[oI xa, oI ya, oJ ta, .second, oJ tb, .second, oI sel, oI ca, oI ma, oI pa, oI cb, oI mb, oI pb, oJ ub, .second, oR b1, oI (((sel.toUInt32 >>> ((4 : Int32) &&& 31).toUInt32).toInt32) &&& (3 : Int32)), oR b28, .unset] [(.int (own_norm ca))]))
            refine Done.step (fun _ => XS.iload X56.here hx rfl (hb hby at_241) rfl) ?_
            show Done _ p e below s _ _ (T56.setTop (mkF m 243 #[oI xa, oI ya, oJ ta, .second, oJ tb, .second, oI sel, oI ca, oI ma, oI pa, oI cb, oI mb, oI pb, oJ ub, .second, oR b1, oI (((sel.toUInt32 >>> ((4 : Int32) &&& 31).toUInt32).toInt32) &&& (3 : Int32)), oR b28, .unset] [(.int cb), (.int (own_norm ca))]))
            refine Done.callSP X56 hx hZ hown (wAt hw 65 rfl) (wAt hw 66 rfl) (wAt hw 5 rfl) (wAt hw 67 rfl) (by decide) (rN l Z a0 hw [] cb T54.heap n0 Zs54) e56 (g := (mkF m 243 #[oI xa, oI ya, oJ ta, .second, oJ tb, .second, oI sel, oI ca, oI ma, oI pa, oI cb, oI mb, oI pb, oJ ub, .second, oR b1, oI (((sel.toUInt32 >>> ((4 : Int32) &&& 31).toUInt32).toInt32) &&& (3 : Int32)), oR b28, .unset] [(.int cb), (.int (own_norm ca))])) rfl (by rw [hml]; rfl) [(.int cb)] [(.int (own_norm ca))] 1 (lenOf pd_9 rfl) rfl rfl (by show 2 * 0 + _ ≤ _; exact Nat.le_of_eq rfl) (hb hby at_243) (by decide) (by decide) (by decide) (by decide) rfl rfl ?_
            intro T57 X57 e57
            show Done _ p e below s _ _ (T57.setTop (mkF m 246 #[oI xa, oI ya, oJ ta, .second, oJ tb, .second, oI sel, oI ca, oI ma, oI pa, oI cb, oI mb, oI pb, oJ ub, .second, oR b1, oI (((sel.toUInt32 >>> ((4 : Int32) &&& 31).toUInt32).toInt32) &&& (3 : Int32)), oR b28, .unset] [(.int (own_norm cb)), (.int (own_norm ca))]))
            by_cases hc58 : (own_norm ca) = (own_norm cb)
            · refine Done.step (fun _ => XS.icmpNo X57.here hx rfl (hb hby at_246) rfl (XT.ii_ne_f hc58)) ?_
              show Done _ p e below s _ _ (T57.setTop (mkF m 249 #[oI xa, oI ya, oJ ta, .second, oJ tb, .second, oI sel, oI ca, oI ma, oI pa, oI cb, oI mb, oI pb, oJ ub, .second, oR b1, oI (((sel.toUInt32 >>> ((4 : Int32) &&& 31).toUInt32).toInt32) &&& (3 : Int32)), oR b28, .unset] []))
              refine Done.step (fun _ => XS.iload X57.here hx rfl (hb hby at_249) rfl) ?_
              show Done _ p e below s _ _ (T57.setTop (mkF m 251 #[oI xa, oI ya, oJ ta, .second, oJ tb, .second, oI sel, oI ca, oI ma, oI pa, oI cb, oI mb, oI pb, oJ ub, .second, oR b1, oI (((sel.toUInt32 >>> ((4 : Int32) &&& 31).toUInt32).toInt32) &&& (3 : Int32)), oR b28, .unset] [(.int ma)]))
              refine Done.callSP X57 hx hZ hown (wAt hw 65 rfl) (wAt hw 66 rfl) (wAt hw 5 rfl) (wAt hw 67 rfl) (by decide) (rN l Z a0 hw [] ma T54.heap n0 Zs54) e57 (g := (mkF m 251 #[oI xa, oI ya, oJ ta, .second, oJ tb, .second, oI sel, oI ca, oI ma, oI pa, oI cb, oI mb, oI pb, oJ ub, .second, oR b1, oI (((sel.toUInt32 >>> ((4 : Int32) &&& 31).toUInt32).toInt32) &&& (3 : Int32)), oR b28, .unset] [(.int ma)])) rfl (by rw [hml]; rfl) [(.int ma)] [] 0 (lenOf pd_9 rfl) rfl rfl (by show 2 * 0 + _ ≤ _; exact Nat.le_of_eq rfl) (hb hby at_251) (by decide) (by decide) (by decide) (by decide) rfl rfl ?_
              intro T59 X59 e59
              show Done _ p e below s _ _ (T59.setTop (mkF m 254 #[oI xa, oI ya, oJ ta, .second, oJ tb, .second, oI sel, oI ca, oI ma, oI pa, oI cb, oI mb, oI pb, oJ ub, .second, oR b1, oI (((sel.toUInt32 >>> ((4 : Int32) &&& 31).toUInt32).toInt32) &&& (3 : Int32)), oR b28, .unset] [(.int (own_norm ma))]))
              refine Done.step (fun _ => XS.iload X59.here hx rfl (hb hby at_254) rfl) ?_
              show Done _ p e below s _ _ (T59.setTop (mkF m 256 #[oI xa, oI ya, oJ ta, .second, oJ tb, .second, oI sel, oI ca, oI ma, oI pa, oI cb, oI mb, oI pb, oJ ub, .second, oR b1, oI (((sel.toUInt32 >>> ((4 : Int32) &&& 31).toUInt32).toInt32) &&& (3 : Int32)), oR b28, .unset] [(.int mb), (.int (own_norm ma))]))
              refine Done.callSP X59 hx hZ hown (wAt hw 65 rfl) (wAt hw 66 rfl) (wAt hw 5 rfl) (wAt hw 67 rfl) (by decide) (rN l Z a0 hw [] mb T54.heap n0 Zs54) e59 (g := (mkF m 256 #[oI xa, oI ya, oJ ta, .second, oJ tb, .second, oI sel, oI ca, oI ma, oI pa, oI cb, oI mb, oI pb, oJ ub, .second, oR b1, oI (((sel.toUInt32 >>> ((4 : Int32) &&& 31).toUInt32).toInt32) &&& (3 : Int32)), oR b28, .unset] [(.int mb), (.int (own_norm ma))])) rfl (by rw [hml]; rfl) [(.int mb)] [(.int (own_norm ma))] 1 (lenOf pd_9 rfl) rfl rfl (by show 2 * 0 + _ ≤ _; exact Nat.le_of_eq rfl) (hb hby at_256) (by decide) (by decide) (by decide) (by decide) rfl rfl ?_
              intro T60 X60 e60
              show Done _ p e below s _ _ (T60.setTop (mkF m 259 #[oI xa, oI ya, oJ ta, .second, oJ tb, .second, oI sel, oI ca, oI ma, oI pa, oI cb, oI mb, oI pb, oJ ub, .second, oR b1, oI (((sel.toUInt32 >>> ((4 : Int32) &&& 31).toUInt32).toInt32) &&& (3 : Int32)), oR b28, .unset] [(.int (own_norm mb)), (.int (own_norm ma))]))
              by_cases hc61 : (own_norm ma) = (own_norm mb)
              · refine Done.step (fun _ => XS.icmpNo X60.here hx rfl (hb hby at_259) rfl (XT.ii_ne_f hc61)) ?_
                show Done _ p e below s _ _ (T60.setTop (mkF m 262 #[oI xa, oI ya, oJ ta, .second, oJ tb, .second, oI sel, oI ca, oI ma, oI pa, oI cb, oI mb, oI pb, oJ ub, .second, oR b1, oI (((sel.toUInt32 >>> ((4 : Int32) &&& 31).toUInt32).toInt32) &&& (3 : Int32)), oR b28, .unset] []))
                refine Done.step (fun _ => XS.iload X60.here hx rfl (hb hby at_262) rfl) ?_
                show Done _ p e below s _ _ (T60.setTop (mkF m 264 #[oI xa, oI ya, oJ ta, .second, oJ tb, .second, oI sel, oI ca, oI ma, oI pa, oI cb, oI mb, oI pb, oJ ub, .second, oR b1, oI (((sel.toUInt32 >>> ((4 : Int32) &&& 31).toUInt32).toInt32) &&& (3 : Int32)), oR b28, .unset] [(.int pa)]))
                refine Done.callSP X60 hx hZ hown (wAt hw 65 rfl) (wAt hw 66 rfl) (wAt hw 5 rfl) (wAt hw 67 rfl) (by decide) (rN l Z a0 hw [] pa T54.heap n0 Zs54) e60 (g := (mkF m 264 #[oI xa, oI ya, oJ ta, .second, oJ tb, .second, oI sel, oI ca, oI ma, oI pa, oI cb, oI mb, oI pb, oJ ub, .second, oR b1, oI (((sel.toUInt32 >>> ((4 : Int32) &&& 31).toUInt32).toInt32) &&& (3 : Int32)), oR b28, .unset] [(.int pa)])) rfl (by rw [hml]; rfl) [(.int pa)] [] 0 (lenOf pd_9 rfl) rfl rfl (by show 2 * 0 + _ ≤ _; exact Nat.le_of_eq rfl) (hb hby at_264) (by decide) (by decide) (by decide) (by decide) rfl rfl ?_
                intro T62 X62 e62
                show Done _ p e below s _ _ (T62.setTop (mkF m 267 #[oI xa, oI ya, oJ ta, .second, oJ tb, .second, oI sel, oI ca, oI ma, oI pa, oI cb, oI mb, oI pb, oJ ub, .second, oR b1, oI (((sel.toUInt32 >>> ((4 : Int32) &&& 31).toUInt32).toInt32) &&& (3 : Int32)), oR b28, .unset] [(.int (own_norm pa))]))
                refine Done.step (fun _ => XS.iload X62.here hx rfl (hb hby at_267) rfl) ?_
                show Done _ p e below s _ _ (T62.setTop (mkF m 269 #[oI xa, oI ya, oJ ta, .second, oJ tb, .second, oI sel, oI ca, oI ma, oI pa, oI cb, oI mb, oI pb, oJ ub, .second, oR b1, oI (((sel.toUInt32 >>> ((4 : Int32) &&& 31).toUInt32).toInt32) &&& (3 : Int32)), oR b28, .unset] [(.int pb), (.int (own_norm pa))]))
                refine Done.callSP X62 hx hZ hown (wAt hw 65 rfl) (wAt hw 66 rfl) (wAt hw 5 rfl) (wAt hw 67 rfl) (by decide) (rN l Z a0 hw [] pb T54.heap n0 Zs54) e62 (g := (mkF m 269 #[oI xa, oI ya, oJ ta, .second, oJ tb, .second, oI sel, oI ca, oI ma, oI pa, oI cb, oI mb, oI pb, oJ ub, .second, oR b1, oI (((sel.toUInt32 >>> ((4 : Int32) &&& 31).toUInt32).toInt32) &&& (3 : Int32)), oR b28, .unset] [(.int pb), (.int (own_norm pa))])) rfl (by rw [hml]; rfl) [(.int pb)] [(.int (own_norm pa))] 1 (lenOf pd_9 rfl) rfl rfl (by show 2 * 0 + _ ≤ _; exact Nat.le_of_eq rfl) (hb hby at_269) (by decide) (by decide) (by decide) (by decide) rfl rfl ?_
                intro T63 X63 e63
                show Done _ p e below s _ _ (T63.setTop (mkF m 272 #[oI xa, oI ya, oJ ta, .second, oJ tb, .second, oI sel, oI ca, oI ma, oI pa, oI cb, oI mb, oI pb, oJ ub, .second, oR b1, oI (((sel.toUInt32 >>> ((4 : Int32) &&& 31).toUInt32).toInt32) &&& (3 : Int32)), oR b28, .unset] [(.int (own_norm pb)), (.int (own_norm pa))]))
                by_cases hc64 : (own_norm pa) = (own_norm pb)
                · refine Done.step (fun _ => XS.icmpNo X63.here hx rfl (hb hby at_272) rfl (XT.ii_ne_f hc64)) ?_
                  show Done _ p e below s _ _ (T63.setTop (mkF m 275 #[oI xa, oI ya, oJ ta, .second, oJ tb, .second, oI sel, oI ca, oI ma, oI pa, oI cb, oI mb, oI pb, oJ ub, .second, oR b1, oI (((sel.toUInt32 >>> ((4 : Int32) &&& 31).toUInt32).toInt32) &&& (3 : Int32)), oR b28, .unset] []))
                  refine Done.step (fun _ => XT.iconstV X63.here hx rfl (1 : Int32) (hb hby at_275) (by decide)) ?_
                  show Done _ p e below s _ _ (T63.setTop (mkF m 276 #[oI xa, oI ya, oJ ta, .second, oJ tb, .second, oI sel, oI ca, oI ma, oI pa, oI cb, oI mb, oI pb, oJ ub, .second, oR b1, oI (((sel.toUInt32 >>> ((4 : Int32) &&& 31).toUInt32).toInt32) &&& (3 : Int32)), oR b28, .unset] [(.int (1 : Int32))]))
                  refine Done.step (fun _ => XS.goto X63.here hx rfl (pc0 := 276) (pc' := 280) rfl (hb hby at_276) (by decide) (by decide)) ?_
                  show Done _ p e below s _ _ (T63.setTop (mkF m 280 #[oI xa, oI ya, oJ ta, .second, oJ tb, .second, oI sel, oI ca, oI ma, oI pa, oI cb, oI mb, oI pb, oJ ub, .second, oR b1, oI (((sel.toUInt32 >>> ((4 : Int32) &&& 31).toUInt32).toInt32) &&& (3 : Int32)), oR b28, .unset] [(.int (1 : Int32))]))
                  refine Done.step (fun _ => XS.istore X63.here hx rfl (hb hby at_280) rfl (l' := #[oI xa, oI ya, oJ ta, .second, oJ tb, .second, oI sel, oI ca, oI ma, oI pa, oI cb, oI mb, oI pb, oJ ub, .second, oR b1, oI (((sel.toUInt32 >>> ((4 : Int32) &&& 31).toUInt32).toInt32) &&& (3 : Int32)), oR b28, oI (1 : Int32)]) rfl) ?_
                  show Done _ p e below s _ _ (T63.setTop (mkF m 282 #[oI xa, oI ya, oJ ta, .second, oJ tb, .second, oI sel, oI ca, oI ma, oI pa, oI cb, oI mb, oI pb, oJ ub, .second, oR b1, oI (((sel.toUInt32 >>> ((4 : Int32) &&& 31).toUInt32).toInt32) &&& (3 : Int32)), oR b28, oI (1 : Int32)] []))
                  refine Done.step (fun _ => XS.aload X63.here hx rfl (hb hby at_282) rfl rfl) ?_
                  show Done _ p e below s _ _ (T63.setTop (mkF m 284 #[oI xa, oI ya, oJ ta, .second, oJ tb, .second, oI sel, oI ca, oI ma, oI pa, oI cb, oI mb, oI pb, oJ ub, .second, oR b1, oI (((sel.toUInt32 >>> ((4 : Int32) &&& 31).toUInt32).toInt32) &&& (3 : Int32)), oR b28, oI (1 : Int32)] [(.ref b1)]))
                  refine Done.step (fun _ => XS.aload X63.here hx rfl (hb hby at_284) rfl rfl) ?_
                  show Done _ p e below s _ _ (T63.setTop (mkF m 286 #[oI xa, oI ya, oJ ta, .second, oJ tb, .second, oI sel, oI ca, oI ma, oI pa, oI cb, oI mb, oI pb, oJ ub, .second, oR b1, oI (((sel.toUInt32 >>> ((4 : Int32) &&& 31).toUInt32).toInt32) &&& (3 : Int32)), oR b28, oI (1 : Int32)] [(.ref b28), (.ref b1)]))
                  have hp65 : (ta = ub ∧ (own_str ca) = (own_str cb) ∧ (own_str ma) = (own_str mb) ∧ (own_str pa) = (own_str pb)) := ⟨hc55, ((own_ns _ _).mp hc58), ((own_ns _ _).mp hc61), ((own_ns _ _).mp hc64)⟩
                  have f66 := (((((f29.ext E28).keep K36q).keep K40q).keep K44q).keep K54q)
                  have f67 := ((((((((Fs1.keep K6q nin0).keep K9q nin0).keep K18q (ninS ne_sx1_b1 nin0)).ext E28).keep K36q nin0).keep K40q nin0).keep K44q nin0).keep K54q (ninS ne_sx1_b28 nin0))
                  have f68 := ((((((((Cs1.keep K6q nin0).keep K9q nin0).keep K18q (ninS ne_sx1_b1 nin0)).ext E28).keep K36q nin0).keep K40q nin0).keep K44q nin0).keep K54q (ninS ne_sx1_b28 nin0))
                  have f69 := (((((f30.ext E28).keep K36q nin0).keep K40q nin0).keep K44q nin0).keep K54q (ninS ne_sa1_b28 nin0))
                  have f70 := (((((f31.ext E28).keep K36q).keep K40q).keep K44q).keep K54q)
                  have f71 := (((((((Fs2.keep K9q nin0).keep K18q (ninS ne_sx2_b1 nin0)).ext E28).keep K36q nin0).keep K40q nin0).keep K44q nin0).keep K54q (ninS ne_sx2_b28 nin0))
                  have f72 := (((((((Cs2.keep K9q nin0).keep K18q (ninS ne_sx2_b1 nin0)).ext E28).keep K36q nin0).keep K40q nin0).keep K44q nin0).keep K54q (ninS ne_sx2_b28 nin0))
                  have f73 := (((((f32.ext E28).keep K36q nin0).keep K40q nin0).keep K44q nin0).keep K54q (ninS ne_sa2_b28 nin0))
                  have f74 := (((((f33.ext E28).keep K36q).keep K40q).keep K44q).keep K54q)
                  have f75 := ((((((Fs3.keep K18q (ninS ne_sx3_b1 nin0)).ext E28).keep K36q nin0).keep K40q nin0).keep K44q nin0).keep K54q (ninS ne_sx3_b28 nin0))
                  have f76 := ((((((Cs3.keep K18q (ninS ne_sx3_b1 nin0)).ext E28).keep K36q nin0).keep K40q nin0).keep K44q nin0).keep K54q (ninS ne_sx3_b28 nin0))
                  have f77 := (((((f34.ext E28).keep K36q nin0).keep K40q nin0).keep K44q nin0).keep K54q (ninS ne_sa3_b28 nin0))
                  have f78 := (f52.keep K54q)
                  have f79 := (((Fs4.keep K40q nin0).keep K44q nin0).keep K54q (ninS ne_sx4_b28 nin0))
                  have f80 := (((Cs4.keep K40q nin0).keep K44q nin0).keep K54q (ninS ne_sx4_b28 nin0))
                  have f81 := (((Ks4.keep K40q nin0).keep K44q nin0).keep K54q (ninS ne_sa4_b28 nin0))
                  have f82 := (f53.keep K54q)
                  have f83 := ((Fs5.keep K44q nin0).keep K54q (ninS ne_sx5_b28 nin0))
                  have f84 := ((Cs5.keep K44q nin0).keep K54q (ninS ne_sx5_b28 nin0))
                  have f85 := ((Ks5.keep K44q nin0).keep K54q (ninS ne_sa5_b28 nin0))
                  have f86 := (Es6.keep K54q)
                  have f87 := (Fs6.keep K54q (ninS ne_sx6_b28 nin0))
                  have f88 := (Cs6.keep K54q (ninS ne_sx6_b28 nin0))
                  have f89 := (Ks6.keep K54q (ninS ne_sa6_b28 nin0))
                  have f90 := (f51.keep K54q (allS n0_b28 all0))
                  have f91 := (f45.keep K54q)
                  have f92 := (((((Fic_b1.ext E28).keep K36q nin0).keep K40q nin0).keep K44q nin0).keep K54q (ninS ne_b1_b28 nin0))
                  have f93 := (((((Fit_b1.ext E28).keep K36q nin0).keep K40q nin0).keep K44q nin0).keep K54q (ninS ne_b1_b28 nin0))
                  have f94 := (((((Fim_b1.ext E28).keep K36q nin0).keep K40q nin0).keep K44q nin0).keep K54q (ninS ne_b1_b28 nin0))
                  have f95 := (((((Fip_b1.ext E28).keep K36q nin0).keep K40q nin0).keep K44q nin0).keep K54q (ninS ne_b1_b28 nin0))
                  refine Done.callVP X63 hx hZ (C := "com/example/wide_weir/wideweir/accesslog/AccessLogLine") hown (wAt hw 38 rfl) (wAt hw 39 rfl) (notFace_of_selects (args := #[]) (mvT hZ (wAt hw 41 rfl))) (wAt hw 41 rfl) (wAt hw 40 rfl) (wAt hw 2 rfl) (wAt hw 42 rfl) (by decide) (rE l Z a0 hw [] b1 b28 sx1 sa1 sk1 (own_str ca) sx2 sa2 sk2 (own_str ma) sx3 sa3 sk3 (own_str pa) sx4 sa4 sk4 (own_str cb) sx5 sa5 sk5 (own_str mb) sx6 sa6 sk6 (own_str pb) ta ub (1 : Int32) z T54.heap n0 Zs54 f90 SC hz ne_b1_b28 f91 f92 f93 f94 f95 Ei_b28 Fic_b28 Fit_b28 Fim_b28 Fip_b28 f66 f67 f68 f69 (own_strL ca) f70 f71 f72 f73 (own_strL ma) f74 f75 f76 f77 (own_strL pa) f78 f79 f80 f81 (own_strL cb) f82 f83 f84 f85 (own_strL mb) f86 f87 f88 f89 (own_strL pb) (bP_t hp65).symm) e63 f91 (g := (mkF m 286 #[oI xa, oI ya, oJ ta, .second, oJ tb, .second, oI sel, oI ca, oI ma, oI pa, oI cb, oI mb, oI pb, oJ ub, .second, oR b1, oI (((sel.toUInt32 >>> ((4 : Int32) &&& 31).toUInt32).toInt32) &&& (3 : Int32)), oR b28, oI (1 : Int32)] [(.ref b28), (.ref b1)])) rfl (by rw [hml]; rfl) [(.ref b28)] [] 0 (lenOf pd_6 rfl) rfl rfl (by show 2 * 0 + _ ≤ _; exact Nat.le_of_eq rfl) (hb hby at_286) (by decide) (by decide) (by decide) (by decide) rfl rfl ?_
                  intro T96 X96 e96
                  show Done _ p e below s _ _ (T96.setTop (mkF m 289 #[oI xa, oI ya, oJ ta, .second, oJ tb, .second, oI sel, oI ca, oI ma, oI pa, oI cb, oI mb, oI pb, oJ ub, .second, oR b1, oI (((sel.toUInt32 >>> ((4 : Int32) &&& 31).toUInt32).toInt32) &&& (3 : Int32)), oR b28, oI (1 : Int32)] [(.int (1 : Int32))]))
                  refine Done.step (fun _ => XS.iload X96.here hx rfl (hb hby at_289) rfl) ?_
                  show Done _ p e below s _ _ (T96.setTop (mkF m 291 #[oI xa, oI ya, oJ ta, .second, oJ tb, .second, oI sel, oI ca, oI ma, oI pa, oI cb, oI mb, oI pb, oJ ub, .second, oR b1, oI (((sel.toUInt32 >>> ((4 : Int32) &&& 31).toUInt32).toInt32) &&& (3 : Int32)), oR b28, oI (1 : Int32)] [(.int (1 : Int32)), (.int (1 : Int32))]))
                  refine Done.step (fun _ => XS.icmpNo X96.here hx rfl (hb hby at_291) rfl (XT.ii_ne_f rfl)) ?_
                  show Done _ p e below s _ _ (T96.setTop (mkF m 294 #[oI xa, oI ya, oJ ta, .second, oJ tb, .second, oI sel, oI ca, oI ma, oI pa, oI cb, oI mb, oI pb, oJ ub, .second, oR b1, oI (((sel.toUInt32 >>> ((4 : Int32) &&& 31).toUInt32).toInt32) &&& (3 : Int32)), oR b28, oI (1 : Int32)] []))
                  refine Done.step (fun _ => XS.aload X96.here hx rfl (hb hby at_294) rfl rfl) ?_
                  show Done _ p e below s _ _ (T96.setTop (mkF m 296 #[oI xa, oI ya, oJ ta, .second, oJ tb, .second, oI sel, oI ca, oI ma, oI pa, oI cb, oI mb, oI pb, oJ ub, .second, oR b1, oI (((sel.toUInt32 >>> ((4 : Int32) &&& 31).toUInt32).toInt32) &&& (3 : Int32)), oR b28, oI (1 : Int32)] [(.ref b28)]))
                  refine Done.step (fun _ => XS.aload X96.here hx rfl (hb hby at_296) rfl rfl) ?_
                  show Done _ p e below s _ _ (T96.setTop (mkF m 298 #[oI xa, oI ya, oJ ta, .second, oJ tb, .second, oI sel, oI ca, oI ma, oI pa, oI cb, oI mb, oI pb, oJ ub, .second, oR b1, oI (((sel.toUInt32 >>> ((4 : Int32) &&& 31).toUInt32).toInt32) &&& (3 : Int32)), oR b28, oI (1 : Int32)] [(.ref b1), (.ref b28)]))
                  have hp97 : (ub = ta ∧ (own_str cb) = (own_str ca) ∧ (own_str mb) = (own_str ma) ∧ (own_str pb) = (own_str pa)) := ⟨hc55.symm, ((own_ns _ _).mp hc58).symm, ((own_ns _ _).mp hc61).symm, ((own_ns _ _).mp hc64).symm⟩
                  refine Done.callVP X96 hx hZ (C := "com/example/wide_weir/wideweir/accesslog/AccessLogLine") hown (wAt hw 38 rfl) (wAt hw 39 rfl) (notFace_of_selects (args := #[]) (mvT hZ (wAt hw 41 rfl))) (wAt hw 41 rfl) (wAt hw 40 rfl) (wAt hw 2 rfl) (wAt hw 42 rfl) (by decide) (rE l Z a0 hw [] b28 b1 sx4 sa4 sk4 (own_str cb) sx5 sa5 sk5 (own_str mb) sx6 sa6 sk6 (own_str pb) sx1 sa1 sk1 (own_str ca) sx2 sa2 sk2 (own_str ma) sx3 sa3 sk3 (own_str pa) ub ta (1 : Int32) z T54.heap n0 Zs54 f90 SC hz (Ne.symm ne_b1_b28) Ei_b28 Fic_b28 Fit_b28 Fim_b28 Fip_b28 f91 f92 f93 f94 f95 f78 f79 f80 f81 (own_strL cb) f82 f83 f84 f85 (own_strL mb) f86 f87 f88 f89 (own_strL pb) f66 f67 f68 f69 (own_strL ca) f70 f71 f72 f73 (own_strL ma) f74 f75 f76 f77 (own_strL pa) (bP_t hp97).symm) e96 Ei_b28 (g := (mkF m 298 #[oI xa, oI ya, oJ ta, .second, oJ tb, .second, oI sel, oI ca, oI ma, oI pa, oI cb, oI mb, oI pb, oJ ub, .second, oR b1, oI (((sel.toUInt32 >>> ((4 : Int32) &&& 31).toUInt32).toInt32) &&& (3 : Int32)), oR b28, oI (1 : Int32)] [(.ref b1), (.ref b28)])) rfl (by rw [hml]; rfl) [(.ref b1)] [] 0 (lenOf pd_6 rfl) rfl rfl (by show 2 * 0 + _ ≤ _; exact Nat.le_of_eq rfl) (hb hby at_298) (by decide) (by decide) (by decide) (by decide) rfl rfl ?_
                  intro T98 X98 e98
                  show Done _ p e below s _ _ (T98.setTop (mkF m 301 #[oI xa, oI ya, oJ ta, .second, oJ tb, .second, oI sel, oI ca, oI ma, oI pa, oI cb, oI mb, oI pb, oJ ub, .second, oR b1, oI (((sel.toUInt32 >>> ((4 : Int32) &&& 31).toUInt32).toInt32) &&& (3 : Int32)), oR b28, oI (1 : Int32)] [(.int (1 : Int32))]))
                  refine Done.step (fun _ => XS.iload X98.here hx rfl (hb hby at_301) rfl) ?_
                  show Done _ p e below s _ _ (T98.setTop (mkF m 303 #[oI xa, oI ya, oJ ta, .second, oJ tb, .second, oI sel, oI ca, oI ma, oI pa, oI cb, oI mb, oI pb, oJ ub, .second, oR b1, oI (((sel.toUInt32 >>> ((4 : Int32) &&& 31).toUInt32).toInt32) &&& (3 : Int32)), oR b28, oI (1 : Int32)] [(.int (1 : Int32)), (.int (1 : Int32))]))
                  refine Done.step (fun _ => XS.icmpNo X98.here hx rfl (hb hby at_303) rfl (XT.ii_ne_f rfl)) ?_
                  show Done _ p e below s _ _ (T98.setTop (mkF m 306 #[oI xa, oI ya, oJ ta, .second, oJ tb, .second, oI sel, oI ca, oI ma, oI pa, oI cb, oI mb, oI pb, oJ ub, .second, oR b1, oI (((sel.toUInt32 >>> ((4 : Int32) &&& 31).toUInt32).toInt32) &&& (3 : Int32)), oR b28, oI (1 : Int32)] []))
                  refine Done.step (fun _ => XT.iconstV X98.here hx rfl (1 : Int32) (hb hby at_306) (by decide)) ?_
                  show Done _ p e below s _ _ (T98.setTop (mkF m 307 #[oI xa, oI ya, oJ ta, .second, oJ tb, .second, oI sel, oI ca, oI ma, oI pa, oI cb, oI mb, oI pb, oJ ub, .second, oR b1, oI (((sel.toUInt32 >>> ((4 : Int32) &&& 31).toUInt32).toInt32) &&& (3 : Int32)), oR b28, oI (1 : Int32)] [(.int (1 : Int32))]))
                  refine Done.step (fun _ => XS.goto X98.here hx rfl (pc0 := 307) (pc' := 311) rfl (hb hby at_307) (by decide) (by decide)) ?_
                  show Done _ p e below s _ _ (T98.setTop (mkF m 311 #[oI xa, oI ya, oJ ta, .second, oJ tb, .second, oI sel, oI ca, oI ma, oI pa, oI cb, oI mb, oI pb, oJ ub, .second, oR b1, oI (((sel.toUInt32 >>> ((4 : Int32) &&& 31).toUInt32).toInt32) &&& (3 : Int32)), oR b28, oI (1 : Int32)] [(.int (1 : Int32))]))
                  exact Done.retN (leavesW X98 hS (by first | exact hk | (rw [e98]; exact hk)) hlk (by decide) (by decide)) X98 hx (t := .boolean) hret (by simp) (hb hby at_311) ⟨rfl, N54⟩
                · refine Done.step (fun _ => XS.icmpYes X63.here hx rfl (pc0 := 272) (pc' := 279) rfl (hb hby at_272) rfl (XT.ii_ne_t hc64) (by decide) (by decide)) ?_
                  show Done _ p e below s _ _ (T63.setTop (mkF m 279 #[oI xa, oI ya, oJ ta, .second, oJ tb, .second, oI sel, oI ca, oI ma, oI pa, oI cb, oI mb, oI pb, oJ ub, .second, oR b1, oI (((sel.toUInt32 >>> ((4 : Int32) &&& 31).toUInt32).toInt32) &&& (3 : Int32)), oR b28, .unset] []))
                  refine Done.step (fun _ => XT.iconstV X63.here hx rfl (0 : Int32) (hb hby at_279) (by decide)) ?_
                  show Done _ p e below s _ _ (T63.setTop (mkF m 280 #[oI xa, oI ya, oJ ta, .second, oJ tb, .second, oI sel, oI ca, oI ma, oI pa, oI cb, oI mb, oI pb, oJ ub, .second, oR b1, oI (((sel.toUInt32 >>> ((4 : Int32) &&& 31).toUInt32).toInt32) &&& (3 : Int32)), oR b28, .unset] [(.int (0 : Int32))]))
                  refine Done.step (fun _ => XS.istore X63.here hx rfl (hb hby at_280) rfl (l' := #[oI xa, oI ya, oJ ta, .second, oJ tb, .second, oI sel, oI ca, oI ma, oI pa, oI cb, oI mb, oI pb, oJ ub, .second, oR b1, oI (((sel.toUInt32 >>> ((4 : Int32) &&& 31).toUInt32).toInt32) &&& (3 : Int32)), oR b28, oI (0 : Int32)]) rfl) ?_
                  show Done _ p e below s _ _ (T63.setTop (mkF m 282 #[oI xa, oI ya, oJ ta, .second, oJ tb, .second, oI sel, oI ca, oI ma, oI pa, oI cb, oI mb, oI pb, oJ ub, .second, oR b1, oI (((sel.toUInt32 >>> ((4 : Int32) &&& 31).toUInt32).toInt32) &&& (3 : Int32)), oR b28, oI (0 : Int32)] []))
                  refine Done.step (fun _ => XS.aload X63.here hx rfl (hb hby at_282) rfl rfl) ?_
                  show Done _ p e below s _ _ (T63.setTop (mkF m 284 #[oI xa, oI ya, oJ ta, .second, oJ tb, .second, oI sel, oI ca, oI ma, oI pa, oI cb, oI mb, oI pb, oJ ub, .second, oR b1, oI (((sel.toUInt32 >>> ((4 : Int32) &&& 31).toUInt32).toInt32) &&& (3 : Int32)), oR b28, oI (0 : Int32)] [(.ref b1)]))
                  refine Done.step (fun _ => XS.aload X63.here hx rfl (hb hby at_284) rfl rfl) ?_
                  show Done _ p e below s _ _ (T63.setTop (mkF m 286 #[oI xa, oI ya, oJ ta, .second, oJ tb, .second, oI sel, oI ca, oI ma, oI pa, oI cb, oI mb, oI pb, oJ ub, .second, oR b1, oI (((sel.toUInt32 >>> ((4 : Int32) &&& 31).toUInt32).toInt32) &&& (3 : Int32)), oR b28, oI (0 : Int32)] [(.ref b28), (.ref b1)]))
                  have hp99 : ¬ (ta = ub ∧ (own_str ca) = (own_str cb) ∧ (own_str ma) = (own_str mb) ∧ (own_str pa) = (own_str pb)) := (fun q => hc64 ((own_ns _ _).mpr q.2.2.2))
                  have f100 := (((((f29.ext E28).keep K36q).keep K40q).keep K44q).keep K54q)
                  have f101 := ((((((((Fs1.keep K6q nin0).keep K9q nin0).keep K18q (ninS ne_sx1_b1 nin0)).ext E28).keep K36q nin0).keep K40q nin0).keep K44q nin0).keep K54q (ninS ne_sx1_b28 nin0))
                  have f102 := ((((((((Cs1.keep K6q nin0).keep K9q nin0).keep K18q (ninS ne_sx1_b1 nin0)).ext E28).keep K36q nin0).keep K40q nin0).keep K44q nin0).keep K54q (ninS ne_sx1_b28 nin0))
                  have f103 := (((((f30.ext E28).keep K36q nin0).keep K40q nin0).keep K44q nin0).keep K54q (ninS ne_sa1_b28 nin0))
                  have f104 := (((((f31.ext E28).keep K36q).keep K40q).keep K44q).keep K54q)
                  have f105 := (((((((Fs2.keep K9q nin0).keep K18q (ninS ne_sx2_b1 nin0)).ext E28).keep K36q nin0).keep K40q nin0).keep K44q nin0).keep K54q (ninS ne_sx2_b28 nin0))
                  have f106 := (((((((Cs2.keep K9q nin0).keep K18q (ninS ne_sx2_b1 nin0)).ext E28).keep K36q nin0).keep K40q nin0).keep K44q nin0).keep K54q (ninS ne_sx2_b28 nin0))
                  have f107 := (((((f32.ext E28).keep K36q nin0).keep K40q nin0).keep K44q nin0).keep K54q (ninS ne_sa2_b28 nin0))
                  have f108 := (((((f33.ext E28).keep K36q).keep K40q).keep K44q).keep K54q)
                  have f109 := ((((((Fs3.keep K18q (ninS ne_sx3_b1 nin0)).ext E28).keep K36q nin0).keep K40q nin0).keep K44q nin0).keep K54q (ninS ne_sx3_b28 nin0))
                  have f110 := ((((((Cs3.keep K18q (ninS ne_sx3_b1 nin0)).ext E28).keep K36q nin0).keep K40q nin0).keep K44q nin0).keep K54q (ninS ne_sx3_b28 nin0))
                  have f111 := (((((f34.ext E28).keep K36q nin0).keep K40q nin0).keep K44q nin0).keep K54q (ninS ne_sa3_b28 nin0))
                  have f112 := (f52.keep K54q)
                  have f113 := (((Fs4.keep K40q nin0).keep K44q nin0).keep K54q (ninS ne_sx4_b28 nin0))
                  have f114 := (((Cs4.keep K40q nin0).keep K44q nin0).keep K54q (ninS ne_sx4_b28 nin0))
                  have f115 := (((Ks4.keep K40q nin0).keep K44q nin0).keep K54q (ninS ne_sa4_b28 nin0))
                  have f116 := (f53.keep K54q)
                  have f117 := ((Fs5.keep K44q nin0).keep K54q (ninS ne_sx5_b28 nin0))
                  have f118 := ((Cs5.keep K44q nin0).keep K54q (ninS ne_sx5_b28 nin0))
                  have f119 := ((Ks5.keep K44q nin0).keep K54q (ninS ne_sa5_b28 nin0))
                  have f120 := (Es6.keep K54q)
                  have f121 := (Fs6.keep K54q (ninS ne_sx6_b28 nin0))
                  have f122 := (Cs6.keep K54q (ninS ne_sx6_b28 nin0))
                  have f123 := (Ks6.keep K54q (ninS ne_sa6_b28 nin0))
                  have f124 := (f51.keep K54q (allS n0_b28 all0))
                  have f125 := (f45.keep K54q)
                  have f126 := (((((Fic_b1.ext E28).keep K36q nin0).keep K40q nin0).keep K44q nin0).keep K54q (ninS ne_b1_b28 nin0))
                  have f127 := (((((Fit_b1.ext E28).keep K36q nin0).keep K40q nin0).keep K44q nin0).keep K54q (ninS ne_b1_b28 nin0))
                  have f128 := (((((Fim_b1.ext E28).keep K36q nin0).keep K40q nin0).keep K44q nin0).keep K54q (ninS ne_b1_b28 nin0))
                  have f129 := (((((Fip_b1.ext E28).keep K36q nin0).keep K40q nin0).keep K44q nin0).keep K54q (ninS ne_b1_b28 nin0))
                  refine Done.callVP X63 hx hZ (C := "com/example/wide_weir/wideweir/accesslog/AccessLogLine") hown (wAt hw 38 rfl) (wAt hw 39 rfl) (notFace_of_selects (args := #[]) (mvT hZ (wAt hw 41 rfl))) (wAt hw 41 rfl) (wAt hw 40 rfl) (wAt hw 2 rfl) (wAt hw 42 rfl) (by decide) (rE l Z a0 hw [] b1 b28 sx1 sa1 sk1 (own_str ca) sx2 sa2 sk2 (own_str ma) sx3 sa3 sk3 (own_str pa) sx4 sa4 sk4 (own_str cb) sx5 sa5 sk5 (own_str mb) sx6 sa6 sk6 (own_str pb) ta ub (0 : Int32) z T54.heap n0 Zs54 f124 SC hz ne_b1_b28 f125 f126 f127 f128 f129 Ei_b28 Fic_b28 Fit_b28 Fim_b28 Fip_b28 f100 f101 f102 f103 (own_strL ca) f104 f105 f106 f107 (own_strL ma) f108 f109 f110 f111 (own_strL pa) f112 f113 f114 f115 (own_strL cb) f116 f117 f118 f119 (own_strL mb) f120 f121 f122 f123 (own_strL pb) (bP_f hp99).symm) e63 f125 (g := (mkF m 286 #[oI xa, oI ya, oJ ta, .second, oJ tb, .second, oI sel, oI ca, oI ma, oI pa, oI cb, oI mb, oI pb, oJ ub, .second, oR b1, oI (((sel.toUInt32 >>> ((4 : Int32) &&& 31).toUInt32).toInt32) &&& (3 : Int32)), oR b28, oI (0 : Int32)] [(.ref b28), (.ref b1)])) rfl (by rw [hml]; rfl) [(.ref b28)] [] 0 (lenOf pd_6 rfl) rfl rfl (by show 2 * 0 + _ ≤ _; exact Nat.le_of_eq rfl) (hb hby at_286) (by decide) (by decide) (by decide) (by decide) rfl rfl ?_
                  intro T130 X130 e130
                  show Done _ p e below s _ _ (T130.setTop (mkF m 289 #[oI xa, oI ya, oJ ta, .second, oJ tb, .second, oI sel, oI ca, oI ma, oI pa, oI cb, oI mb, oI pb, oJ ub, .second, oR b1, oI (((sel.toUInt32 >>> ((4 : Int32) &&& 31).toUInt32).toInt32) &&& (3 : Int32)), oR b28, oI (0 : Int32)] [(.int (0 : Int32))]))
                  refine Done.step (fun _ => XS.iload X130.here hx rfl (hb hby at_289) rfl) ?_
                  show Done _ p e below s _ _ (T130.setTop (mkF m 291 #[oI xa, oI ya, oJ ta, .second, oJ tb, .second, oI sel, oI ca, oI ma, oI pa, oI cb, oI mb, oI pb, oJ ub, .second, oR b1, oI (((sel.toUInt32 >>> ((4 : Int32) &&& 31).toUInt32).toInt32) &&& (3 : Int32)), oR b28, oI (0 : Int32)] [(.int (0 : Int32)), (.int (0 : Int32))]))
                  refine Done.step (fun _ => XS.icmpNo X130.here hx rfl (hb hby at_291) rfl (XT.ii_ne_f rfl)) ?_
                  show Done _ p e below s _ _ (T130.setTop (mkF m 294 #[oI xa, oI ya, oJ ta, .second, oJ tb, .second, oI sel, oI ca, oI ma, oI pa, oI cb, oI mb, oI pb, oJ ub, .second, oR b1, oI (((sel.toUInt32 >>> ((4 : Int32) &&& 31).toUInt32).toInt32) &&& (3 : Int32)), oR b28, oI (0 : Int32)] []))
                  refine Done.step (fun _ => XS.aload X130.here hx rfl (hb hby at_294) rfl rfl) ?_
                  show Done _ p e below s _ _ (T130.setTop (mkF m 296 #[oI xa, oI ya, oJ ta, .second, oJ tb, .second, oI sel, oI ca, oI ma, oI pa, oI cb, oI mb, oI pb, oJ ub, .second, oR b1, oI (((sel.toUInt32 >>> ((4 : Int32) &&& 31).toUInt32).toInt32) &&& (3 : Int32)), oR b28, oI (0 : Int32)] [(.ref b28)]))
                  refine Done.step (fun _ => XS.aload X130.here hx rfl (hb hby at_296) rfl rfl) ?_
                  show Done _ p e below s _ _ (T130.setTop (mkF m 298 #[oI xa, oI ya, oJ ta, .second, oJ tb, .second, oI sel, oI ca, oI ma, oI pa, oI cb, oI mb, oI pb, oJ ub, .second, oR b1, oI (((sel.toUInt32 >>> ((4 : Int32) &&& 31).toUInt32).toInt32) &&& (3 : Int32)), oR b28, oI (0 : Int32)] [(.ref b1), (.ref b28)]))
                  have hp131 : ¬ (ub = ta ∧ (own_str cb) = (own_str ca) ∧ (own_str mb) = (own_str ma) ∧ (own_str pb) = (own_str pa)) := (fun q => hc64 ((own_ns _ _).mpr (q.2.2.2.symm)))
                  refine Done.callVP X130 hx hZ (C := "com/example/wide_weir/wideweir/accesslog/AccessLogLine") hown (wAt hw 38 rfl) (wAt hw 39 rfl) (notFace_of_selects (args := #[]) (mvT hZ (wAt hw 41 rfl))) (wAt hw 41 rfl) (wAt hw 40 rfl) (wAt hw 2 rfl) (wAt hw 42 rfl) (by decide) (rE l Z a0 hw [] b28 b1 sx4 sa4 sk4 (own_str cb) sx5 sa5 sk5 (own_str mb) sx6 sa6 sk6 (own_str pb) sx1 sa1 sk1 (own_str ca) sx2 sa2 sk2 (own_str ma) sx3 sa3 sk3 (own_str pa) ub ta (0 : Int32) z T54.heap n0 Zs54 f124 SC hz (Ne.symm ne_b1_b28) Ei_b28 Fic_b28 Fit_b28 Fim_b28 Fip_b28 f125 f126 f127 f128 f129 f112 f113 f114 f115 (own_strL cb) f116 f117 f118 f119 (own_strL mb) f120 f121 f122 f123 (own_strL pb) f100 f101 f102 f103 (own_strL ca) f104 f105 f106 f107 (own_strL ma) f108 f109 f110 f111 (own_strL pa) (bP_f hp131).symm) e130 Ei_b28 (g := (mkF m 298 #[oI xa, oI ya, oJ ta, .second, oJ tb, .second, oI sel, oI ca, oI ma, oI pa, oI cb, oI mb, oI pb, oJ ub, .second, oR b1, oI (((sel.toUInt32 >>> ((4 : Int32) &&& 31).toUInt32).toInt32) &&& (3 : Int32)), oR b28, oI (0 : Int32)] [(.ref b1), (.ref b28)])) rfl (by rw [hml]; rfl) [(.ref b1)] [] 0 (lenOf pd_6 rfl) rfl rfl (by show 2 * 0 + _ ≤ _; exact Nat.le_of_eq rfl) (hb hby at_298) (by decide) (by decide) (by decide) (by decide) rfl rfl ?_
                  intro T132 X132 e132
                  show Done _ p e below s _ _ (T132.setTop (mkF m 301 #[oI xa, oI ya, oJ ta, .second, oJ tb, .second, oI sel, oI ca, oI ma, oI pa, oI cb, oI mb, oI pb, oJ ub, .second, oR b1, oI (((sel.toUInt32 >>> ((4 : Int32) &&& 31).toUInt32).toInt32) &&& (3 : Int32)), oR b28, oI (0 : Int32)] [(.int (0 : Int32))]))
                  refine Done.step (fun _ => XS.iload X132.here hx rfl (hb hby at_301) rfl) ?_
                  show Done _ p e below s _ _ (T132.setTop (mkF m 303 #[oI xa, oI ya, oJ ta, .second, oJ tb, .second, oI sel, oI ca, oI ma, oI pa, oI cb, oI mb, oI pb, oJ ub, .second, oR b1, oI (((sel.toUInt32 >>> ((4 : Int32) &&& 31).toUInt32).toInt32) &&& (3 : Int32)), oR b28, oI (0 : Int32)] [(.int (0 : Int32)), (.int (0 : Int32))]))
                  refine Done.step (fun _ => XS.icmpNo X132.here hx rfl (hb hby at_303) rfl (XT.ii_ne_f rfl)) ?_
                  show Done _ p e below s _ _ (T132.setTop (mkF m 306 #[oI xa, oI ya, oJ ta, .second, oJ tb, .second, oI sel, oI ca, oI ma, oI pa, oI cb, oI mb, oI pb, oJ ub, .second, oR b1, oI (((sel.toUInt32 >>> ((4 : Int32) &&& 31).toUInt32).toInt32) &&& (3 : Int32)), oR b28, oI (0 : Int32)] []))
                  refine Done.step (fun _ => XT.iconstV X132.here hx rfl (1 : Int32) (hb hby at_306) (by decide)) ?_
                  show Done _ p e below s _ _ (T132.setTop (mkF m 307 #[oI xa, oI ya, oJ ta, .second, oJ tb, .second, oI sel, oI ca, oI ma, oI pa, oI cb, oI mb, oI pb, oJ ub, .second, oR b1, oI (((sel.toUInt32 >>> ((4 : Int32) &&& 31).toUInt32).toInt32) &&& (3 : Int32)), oR b28, oI (0 : Int32)] [(.int (1 : Int32))]))
                  refine Done.step (fun _ => XS.goto X132.here hx rfl (pc0 := 307) (pc' := 311) rfl (hb hby at_307) (by decide) (by decide)) ?_
                  show Done _ p e below s _ _ (T132.setTop (mkF m 311 #[oI xa, oI ya, oJ ta, .second, oJ tb, .second, oI sel, oI ca, oI ma, oI pa, oI cb, oI mb, oI pb, oJ ub, .second, oR b1, oI (((sel.toUInt32 >>> ((4 : Int32) &&& 31).toUInt32).toInt32) &&& (3 : Int32)), oR b28, oI (0 : Int32)] [(.int (1 : Int32))]))
                  exact Done.retN (leavesW X132 hS (by first | exact hk | (rw [e132]; exact hk)) hlk (by decide) (by decide)) X132 hx (t := .boolean) hret (by simp) (hb hby at_311) ⟨rfl, N54⟩
              · refine Done.step (fun _ => XS.icmpYes X60.here hx rfl (pc0 := 259) (pc' := 279) rfl (hb hby at_259) rfl (XT.ii_ne_t hc61) (by decide) (by decide)) ?_
                show Done _ p e below s _ _ (T60.setTop (mkF m 279 #[oI xa, oI ya, oJ ta, .second, oJ tb, .second, oI sel, oI ca, oI ma, oI pa, oI cb, oI mb, oI pb, oJ ub, .second, oR b1, oI (((sel.toUInt32 >>> ((4 : Int32) &&& 31).toUInt32).toInt32) &&& (3 : Int32)), oR b28, .unset] []))
                refine Done.step (fun _ => XT.iconstV X60.here hx rfl (0 : Int32) (hb hby at_279) (by decide)) ?_
                show Done _ p e below s _ _ (T60.setTop (mkF m 280 #[oI xa, oI ya, oJ ta, .second, oJ tb, .second, oI sel, oI ca, oI ma, oI pa, oI cb, oI mb, oI pb, oJ ub, .second, oR b1, oI (((sel.toUInt32 >>> ((4 : Int32) &&& 31).toUInt32).toInt32) &&& (3 : Int32)), oR b28, .unset] [(.int (0 : Int32))]))
                refine Done.step (fun _ => XS.istore X60.here hx rfl (hb hby at_280) rfl (l' := #[oI xa, oI ya, oJ ta, .second, oJ tb, .second, oI sel, oI ca, oI ma, oI pa, oI cb, oI mb, oI pb, oJ ub, .second, oR b1, oI (((sel.toUInt32 >>> ((4 : Int32) &&& 31).toUInt32).toInt32) &&& (3 : Int32)), oR b28, oI (0 : Int32)]) rfl) ?_
                show Done _ p e below s _ _ (T60.setTop (mkF m 282 #[oI xa, oI ya, oJ ta, .second, oJ tb, .second, oI sel, oI ca, oI ma, oI pa, oI cb, oI mb, oI pb, oJ ub, .second, oR b1, oI (((sel.toUInt32 >>> ((4 : Int32) &&& 31).toUInt32).toInt32) &&& (3 : Int32)), oR b28, oI (0 : Int32)] []))
                refine Done.step (fun _ => XS.aload X60.here hx rfl (hb hby at_282) rfl rfl) ?_
                show Done _ p e below s _ _ (T60.setTop (mkF m 284 #[oI xa, oI ya, oJ ta, .second, oJ tb, .second, oI sel, oI ca, oI ma, oI pa, oI cb, oI mb, oI pb, oJ ub, .second, oR b1, oI (((sel.toUInt32 >>> ((4 : Int32) &&& 31).toUInt32).toInt32) &&& (3 : Int32)), oR b28, oI (0 : Int32)] [(.ref b1)]))
                refine Done.step (fun _ => XS.aload X60.here hx rfl (hb hby at_284) rfl rfl) ?_
                show Done _ p e below s _ _ (T60.setTop (mkF m 286 #[oI xa, oI ya, oJ ta, .second, oJ tb, .second, oI sel, oI ca, oI ma, oI pa, oI cb, oI mb, oI pb, oJ ub, .second, oR b1, oI (((sel.toUInt32 >>> ((4 : Int32) &&& 31).toUInt32).toInt32) &&& (3 : Int32)), oR b28, oI (0 : Int32)] [(.ref b28), (.ref b1)]))
                have hp133 : ¬ (ta = ub ∧ (own_str ca) = (own_str cb) ∧ (own_str ma) = (own_str mb) ∧ (own_str pa) = (own_str pb)) := (fun q => hc61 ((own_ns _ _).mpr q.2.2.1))
                have f134 := (((((f29.ext E28).keep K36q).keep K40q).keep K44q).keep K54q)
                have f135 := ((((((((Fs1.keep K6q nin0).keep K9q nin0).keep K18q (ninS ne_sx1_b1 nin0)).ext E28).keep K36q nin0).keep K40q nin0).keep K44q nin0).keep K54q (ninS ne_sx1_b28 nin0))
                have f136 := ((((((((Cs1.keep K6q nin0).keep K9q nin0).keep K18q (ninS ne_sx1_b1 nin0)).ext E28).keep K36q nin0).keep K40q nin0).keep K44q nin0).keep K54q (ninS ne_sx1_b28 nin0))
                have f137 := (((((f30.ext E28).keep K36q nin0).keep K40q nin0).keep K44q nin0).keep K54q (ninS ne_sa1_b28 nin0))
                have f138 := (((((f31.ext E28).keep K36q).keep K40q).keep K44q).keep K54q)
                have f139 := (((((((Fs2.keep K9q nin0).keep K18q (ninS ne_sx2_b1 nin0)).ext E28).keep K36q nin0).keep K40q nin0).keep K44q nin0).keep K54q (ninS ne_sx2_b28 nin0))
                have f140 := (((((((Cs2.keep K9q nin0).keep K18q (ninS ne_sx2_b1 nin0)).ext E28).keep K36q nin0).keep K40q nin0).keep K44q nin0).keep K54q (ninS ne_sx2_b28 nin0))
                have f141 := (((((f32.ext E28).keep K36q nin0).keep K40q nin0).keep K44q nin0).keep K54q (ninS ne_sa2_b28 nin0))
                have f142 := (((((f33.ext E28).keep K36q).keep K40q).keep K44q).keep K54q)
                have f143 := ((((((Fs3.keep K18q (ninS ne_sx3_b1 nin0)).ext E28).keep K36q nin0).keep K40q nin0).keep K44q nin0).keep K54q (ninS ne_sx3_b28 nin0))
                have f144 := ((((((Cs3.keep K18q (ninS ne_sx3_b1 nin0)).ext E28).keep K36q nin0).keep K40q nin0).keep K44q nin0).keep K54q (ninS ne_sx3_b28 nin0))
                have f145 := (((((f34.ext E28).keep K36q nin0).keep K40q nin0).keep K44q nin0).keep K54q (ninS ne_sa3_b28 nin0))
                have f146 := (f52.keep K54q)
                have f147 := (((Fs4.keep K40q nin0).keep K44q nin0).keep K54q (ninS ne_sx4_b28 nin0))
                have f148 := (((Cs4.keep K40q nin0).keep K44q nin0).keep K54q (ninS ne_sx4_b28 nin0))
                have f149 := (((Ks4.keep K40q nin0).keep K44q nin0).keep K54q (ninS ne_sa4_b28 nin0))
                have f150 := (f53.keep K54q)
                have f151 := ((Fs5.keep K44q nin0).keep K54q (ninS ne_sx5_b28 nin0))
                have f152 := ((Cs5.keep K44q nin0).keep K54q (ninS ne_sx5_b28 nin0))
                have f153 := ((Ks5.keep K44q nin0).keep K54q (ninS ne_sa5_b28 nin0))
                have f154 := (Es6.keep K54q)
                have f155 := (Fs6.keep K54q (ninS ne_sx6_b28 nin0))
                have f156 := (Cs6.keep K54q (ninS ne_sx6_b28 nin0))
                have f157 := (Ks6.keep K54q (ninS ne_sa6_b28 nin0))
                have f158 := (f51.keep K54q (allS n0_b28 all0))
                have f159 := (f45.keep K54q)
                have f160 := (((((Fic_b1.ext E28).keep K36q nin0).keep K40q nin0).keep K44q nin0).keep K54q (ninS ne_b1_b28 nin0))
                have f161 := (((((Fit_b1.ext E28).keep K36q nin0).keep K40q nin0).keep K44q nin0).keep K54q (ninS ne_b1_b28 nin0))
                have f162 := (((((Fim_b1.ext E28).keep K36q nin0).keep K40q nin0).keep K44q nin0).keep K54q (ninS ne_b1_b28 nin0))
                have f163 := (((((Fip_b1.ext E28).keep K36q nin0).keep K40q nin0).keep K44q nin0).keep K54q (ninS ne_b1_b28 nin0))
                refine Done.callVP X60 hx hZ (C := "com/example/wide_weir/wideweir/accesslog/AccessLogLine") hown (wAt hw 38 rfl) (wAt hw 39 rfl) (notFace_of_selects (args := #[]) (mvT hZ (wAt hw 41 rfl))) (wAt hw 41 rfl) (wAt hw 40 rfl) (wAt hw 2 rfl) (wAt hw 42 rfl) (by decide) (rE l Z a0 hw [] b1 b28 sx1 sa1 sk1 (own_str ca) sx2 sa2 sk2 (own_str ma) sx3 sa3 sk3 (own_str pa) sx4 sa4 sk4 (own_str cb) sx5 sa5 sk5 (own_str mb) sx6 sa6 sk6 (own_str pb) ta ub (0 : Int32) z T54.heap n0 Zs54 f158 SC hz ne_b1_b28 f159 f160 f161 f162 f163 Ei_b28 Fic_b28 Fit_b28 Fim_b28 Fip_b28 f134 f135 f136 f137 (own_strL ca) f138 f139 f140 f141 (own_strL ma) f142 f143 f144 f145 (own_strL pa) f146 f147 f148 f149 (own_strL cb) f150 f151 f152 f153 (own_strL mb) f154 f155 f156 f157 (own_strL pb) (bP_f hp133).symm) e60 f159 (g := (mkF m 286 #[oI xa, oI ya, oJ ta, .second, oJ tb, .second, oI sel, oI ca, oI ma, oI pa, oI cb, oI mb, oI pb, oJ ub, .second, oR b1, oI (((sel.toUInt32 >>> ((4 : Int32) &&& 31).toUInt32).toInt32) &&& (3 : Int32)), oR b28, oI (0 : Int32)] [(.ref b28), (.ref b1)])) rfl (by rw [hml]; rfl) [(.ref b28)] [] 0 (lenOf pd_6 rfl) rfl rfl (by show 2 * 0 + _ ≤ _; exact Nat.le_of_eq rfl) (hb hby at_286) (by decide) (by decide) (by decide) (by decide) rfl rfl ?_
                intro T164 X164 e164
                show Done _ p e below s _ _ (T164.setTop (mkF m 289 #[oI xa, oI ya, oJ ta, .second, oJ tb, .second, oI sel, oI ca, oI ma, oI pa, oI cb, oI mb, oI pb, oJ ub, .second, oR b1, oI (((sel.toUInt32 >>> ((4 : Int32) &&& 31).toUInt32).toInt32) &&& (3 : Int32)), oR b28, oI (0 : Int32)] [(.int (0 : Int32))]))
                refine Done.step (fun _ => XS.iload X164.here hx rfl (hb hby at_289) rfl) ?_
                show Done _ p e below s _ _ (T164.setTop (mkF m 291 #[oI xa, oI ya, oJ ta, .second, oJ tb, .second, oI sel, oI ca, oI ma, oI pa, oI cb, oI mb, oI pb, oJ ub, .second, oR b1, oI (((sel.toUInt32 >>> ((4 : Int32) &&& 31).toUInt32).toInt32) &&& (3 : Int32)), oR b28, oI (0 : Int32)] [(.int (0 : Int32)), (.int (0 : Int32))]))
                refine Done.step (fun _ => XS.icmpNo X164.here hx rfl (hb hby at_291) rfl (XT.ii_ne_f rfl)) ?_
                show Done _ p e below s _ _ (T164.setTop (mkF m 294 #[oI xa, oI ya, oJ ta, .second, oJ tb, .second, oI sel, oI ca, oI ma, oI pa, oI cb, oI mb, oI pb, oJ ub, .second, oR b1, oI (((sel.toUInt32 >>> ((4 : Int32) &&& 31).toUInt32).toInt32) &&& (3 : Int32)), oR b28, oI (0 : Int32)] []))
                refine Done.step (fun _ => XS.aload X164.here hx rfl (hb hby at_294) rfl rfl) ?_
                show Done _ p e below s _ _ (T164.setTop (mkF m 296 #[oI xa, oI ya, oJ ta, .second, oJ tb, .second, oI sel, oI ca, oI ma, oI pa, oI cb, oI mb, oI pb, oJ ub, .second, oR b1, oI (((sel.toUInt32 >>> ((4 : Int32) &&& 31).toUInt32).toInt32) &&& (3 : Int32)), oR b28, oI (0 : Int32)] [(.ref b28)]))
                refine Done.step (fun _ => XS.aload X164.here hx rfl (hb hby at_296) rfl rfl) ?_
                show Done _ p e below s _ _ (T164.setTop (mkF m 298 #[oI xa, oI ya, oJ ta, .second, oJ tb, .second, oI sel, oI ca, oI ma, oI pa, oI cb, oI mb, oI pb, oJ ub, .second, oR b1, oI (((sel.toUInt32 >>> ((4 : Int32) &&& 31).toUInt32).toInt32) &&& (3 : Int32)), oR b28, oI (0 : Int32)] [(.ref b1), (.ref b28)]))
                have hp165 : ¬ (ub = ta ∧ (own_str cb) = (own_str ca) ∧ (own_str mb) = (own_str ma) ∧ (own_str pb) = (own_str pa)) := (fun q => hc61 ((own_ns _ _).mpr (q.2.2.1.symm)))
                refine Done.callVP X164 hx hZ (C := "com/example/wide_weir/wideweir/accesslog/AccessLogLine") hown (wAt hw 38 rfl) (wAt hw 39 rfl) (notFace_of_selects (args := #[]) (mvT hZ (wAt hw 41 rfl))) (wAt hw 41 rfl) (wAt hw 40 rfl) (wAt hw 2 rfl) (wAt hw 42 rfl) (by decide) (rE l Z a0 hw [] b28 b1 sx4 sa4 sk4 (own_str cb) sx5 sa5 sk5 (own_str mb) sx6 sa6 sk6 (own_str pb) sx1 sa1 sk1 (own_str ca) sx2 sa2 sk2 (own_str ma) sx3 sa3 sk3 (own_str pa) ub ta (0 : Int32) z T54.heap n0 Zs54 f158 SC hz (Ne.symm ne_b1_b28) Ei_b28 Fic_b28 Fit_b28 Fim_b28 Fip_b28 f159 f160 f161 f162 f163 f146 f147 f148 f149 (own_strL cb) f150 f151 f152 f153 (own_strL mb) f154 f155 f156 f157 (own_strL pb) f134 f135 f136 f137 (own_strL ca) f138 f139 f140 f141 (own_strL ma) f142 f143 f144 f145 (own_strL pa) (bP_f hp165).symm) e164 Ei_b28 (g := (mkF m 298 #[oI xa, oI ya, oJ ta, .second, oJ tb, .second, oI sel, oI ca, oI ma, oI pa, oI cb, oI mb, oI pb, oJ ub, .second, oR b1, oI (((sel.toUInt32 >>> ((4 : Int32) &&& 31).toUInt32).toInt32) &&& (3 : Int32)), oR b28, oI (0 : Int32)] [(.ref b1), (.ref b28)])) rfl (by rw [hml]; rfl) [(.ref b1)] [] 0 (lenOf pd_6 rfl) rfl rfl (by show 2 * 0 + _ ≤ _; exact Nat.le_of_eq rfl) (hb hby at_298) (by decide) (by decide) (by decide) (by decide) rfl rfl ?_
                intro T166 X166 e166
                show Done _ p e below s _ _ (T166.setTop (mkF m 301 #[oI xa, oI ya, oJ ta, .second, oJ tb, .second, oI sel, oI ca, oI ma, oI pa, oI cb, oI mb, oI pb, oJ ub, .second, oR b1, oI (((sel.toUInt32 >>> ((4 : Int32) &&& 31).toUInt32).toInt32) &&& (3 : Int32)), oR b28, oI (0 : Int32)] [(.int (0 : Int32))]))
                refine Done.step (fun _ => XS.iload X166.here hx rfl (hb hby at_301) rfl) ?_
                show Done _ p e below s _ _ (T166.setTop (mkF m 303 #[oI xa, oI ya, oJ ta, .second, oJ tb, .second, oI sel, oI ca, oI ma, oI pa, oI cb, oI mb, oI pb, oJ ub, .second, oR b1, oI (((sel.toUInt32 >>> ((4 : Int32) &&& 31).toUInt32).toInt32) &&& (3 : Int32)), oR b28, oI (0 : Int32)] [(.int (0 : Int32)), (.int (0 : Int32))]))
                refine Done.step (fun _ => XS.icmpNo X166.here hx rfl (hb hby at_303) rfl (XT.ii_ne_f rfl)) ?_
                show Done _ p e below s _ _ (T166.setTop (mkF m 306 #[oI xa, oI ya, oJ ta, .second, oJ tb, .second, oI sel, oI ca, oI ma, oI pa, oI cb, oI mb, oI pb, oJ ub, .second, oR b1, oI (((sel.toUInt32 >>> ((4 : Int32) &&& 31).toUInt32).toInt32) &&& (3 : Int32)), oR b28, oI (0 : Int32)] []))
                refine Done.step (fun _ => XT.iconstV X166.here hx rfl (1 : Int32) (hb hby at_306) (by decide)) ?_
                show Done _ p e below s _ _ (T166.setTop (mkF m 307 #[oI xa, oI ya, oJ ta, .second, oJ tb, .second, oI sel, oI ca, oI ma, oI pa, oI cb, oI mb, oI pb, oJ ub, .second, oR b1, oI (((sel.toUInt32 >>> ((4 : Int32) &&& 31).toUInt32).toInt32) &&& (3 : Int32)), oR b28, oI (0 : Int32)] [(.int (1 : Int32))]))
                refine Done.step (fun _ => XS.goto X166.here hx rfl (pc0 := 307) (pc' := 311) rfl (hb hby at_307) (by decide) (by decide)) ?_
                show Done _ p e below s _ _ (T166.setTop (mkF m 311 #[oI xa, oI ya, oJ ta, .second, oJ tb, .second, oI sel, oI ca, oI ma, oI pa, oI cb, oI mb, oI pb, oJ ub, .second, oR b1, oI (((sel.toUInt32 >>> ((4 : Int32) &&& 31).toUInt32).toInt32) &&& (3 : Int32)), oR b28, oI (0 : Int32)] [(.int (1 : Int32))]))
                exact Done.retN (leavesW X166 hS (by first | exact hk | (rw [e166]; exact hk)) hlk (by decide) (by decide)) X166 hx (t := .boolean) hret (by simp) (hb hby at_311) ⟨rfl, N54⟩
            · refine Done.step (fun _ => XS.icmpYes X57.here hx rfl (pc0 := 246) (pc' := 279) rfl (hb hby at_246) rfl (XT.ii_ne_t hc58) (by decide) (by decide)) ?_
              show Done _ p e below s _ _ (T57.setTop (mkF m 279 #[oI xa, oI ya, oJ ta, .second, oJ tb, .second, oI sel, oI ca, oI ma, oI pa, oI cb, oI mb, oI pb, oJ ub, .second, oR b1, oI (((sel.toUInt32 >>> ((4 : Int32) &&& 31).toUInt32).toInt32) &&& (3 : Int32)), oR b28, .unset] []))
              refine Done.step (fun _ => XT.iconstV X57.here hx rfl (0 : Int32) (hb hby at_279) (by decide)) ?_
              show Done _ p e below s _ _ (T57.setTop (mkF m 280 #[oI xa, oI ya, oJ ta, .second, oJ tb, .second, oI sel, oI ca, oI ma, oI pa, oI cb, oI mb, oI pb, oJ ub, .second, oR b1, oI (((sel.toUInt32 >>> ((4 : Int32) &&& 31).toUInt32).toInt32) &&& (3 : Int32)), oR b28, .unset] [(.int (0 : Int32))]))
              refine Done.step (fun _ => XS.istore X57.here hx rfl (hb hby at_280) rfl (l' := #[oI xa, oI ya, oJ ta, .second, oJ tb, .second, oI sel, oI ca, oI ma, oI pa, oI cb, oI mb, oI pb, oJ ub, .second, oR b1, oI (((sel.toUInt32 >>> ((4 : Int32) &&& 31).toUInt32).toInt32) &&& (3 : Int32)), oR b28, oI (0 : Int32)]) rfl) ?_
              show Done _ p e below s _ _ (T57.setTop (mkF m 282 #[oI xa, oI ya, oJ ta, .second, oJ tb, .second, oI sel, oI ca, oI ma, oI pa, oI cb, oI mb, oI pb, oJ ub, .second, oR b1, oI (((sel.toUInt32 >>> ((4 : Int32) &&& 31).toUInt32).toInt32) &&& (3 : Int32)), oR b28, oI (0 : Int32)] []))
              refine Done.step (fun _ => XS.aload X57.here hx rfl (hb hby at_282) rfl rfl) ?_
              show Done _ p e below s _ _ (T57.setTop (mkF m 284 #[oI xa, oI ya, oJ ta, .second, oJ tb, .second, oI sel, oI ca, oI ma, oI pa, oI cb, oI mb, oI pb, oJ ub, .second, oR b1, oI (((sel.toUInt32 >>> ((4 : Int32) &&& 31).toUInt32).toInt32) &&& (3 : Int32)), oR b28, oI (0 : Int32)] [(.ref b1)]))
              refine Done.step (fun _ => XS.aload X57.here hx rfl (hb hby at_284) rfl rfl) ?_
              show Done _ p e below s _ _ (T57.setTop (mkF m 286 #[oI xa, oI ya, oJ ta, .second, oJ tb, .second, oI sel, oI ca, oI ma, oI pa, oI cb, oI mb, oI pb, oJ ub, .second, oR b1, oI (((sel.toUInt32 >>> ((4 : Int32) &&& 31).toUInt32).toInt32) &&& (3 : Int32)), oR b28, oI (0 : Int32)] [(.ref b28), (.ref b1)]))
              have hp167 : ¬ (ta = ub ∧ (own_str ca) = (own_str cb) ∧ (own_str ma) = (own_str mb) ∧ (own_str pa) = (own_str pb)) := (fun q => hc58 ((own_ns _ _).mpr q.2.1))
              have f168 := (((((f29.ext E28).keep K36q).keep K40q).keep K44q).keep K54q)
              have f169 := ((((((((Fs1.keep K6q nin0).keep K9q nin0).keep K18q (ninS ne_sx1_b1 nin0)).ext E28).keep K36q nin0).keep K40q nin0).keep K44q nin0).keep K54q (ninS ne_sx1_b28 nin0))
              have f170 := ((((((((Cs1.keep K6q nin0).keep K9q nin0).keep K18q (ninS ne_sx1_b1 nin0)).ext E28).keep K36q nin0).keep K40q nin0).keep K44q nin0).keep K54q (ninS ne_sx1_b28 nin0))
              have f171 := (((((f30.ext E28).keep K36q nin0).keep K40q nin0).keep K44q nin0).keep K54q (ninS ne_sa1_b28 nin0))
              have f172 := (((((f31.ext E28).keep K36q).keep K40q).keep K44q).keep K54q)
              have f173 := (((((((Fs2.keep K9q nin0).keep K18q (ninS ne_sx2_b1 nin0)).ext E28).keep K36q nin0).keep K40q nin0).keep K44q nin0).keep K54q (ninS ne_sx2_b28 nin0))
              have f174 := (((((((Cs2.keep K9q nin0).keep K18q (ninS ne_sx2_b1 nin0)).ext E28).keep K36q nin0).keep K40q nin0).keep K44q nin0).keep K54q (ninS ne_sx2_b28 nin0))
              have f175 := (((((f32.ext E28).keep K36q nin0).keep K40q nin0).keep K44q nin0).keep K54q (ninS ne_sa2_b28 nin0))
              have f176 := (((((f33.ext E28).keep K36q).keep K40q).keep K44q).keep K54q)
              have f177 := ((((((Fs3.keep K18q (ninS ne_sx3_b1 nin0)).ext E28).keep K36q nin0).keep K40q nin0).keep K44q nin0).keep K54q (ninS ne_sx3_b28 nin0))
              have f178 := ((((((Cs3.keep K18q (ninS ne_sx3_b1 nin0)).ext E28).keep K36q nin0).keep K40q nin0).keep K44q nin0).keep K54q (ninS ne_sx3_b28 nin0))
              have f179 := (((((f34.ext E28).keep K36q nin0).keep K40q nin0).keep K44q nin0).keep K54q (ninS ne_sa3_b28 nin0))
              have f180 := (f52.keep K54q)
              have f181 := (((Fs4.keep K40q nin0).keep K44q nin0).keep K54q (ninS ne_sx4_b28 nin0))
              have f182 := (((Cs4.keep K40q nin0).keep K44q nin0).keep K54q (ninS ne_sx4_b28 nin0))
              have f183 := (((Ks4.keep K40q nin0).keep K44q nin0).keep K54q (ninS ne_sa4_b28 nin0))
              have f184 := (f53.keep K54q)
              have f185 := ((Fs5.keep K44q nin0).keep K54q (ninS ne_sx5_b28 nin0))
              have f186 := ((Cs5.keep K44q nin0).keep K54q (ninS ne_sx5_b28 nin0))
              have f187 := ((Ks5.keep K44q nin0).keep K54q (ninS ne_sa5_b28 nin0))
              have f188 := (Es6.keep K54q)
              have f189 := (Fs6.keep K54q (ninS ne_sx6_b28 nin0))
              have f190 := (Cs6.keep K54q (ninS ne_sx6_b28 nin0))
              have f191 := (Ks6.keep K54q (ninS ne_sa6_b28 nin0))
              have f192 := (f51.keep K54q (allS n0_b28 all0))
              have f193 := (f45.keep K54q)
              have f194 := (((((Fic_b1.ext E28).keep K36q nin0).keep K40q nin0).keep K44q nin0).keep K54q (ninS ne_b1_b28 nin0))
              have f195 := (((((Fit_b1.ext E28).keep K36q nin0).keep K40q nin0).keep K44q nin0).keep K54q (ninS ne_b1_b28 nin0))
              have f196 := (((((Fim_b1.ext E28).keep K36q nin0).keep K40q nin0).keep K44q nin0).keep K54q (ninS ne_b1_b28 nin0))
              have f197 := (((((Fip_b1.ext E28).keep K36q nin0).keep K40q nin0).keep K44q nin0).keep K54q (ninS ne_b1_b28 nin0))
              refine Done.callVP X57 hx hZ (C := "com/example/wide_weir/wideweir/accesslog/AccessLogLine") hown (wAt hw 38 rfl) (wAt hw 39 rfl) (notFace_of_selects (args := #[]) (mvT hZ (wAt hw 41 rfl))) (wAt hw 41 rfl) (wAt hw 40 rfl) (wAt hw 2 rfl) (wAt hw 42 rfl) (by decide) (rE l Z a0 hw [] b1 b28 sx1 sa1 sk1 (own_str ca) sx2 sa2 sk2 (own_str ma) sx3 sa3 sk3 (own_str pa) sx4 sa4 sk4 (own_str cb) sx5 sa5 sk5 (own_str mb) sx6 sa6 sk6 (own_str pb) ta ub (0 : Int32) z T54.heap n0 Zs54 f192 SC hz ne_b1_b28 f193 f194 f195 f196 f197 Ei_b28 Fic_b28 Fit_b28 Fim_b28 Fip_b28 f168 f169 f170 f171 (own_strL ca) f172 f173 f174 f175 (own_strL ma) f176 f177 f178 f179 (own_strL pa) f180 f181 f182 f183 (own_strL cb) f184 f185 f186 f187 (own_strL mb) f188 f189 f190 f191 (own_strL pb) (bP_f hp167).symm) e57 f193 (g := (mkF m 286 #[oI xa, oI ya, oJ ta, .second, oJ tb, .second, oI sel, oI ca, oI ma, oI pa, oI cb, oI mb, oI pb, oJ ub, .second, oR b1, oI (((sel.toUInt32 >>> ((4 : Int32) &&& 31).toUInt32).toInt32) &&& (3 : Int32)), oR b28, oI (0 : Int32)] [(.ref b28), (.ref b1)])) rfl (by rw [hml]; rfl) [(.ref b28)] [] 0 (lenOf pd_6 rfl) rfl rfl (by show 2 * 0 + _ ≤ _; exact Nat.le_of_eq rfl) (hb hby at_286) (by decide) (by decide) (by decide) (by decide) rfl rfl ?_
              intro T198 X198 e198
              show Done _ p e below s _ _ (T198.setTop (mkF m 289 #[oI xa, oI ya, oJ ta, .second, oJ tb, .second, oI sel, oI ca, oI ma, oI pa, oI cb, oI mb, oI pb, oJ ub, .second, oR b1, oI (((sel.toUInt32 >>> ((4 : Int32) &&& 31).toUInt32).toInt32) &&& (3 : Int32)), oR b28, oI (0 : Int32)] [(.int (0 : Int32))]))
              refine Done.step (fun _ => XS.iload X198.here hx rfl (hb hby at_289) rfl) ?_
              show Done _ p e below s _ _ (T198.setTop (mkF m 291 #[oI xa, oI ya, oJ ta, .second, oJ tb, .second, oI sel, oI ca, oI ma, oI pa, oI cb, oI mb, oI pb, oJ ub, .second, oR b1, oI (((sel.toUInt32 >>> ((4 : Int32) &&& 31).toUInt32).toInt32) &&& (3 : Int32)), oR b28, oI (0 : Int32)] [(.int (0 : Int32)), (.int (0 : Int32))]))
              refine Done.step (fun _ => XS.icmpNo X198.here hx rfl (hb hby at_291) rfl (XT.ii_ne_f rfl)) ?_
              show Done _ p e below s _ _ (T198.setTop (mkF m 294 #[oI xa, oI ya, oJ ta, .second, oJ tb, .second, oI sel, oI ca, oI ma, oI pa, oI cb, oI mb, oI pb, oJ ub, .second, oR b1, oI (((sel.toUInt32 >>> ((4 : Int32) &&& 31).toUInt32).toInt32) &&& (3 : Int32)), oR b28, oI (0 : Int32)] []))
              refine Done.step (fun _ => XS.aload X198.here hx rfl (hb hby at_294) rfl rfl) ?_
              show Done _ p e below s _ _ (T198.setTop (mkF m 296 #[oI xa, oI ya, oJ ta, .second, oJ tb, .second, oI sel, oI ca, oI ma, oI pa, oI cb, oI mb, oI pb, oJ ub, .second, oR b1, oI (((sel.toUInt32 >>> ((4 : Int32) &&& 31).toUInt32).toInt32) &&& (3 : Int32)), oR b28, oI (0 : Int32)] [(.ref b28)]))
              refine Done.step (fun _ => XS.aload X198.here hx rfl (hb hby at_296) rfl rfl) ?_
              show Done _ p e below s _ _ (T198.setTop (mkF m 298 #[oI xa, oI ya, oJ ta, .second, oJ tb, .second, oI sel, oI ca, oI ma, oI pa, oI cb, oI mb, oI pb, oJ ub, .second, oR b1, oI (((sel.toUInt32 >>> ((4 : Int32) &&& 31).toUInt32).toInt32) &&& (3 : Int32)), oR b28, oI (0 : Int32)] [(.ref b1), (.ref b28)]))
              have hp199 : ¬ (ub = ta ∧ (own_str cb) = (own_str ca) ∧ (own_str mb) = (own_str ma) ∧ (own_str pb) = (own_str pa)) := (fun q => hc58 ((own_ns _ _).mpr (q.2.1.symm)))
              refine Done.callVP X198 hx hZ (C := "com/example/wide_weir/wideweir/accesslog/AccessLogLine") hown (wAt hw 38 rfl) (wAt hw 39 rfl) (notFace_of_selects (args := #[]) (mvT hZ (wAt hw 41 rfl))) (wAt hw 41 rfl) (wAt hw 40 rfl) (wAt hw 2 rfl) (wAt hw 42 rfl) (by decide) (rE l Z a0 hw [] b28 b1 sx4 sa4 sk4 (own_str cb) sx5 sa5 sk5 (own_str mb) sx6 sa6 sk6 (own_str pb) sx1 sa1 sk1 (own_str ca) sx2 sa2 sk2 (own_str ma) sx3 sa3 sk3 (own_str pa) ub ta (0 : Int32) z T54.heap n0 Zs54 f192 SC hz (Ne.symm ne_b1_b28) Ei_b28 Fic_b28 Fit_b28 Fim_b28 Fip_b28 f193 f194 f195 f196 f197 f180 f181 f182 f183 (own_strL cb) f184 f185 f186 f187 (own_strL mb) f188 f189 f190 f191 (own_strL pb) f168 f169 f170 f171 (own_strL ca) f172 f173 f174 f175 (own_strL ma) f176 f177 f178 f179 (own_strL pa) (bP_f hp199).symm) e198 Ei_b28 (g := (mkF m 298 #[oI xa, oI ya, oJ ta, .second, oJ tb, .second, oI sel, oI ca, oI ma, oI pa, oI cb, oI mb, oI pb, oJ ub, .second, oR b1, oI (((sel.toUInt32 >>> ((4 : Int32) &&& 31).toUInt32).toInt32) &&& (3 : Int32)), oR b28, oI (0 : Int32)] [(.ref b1), (.ref b28)])) rfl (by rw [hml]; rfl) [(.ref b1)] [] 0 (lenOf pd_6 rfl) rfl rfl (by show 2 * 0 + _ ≤ _; exact Nat.le_of_eq rfl) (hb hby at_298) (by decide) (by decide) (by decide) (by decide) rfl rfl ?_
              intro T200 X200 e200
              show Done _ p e below s _ _ (T200.setTop (mkF m 301 #[oI xa, oI ya, oJ ta, .second, oJ tb, .second, oI sel, oI ca, oI ma, oI pa, oI cb, oI mb, oI pb, oJ ub, .second, oR b1, oI (((sel.toUInt32 >>> ((4 : Int32) &&& 31).toUInt32).toInt32) &&& (3 : Int32)), oR b28, oI (0 : Int32)] [(.int (0 : Int32))]))
              refine Done.step (fun _ => XS.iload X200.here hx rfl (hb hby at_301) rfl) ?_
              show Done _ p e below s _ _ (T200.setTop (mkF m 303 #[oI xa, oI ya, oJ ta, .second, oJ tb, .second, oI sel, oI ca, oI ma, oI pa, oI cb, oI mb, oI pb, oJ ub, .second, oR b1, oI (((sel.toUInt32 >>> ((4 : Int32) &&& 31).toUInt32).toInt32) &&& (3 : Int32)), oR b28, oI (0 : Int32)] [(.int (0 : Int32)), (.int (0 : Int32))]))
              refine Done.step (fun _ => XS.icmpNo X200.here hx rfl (hb hby at_303) rfl (XT.ii_ne_f rfl)) ?_
              show Done _ p e below s _ _ (T200.setTop (mkF m 306 #[oI xa, oI ya, oJ ta, .second, oJ tb, .second, oI sel, oI ca, oI ma, oI pa, oI cb, oI mb, oI pb, oJ ub, .second, oR b1, oI (((sel.toUInt32 >>> ((4 : Int32) &&& 31).toUInt32).toInt32) &&& (3 : Int32)), oR b28, oI (0 : Int32)] []))
              refine Done.step (fun _ => XT.iconstV X200.here hx rfl (1 : Int32) (hb hby at_306) (by decide)) ?_
              show Done _ p e below s _ _ (T200.setTop (mkF m 307 #[oI xa, oI ya, oJ ta, .second, oJ tb, .second, oI sel, oI ca, oI ma, oI pa, oI cb, oI mb, oI pb, oJ ub, .second, oR b1, oI (((sel.toUInt32 >>> ((4 : Int32) &&& 31).toUInt32).toInt32) &&& (3 : Int32)), oR b28, oI (0 : Int32)] [(.int (1 : Int32))]))
              refine Done.step (fun _ => XS.goto X200.here hx rfl (pc0 := 307) (pc' := 311) rfl (hb hby at_307) (by decide) (by decide)) ?_
              show Done _ p e below s _ _ (T200.setTop (mkF m 311 #[oI xa, oI ya, oJ ta, .second, oJ tb, .second, oI sel, oI ca, oI ma, oI pa, oI cb, oI mb, oI pb, oJ ub, .second, oR b1, oI (((sel.toUInt32 >>> ((4 : Int32) &&& 31).toUInt32).toInt32) &&& (3 : Int32)), oR b28, oI (0 : Int32)] [(.int (1 : Int32))]))
              exact Done.retN (leavesW X200 hS (by first | exact hk | (rw [e200]; exact hk)) hlk (by decide) (by decide)) X200 hx (t := .boolean) hret (by simp) (hb hby at_311) ⟨rfl, N54⟩
          · refine Done.step (fun _ => XS.ifYes X54.here hx rfl (pc0 := 233) (pc' := 279) rfl (hb hby at_233) rfl (XT.ll_ne_t hc55) (by decide) (by decide)) ?_
            show Done _ p e below s _ _ (T54.setTop (mkF m 279 #[oI xa, oI ya, oJ ta, .second, oJ tb, .second, oI sel, oI ca, oI ma, oI pa, oI cb, oI mb, oI pb, oJ ub, .second, oR b1, oI (((sel.toUInt32 >>> ((4 : Int32) &&& 31).toUInt32).toInt32) &&& (3 : Int32)), oR b28, .unset] []))
            refine Done.step (fun _ => XT.iconstV X54.here hx rfl (0 : Int32) (hb hby at_279) (by decide)) ?_
            show Done _ p e below s _ _ (T54.setTop (mkF m 280 #[oI xa, oI ya, oJ ta, .second, oJ tb, .second, oI sel, oI ca, oI ma, oI pa, oI cb, oI mb, oI pb, oJ ub, .second, oR b1, oI (((sel.toUInt32 >>> ((4 : Int32) &&& 31).toUInt32).toInt32) &&& (3 : Int32)), oR b28, .unset] [(.int (0 : Int32))]))
            refine Done.step (fun _ => XS.istore X54.here hx rfl (hb hby at_280) rfl (l' := #[oI xa, oI ya, oJ ta, .second, oJ tb, .second, oI sel, oI ca, oI ma, oI pa, oI cb, oI mb, oI pb, oJ ub, .second, oR b1, oI (((sel.toUInt32 >>> ((4 : Int32) &&& 31).toUInt32).toInt32) &&& (3 : Int32)), oR b28, oI (0 : Int32)]) rfl) ?_
            show Done _ p e below s _ _ (T54.setTop (mkF m 282 #[oI xa, oI ya, oJ ta, .second, oJ tb, .second, oI sel, oI ca, oI ma, oI pa, oI cb, oI mb, oI pb, oJ ub, .second, oR b1, oI (((sel.toUInt32 >>> ((4 : Int32) &&& 31).toUInt32).toInt32) &&& (3 : Int32)), oR b28, oI (0 : Int32)] []))
            refine Done.step (fun _ => XS.aload X54.here hx rfl (hb hby at_282) rfl rfl) ?_
            show Done _ p e below s _ _ (T54.setTop (mkF m 284 #[oI xa, oI ya, oJ ta, .second, oJ tb, .second, oI sel, oI ca, oI ma, oI pa, oI cb, oI mb, oI pb, oJ ub, .second, oR b1, oI (((sel.toUInt32 >>> ((4 : Int32) &&& 31).toUInt32).toInt32) &&& (3 : Int32)), oR b28, oI (0 : Int32)] [(.ref b1)]))
            refine Done.step (fun _ => XS.aload X54.here hx rfl (hb hby at_284) rfl rfl) ?_
            show Done _ p e below s _ _ (T54.setTop (mkF m 286 #[oI xa, oI ya, oJ ta, .second, oJ tb, .second, oI sel, oI ca, oI ma, oI pa, oI cb, oI mb, oI pb, oJ ub, .second, oR b1, oI (((sel.toUInt32 >>> ((4 : Int32) &&& 31).toUInt32).toInt32) &&& (3 : Int32)), oR b28, oI (0 : Int32)] [(.ref b28), (.ref b1)]))
            have hp201 : ¬ (ta = ub ∧ (own_str ca) = (own_str cb) ∧ (own_str ma) = (own_str mb) ∧ (own_str pa) = (own_str pb)) := (fun q => hc55 q.1)
            have f202 := (((((f29.ext E28).keep K36q).keep K40q).keep K44q).keep K54q)
            have f203 := ((((((((Fs1.keep K6q nin0).keep K9q nin0).keep K18q (ninS ne_sx1_b1 nin0)).ext E28).keep K36q nin0).keep K40q nin0).keep K44q nin0).keep K54q (ninS ne_sx1_b28 nin0))
            have f204 := ((((((((Cs1.keep K6q nin0).keep K9q nin0).keep K18q (ninS ne_sx1_b1 nin0)).ext E28).keep K36q nin0).keep K40q nin0).keep K44q nin0).keep K54q (ninS ne_sx1_b28 nin0))
            have f205 := (((((f30.ext E28).keep K36q nin0).keep K40q nin0).keep K44q nin0).keep K54q (ninS ne_sa1_b28 nin0))
            have f206 := (((((f31.ext E28).keep K36q).keep K40q).keep K44q).keep K54q)
            have f207 := (((((((Fs2.keep K9q nin0).keep K18q (ninS ne_sx2_b1 nin0)).ext E28).keep K36q nin0).keep K40q nin0).keep K44q nin0).keep K54q (ninS ne_sx2_b28 nin0))
            have f208 := (((((((Cs2.keep K9q nin0).keep K18q (ninS ne_sx2_b1 nin0)).ext E28).keep K36q nin0).keep K40q nin0).keep K44q nin0).keep K54q (ninS ne_sx2_b28 nin0))
            have f209 := (((((f32.ext E28).keep K36q nin0).keep K40q nin0).keep K44q nin0).keep K54q (ninS ne_sa2_b28 nin0))
            have f210 := (((((f33.ext E28).keep K36q).keep K40q).keep K44q).keep K54q)
            have f211 := ((((((Fs3.keep K18q (ninS ne_sx3_b1 nin0)).ext E28).keep K36q nin0).keep K40q nin0).keep K44q nin0).keep K54q (ninS ne_sx3_b28 nin0))
            have f212 := ((((((Cs3.keep K18q (ninS ne_sx3_b1 nin0)).ext E28).keep K36q nin0).keep K40q nin0).keep K44q nin0).keep K54q (ninS ne_sx3_b28 nin0))
            have f213 := (((((f34.ext E28).keep K36q nin0).keep K40q nin0).keep K44q nin0).keep K54q (ninS ne_sa3_b28 nin0))
            have f214 := (f52.keep K54q)
            have f215 := (((Fs4.keep K40q nin0).keep K44q nin0).keep K54q (ninS ne_sx4_b28 nin0))
            have f216 := (((Cs4.keep K40q nin0).keep K44q nin0).keep K54q (ninS ne_sx4_b28 nin0))
            have f217 := (((Ks4.keep K40q nin0).keep K44q nin0).keep K54q (ninS ne_sa4_b28 nin0))
            have f218 := (f53.keep K54q)
            have f219 := ((Fs5.keep K44q nin0).keep K54q (ninS ne_sx5_b28 nin0))
            have f220 := ((Cs5.keep K44q nin0).keep K54q (ninS ne_sx5_b28 nin0))
            have f221 := ((Ks5.keep K44q nin0).keep K54q (ninS ne_sa5_b28 nin0))
            have f222 := (Es6.keep K54q)
            have f223 := (Fs6.keep K54q (ninS ne_sx6_b28 nin0))
            have f224 := (Cs6.keep K54q (ninS ne_sx6_b28 nin0))
            have f225 := (Ks6.keep K54q (ninS ne_sa6_b28 nin0))
            have f226 := (f51.keep K54q (allS n0_b28 all0))
            have f227 := (f45.keep K54q)
            have f228 := (((((Fic_b1.ext E28).keep K36q nin0).keep K40q nin0).keep K44q nin0).keep K54q (ninS ne_b1_b28 nin0))
            have f229 := (((((Fit_b1.ext E28).keep K36q nin0).keep K40q nin0).keep K44q nin0).keep K54q (ninS ne_b1_b28 nin0))
            have f230 := (((((Fim_b1.ext E28).keep K36q nin0).keep K40q nin0).keep K44q nin0).keep K54q (ninS ne_b1_b28 nin0))
            have f231 := (((((Fip_b1.ext E28).keep K36q nin0).keep K40q nin0).keep K44q nin0).keep K54q (ninS ne_b1_b28 nin0))
            refine Done.callVP X54 hx hZ (C := "com/example/wide_weir/wideweir/accesslog/AccessLogLine") hown (wAt hw 38 rfl) (wAt hw 39 rfl) (notFace_of_selects (args := #[]) (mvT hZ (wAt hw 41 rfl))) (wAt hw 41 rfl) (wAt hw 40 rfl) (wAt hw 2 rfl) (wAt hw 42 rfl) (by decide) (rE l Z a0 hw [] b1 b28 sx1 sa1 sk1 (own_str ca) sx2 sa2 sk2 (own_str ma) sx3 sa3 sk3 (own_str pa) sx4 sa4 sk4 (own_str cb) sx5 sa5 sk5 (own_str mb) sx6 sa6 sk6 (own_str pb) ta ub (0 : Int32) z T54.heap n0 Zs54 f226 SC hz ne_b1_b28 f227 f228 f229 f230 f231 Ei_b28 Fic_b28 Fit_b28 Fim_b28 Fip_b28 f202 f203 f204 f205 (own_strL ca) f206 f207 f208 f209 (own_strL ma) f210 f211 f212 f213 (own_strL pa) f214 f215 f216 f217 (own_strL cb) f218 f219 f220 f221 (own_strL mb) f222 f223 f224 f225 (own_strL pb) (bP_f hp201).symm) rfl f227 (g := (mkF m 286 #[oI xa, oI ya, oJ ta, .second, oJ tb, .second, oI sel, oI ca, oI ma, oI pa, oI cb, oI mb, oI pb, oJ ub, .second, oR b1, oI (((sel.toUInt32 >>> ((4 : Int32) &&& 31).toUInt32).toInt32) &&& (3 : Int32)), oR b28, oI (0 : Int32)] [(.ref b28), (.ref b1)])) rfl (by rw [hml]; rfl) [(.ref b28)] [] 0 (lenOf pd_6 rfl) rfl rfl (by show 2 * 0 + _ ≤ _; exact Nat.le_of_eq rfl) (hb hby at_286) (by decide) (by decide) (by decide) (by decide) rfl rfl ?_
            intro T232 X232 e232
            show Done _ p e below s _ _ (T232.setTop (mkF m 289 #[oI xa, oI ya, oJ ta, .second, oJ tb, .second, oI sel, oI ca, oI ma, oI pa, oI cb, oI mb, oI pb, oJ ub, .second, oR b1, oI (((sel.toUInt32 >>> ((4 : Int32) &&& 31).toUInt32).toInt32) &&& (3 : Int32)), oR b28, oI (0 : Int32)] [(.int (0 : Int32))]))
            refine Done.step (fun _ => XS.iload X232.here hx rfl (hb hby at_289) rfl) ?_
            show Done _ p e below s _ _ (T232.setTop (mkF m 291 #[oI xa, oI ya, oJ ta, .second, oJ tb, .second, oI sel, oI ca, oI ma, oI pa, oI cb, oI mb, oI pb, oJ ub, .second, oR b1, oI (((sel.toUInt32 >>> ((4 : Int32) &&& 31).toUInt32).toInt32) &&& (3 : Int32)), oR b28, oI (0 : Int32)] [(.int (0 : Int32)), (.int (0 : Int32))]))
            refine Done.step (fun _ => XS.icmpNo X232.here hx rfl (hb hby at_291) rfl (XT.ii_ne_f rfl)) ?_
            show Done _ p e below s _ _ (T232.setTop (mkF m 294 #[oI xa, oI ya, oJ ta, .second, oJ tb, .second, oI sel, oI ca, oI ma, oI pa, oI cb, oI mb, oI pb, oJ ub, .second, oR b1, oI (((sel.toUInt32 >>> ((4 : Int32) &&& 31).toUInt32).toInt32) &&& (3 : Int32)), oR b28, oI (0 : Int32)] []))
            refine Done.step (fun _ => XS.aload X232.here hx rfl (hb hby at_294) rfl rfl) ?_
            show Done _ p e below s _ _ (T232.setTop (mkF m 296 #[oI xa, oI ya, oJ ta, .second, oJ tb, .second, oI sel, oI ca, oI ma, oI pa, oI cb, oI mb, oI pb, oJ ub, .second, oR b1, oI (((sel.toUInt32 >>> ((4 : Int32) &&& 31).toUInt32).toInt32) &&& (3 : Int32)), oR b28, oI (0 : Int32)] [(.ref b28)]))
            refine Done.step (fun _ => XS.aload X232.here hx rfl (hb hby at_296) rfl rfl) ?_
            show Done _ p e below s _ _ (T232.setTop (mkF m 298 #[oI xa, oI ya, oJ ta, .second, oJ tb, .second, oI sel, oI ca, oI ma, oI pa, oI cb, oI mb, oI pb, oJ ub, .second, oR b1, oI (((sel.toUInt32 >>> ((4 : Int32) &&& 31).toUInt32).toInt32) &&& (3 : Int32)), oR b28, oI (0 : Int32)] [(.ref b1), (.ref b28)]))
            have hp233 : ¬ (ub = ta ∧ (own_str cb) = (own_str ca) ∧ (own_str mb) = (own_str ma) ∧ (own_str pb) = (own_str pa)) := (fun q => hc55 (q.1.symm))
            refine Done.callVP X232 hx hZ (C := "com/example/wide_weir/wideweir/accesslog/AccessLogLine") hown (wAt hw 38 rfl) (wAt hw 39 rfl) (notFace_of_selects (args := #[]) (mvT hZ (wAt hw 41 rfl))) (wAt hw 41 rfl) (wAt hw 40 rfl) (wAt hw 2 rfl) (wAt hw 42 rfl) (by decide) (rE l Z a0 hw [] b28 b1 sx4 sa4 sk4 (own_str cb) sx5 sa5 sk5 (own_str mb) sx6 sa6 sk6 (own_str pb) sx1 sa1 sk1 (own_str ca) sx2 sa2 sk2 (own_str ma) sx3 sa3 sk3 (own_str pa) ub ta (0 : Int32) z T54.heap n0 Zs54 f226 SC hz (Ne.symm ne_b1_b28) Ei_b28 Fic_b28 Fit_b28 Fim_b28 Fip_b28 f227 f228 f229 f230 f231 f214 f215 f216 f217 (own_strL cb) f218 f219 f220 f221 (own_strL mb) f222 f223 f224 f225 (own_strL pb) f202 f203 f204 f205 (own_strL ca) f206 f207 f208 f209 (own_strL ma) f210 f211 f212 f213 (own_strL pa) (bP_f hp233).symm) e232 Ei_b28 (g := (mkF m 298 #[oI xa, oI ya, oJ ta, .second, oJ tb, .second, oI sel, oI ca, oI ma, oI pa, oI cb, oI mb, oI pb, oJ ub, .second, oR b1, oI (((sel.toUInt32 >>> ((4 : Int32) &&& 31).toUInt32).toInt32) &&& (3 : Int32)), oR b28, oI (0 : Int32)] [(.ref b1), (.ref b28)])) rfl (by rw [hml]; rfl) [(.ref b1)] [] 0 (lenOf pd_6 rfl) rfl rfl (by show 2 * 0 + _ ≤ _; exact Nat.le_of_eq rfl) (hb hby at_298) (by decide) (by decide) (by decide) (by decide) rfl rfl ?_
            intro T234 X234 e234
            show Done _ p e below s _ _ (T234.setTop (mkF m 301 #[oI xa, oI ya, oJ ta, .second, oJ tb, .second, oI sel, oI ca, oI ma, oI pa, oI cb, oI mb, oI pb, oJ ub, .second, oR b1, oI (((sel.toUInt32 >>> ((4 : Int32) &&& 31).toUInt32).toInt32) &&& (3 : Int32)), oR b28, oI (0 : Int32)] [(.int (0 : Int32))]))
            refine Done.step (fun _ => XS.iload X234.here hx rfl (hb hby at_301) rfl) ?_
            show Done _ p e below s _ _ (T234.setTop (mkF m 303 #[oI xa, oI ya, oJ ta, .second, oJ tb, .second, oI sel, oI ca, oI ma, oI pa, oI cb, oI mb, oI pb, oJ ub, .second, oR b1, oI (((sel.toUInt32 >>> ((4 : Int32) &&& 31).toUInt32).toInt32) &&& (3 : Int32)), oR b28, oI (0 : Int32)] [(.int (0 : Int32)), (.int (0 : Int32))]))
            refine Done.step (fun _ => XS.icmpNo X234.here hx rfl (hb hby at_303) rfl (XT.ii_ne_f rfl)) ?_
            show Done _ p e below s _ _ (T234.setTop (mkF m 306 #[oI xa, oI ya, oJ ta, .second, oJ tb, .second, oI sel, oI ca, oI ma, oI pa, oI cb, oI mb, oI pb, oJ ub, .second, oR b1, oI (((sel.toUInt32 >>> ((4 : Int32) &&& 31).toUInt32).toInt32) &&& (3 : Int32)), oR b28, oI (0 : Int32)] []))
            refine Done.step (fun _ => XT.iconstV X234.here hx rfl (1 : Int32) (hb hby at_306) (by decide)) ?_
            show Done _ p e below s _ _ (T234.setTop (mkF m 307 #[oI xa, oI ya, oJ ta, .second, oJ tb, .second, oI sel, oI ca, oI ma, oI pa, oI cb, oI mb, oI pb, oJ ub, .second, oR b1, oI (((sel.toUInt32 >>> ((4 : Int32) &&& 31).toUInt32).toInt32) &&& (3 : Int32)), oR b28, oI (0 : Int32)] [(.int (1 : Int32))]))
            refine Done.step (fun _ => XS.goto X234.here hx rfl (pc0 := 307) (pc' := 311) rfl (hb hby at_307) (by decide) (by decide)) ?_
            show Done _ p e below s _ _ (T234.setTop (mkF m 311 #[oI xa, oI ya, oJ ta, .second, oJ tb, .second, oI sel, oI ca, oI ma, oI pa, oI cb, oI mb, oI pb, oJ ub, .second, oR b1, oI (((sel.toUInt32 >>> ((4 : Int32) &&& 31).toUInt32).toInt32) &&& (3 : Int32)), oR b28, oI (0 : Int32)] [(.int (1 : Int32))]))
            exact Done.retN (leavesW X234 hS (by first | exact hk | (rw [e234]; exact hk)) hlk (by decide) (by decide)) X234 hx (t := .boolean) hret (by simp) (hb hby at_311) ⟨rfl, N54⟩
  refine Done.step (fun _ => XT.sipushV X0.here hx rfl (511 : Int32) (hb hby at_1) (by decide)) ?_
  show Done _ p e below s _ _ (T0.setTop (mkF m 4 #[oI xa, oI ya, oJ ta, .second, oJ tb, .second, oI sel, .unset, .unset, .unset, .unset, .unset, .unset, .unset, .unset, .unset, .unset, .unset, .unset] [(.int (511 : Int32)), (.int xa)]))
  refine Done.step (fun _ => XS.iand X0.here hx rfl (hb hby at_4) rfl) ?_
  show Done _ p e below s _ _ (T0.setTop (mkF m 5 #[oI xa, oI ya, oJ ta, .second, oJ tb, .second, oI sel, .unset, .unset, .unset, .unset, .unset, .unset, .unset, .unset, .unset, .unset, .unset, .unset] [(.int (xa &&& (511 : Int32)))]))
  refine Done.step (fun _ => XS.istore X0.here hx rfl (hb hby at_5) rfl (l' := #[oI xa, oI ya, oJ ta, .second, oJ tb, .second, oI sel, oI (xa &&& (511 : Int32)), .unset, .unset, .unset, .unset, .unset, .unset, .unset, .unset, .unset, .unset, .unset]) rfl) ?_
  show Done _ p e below s _ _ (T0.setTop (mkF m 7 #[oI xa, oI ya, oJ ta, .second, oJ tb, .second, oI sel, oI (xa &&& (511 : Int32)), .unset, .unset, .unset, .unset, .unset, .unset, .unset, .unset, .unset, .unset, .unset] []))
  refine Done.step (fun _ => XS.iloadN X0.here hx rfl (hb hby at_7) rfl) ?_
  show Done _ p e below s _ _ (T0.setTop (mkF m 8 #[oI xa, oI ya, oJ ta, .second, oJ tb, .second, oI sel, oI (xa &&& (511 : Int32)), .unset, .unset, .unset, .unset, .unset, .unset, .unset, .unset, .unset, .unset, .unset] [(.int xa)]))
  refine Done.step (fun _ => XT.bipushV X0.here hx rfl (9 : Int32) (hb hby at_8) (by decide)) ?_
  show Done _ p e below s _ _ (T0.setTop (mkF m 10 #[oI xa, oI ya, oJ ta, .second, oJ tb, .second, oI sel, oI (xa &&& (511 : Int32)), .unset, .unset, .unset, .unset, .unset, .unset, .unset, .unset, .unset, .unset, .unset] [(.int (9 : Int32)), (.int xa)]))
  refine Done.step (fun _ => XT.iushr X0.here hx rfl (hb hby at_10) rfl) ?_
  show Done _ p e below s _ _ (T0.setTop (mkF m 11 #[oI xa, oI ya, oJ ta, .second, oJ tb, .second, oI sel, oI (xa &&& (511 : Int32)), .unset, .unset, .unset, .unset, .unset, .unset, .unset, .unset, .unset, .unset, .unset] [(.int ((xa.toUInt32 >>> ((9 : Int32) &&& 31).toUInt32).toInt32))]))
  refine Done.step (fun _ => XT.sipushV X0.here hx rfl (511 : Int32) (hb hby at_11) (by decide)) ?_
  show Done _ p e below s _ _ (T0.setTop (mkF m 14 #[oI xa, oI ya, oJ ta, .second, oJ tb, .second, oI sel, oI (xa &&& (511 : Int32)), .unset, .unset, .unset, .unset, .unset, .unset, .unset, .unset, .unset, .unset, .unset] [(.int (511 : Int32)), (.int ((xa.toUInt32 >>> ((9 : Int32) &&& 31).toUInt32).toInt32))]))
  refine Done.step (fun _ => XS.iand X0.here hx rfl (hb hby at_14) rfl) ?_
  show Done _ p e below s _ _ (T0.setTop (mkF m 15 #[oI xa, oI ya, oJ ta, .second, oJ tb, .second, oI sel, oI (xa &&& (511 : Int32)), .unset, .unset, .unset, .unset, .unset, .unset, .unset, .unset, .unset, .unset, .unset] [(.int (((xa.toUInt32 >>> ((9 : Int32) &&& 31).toUInt32).toInt32) &&& (511 : Int32)))]))
  refine Done.step (fun _ => XS.istore X0.here hx rfl (hb hby at_15) rfl (l' := #[oI xa, oI ya, oJ ta, .second, oJ tb, .second, oI sel, oI (xa &&& (511 : Int32)), oI (((xa.toUInt32 >>> ((9 : Int32) &&& 31).toUInt32).toInt32) &&& (511 : Int32)), .unset, .unset, .unset, .unset, .unset, .unset, .unset, .unset, .unset, .unset]) rfl) ?_
  show Done _ p e below s _ _ (T0.setTop (mkF m 17 #[oI xa, oI ya, oJ ta, .second, oJ tb, .second, oI sel, oI (xa &&& (511 : Int32)), oI (((xa.toUInt32 >>> ((9 : Int32) &&& 31).toUInt32).toInt32) &&& (511 : Int32)), .unset, .unset, .unset, .unset, .unset, .unset, .unset, .unset, .unset, .unset] []))
  refine Done.step (fun _ => XS.iloadN X0.here hx rfl (hb hby at_17) rfl) ?_
  show Done _ p e below s _ _ (T0.setTop (mkF m 18 #[oI xa, oI ya, oJ ta, .second, oJ tb, .second, oI sel, oI (xa &&& (511 : Int32)), oI (((xa.toUInt32 >>> ((9 : Int32) &&& 31).toUInt32).toInt32) &&& (511 : Int32)), .unset, .unset, .unset, .unset, .unset, .unset, .unset, .unset, .unset, .unset] [(.int xa)]))
  refine Done.step (fun _ => XT.bipushV X0.here hx rfl (18 : Int32) (hb hby at_18) (by decide)) ?_
  show Done _ p e below s _ _ (T0.setTop (mkF m 20 #[oI xa, oI ya, oJ ta, .second, oJ tb, .second, oI sel, oI (xa &&& (511 : Int32)), oI (((xa.toUInt32 >>> ((9 : Int32) &&& 31).toUInt32).toInt32) &&& (511 : Int32)), .unset, .unset, .unset, .unset, .unset, .unset, .unset, .unset, .unset, .unset] [(.int (18 : Int32)), (.int xa)]))
  refine Done.step (fun _ => XT.iushr X0.here hx rfl (hb hby at_20) rfl) ?_
  show Done _ p e below s _ _ (T0.setTop (mkF m 21 #[oI xa, oI ya, oJ ta, .second, oJ tb, .second, oI sel, oI (xa &&& (511 : Int32)), oI (((xa.toUInt32 >>> ((9 : Int32) &&& 31).toUInt32).toInt32) &&& (511 : Int32)), .unset, .unset, .unset, .unset, .unset, .unset, .unset, .unset, .unset, .unset] [(.int ((xa.toUInt32 >>> ((18 : Int32) &&& 31).toUInt32).toInt32))]))
  refine Done.step (fun _ => XT.sipushV X0.here hx rfl (511 : Int32) (hb hby at_21) (by decide)) ?_
  show Done _ p e below s _ _ (T0.setTop (mkF m 24 #[oI xa, oI ya, oJ ta, .second, oJ tb, .second, oI sel, oI (xa &&& (511 : Int32)), oI (((xa.toUInt32 >>> ((9 : Int32) &&& 31).toUInt32).toInt32) &&& (511 : Int32)), .unset, .unset, .unset, .unset, .unset, .unset, .unset, .unset, .unset, .unset] [(.int (511 : Int32)), (.int ((xa.toUInt32 >>> ((18 : Int32) &&& 31).toUInt32).toInt32))]))
  refine Done.step (fun _ => XS.iand X0.here hx rfl (hb hby at_24) rfl) ?_
  show Done _ p e below s _ _ (T0.setTop (mkF m 25 #[oI xa, oI ya, oJ ta, .second, oJ tb, .second, oI sel, oI (xa &&& (511 : Int32)), oI (((xa.toUInt32 >>> ((9 : Int32) &&& 31).toUInt32).toInt32) &&& (511 : Int32)), .unset, .unset, .unset, .unset, .unset, .unset, .unset, .unset, .unset, .unset] [(.int (((xa.toUInt32 >>> ((18 : Int32) &&& 31).toUInt32).toInt32) &&& (511 : Int32)))]))
  refine Done.step (fun _ => XS.istore X0.here hx rfl (hb hby at_25) rfl (l' := #[oI xa, oI ya, oJ ta, .second, oJ tb, .second, oI sel, oI (xa &&& (511 : Int32)), oI (((xa.toUInt32 >>> ((9 : Int32) &&& 31).toUInt32).toInt32) &&& (511 : Int32)), oI (((xa.toUInt32 >>> ((18 : Int32) &&& 31).toUInt32).toInt32) &&& (511 : Int32)), .unset, .unset, .unset, .unset, .unset, .unset, .unset, .unset, .unset]) rfl) ?_
  show Done _ p e below s _ _ (T0.setTop (mkF m 27 #[oI xa, oI ya, oJ ta, .second, oJ tb, .second, oI sel, oI (xa &&& (511 : Int32)), oI (((xa.toUInt32 >>> ((9 : Int32) &&& 31).toUInt32).toInt32) &&& (511 : Int32)), oI (((xa.toUInt32 >>> ((18 : Int32) &&& 31).toUInt32).toInt32) &&& (511 : Int32)), .unset, .unset, .unset, .unset, .unset, .unset, .unset, .unset, .unset] []))
  refine Done.step (fun _ => XS.iload X0.here hx rfl (hb hby at_27) rfl) ?_
  show Done _ p e below s _ _ (T0.setTop (mkF m 29 #[oI xa, oI ya, oJ ta, .second, oJ tb, .second, oI sel, oI (xa &&& (511 : Int32)), oI (((xa.toUInt32 >>> ((9 : Int32) &&& 31).toUInt32).toInt32) &&& (511 : Int32)), oI (((xa.toUInt32 >>> ((18 : Int32) &&& 31).toUInt32).toInt32) &&& (511 : Int32)), .unset, .unset, .unset, .unset, .unset, .unset, .unset, .unset, .unset] [(.int sel)]))
  refine Done.step (fun _ => XT.iconstV X0.here hx rfl (1 : Int32) (hb hby at_29) (by decide)) ?_
  show Done _ p e below s _ _ (T0.setTop (mkF m 30 #[oI xa, oI ya, oJ ta, .second, oJ tb, .second, oI sel, oI (xa &&& (511 : Int32)), oI (((xa.toUInt32 >>> ((9 : Int32) &&& 31).toUInt32).toInt32) &&& (511 : Int32)), oI (((xa.toUInt32 >>> ((18 : Int32) &&& 31).toUInt32).toInt32) &&& (511 : Int32)), .unset, .unset, .unset, .unset, .unset, .unset, .unset, .unset, .unset] [(.int (1 : Int32)), (.int sel)]))
  refine Done.step (fun _ => XS.iand X0.here hx rfl (hb hby at_30) rfl) ?_
  show Done _ p e below s _ _ (T0.setTop (mkF m 31 #[oI xa, oI ya, oJ ta, .second, oJ tb, .second, oI sel, oI (xa &&& (511 : Int32)), oI (((xa.toUInt32 >>> ((9 : Int32) &&& 31).toUInt32).toInt32) &&& (511 : Int32)), oI (((xa.toUInt32 >>> ((18 : Int32) &&& 31).toUInt32).toInt32) &&& (511 : Int32)), .unset, .unset, .unset, .unset, .unset, .unset, .unset, .unset, .unset] [(.int (sel &&& (1 : Int32)))]))
  by_cases hc235 : (sel &&& (1 : Int32)) = (0 : Int32)
  · refine Done.step (fun _ => XS.ifYes X0.here hx rfl (pc0 := 31) (pc' := 39) rfl (hb hby at_31) rfl (XT.i0_eq_t hc235) (by decide) (by decide)) ?_
    show Done _ p e below s _ _ (T0.setTop (mkF m 39 #[oI xa, oI ya, oJ ta, .second, oJ tb, .second, oI sel, oI (xa &&& (511 : Int32)), oI (((xa.toUInt32 >>> ((9 : Int32) &&& 31).toUInt32).toInt32) &&& (511 : Int32)), oI (((xa.toUInt32 >>> ((18 : Int32) &&& 31).toUInt32).toInt32) &&& (511 : Int32)), .unset, .unset, .unset, .unset, .unset, .unset, .unset, .unset, .unset] []))
    refine Done.step (fun _ => XS.iloadN X0.here hx rfl (hb hby at_39) rfl) ?_
    show Done _ p e below s _ _ (T0.setTop (mkF m 40 #[oI xa, oI ya, oJ ta, .second, oJ tb, .second, oI sel, oI (xa &&& (511 : Int32)), oI (((xa.toUInt32 >>> ((9 : Int32) &&& 31).toUInt32).toInt32) &&& (511 : Int32)), oI (((xa.toUInt32 >>> ((18 : Int32) &&& 31).toUInt32).toInt32) &&& (511 : Int32)), .unset, .unset, .unset, .unset, .unset, .unset, .unset, .unset, .unset] [(.int ya)]))
    refine Done.step (fun _ => XT.sipushV X0.here hx rfl (511 : Int32) (hb hby at_40) (by decide)) ?_
    show Done _ p e below s _ _ (T0.setTop (mkF m 43 #[oI xa, oI ya, oJ ta, .second, oJ tb, .second, oI sel, oI (xa &&& (511 : Int32)), oI (((xa.toUInt32 >>> ((9 : Int32) &&& 31).toUInt32).toInt32) &&& (511 : Int32)), oI (((xa.toUInt32 >>> ((18 : Int32) &&& 31).toUInt32).toInt32) &&& (511 : Int32)), .unset, .unset, .unset, .unset, .unset, .unset, .unset, .unset, .unset] [(.int (511 : Int32)), (.int ya)]))
    refine Done.step (fun _ => XS.iand X0.here hx rfl (hb hby at_43) rfl) ?_
    show Done _ p e below s _ _ (T0.setTop (mkF m 44 #[oI xa, oI ya, oJ ta, .second, oJ tb, .second, oI sel, oI (xa &&& (511 : Int32)), oI (((xa.toUInt32 >>> ((9 : Int32) &&& 31).toUInt32).toInt32) &&& (511 : Int32)), oI (((xa.toUInt32 >>> ((18 : Int32) &&& 31).toUInt32).toInt32) &&& (511 : Int32)), .unset, .unset, .unset, .unset, .unset, .unset, .unset, .unset, .unset] [(.int (ya &&& (511 : Int32)))]))
    refine Done.step (fun _ => XS.istore X0.here hx rfl (hb hby at_44) rfl (l' := #[oI xa, oI ya, oJ ta, .second, oJ tb, .second, oI sel, oI (xa &&& (511 : Int32)), oI (((xa.toUInt32 >>> ((9 : Int32) &&& 31).toUInt32).toInt32) &&& (511 : Int32)), oI (((xa.toUInt32 >>> ((18 : Int32) &&& 31).toUInt32).toInt32) &&& (511 : Int32)), oI (ya &&& (511 : Int32)), .unset, .unset, .unset, .unset, .unset, .unset, .unset, .unset]) rfl) ?_
    show Done _ p e below s _ _ (T0.setTop (mkF m 46 #[oI xa, oI ya, oJ ta, .second, oJ tb, .second, oI sel, oI (xa &&& (511 : Int32)), oI (((xa.toUInt32 >>> ((9 : Int32) &&& 31).toUInt32).toInt32) &&& (511 : Int32)), oI (((xa.toUInt32 >>> ((18 : Int32) &&& 31).toUInt32).toInt32) &&& (511 : Int32)), oI (ya &&& (511 : Int32)), .unset, .unset, .unset, .unset, .unset, .unset, .unset, .unset] []))
    refine Done.step (fun _ => XS.iload X0.here hx rfl (hb hby at_46) rfl) ?_
    show Done _ p e below s _ _ (T0.setTop (mkF m 48 #[oI xa, oI ya, oJ ta, .second, oJ tb, .second, oI sel, oI (xa &&& (511 : Int32)), oI (((xa.toUInt32 >>> ((9 : Int32) &&& 31).toUInt32).toInt32) &&& (511 : Int32)), oI (((xa.toUInt32 >>> ((18 : Int32) &&& 31).toUInt32).toInt32) &&& (511 : Int32)), oI (ya &&& (511 : Int32)), .unset, .unset, .unset, .unset, .unset, .unset, .unset, .unset] [(.int sel)]))
    refine Done.step (fun _ => XT.iconstV X0.here hx rfl (2 : Int32) (hb hby at_48) (by decide)) ?_
    show Done _ p e below s _ _ (T0.setTop (mkF m 49 #[oI xa, oI ya, oJ ta, .second, oJ tb, .second, oI sel, oI (xa &&& (511 : Int32)), oI (((xa.toUInt32 >>> ((9 : Int32) &&& 31).toUInt32).toInt32) &&& (511 : Int32)), oI (((xa.toUInt32 >>> ((18 : Int32) &&& 31).toUInt32).toInt32) &&& (511 : Int32)), oI (ya &&& (511 : Int32)), .unset, .unset, .unset, .unset, .unset, .unset, .unset, .unset] [(.int (2 : Int32)), (.int sel)]))
    refine Done.step (fun _ => XS.iand X0.here hx rfl (hb hby at_49) rfl) ?_
    show Done _ p e below s _ _ (T0.setTop (mkF m 50 #[oI xa, oI ya, oJ ta, .second, oJ tb, .second, oI sel, oI (xa &&& (511 : Int32)), oI (((xa.toUInt32 >>> ((9 : Int32) &&& 31).toUInt32).toInt32) &&& (511 : Int32)), oI (((xa.toUInt32 >>> ((18 : Int32) &&& 31).toUInt32).toInt32) &&& (511 : Int32)), oI (ya &&& (511 : Int32)), .unset, .unset, .unset, .unset, .unset, .unset, .unset, .unset] [(.int (sel &&& (2 : Int32)))]))
    by_cases hc236 : (sel &&& (2 : Int32)) = (0 : Int32)
    · refine Done.step (fun _ => XS.ifYes X0.here hx rfl (pc0 := 50) (pc' := 58) rfl (hb hby at_50) rfl (XT.i0_eq_t hc236) (by decide) (by decide)) ?_
      show Done _ p e below s _ _ (T0.setTop (mkF m 58 #[oI xa, oI ya, oJ ta, .second, oJ tb, .second, oI sel, oI (xa &&& (511 : Int32)), oI (((xa.toUInt32 >>> ((9 : Int32) &&& 31).toUInt32).toInt32) &&& (511 : Int32)), oI (((xa.toUInt32 >>> ((18 : Int32) &&& 31).toUInt32).toInt32) &&& (511 : Int32)), oI (ya &&& (511 : Int32)), .unset, .unset, .unset, .unset, .unset, .unset, .unset, .unset] []))
      refine Done.step (fun _ => XS.iloadN X0.here hx rfl (hb hby at_58) rfl) ?_
      show Done _ p e below s _ _ (T0.setTop (mkF m 59 #[oI xa, oI ya, oJ ta, .second, oJ tb, .second, oI sel, oI (xa &&& (511 : Int32)), oI (((xa.toUInt32 >>> ((9 : Int32) &&& 31).toUInt32).toInt32) &&& (511 : Int32)), oI (((xa.toUInt32 >>> ((18 : Int32) &&& 31).toUInt32).toInt32) &&& (511 : Int32)), oI (ya &&& (511 : Int32)), .unset, .unset, .unset, .unset, .unset, .unset, .unset, .unset] [(.int ya)]))
      refine Done.step (fun _ => XT.bipushV X0.here hx rfl (9 : Int32) (hb hby at_59) (by decide)) ?_
      show Done _ p e below s _ _ (T0.setTop (mkF m 61 #[oI xa, oI ya, oJ ta, .second, oJ tb, .second, oI sel, oI (xa &&& (511 : Int32)), oI (((xa.toUInt32 >>> ((9 : Int32) &&& 31).toUInt32).toInt32) &&& (511 : Int32)), oI (((xa.toUInt32 >>> ((18 : Int32) &&& 31).toUInt32).toInt32) &&& (511 : Int32)), oI (ya &&& (511 : Int32)), .unset, .unset, .unset, .unset, .unset, .unset, .unset, .unset] [(.int (9 : Int32)), (.int ya)]))
      refine Done.step (fun _ => XT.iushr X0.here hx rfl (hb hby at_61) rfl) ?_
      show Done _ p e below s _ _ (T0.setTop (mkF m 62 #[oI xa, oI ya, oJ ta, .second, oJ tb, .second, oI sel, oI (xa &&& (511 : Int32)), oI (((xa.toUInt32 >>> ((9 : Int32) &&& 31).toUInt32).toInt32) &&& (511 : Int32)), oI (((xa.toUInt32 >>> ((18 : Int32) &&& 31).toUInt32).toInt32) &&& (511 : Int32)), oI (ya &&& (511 : Int32)), .unset, .unset, .unset, .unset, .unset, .unset, .unset, .unset] [(.int ((ya.toUInt32 >>> ((9 : Int32) &&& 31).toUInt32).toInt32))]))
      refine Done.step (fun _ => XT.sipushV X0.here hx rfl (511 : Int32) (hb hby at_62) (by decide)) ?_
      show Done _ p e below s _ _ (T0.setTop (mkF m 65 #[oI xa, oI ya, oJ ta, .second, oJ tb, .second, oI sel, oI (xa &&& (511 : Int32)), oI (((xa.toUInt32 >>> ((9 : Int32) &&& 31).toUInt32).toInt32) &&& (511 : Int32)), oI (((xa.toUInt32 >>> ((18 : Int32) &&& 31).toUInt32).toInt32) &&& (511 : Int32)), oI (ya &&& (511 : Int32)), .unset, .unset, .unset, .unset, .unset, .unset, .unset, .unset] [(.int (511 : Int32)), (.int ((ya.toUInt32 >>> ((9 : Int32) &&& 31).toUInt32).toInt32))]))
      refine Done.step (fun _ => XS.iand X0.here hx rfl (hb hby at_65) rfl) ?_
      show Done _ p e below s _ _ (T0.setTop (mkF m 66 #[oI xa, oI ya, oJ ta, .second, oJ tb, .second, oI sel, oI (xa &&& (511 : Int32)), oI (((xa.toUInt32 >>> ((9 : Int32) &&& 31).toUInt32).toInt32) &&& (511 : Int32)), oI (((xa.toUInt32 >>> ((18 : Int32) &&& 31).toUInt32).toInt32) &&& (511 : Int32)), oI (ya &&& (511 : Int32)), .unset, .unset, .unset, .unset, .unset, .unset, .unset, .unset] [(.int (((ya.toUInt32 >>> ((9 : Int32) &&& 31).toUInt32).toInt32) &&& (511 : Int32)))]))
      refine Done.step (fun _ => XS.istore X0.here hx rfl (hb hby at_66) rfl (l' := #[oI xa, oI ya, oJ ta, .second, oJ tb, .second, oI sel, oI (xa &&& (511 : Int32)), oI (((xa.toUInt32 >>> ((9 : Int32) &&& 31).toUInt32).toInt32) &&& (511 : Int32)), oI (((xa.toUInt32 >>> ((18 : Int32) &&& 31).toUInt32).toInt32) &&& (511 : Int32)), oI (ya &&& (511 : Int32)), oI (((ya.toUInt32 >>> ((9 : Int32) &&& 31).toUInt32).toInt32) &&& (511 : Int32)), .unset, .unset, .unset, .unset, .unset, .unset, .unset]) rfl) ?_
      show Done _ p e below s _ _ (T0.setTop (mkF m 68 #[oI xa, oI ya, oJ ta, .second, oJ tb, .second, oI sel, oI (xa &&& (511 : Int32)), oI (((xa.toUInt32 >>> ((9 : Int32) &&& 31).toUInt32).toInt32) &&& (511 : Int32)), oI (((xa.toUInt32 >>> ((18 : Int32) &&& 31).toUInt32).toInt32) &&& (511 : Int32)), oI (ya &&& (511 : Int32)), oI (((ya.toUInt32 >>> ((9 : Int32) &&& 31).toUInt32).toInt32) &&& (511 : Int32)), .unset, .unset, .unset, .unset, .unset, .unset, .unset] []))
      refine Done.step (fun _ => XS.iload X0.here hx rfl (hb hby at_68) rfl) ?_
      show Done _ p e below s _ _ (T0.setTop (mkF m 70 #[oI xa, oI ya, oJ ta, .second, oJ tb, .second, oI sel, oI (xa &&& (511 : Int32)), oI (((xa.toUInt32 >>> ((9 : Int32) &&& 31).toUInt32).toInt32) &&& (511 : Int32)), oI (((xa.toUInt32 >>> ((18 : Int32) &&& 31).toUInt32).toInt32) &&& (511 : Int32)), oI (ya &&& (511 : Int32)), oI (((ya.toUInt32 >>> ((9 : Int32) &&& 31).toUInt32).toInt32) &&& (511 : Int32)), .unset, .unset, .unset, .unset, .unset, .unset, .unset] [(.int sel)]))
      refine Done.step (fun _ => XT.iconstV X0.here hx rfl (4 : Int32) (hb hby at_70) (by decide)) ?_
      show Done _ p e below s _ _ (T0.setTop (mkF m 71 #[oI xa, oI ya, oJ ta, .second, oJ tb, .second, oI sel, oI (xa &&& (511 : Int32)), oI (((xa.toUInt32 >>> ((9 : Int32) &&& 31).toUInt32).toInt32) &&& (511 : Int32)), oI (((xa.toUInt32 >>> ((18 : Int32) &&& 31).toUInt32).toInt32) &&& (511 : Int32)), oI (ya &&& (511 : Int32)), oI (((ya.toUInt32 >>> ((9 : Int32) &&& 31).toUInt32).toInt32) &&& (511 : Int32)), .unset, .unset, .unset, .unset, .unset, .unset, .unset] [(.int (4 : Int32)), (.int sel)]))
      refine Done.step (fun _ => XS.iand X0.here hx rfl (hb hby at_71) rfl) ?_
      show Done _ p e below s _ _ (T0.setTop (mkF m 72 #[oI xa, oI ya, oJ ta, .second, oJ tb, .second, oI sel, oI (xa &&& (511 : Int32)), oI (((xa.toUInt32 >>> ((9 : Int32) &&& 31).toUInt32).toInt32) &&& (511 : Int32)), oI (((xa.toUInt32 >>> ((18 : Int32) &&& 31).toUInt32).toInt32) &&& (511 : Int32)), oI (ya &&& (511 : Int32)), oI (((ya.toUInt32 >>> ((9 : Int32) &&& 31).toUInt32).toInt32) &&& (511 : Int32)), .unset, .unset, .unset, .unset, .unset, .unset, .unset] [(.int (sel &&& (4 : Int32)))]))
      by_cases hc237 : (sel &&& (4 : Int32)) = (0 : Int32)
      · refine Done.step (fun _ => XS.ifYes X0.here hx rfl (pc0 := 72) (pc' := 80) rfl (hb hby at_72) rfl (XT.i0_eq_t hc237) (by decide) (by decide)) ?_
        show Done _ p e below s _ _ (T0.setTop (mkF m 80 #[oI xa, oI ya, oJ ta, .second, oJ tb, .second, oI sel, oI (xa &&& (511 : Int32)), oI (((xa.toUInt32 >>> ((9 : Int32) &&& 31).toUInt32).toInt32) &&& (511 : Int32)), oI (((xa.toUInt32 >>> ((18 : Int32) &&& 31).toUInt32).toInt32) &&& (511 : Int32)), oI (ya &&& (511 : Int32)), oI (((ya.toUInt32 >>> ((9 : Int32) &&& 31).toUInt32).toInt32) &&& (511 : Int32)), .unset, .unset, .unset, .unset, .unset, .unset, .unset] []))
        refine Done.step (fun _ => XS.iloadN X0.here hx rfl (hb hby at_80) rfl) ?_
        show Done _ p e below s _ _ (T0.setTop (mkF m 81 #[oI xa, oI ya, oJ ta, .second, oJ tb, .second, oI sel, oI (xa &&& (511 : Int32)), oI (((xa.toUInt32 >>> ((9 : Int32) &&& 31).toUInt32).toInt32) &&& (511 : Int32)), oI (((xa.toUInt32 >>> ((18 : Int32) &&& 31).toUInt32).toInt32) &&& (511 : Int32)), oI (ya &&& (511 : Int32)), oI (((ya.toUInt32 >>> ((9 : Int32) &&& 31).toUInt32).toInt32) &&& (511 : Int32)), .unset, .unset, .unset, .unset, .unset, .unset, .unset] [(.int ya)]))
        refine Done.step (fun _ => XT.bipushV X0.here hx rfl (18 : Int32) (hb hby at_81) (by decide)) ?_
        show Done _ p e below s _ _ (T0.setTop (mkF m 83 #[oI xa, oI ya, oJ ta, .second, oJ tb, .second, oI sel, oI (xa &&& (511 : Int32)), oI (((xa.toUInt32 >>> ((9 : Int32) &&& 31).toUInt32).toInt32) &&& (511 : Int32)), oI (((xa.toUInt32 >>> ((18 : Int32) &&& 31).toUInt32).toInt32) &&& (511 : Int32)), oI (ya &&& (511 : Int32)), oI (((ya.toUInt32 >>> ((9 : Int32) &&& 31).toUInt32).toInt32) &&& (511 : Int32)), .unset, .unset, .unset, .unset, .unset, .unset, .unset] [(.int (18 : Int32)), (.int ya)]))
        refine Done.step (fun _ => XT.iushr X0.here hx rfl (hb hby at_83) rfl) ?_
        show Done _ p e below s _ _ (T0.setTop (mkF m 84 #[oI xa, oI ya, oJ ta, .second, oJ tb, .second, oI sel, oI (xa &&& (511 : Int32)), oI (((xa.toUInt32 >>> ((9 : Int32) &&& 31).toUInt32).toInt32) &&& (511 : Int32)), oI (((xa.toUInt32 >>> ((18 : Int32) &&& 31).toUInt32).toInt32) &&& (511 : Int32)), oI (ya &&& (511 : Int32)), oI (((ya.toUInt32 >>> ((9 : Int32) &&& 31).toUInt32).toInt32) &&& (511 : Int32)), .unset, .unset, .unset, .unset, .unset, .unset, .unset] [(.int ((ya.toUInt32 >>> ((18 : Int32) &&& 31).toUInt32).toInt32))]))
        refine Done.step (fun _ => XT.sipushV X0.here hx rfl (511 : Int32) (hb hby at_84) (by decide)) ?_
        show Done _ p e below s _ _ (T0.setTop (mkF m 87 #[oI xa, oI ya, oJ ta, .second, oJ tb, .second, oI sel, oI (xa &&& (511 : Int32)), oI (((xa.toUInt32 >>> ((9 : Int32) &&& 31).toUInt32).toInt32) &&& (511 : Int32)), oI (((xa.toUInt32 >>> ((18 : Int32) &&& 31).toUInt32).toInt32) &&& (511 : Int32)), oI (ya &&& (511 : Int32)), oI (((ya.toUInt32 >>> ((9 : Int32) &&& 31).toUInt32).toInt32) &&& (511 : Int32)), .unset, .unset, .unset, .unset, .unset, .unset, .unset] [(.int (511 : Int32)), (.int ((ya.toUInt32 >>> ((18 : Int32) &&& 31).toUInt32).toInt32))]))
        refine Done.step (fun _ => XS.iand X0.here hx rfl (hb hby at_87) rfl) ?_
        show Done _ p e below s _ _ (T0.setTop (mkF m 88 #[oI xa, oI ya, oJ ta, .second, oJ tb, .second, oI sel, oI (xa &&& (511 : Int32)), oI (((xa.toUInt32 >>> ((9 : Int32) &&& 31).toUInt32).toInt32) &&& (511 : Int32)), oI (((xa.toUInt32 >>> ((18 : Int32) &&& 31).toUInt32).toInt32) &&& (511 : Int32)), oI (ya &&& (511 : Int32)), oI (((ya.toUInt32 >>> ((9 : Int32) &&& 31).toUInt32).toInt32) &&& (511 : Int32)), .unset, .unset, .unset, .unset, .unset, .unset, .unset] [(.int (((ya.toUInt32 >>> ((18 : Int32) &&& 31).toUInt32).toInt32) &&& (511 : Int32)))]))
        refine Done.step (fun _ => XS.istore X0.here hx rfl (hb hby at_88) rfl (l' := #[oI xa, oI ya, oJ ta, .second, oJ tb, .second, oI sel, oI (xa &&& (511 : Int32)), oI (((xa.toUInt32 >>> ((9 : Int32) &&& 31).toUInt32).toInt32) &&& (511 : Int32)), oI (((xa.toUInt32 >>> ((18 : Int32) &&& 31).toUInt32).toInt32) &&& (511 : Int32)), oI (ya &&& (511 : Int32)), oI (((ya.toUInt32 >>> ((9 : Int32) &&& 31).toUInt32).toInt32) &&& (511 : Int32)), oI (((ya.toUInt32 >>> ((18 : Int32) &&& 31).toUInt32).toInt32) &&& (511 : Int32)), .unset, .unset, .unset, .unset, .unset, .unset]) rfl) ?_
        show Done _ p e below s _ _ (T0.setTop (mkF m 90 #[oI xa, oI ya, oJ ta, .second, oJ tb, .second, oI sel, oI (xa &&& (511 : Int32)), oI (((xa.toUInt32 >>> ((9 : Int32) &&& 31).toUInt32).toInt32) &&& (511 : Int32)), oI (((xa.toUInt32 >>> ((18 : Int32) &&& 31).toUInt32).toInt32) &&& (511 : Int32)), oI (ya &&& (511 : Int32)), oI (((ya.toUInt32 >>> ((9 : Int32) &&& 31).toUInt32).toInt32) &&& (511 : Int32)), oI (((ya.toUInt32 >>> ((18 : Int32) &&& 31).toUInt32).toInt32) &&& (511 : Int32)), .unset, .unset, .unset, .unset, .unset, .unset] []))
        refine Done.step (fun _ => XS.iload X0.here hx rfl (hb hby at_90) rfl) ?_
        show Done _ p e below s _ _ (T0.setTop (mkF m 92 #[oI xa, oI ya, oJ ta, .second, oJ tb, .second, oI sel, oI (xa &&& (511 : Int32)), oI (((xa.toUInt32 >>> ((9 : Int32) &&& 31).toUInt32).toInt32) &&& (511 : Int32)), oI (((xa.toUInt32 >>> ((18 : Int32) &&& 31).toUInt32).toInt32) &&& (511 : Int32)), oI (ya &&& (511 : Int32)), oI (((ya.toUInt32 >>> ((9 : Int32) &&& 31).toUInt32).toInt32) &&& (511 : Int32)), oI (((ya.toUInt32 >>> ((18 : Int32) &&& 31).toUInt32).toInt32) &&& (511 : Int32)), .unset, .unset, .unset, .unset, .unset, .unset] [(.int sel)]))
        refine Done.step (fun _ => XT.bipushV X0.here hx rfl (8 : Int32) (hb hby at_92) (by decide)) ?_
        show Done _ p e below s _ _ (T0.setTop (mkF m 94 #[oI xa, oI ya, oJ ta, .second, oJ tb, .second, oI sel, oI (xa &&& (511 : Int32)), oI (((xa.toUInt32 >>> ((9 : Int32) &&& 31).toUInt32).toInt32) &&& (511 : Int32)), oI (((xa.toUInt32 >>> ((18 : Int32) &&& 31).toUInt32).toInt32) &&& (511 : Int32)), oI (ya &&& (511 : Int32)), oI (((ya.toUInt32 >>> ((9 : Int32) &&& 31).toUInt32).toInt32) &&& (511 : Int32)), oI (((ya.toUInt32 >>> ((18 : Int32) &&& 31).toUInt32).toInt32) &&& (511 : Int32)), .unset, .unset, .unset, .unset, .unset, .unset] [(.int (8 : Int32)), (.int sel)]))
        refine Done.step (fun _ => XS.iand X0.here hx rfl (hb hby at_94) rfl) ?_
        show Done _ p e below s _ _ (T0.setTop (mkF m 95 #[oI xa, oI ya, oJ ta, .second, oJ tb, .second, oI sel, oI (xa &&& (511 : Int32)), oI (((xa.toUInt32 >>> ((9 : Int32) &&& 31).toUInt32).toInt32) &&& (511 : Int32)), oI (((xa.toUInt32 >>> ((18 : Int32) &&& 31).toUInt32).toInt32) &&& (511 : Int32)), oI (ya &&& (511 : Int32)), oI (((ya.toUInt32 >>> ((9 : Int32) &&& 31).toUInt32).toInt32) &&& (511 : Int32)), oI (((ya.toUInt32 >>> ((18 : Int32) &&& 31).toUInt32).toInt32) &&& (511 : Int32)), .unset, .unset, .unset, .unset, .unset, .unset] [(.int (sel &&& (8 : Int32)))]))
        by_cases hc238 : (sel &&& (8 : Int32)) = (0 : Int32)
        · refine Done.step (fun _ => XS.ifYes X0.here hx rfl (pc0 := 95) (pc' := 102) rfl (hb hby at_95) rfl (XT.i0_eq_t hc238) (by decide) (by decide)) ?_
          show Done _ p e below s _ _ (T0.setTop (mkF m 102 #[oI xa, oI ya, oJ ta, .second, oJ tb, .second, oI sel, oI (xa &&& (511 : Int32)), oI (((xa.toUInt32 >>> ((9 : Int32) &&& 31).toUInt32).toInt32) &&& (511 : Int32)), oI (((xa.toUInt32 >>> ((18 : Int32) &&& 31).toUInt32).toInt32) &&& (511 : Int32)), oI (ya &&& (511 : Int32)), oI (((ya.toUInt32 >>> ((9 : Int32) &&& 31).toUInt32).toInt32) &&& (511 : Int32)), oI (((ya.toUInt32 >>> ((18 : Int32) &&& 31).toUInt32).toInt32) &&& (511 : Int32)), .unset, .unset, .unset, .unset, .unset, .unset] []))
          refine Done.step (fun _ => XT.lload X0.here hx rfl (hb hby at_102) rfl) ?_
          show Done _ p e below s _ _ (T0.setTop (mkF m 104 #[oI xa, oI ya, oJ ta, .second, oJ tb, .second, oI sel, oI (xa &&& (511 : Int32)), oI (((xa.toUInt32 >>> ((9 : Int32) &&& 31).toUInt32).toInt32) &&& (511 : Int32)), oI (((xa.toUInt32 >>> ((18 : Int32) &&& 31).toUInt32).toInt32) &&& (511 : Int32)), oI (ya &&& (511 : Int32)), oI (((ya.toUInt32 >>> ((9 : Int32) &&& 31).toUInt32).toInt32) &&& (511 : Int32)), oI (((ya.toUInt32 >>> ((18 : Int32) &&& 31).toUInt32).toInt32) &&& (511 : Int32)), .unset, .unset, .unset, .unset, .unset, .unset] [(.long tb)]))
          refine Done.step (fun _ => XT.lstore X0.here hx rfl (hb hby at_104) rfl (l' := #[oI xa, oI ya, oJ ta, .second, oJ tb, .second, oI sel, oI (xa &&& (511 : Int32)), oI (((xa.toUInt32 >>> ((9 : Int32) &&& 31).toUInt32).toInt32) &&& (511 : Int32)), oI (((xa.toUInt32 >>> ((18 : Int32) &&& 31).toUInt32).toInt32) &&& (511 : Int32)), oI (ya &&& (511 : Int32)), oI (((ya.toUInt32 >>> ((9 : Int32) &&& 31).toUInt32).toInt32) &&& (511 : Int32)), oI (((ya.toUInt32 >>> ((18 : Int32) &&& 31).toUInt32).toInt32) &&& (511 : Int32)), oJ tb, .second, .unset, .unset, .unset, .unset]) rfl) ?_
          show Done _ p e below s _ _ (T0.setTop (mkF m 106 #[oI xa, oI ya, oJ ta, .second, oJ tb, .second, oI sel, oI (xa &&& (511 : Int32)), oI (((xa.toUInt32 >>> ((9 : Int32) &&& 31).toUInt32).toInt32) &&& (511 : Int32)), oI (((xa.toUInt32 >>> ((18 : Int32) &&& 31).toUInt32).toInt32) &&& (511 : Int32)), oI (ya &&& (511 : Int32)), oI (((ya.toUInt32 >>> ((9 : Int32) &&& 31).toUInt32).toInt32) &&& (511 : Int32)), oI (((ya.toUInt32 >>> ((18 : Int32) &&& 31).toUInt32).toInt32) &&& (511 : Int32)), oJ tb, .second, .unset, .unset, .unset, .unset] []))
          exact K106 T0 e0 X0 (xa &&& (511 : Int32)) (((xa.toUInt32 >>> ((9 : Int32) &&& 31).toUInt32).toInt32) &&& (511 : Int32)) (((xa.toUInt32 >>> ((18 : Int32) &&& 31).toUInt32).toInt32) &&& (511 : Int32)) (ya &&& (511 : Int32)) (((ya.toUInt32 >>> ((9 : Int32) &&& 31).toUInt32).toInt32) &&& (511 : Int32)) (((ya.toUInt32 >>> ((18 : Int32) &&& 31).toUInt32).toInt32) &&& (511 : Int32)) tb
        · refine Done.step (fun _ => XS.ifNo X0.here hx rfl (hb hby at_95) rfl (XT.i0_eq_f hc238)) ?_
          show Done _ p e below s _ _ (T0.setTop (mkF m 98 #[oI xa, oI ya, oJ ta, .second, oJ tb, .second, oI sel, oI (xa &&& (511 : Int32)), oI (((xa.toUInt32 >>> ((9 : Int32) &&& 31).toUInt32).toInt32) &&& (511 : Int32)), oI (((xa.toUInt32 >>> ((18 : Int32) &&& 31).toUInt32).toInt32) &&& (511 : Int32)), oI (ya &&& (511 : Int32)), oI (((ya.toUInt32 >>> ((9 : Int32) &&& 31).toUInt32).toInt32) &&& (511 : Int32)), oI (((ya.toUInt32 >>> ((18 : Int32) &&& 31).toUInt32).toInt32) &&& (511 : Int32)), .unset, .unset, .unset, .unset, .unset, .unset] []))
          refine Done.step (fun _ => XT.lloadN X0.here hx rfl (hb hby at_98) rfl) ?_
          show Done _ p e below s _ _ (T0.setTop (mkF m 99 #[oI xa, oI ya, oJ ta, .second, oJ tb, .second, oI sel, oI (xa &&& (511 : Int32)), oI (((xa.toUInt32 >>> ((9 : Int32) &&& 31).toUInt32).toInt32) &&& (511 : Int32)), oI (((xa.toUInt32 >>> ((18 : Int32) &&& 31).toUInt32).toInt32) &&& (511 : Int32)), oI (ya &&& (511 : Int32)), oI (((ya.toUInt32 >>> ((9 : Int32) &&& 31).toUInt32).toInt32) &&& (511 : Int32)), oI (((ya.toUInt32 >>> ((18 : Int32) &&& 31).toUInt32).toInt32) &&& (511 : Int32)), .unset, .unset, .unset, .unset, .unset, .unset] [(.long ta)]))
          refine Done.step (fun _ => XS.goto X0.here hx rfl (pc0 := 99) (pc' := 104) rfl (hb hby at_99) (by decide) (by decide)) ?_
          show Done _ p e below s _ _ (T0.setTop (mkF m 104 #[oI xa, oI ya, oJ ta, .second, oJ tb, .second, oI sel, oI (xa &&& (511 : Int32)), oI (((xa.toUInt32 >>> ((9 : Int32) &&& 31).toUInt32).toInt32) &&& (511 : Int32)), oI (((xa.toUInt32 >>> ((18 : Int32) &&& 31).toUInt32).toInt32) &&& (511 : Int32)), oI (ya &&& (511 : Int32)), oI (((ya.toUInt32 >>> ((9 : Int32) &&& 31).toUInt32).toInt32) &&& (511 : Int32)), oI (((ya.toUInt32 >>> ((18 : Int32) &&& 31).toUInt32).toInt32) &&& (511 : Int32)), .unset, .unset, .unset, .unset, .unset, .unset] [(.long ta)]))
          refine Done.step (fun _ => XT.lstore X0.here hx rfl (hb hby at_104) rfl (l' := #[oI xa, oI ya, oJ ta, .second, oJ tb, .second, oI sel, oI (xa &&& (511 : Int32)), oI (((xa.toUInt32 >>> ((9 : Int32) &&& 31).toUInt32).toInt32) &&& (511 : Int32)), oI (((xa.toUInt32 >>> ((18 : Int32) &&& 31).toUInt32).toInt32) &&& (511 : Int32)), oI (ya &&& (511 : Int32)), oI (((ya.toUInt32 >>> ((9 : Int32) &&& 31).toUInt32).toInt32) &&& (511 : Int32)), oI (((ya.toUInt32 >>> ((18 : Int32) &&& 31).toUInt32).toInt32) &&& (511 : Int32)), oJ ta, .second, .unset, .unset, .unset, .unset]) rfl) ?_
          show Done _ p e below s _ _ (T0.setTop (mkF m 106 #[oI xa, oI ya, oJ ta, .second, oJ tb, .second, oI sel, oI (xa &&& (511 : Int32)), oI (((xa.toUInt32 >>> ((9 : Int32) &&& 31).toUInt32).toInt32) &&& (511 : Int32)), oI (((xa.toUInt32 >>> ((18 : Int32) &&& 31).toUInt32).toInt32) &&& (511 : Int32)), oI (ya &&& (511 : Int32)), oI (((ya.toUInt32 >>> ((9 : Int32) &&& 31).toUInt32).toInt32) &&& (511 : Int32)), oI (((ya.toUInt32 >>> ((18 : Int32) &&& 31).toUInt32).toInt32) &&& (511 : Int32)), oJ ta, .second, .unset, .unset, .unset, .unset] []))
          exact K106 T0 e0 X0 (xa &&& (511 : Int32)) (((xa.toUInt32 >>> ((9 : Int32) &&& 31).toUInt32).toInt32) &&& (511 : Int32)) (((xa.toUInt32 >>> ((18 : Int32) &&& 31).toUInt32).toInt32) &&& (511 : Int32)) (ya &&& (511 : Int32)) (((ya.toUInt32 >>> ((9 : Int32) &&& 31).toUInt32).toInt32) &&& (511 : Int32)) (((ya.toUInt32 >>> ((18 : Int32) &&& 31).toUInt32).toInt32) &&& (511 : Int32)) ta
      · refine Done.step (fun _ => XS.ifNo X0.here hx rfl (hb hby at_72) rfl (XT.i0_eq_f hc237)) ?_
        show Done _ p e below s _ _ (T0.setTop (mkF m 75 #[oI xa, oI ya, oJ ta, .second, oJ tb, .second, oI sel, oI (xa &&& (511 : Int32)), oI (((xa.toUInt32 >>> ((9 : Int32) &&& 31).toUInt32).toInt32) &&& (511 : Int32)), oI (((xa.toUInt32 >>> ((18 : Int32) &&& 31).toUInt32).toInt32) &&& (511 : Int32)), oI (ya &&& (511 : Int32)), oI (((ya.toUInt32 >>> ((9 : Int32) &&& 31).toUInt32).toInt32) &&& (511 : Int32)), .unset, .unset, .unset, .unset, .unset, .unset, .unset] []))
        refine Done.step (fun _ => XS.iload X0.here hx rfl (hb hby at_75) rfl) ?_
        show Done _ p e below s _ _ (T0.setTop (mkF m 77 #[oI xa, oI ya, oJ ta, .second, oJ tb, .second, oI sel, oI (xa &&& (511 : Int32)), oI (((xa.toUInt32 >>> ((9 : Int32) &&& 31).toUInt32).toInt32) &&& (511 : Int32)), oI (((xa.toUInt32 >>> ((18 : Int32) &&& 31).toUInt32).toInt32) &&& (511 : Int32)), oI (ya &&& (511 : Int32)), oI (((ya.toUInt32 >>> ((9 : Int32) &&& 31).toUInt32).toInt32) &&& (511 : Int32)), .unset, .unset, .unset, .unset, .unset, .unset, .unset] [(.int (((xa.toUInt32 >>> ((18 : Int32) &&& 31).toUInt32).toInt32) &&& (511 : Int32)))]))
        refine Done.step (fun _ => XS.goto X0.here hx rfl (pc0 := 77) (pc' := 88) rfl (hb hby at_77) (by decide) (by decide)) ?_
        show Done _ p e below s _ _ (T0.setTop (mkF m 88 #[oI xa, oI ya, oJ ta, .second, oJ tb, .second, oI sel, oI (xa &&& (511 : Int32)), oI (((xa.toUInt32 >>> ((9 : Int32) &&& 31).toUInt32).toInt32) &&& (511 : Int32)), oI (((xa.toUInt32 >>> ((18 : Int32) &&& 31).toUInt32).toInt32) &&& (511 : Int32)), oI (ya &&& (511 : Int32)), oI (((ya.toUInt32 >>> ((9 : Int32) &&& 31).toUInt32).toInt32) &&& (511 : Int32)), .unset, .unset, .unset, .unset, .unset, .unset, .unset] [(.int (((xa.toUInt32 >>> ((18 : Int32) &&& 31).toUInt32).toInt32) &&& (511 : Int32)))]))
        refine Done.step (fun _ => XS.istore X0.here hx rfl (hb hby at_88) rfl (l' := #[oI xa, oI ya, oJ ta, .second, oJ tb, .second, oI sel, oI (xa &&& (511 : Int32)), oI (((xa.toUInt32 >>> ((9 : Int32) &&& 31).toUInt32).toInt32) &&& (511 : Int32)), oI (((xa.toUInt32 >>> ((18 : Int32) &&& 31).toUInt32).toInt32) &&& (511 : Int32)), oI (ya &&& (511 : Int32)), oI (((ya.toUInt32 >>> ((9 : Int32) &&& 31).toUInt32).toInt32) &&& (511 : Int32)), oI (((xa.toUInt32 >>> ((18 : Int32) &&& 31).toUInt32).toInt32) &&& (511 : Int32)), .unset, .unset, .unset, .unset, .unset, .unset]) rfl) ?_
        show Done _ p e below s _ _ (T0.setTop (mkF m 90 #[oI xa, oI ya, oJ ta, .second, oJ tb, .second, oI sel, oI (xa &&& (511 : Int32)), oI (((xa.toUInt32 >>> ((9 : Int32) &&& 31).toUInt32).toInt32) &&& (511 : Int32)), oI (((xa.toUInt32 >>> ((18 : Int32) &&& 31).toUInt32).toInt32) &&& (511 : Int32)), oI (ya &&& (511 : Int32)), oI (((ya.toUInt32 >>> ((9 : Int32) &&& 31).toUInt32).toInt32) &&& (511 : Int32)), oI (((xa.toUInt32 >>> ((18 : Int32) &&& 31).toUInt32).toInt32) &&& (511 : Int32)), .unset, .unset, .unset, .unset, .unset, .unset] []))
        refine Done.step (fun _ => XS.iload X0.here hx rfl (hb hby at_90) rfl) ?_
        show Done _ p e below s _ _ (T0.setTop (mkF m 92 #[oI xa, oI ya, oJ ta, .second, oJ tb, .second, oI sel, oI (xa &&& (511 : Int32)), oI (((xa.toUInt32 >>> ((9 : Int32) &&& 31).toUInt32).toInt32) &&& (511 : Int32)), oI (((xa.toUInt32 >>> ((18 : Int32) &&& 31).toUInt32).toInt32) &&& (511 : Int32)), oI (ya &&& (511 : Int32)), oI (((ya.toUInt32 >>> ((9 : Int32) &&& 31).toUInt32).toInt32) &&& (511 : Int32)), oI (((xa.toUInt32 >>> ((18 : Int32) &&& 31).toUInt32).toInt32) &&& (511 : Int32)), .unset, .unset, .unset, .unset, .unset, .unset] [(.int sel)]))
        refine Done.step (fun _ => XT.bipushV X0.here hx rfl (8 : Int32) (hb hby at_92) (by decide)) ?_
        show Done _ p e below s _ _ (T0.setTop (mkF m 94 #[oI xa, oI ya, oJ ta, .second, oJ tb, .second, oI sel, oI (xa &&& (511 : Int32)), oI (((xa.toUInt32 >>> ((9 : Int32) &&& 31).toUInt32).toInt32) &&& (511 : Int32)), oI (((xa.toUInt32 >>> ((18 : Int32) &&& 31).toUInt32).toInt32) &&& (511 : Int32)), oI (ya &&& (511 : Int32)), oI (((ya.toUInt32 >>> ((9 : Int32) &&& 31).toUInt32).toInt32) &&& (511 : Int32)), oI (((xa.toUInt32 >>> ((18 : Int32) &&& 31).toUInt32).toInt32) &&& (511 : Int32)), .unset, .unset, .unset, .unset, .unset, .unset] [(.int (8 : Int32)), (.int sel)]))
        refine Done.step (fun _ => XS.iand X0.here hx rfl (hb hby at_94) rfl) ?_
        show Done _ p e below s _ _ (T0.setTop (mkF m 95 #[oI xa, oI ya, oJ ta, .second, oJ tb, .second, oI sel, oI (xa &&& (511 : Int32)), oI (((xa.toUInt32 >>> ((9 : Int32) &&& 31).toUInt32).toInt32) &&& (511 : Int32)), oI (((xa.toUInt32 >>> ((18 : Int32) &&& 31).toUInt32).toInt32) &&& (511 : Int32)), oI (ya &&& (511 : Int32)), oI (((ya.toUInt32 >>> ((9 : Int32) &&& 31).toUInt32).toInt32) &&& (511 : Int32)), oI (((xa.toUInt32 >>> ((18 : Int32) &&& 31).toUInt32).toInt32) &&& (511 : Int32)), .unset, .unset, .unset, .unset, .unset, .unset] [(.int (sel &&& (8 : Int32)))]))
        by_cases hc239 : (sel &&& (8 : Int32)) = (0 : Int32)
        · refine Done.step (fun _ => XS.ifYes X0.here hx rfl (pc0 := 95) (pc' := 102) rfl (hb hby at_95) rfl (XT.i0_eq_t hc239) (by decide) (by decide)) ?_
          show Done _ p e below s _ _ (T0.setTop (mkF m 102 #[oI xa, oI ya, oJ ta, .second, oJ tb, .second, oI sel, oI (xa &&& (511 : Int32)), oI (((xa.toUInt32 >>> ((9 : Int32) &&& 31).toUInt32).toInt32) &&& (511 : Int32)), oI (((xa.toUInt32 >>> ((18 : Int32) &&& 31).toUInt32).toInt32) &&& (511 : Int32)), oI (ya &&& (511 : Int32)), oI (((ya.toUInt32 >>> ((9 : Int32) &&& 31).toUInt32).toInt32) &&& (511 : Int32)), oI (((xa.toUInt32 >>> ((18 : Int32) &&& 31).toUInt32).toInt32) &&& (511 : Int32)), .unset, .unset, .unset, .unset, .unset, .unset] []))
          refine Done.step (fun _ => XT.lload X0.here hx rfl (hb hby at_102) rfl) ?_
          show Done _ p e below s _ _ (T0.setTop (mkF m 104 #[oI xa, oI ya, oJ ta, .second, oJ tb, .second, oI sel, oI (xa &&& (511 : Int32)), oI (((xa.toUInt32 >>> ((9 : Int32) &&& 31).toUInt32).toInt32) &&& (511 : Int32)), oI (((xa.toUInt32 >>> ((18 : Int32) &&& 31).toUInt32).toInt32) &&& (511 : Int32)), oI (ya &&& (511 : Int32)), oI (((ya.toUInt32 >>> ((9 : Int32) &&& 31).toUInt32).toInt32) &&& (511 : Int32)), oI (((xa.toUInt32 >>> ((18 : Int32) &&& 31).toUInt32).toInt32) &&& (511 : Int32)), .unset, .unset, .unset, .unset, .unset, .unset] [(.long tb)]))
          refine Done.step (fun _ => XT.lstore X0.here hx rfl (hb hby at_104) rfl (l' := #[oI xa, oI ya, oJ ta, .second, oJ tb, .second, oI sel, oI (xa &&& (511 : Int32)), oI (((xa.toUInt32 >>> ((9 : Int32) &&& 31).toUInt32).toInt32) &&& (511 : Int32)), oI (((xa.toUInt32 >>> ((18 : Int32) &&& 31).toUInt32).toInt32) &&& (511 : Int32)), oI (ya &&& (511 : Int32)), oI (((ya.toUInt32 >>> ((9 : Int32) &&& 31).toUInt32).toInt32) &&& (511 : Int32)), oI (((xa.toUInt32 >>> ((18 : Int32) &&& 31).toUInt32).toInt32) &&& (511 : Int32)), oJ tb, .second, .unset, .unset, .unset, .unset]) rfl) ?_
          show Done _ p e below s _ _ (T0.setTop (mkF m 106 #[oI xa, oI ya, oJ ta, .second, oJ tb, .second, oI sel, oI (xa &&& (511 : Int32)), oI (((xa.toUInt32 >>> ((9 : Int32) &&& 31).toUInt32).toInt32) &&& (511 : Int32)), oI (((xa.toUInt32 >>> ((18 : Int32) &&& 31).toUInt32).toInt32) &&& (511 : Int32)), oI (ya &&& (511 : Int32)), oI (((ya.toUInt32 >>> ((9 : Int32) &&& 31).toUInt32).toInt32) &&& (511 : Int32)), oI (((xa.toUInt32 >>> ((18 : Int32) &&& 31).toUInt32).toInt32) &&& (511 : Int32)), oJ tb, .second, .unset, .unset, .unset, .unset] []))
          exact K106 T0 e0 X0 (xa &&& (511 : Int32)) (((xa.toUInt32 >>> ((9 : Int32) &&& 31).toUInt32).toInt32) &&& (511 : Int32)) (((xa.toUInt32 >>> ((18 : Int32) &&& 31).toUInt32).toInt32) &&& (511 : Int32)) (ya &&& (511 : Int32)) (((ya.toUInt32 >>> ((9 : Int32) &&& 31).toUInt32).toInt32) &&& (511 : Int32)) (((xa.toUInt32 >>> ((18 : Int32) &&& 31).toUInt32).toInt32) &&& (511 : Int32)) tb
        · refine Done.step (fun _ => XS.ifNo X0.here hx rfl (hb hby at_95) rfl (XT.i0_eq_f hc239)) ?_
          show Done _ p e below s _ _ (T0.setTop (mkF m 98 #[oI xa, oI ya, oJ ta, .second, oJ tb, .second, oI sel, oI (xa &&& (511 : Int32)), oI (((xa.toUInt32 >>> ((9 : Int32) &&& 31).toUInt32).toInt32) &&& (511 : Int32)), oI (((xa.toUInt32 >>> ((18 : Int32) &&& 31).toUInt32).toInt32) &&& (511 : Int32)), oI (ya &&& (511 : Int32)), oI (((ya.toUInt32 >>> ((9 : Int32) &&& 31).toUInt32).toInt32) &&& (511 : Int32)), oI (((xa.toUInt32 >>> ((18 : Int32) &&& 31).toUInt32).toInt32) &&& (511 : Int32)), .unset, .unset, .unset, .unset, .unset, .unset] []))
          refine Done.step (fun _ => XT.lloadN X0.here hx rfl (hb hby at_98) rfl) ?_
          show Done _ p e below s _ _ (T0.setTop (mkF m 99 #[oI xa, oI ya, oJ ta, .second, oJ tb, .second, oI sel, oI (xa &&& (511 : Int32)), oI (((xa.toUInt32 >>> ((9 : Int32) &&& 31).toUInt32).toInt32) &&& (511 : Int32)), oI (((xa.toUInt32 >>> ((18 : Int32) &&& 31).toUInt32).toInt32) &&& (511 : Int32)), oI (ya &&& (511 : Int32)), oI (((ya.toUInt32 >>> ((9 : Int32) &&& 31).toUInt32).toInt32) &&& (511 : Int32)), oI (((xa.toUInt32 >>> ((18 : Int32) &&& 31).toUInt32).toInt32) &&& (511 : Int32)), .unset, .unset, .unset, .unset, .unset, .unset] [(.long ta)]))
          refine Done.step (fun _ => XS.goto X0.here hx rfl (pc0 := 99) (pc' := 104) rfl (hb hby at_99) (by decide) (by decide)) ?_
          show Done _ p e below s _ _ (T0.setTop (mkF m 104 #[oI xa, oI ya, oJ ta, .second, oJ tb, .second, oI sel, oI (xa &&& (511 : Int32)), oI (((xa.toUInt32 >>> ((9 : Int32) &&& 31).toUInt32).toInt32) &&& (511 : Int32)), oI (((xa.toUInt32 >>> ((18 : Int32) &&& 31).toUInt32).toInt32) &&& (511 : Int32)), oI (ya &&& (511 : Int32)), oI (((ya.toUInt32 >>> ((9 : Int32) &&& 31).toUInt32).toInt32) &&& (511 : Int32)), oI (((xa.toUInt32 >>> ((18 : Int32) &&& 31).toUInt32).toInt32) &&& (511 : Int32)), .unset, .unset, .unset, .unset, .unset, .unset] [(.long ta)]))
          refine Done.step (fun _ => XT.lstore X0.here hx rfl (hb hby at_104) rfl (l' := #[oI xa, oI ya, oJ ta, .second, oJ tb, .second, oI sel, oI (xa &&& (511 : Int32)), oI (((xa.toUInt32 >>> ((9 : Int32) &&& 31).toUInt32).toInt32) &&& (511 : Int32)), oI (((xa.toUInt32 >>> ((18 : Int32) &&& 31).toUInt32).toInt32) &&& (511 : Int32)), oI (ya &&& (511 : Int32)), oI (((ya.toUInt32 >>> ((9 : Int32) &&& 31).toUInt32).toInt32) &&& (511 : Int32)), oI (((xa.toUInt32 >>> ((18 : Int32) &&& 31).toUInt32).toInt32) &&& (511 : Int32)), oJ ta, .second, .unset, .unset, .unset, .unset]) rfl) ?_
          show Done _ p e below s _ _ (T0.setTop (mkF m 106 #[oI xa, oI ya, oJ ta, .second, oJ tb, .second, oI sel, oI (xa &&& (511 : Int32)), oI (((xa.toUInt32 >>> ((9 : Int32) &&& 31).toUInt32).toInt32) &&& (511 : Int32)), oI (((xa.toUInt32 >>> ((18 : Int32) &&& 31).toUInt32).toInt32) &&& (511 : Int32)), oI (ya &&& (511 : Int32)), oI (((ya.toUInt32 >>> ((9 : Int32) &&& 31).toUInt32).toInt32) &&& (511 : Int32)), oI (((xa.toUInt32 >>> ((18 : Int32) &&& 31).toUInt32).toInt32) &&& (511 : Int32)), oJ ta, .second, .unset, .unset, .unset, .unset] []))
          exact K106 T0 e0 X0 (xa &&& (511 : Int32)) (((xa.toUInt32 >>> ((9 : Int32) &&& 31).toUInt32).toInt32) &&& (511 : Int32)) (((xa.toUInt32 >>> ((18 : Int32) &&& 31).toUInt32).toInt32) &&& (511 : Int32)) (ya &&& (511 : Int32)) (((ya.toUInt32 >>> ((9 : Int32) &&& 31).toUInt32).toInt32) &&& (511 : Int32)) (((xa.toUInt32 >>> ((18 : Int32) &&& 31).toUInt32).toInt32) &&& (511 : Int32)) ta
    · refine Done.step (fun _ => XS.ifNo X0.here hx rfl (hb hby at_50) rfl (XT.i0_eq_f hc236)) ?_
      show Done _ p e below s _ _ (T0.setTop (mkF m 53 #[oI xa, oI ya, oJ ta, .second, oJ tb, .second, oI sel, oI (xa &&& (511 : Int32)), oI (((xa.toUInt32 >>> ((9 : Int32) &&& 31).toUInt32).toInt32) &&& (511 : Int32)), oI (((xa.toUInt32 >>> ((18 : Int32) &&& 31).toUInt32).toInt32) &&& (511 : Int32)), oI (ya &&& (511 : Int32)), .unset, .unset, .unset, .unset, .unset, .unset, .unset, .unset] []))
      refine Done.step (fun _ => XS.iload X0.here hx rfl (hb hby at_53) rfl) ?_
      show Done _ p e below s _ _ (T0.setTop (mkF m 55 #[oI xa, oI ya, oJ ta, .second, oJ tb, .second, oI sel, oI (xa &&& (511 : Int32)), oI (((xa.toUInt32 >>> ((9 : Int32) &&& 31).toUInt32).toInt32) &&& (511 : Int32)), oI (((xa.toUInt32 >>> ((18 : Int32) &&& 31).toUInt32).toInt32) &&& (511 : Int32)), oI (ya &&& (511 : Int32)), .unset, .unset, .unset, .unset, .unset, .unset, .unset, .unset] [(.int (((xa.toUInt32 >>> ((9 : Int32) &&& 31).toUInt32).toInt32) &&& (511 : Int32)))]))
      refine Done.step (fun _ => XS.goto X0.here hx rfl (pc0 := 55) (pc' := 66) rfl (hb hby at_55) (by decide) (by decide)) ?_
      show Done _ p e below s _ _ (T0.setTop (mkF m 66 #[oI xa, oI ya, oJ ta, .second, oJ tb, .second, oI sel, oI (xa &&& (511 : Int32)), oI (((xa.toUInt32 >>> ((9 : Int32) &&& 31).toUInt32).toInt32) &&& (511 : Int32)), oI (((xa.toUInt32 >>> ((18 : Int32) &&& 31).toUInt32).toInt32) &&& (511 : Int32)), oI (ya &&& (511 : Int32)), .unset, .unset, .unset, .unset, .unset, .unset, .unset, .unset] [(.int (((xa.toUInt32 >>> ((9 : Int32) &&& 31).toUInt32).toInt32) &&& (511 : Int32)))]))
      refine Done.step (fun _ => XS.istore X0.here hx rfl (hb hby at_66) rfl (l' := #[oI xa, oI ya, oJ ta, .second, oJ tb, .second, oI sel, oI (xa &&& (511 : Int32)), oI (((xa.toUInt32 >>> ((9 : Int32) &&& 31).toUInt32).toInt32) &&& (511 : Int32)), oI (((xa.toUInt32 >>> ((18 : Int32) &&& 31).toUInt32).toInt32) &&& (511 : Int32)), oI (ya &&& (511 : Int32)), oI (((xa.toUInt32 >>> ((9 : Int32) &&& 31).toUInt32).toInt32) &&& (511 : Int32)), .unset, .unset, .unset, .unset, .unset, .unset, .unset]) rfl) ?_
      show Done _ p e below s _ _ (T0.setTop (mkF m 68 #[oI xa, oI ya, oJ ta, .second, oJ tb, .second, oI sel, oI (xa &&& (511 : Int32)), oI (((xa.toUInt32 >>> ((9 : Int32) &&& 31).toUInt32).toInt32) &&& (511 : Int32)), oI (((xa.toUInt32 >>> ((18 : Int32) &&& 31).toUInt32).toInt32) &&& (511 : Int32)), oI (ya &&& (511 : Int32)), oI (((xa.toUInt32 >>> ((9 : Int32) &&& 31).toUInt32).toInt32) &&& (511 : Int32)), .unset, .unset, .unset, .unset, .unset, .unset, .unset] []))
      refine Done.step (fun _ => XS.iload X0.here hx rfl (hb hby at_68) rfl) ?_
      show Done _ p e below s _ _ (T0.setTop (mkF m 70 #[oI xa, oI ya, oJ ta, .second, oJ tb, .second, oI sel, oI (xa &&& (511 : Int32)), oI (((xa.toUInt32 >>> ((9 : Int32) &&& 31).toUInt32).toInt32) &&& (511 : Int32)), oI (((xa.toUInt32 >>> ((18 : Int32) &&& 31).toUInt32).toInt32) &&& (511 : Int32)), oI (ya &&& (511 : Int32)), oI (((xa.toUInt32 >>> ((9 : Int32) &&& 31).toUInt32).toInt32) &&& (511 : Int32)), .unset, .unset, .unset, .unset, .unset, .unset, .unset] [(.int sel)]))
      refine Done.step (fun _ => XT.iconstV X0.here hx rfl (4 : Int32) (hb hby at_70) (by decide)) ?_
      show Done _ p e below s _ _ (T0.setTop (mkF m 71 #[oI xa, oI ya, oJ ta, .second, oJ tb, .second, oI sel, oI (xa &&& (511 : Int32)), oI (((xa.toUInt32 >>> ((9 : Int32) &&& 31).toUInt32).toInt32) &&& (511 : Int32)), oI (((xa.toUInt32 >>> ((18 : Int32) &&& 31).toUInt32).toInt32) &&& (511 : Int32)), oI (ya &&& (511 : Int32)), oI (((xa.toUInt32 >>> ((9 : Int32) &&& 31).toUInt32).toInt32) &&& (511 : Int32)), .unset, .unset, .unset, .unset, .unset, .unset, .unset] [(.int (4 : Int32)), (.int sel)]))
      refine Done.step (fun _ => XS.iand X0.here hx rfl (hb hby at_71) rfl) ?_
      show Done _ p e below s _ _ (T0.setTop (mkF m 72 #[oI xa, oI ya, oJ ta, .second, oJ tb, .second, oI sel, oI (xa &&& (511 : Int32)), oI (((xa.toUInt32 >>> ((9 : Int32) &&& 31).toUInt32).toInt32) &&& (511 : Int32)), oI (((xa.toUInt32 >>> ((18 : Int32) &&& 31).toUInt32).toInt32) &&& (511 : Int32)), oI (ya &&& (511 : Int32)), oI (((xa.toUInt32 >>> ((9 : Int32) &&& 31).toUInt32).toInt32) &&& (511 : Int32)), .unset, .unset, .unset, .unset, .unset, .unset, .unset] [(.int (sel &&& (4 : Int32)))]))
      by_cases hc240 : (sel &&& (4 : Int32)) = (0 : Int32)
      · refine Done.step (fun _ => XS.ifYes X0.here hx rfl (pc0 := 72) (pc' := 80) rfl (hb hby at_72) rfl (XT.i0_eq_t hc240) (by decide) (by decide)) ?_
        show Done _ p e below s _ _ (T0.setTop (mkF m 80 #[oI xa, oI ya, oJ ta, .second, oJ tb, .second, oI sel, oI (xa &&& (511 : Int32)), oI (((xa.toUInt32 >>> ((9 : Int32) &&& 31).toUInt32).toInt32) &&& (511 : Int32)), oI (((xa.toUInt32 >>> ((18 : Int32) &&& 31).toUInt32).toInt32) &&& (511 : Int32)), oI (ya &&& (511 : Int32)), oI (((xa.toUInt32 >>> ((9 : Int32) &&& 31).toUInt32).toInt32) &&& (511 : Int32)), .unset, .unset, .unset, .unset, .unset, .unset, .unset] []))
        refine Done.step (fun _ => XS.iloadN X0.here hx rfl (hb hby at_80) rfl) ?_
        show Done _ p e below s _ _ (T0.setTop (mkF m 81 #[oI xa, oI ya, oJ ta, .second, oJ tb, .second, oI sel, oI (xa &&& (511 : Int32)), oI (((xa.toUInt32 >>> ((9 : Int32) &&& 31).toUInt32).toInt32) &&& (511 : Int32)), oI (((xa.toUInt32 >>> ((18 : Int32) &&& 31).toUInt32).toInt32) &&& (511 : Int32)), oI (ya &&& (511 : Int32)), oI (((xa.toUInt32 >>> ((9 : Int32) &&& 31).toUInt32).toInt32) &&& (511 : Int32)), .unset, .unset, .unset, .unset, .unset, .unset, .unset] [(.int ya)]))
        refine Done.step (fun _ => XT.bipushV X0.here hx rfl (18 : Int32) (hb hby at_81) (by decide)) ?_
        show Done _ p e below s _ _ (T0.setTop (mkF m 83 #[oI xa, oI ya, oJ ta, .second, oJ tb, .second, oI sel, oI (xa &&& (511 : Int32)), oI (((xa.toUInt32 >>> ((9 : Int32) &&& 31).toUInt32).toInt32) &&& (511 : Int32)), oI (((xa.toUInt32 >>> ((18 : Int32) &&& 31).toUInt32).toInt32) &&& (511 : Int32)), oI (ya &&& (511 : Int32)), oI (((xa.toUInt32 >>> ((9 : Int32) &&& 31).toUInt32).toInt32) &&& (511 : Int32)), .unset, .unset, .unset, .unset, .unset, .unset, .unset] [(.int (18 : Int32)), (.int ya)]))
        refine Done.step (fun _ => XT.iushr X0.here hx rfl (hb hby at_83) rfl) ?_
        show Done _ p e below s _ _ (T0.setTop (mkF m 84 #[oI xa, oI ya, oJ ta, .second, oJ tb, .second, oI sel, oI (xa &&& (511 : Int32)), oI (((xa.toUInt32 >>> ((9 : Int32) &&& 31).toUInt32).toInt32) &&& (511 : Int32)), oI (((xa.toUInt32 >>> ((18 : Int32) &&& 31).toUInt32).toInt32) &&& (511 : Int32)), oI (ya &&& (511 : Int32)), oI (((xa.toUInt32 >>> ((9 : Int32) &&& 31).toUInt32).toInt32) &&& (511 : Int32)), .unset, .unset, .unset, .unset, .unset, .unset, .unset] [(.int ((ya.toUInt32 >>> ((18 : Int32) &&& 31).toUInt32).toInt32))]))
        refine Done.step (fun _ => XT.sipushV X0.here hx rfl (511 : Int32) (hb hby at_84) (by decide)) ?_
        show Done _ p e below s _ _ (T0.setTop (mkF m 87 #[oI xa, oI ya, oJ ta, .second, oJ tb, .second, oI sel, oI (xa &&& (511 : Int32)), oI (((xa.toUInt32 >>> ((9 : Int32) &&& 31).toUInt32).toInt32) &&& (511 : Int32)), oI (((xa.toUInt32 >>> ((18 : Int32) &&& 31).toUInt32).toInt32) &&& (511 : Int32)), oI (ya &&& (511 : Int32)), oI (((xa.toUInt32 >>> ((9 : Int32) &&& 31).toUInt32).toInt32) &&& (511 : Int32)), .unset, .unset, .unset, .unset, .unset, .unset, .unset] [(.int (511 : Int32)), (.int ((ya.toUInt32 >>> ((18 : Int32) &&& 31).toUInt32).toInt32))]))
        refine Done.step (fun _ => XS.iand X0.here hx rfl (hb hby at_87) rfl) ?_
        show Done _ p e below s _ _ (T0.setTop (mkF m 88 #[oI xa, oI ya, oJ ta, .second, oJ tb, .second, oI sel, oI (xa &&& (511 : Int32)), oI (((xa.toUInt32 >>> ((9 : Int32) &&& 31).toUInt32).toInt32) &&& (511 : Int32)), oI (((xa.toUInt32 >>> ((18 : Int32) &&& 31).toUInt32).toInt32) &&& (511 : Int32)), oI (ya &&& (511 : Int32)), oI (((xa.toUInt32 >>> ((9 : Int32) &&& 31).toUInt32).toInt32) &&& (511 : Int32)), .unset, .unset, .unset, .unset, .unset, .unset, .unset] [(.int (((ya.toUInt32 >>> ((18 : Int32) &&& 31).toUInt32).toInt32) &&& (511 : Int32)))]))
        refine Done.step (fun _ => XS.istore X0.here hx rfl (hb hby at_88) rfl (l' := #[oI xa, oI ya, oJ ta, .second, oJ tb, .second, oI sel, oI (xa &&& (511 : Int32)), oI (((xa.toUInt32 >>> ((9 : Int32) &&& 31).toUInt32).toInt32) &&& (511 : Int32)), oI (((xa.toUInt32 >>> ((18 : Int32) &&& 31).toUInt32).toInt32) &&& (511 : Int32)), oI (ya &&& (511 : Int32)), oI (((xa.toUInt32 >>> ((9 : Int32) &&& 31).toUInt32).toInt32) &&& (511 : Int32)), oI (((ya.toUInt32 >>> ((18 : Int32) &&& 31).toUInt32).toInt32) &&& (511 : Int32)), .unset, .unset, .unset, .unset, .unset, .unset]) rfl) ?_
        show Done _ p e below s _ _ (T0.setTop (mkF m 90 #[oI xa, oI ya, oJ ta, .second, oJ tb, .second, oI sel, oI (xa &&& (511 : Int32)), oI (((xa.toUInt32 >>> ((9 : Int32) &&& 31).toUInt32).toInt32) &&& (511 : Int32)), oI (((xa.toUInt32 >>> ((18 : Int32) &&& 31).toUInt32).toInt32) &&& (511 : Int32)), oI (ya &&& (511 : Int32)), oI (((xa.toUInt32 >>> ((9 : Int32) &&& 31).toUInt32).toInt32) &&& (511 : Int32)), oI (((ya.toUInt32 >>> ((18 : Int32) &&& 31).toUInt32).toInt32) &&& (511 : Int32)), .unset, .unset, .unset, .unset, .unset, .unset] []))
        refine Done.step (fun _ => XS.iload X0.here hx rfl (hb hby at_90) rfl) ?_
        show Done _ p e below s _ _ (T0.setTop (mkF m 92 #[oI xa, oI ya, oJ ta, .second, oJ tb, .second, oI sel, oI (xa &&& (511 : Int32)), oI (((xa.toUInt32 >>> ((9 : Int32) &&& 31).toUInt32).toInt32) &&& (511 : Int32)), oI (((xa.toUInt32 >>> ((18 : Int32) &&& 31).toUInt32).toInt32) &&& (511 : Int32)), oI (ya &&& (511 : Int32)), oI (((xa.toUInt32 >>> ((9 : Int32) &&& 31).toUInt32).toInt32) &&& (511 : Int32)), oI (((ya.toUInt32 >>> ((18 : Int32) &&& 31).toUInt32).toInt32) &&& (511 : Int32)), .unset, .unset, .unset, .unset, .unset, .unset] [(.int sel)]))
        refine Done.step (fun _ => XT.bipushV X0.here hx rfl (8 : Int32) (hb hby at_92) (by decide)) ?_
        show Done _ p e below s _ _ (T0.setTop (mkF m 94 #[oI xa, oI ya, oJ ta, .second, oJ tb, .second, oI sel, oI (xa &&& (511 : Int32)), oI (((xa.toUInt32 >>> ((9 : Int32) &&& 31).toUInt32).toInt32) &&& (511 : Int32)), oI (((xa.toUInt32 >>> ((18 : Int32) &&& 31).toUInt32).toInt32) &&& (511 : Int32)), oI (ya &&& (511 : Int32)), oI (((xa.toUInt32 >>> ((9 : Int32) &&& 31).toUInt32).toInt32) &&& (511 : Int32)), oI (((ya.toUInt32 >>> ((18 : Int32) &&& 31).toUInt32).toInt32) &&& (511 : Int32)), .unset, .unset, .unset, .unset, .unset, .unset] [(.int (8 : Int32)), (.int sel)]))
        refine Done.step (fun _ => XS.iand X0.here hx rfl (hb hby at_94) rfl) ?_
        show Done _ p e below s _ _ (T0.setTop (mkF m 95 #[oI xa, oI ya, oJ ta, .second, oJ tb, .second, oI sel, oI (xa &&& (511 : Int32)), oI (((xa.toUInt32 >>> ((9 : Int32) &&& 31).toUInt32).toInt32) &&& (511 : Int32)), oI (((xa.toUInt32 >>> ((18 : Int32) &&& 31).toUInt32).toInt32) &&& (511 : Int32)), oI (ya &&& (511 : Int32)), oI (((xa.toUInt32 >>> ((9 : Int32) &&& 31).toUInt32).toInt32) &&& (511 : Int32)), oI (((ya.toUInt32 >>> ((18 : Int32) &&& 31).toUInt32).toInt32) &&& (511 : Int32)), .unset, .unset, .unset, .unset, .unset, .unset] [(.int (sel &&& (8 : Int32)))]))
        by_cases hc241 : (sel &&& (8 : Int32)) = (0 : Int32)
        · refine Done.step (fun _ => XS.ifYes X0.here hx rfl (pc0 := 95) (pc' := 102) rfl (hb hby at_95) rfl (XT.i0_eq_t hc241) (by decide) (by decide)) ?_
          show Done _ p e below s _ _ (T0.setTop (mkF m 102 #[oI xa, oI ya, oJ ta, .second, oJ tb, .second, oI sel, oI (xa &&& (511 : Int32)), oI (((xa.toUInt32 >>> ((9 : Int32) &&& 31).toUInt32).toInt32) &&& (511 : Int32)), oI (((xa.toUInt32 >>> ((18 : Int32) &&& 31).toUInt32).toInt32) &&& (511 : Int32)), oI (ya &&& (511 : Int32)), oI (((xa.toUInt32 >>> ((9 : Int32) &&& 31).toUInt32).toInt32) &&& (511 : Int32)), oI (((ya.toUInt32 >>> ((18 : Int32) &&& 31).toUInt32).toInt32) &&& (511 : Int32)), .unset, .unset, .unset, .unset, .unset, .unset] []))
          refine Done.step (fun _ => XT.lload X0.here hx rfl (hb hby at_102) rfl) ?_
          show Done _ p e below s _ _ (T0.setTop (mkF m 104 #[oI xa, oI ya, oJ ta, .second, oJ tb, .second, oI sel, oI (xa &&& (511 : Int32)), oI (((xa.toUInt32 >>> ((9 : Int32) &&& 31).toUInt32).toInt32) &&& (511 : Int32)), oI (((xa.toUInt32 >>> ((18 : Int32) &&& 31).toUInt32).toInt32) &&& (511 : Int32)), oI (ya &&& (511 : Int32)), oI (((xa.toUInt32 >>> ((9 : Int32) &&& 31).toUInt32).toInt32) &&& (511 : Int32)), oI (((ya.toUInt32 >>> ((18 : Int32) &&& 31).toUInt32).toInt32) &&& (511 : Int32)), .unset, .unset, .unset, .unset, .unset, .unset] [(.long tb)]))
          refine Done.step (fun _ => XT.lstore X0.here hx rfl (hb hby at_104) rfl (l' := #[oI xa, oI ya, oJ ta, .second, oJ tb, .second, oI sel, oI (xa &&& (511 : Int32)), oI (((xa.toUInt32 >>> ((9 : Int32) &&& 31).toUInt32).toInt32) &&& (511 : Int32)), oI (((xa.toUInt32 >>> ((18 : Int32) &&& 31).toUInt32).toInt32) &&& (511 : Int32)), oI (ya &&& (511 : Int32)), oI (((xa.toUInt32 >>> ((9 : Int32) &&& 31).toUInt32).toInt32) &&& (511 : Int32)), oI (((ya.toUInt32 >>> ((18 : Int32) &&& 31).toUInt32).toInt32) &&& (511 : Int32)), oJ tb, .second, .unset, .unset, .unset, .unset]) rfl) ?_
          show Done _ p e below s _ _ (T0.setTop (mkF m 106 #[oI xa, oI ya, oJ ta, .second, oJ tb, .second, oI sel, oI (xa &&& (511 : Int32)), oI (((xa.toUInt32 >>> ((9 : Int32) &&& 31).toUInt32).toInt32) &&& (511 : Int32)), oI (((xa.toUInt32 >>> ((18 : Int32) &&& 31).toUInt32).toInt32) &&& (511 : Int32)), oI (ya &&& (511 : Int32)), oI (((xa.toUInt32 >>> ((9 : Int32) &&& 31).toUInt32).toInt32) &&& (511 : Int32)), oI (((ya.toUInt32 >>> ((18 : Int32) &&& 31).toUInt32).toInt32) &&& (511 : Int32)), oJ tb, .second, .unset, .unset, .unset, .unset] []))
          exact K106 T0 e0 X0 (xa &&& (511 : Int32)) (((xa.toUInt32 >>> ((9 : Int32) &&& 31).toUInt32).toInt32) &&& (511 : Int32)) (((xa.toUInt32 >>> ((18 : Int32) &&& 31).toUInt32).toInt32) &&& (511 : Int32)) (ya &&& (511 : Int32)) (((xa.toUInt32 >>> ((9 : Int32) &&& 31).toUInt32).toInt32) &&& (511 : Int32)) (((ya.toUInt32 >>> ((18 : Int32) &&& 31).toUInt32).toInt32) &&& (511 : Int32)) tb
        · refine Done.step (fun _ => XS.ifNo X0.here hx rfl (hb hby at_95) rfl (XT.i0_eq_f hc241)) ?_
          show Done _ p e below s _ _ (T0.setTop (mkF m 98 #[oI xa, oI ya, oJ ta, .second, oJ tb, .second, oI sel, oI (xa &&& (511 : Int32)), oI (((xa.toUInt32 >>> ((9 : Int32) &&& 31).toUInt32).toInt32) &&& (511 : Int32)), oI (((xa.toUInt32 >>> ((18 : Int32) &&& 31).toUInt32).toInt32) &&& (511 : Int32)), oI (ya &&& (511 : Int32)), oI (((xa.toUInt32 >>> ((9 : Int32) &&& 31).toUInt32).toInt32) &&& (511 : Int32)), oI (((ya.toUInt32 >>> ((18 : Int32) &&& 31).toUInt32).toInt32) &&& (511 : Int32)), .unset, .unset, .unset, .unset, .unset, .unset] []))
          refine Done.step (fun _ => XT.lloadN X0.here hx rfl (hb hby at_98) rfl) ?_
          show Done _ p e below s _ _ (T0.setTop (mkF m 99 #[oI xa, oI ya, oJ ta, .second, oJ tb, .second, oI sel, oI (xa &&& (511 : Int32)), oI (((xa.toUInt32 >>> ((9 : Int32) &&& 31).toUInt32).toInt32) &&& (511 : Int32)), oI (((xa.toUInt32 >>> ((18 : Int32) &&& 31).toUInt32).toInt32) &&& (511 : Int32)), oI (ya &&& (511 : Int32)), oI (((xa.toUInt32 >>> ((9 : Int32) &&& 31).toUInt32).toInt32) &&& (511 : Int32)), oI (((ya.toUInt32 >>> ((18 : Int32) &&& 31).toUInt32).toInt32) &&& (511 : Int32)), .unset, .unset, .unset, .unset, .unset, .unset] [(.long ta)]))
          refine Done.step (fun _ => XS.goto X0.here hx rfl (pc0 := 99) (pc' := 104) rfl (hb hby at_99) (by decide) (by decide)) ?_
          show Done _ p e below s _ _ (T0.setTop (mkF m 104 #[oI xa, oI ya, oJ ta, .second, oJ tb, .second, oI sel, oI (xa &&& (511 : Int32)), oI (((xa.toUInt32 >>> ((9 : Int32) &&& 31).toUInt32).toInt32) &&& (511 : Int32)), oI (((xa.toUInt32 >>> ((18 : Int32) &&& 31).toUInt32).toInt32) &&& (511 : Int32)), oI (ya &&& (511 : Int32)), oI (((xa.toUInt32 >>> ((9 : Int32) &&& 31).toUInt32).toInt32) &&& (511 : Int32)), oI (((ya.toUInt32 >>> ((18 : Int32) &&& 31).toUInt32).toInt32) &&& (511 : Int32)), .unset, .unset, .unset, .unset, .unset, .unset] [(.long ta)]))
          refine Done.step (fun _ => XT.lstore X0.here hx rfl (hb hby at_104) rfl (l' := #[oI xa, oI ya, oJ ta, .second, oJ tb, .second, oI sel, oI (xa &&& (511 : Int32)), oI (((xa.toUInt32 >>> ((9 : Int32) &&& 31).toUInt32).toInt32) &&& (511 : Int32)), oI (((xa.toUInt32 >>> ((18 : Int32) &&& 31).toUInt32).toInt32) &&& (511 : Int32)), oI (ya &&& (511 : Int32)), oI (((xa.toUInt32 >>> ((9 : Int32) &&& 31).toUInt32).toInt32) &&& (511 : Int32)), oI (((ya.toUInt32 >>> ((18 : Int32) &&& 31).toUInt32).toInt32) &&& (511 : Int32)), oJ ta, .second, .unset, .unset, .unset, .unset]) rfl) ?_
          show Done _ p e below s _ _ (T0.setTop (mkF m 106 #[oI xa, oI ya, oJ ta, .second, oJ tb, .second, oI sel, oI (xa &&& (511 : Int32)), oI (((xa.toUInt32 >>> ((9 : Int32) &&& 31).toUInt32).toInt32) &&& (511 : Int32)), oI (((xa.toUInt32 >>> ((18 : Int32) &&& 31).toUInt32).toInt32) &&& (511 : Int32)), oI (ya &&& (511 : Int32)), oI (((xa.toUInt32 >>> ((9 : Int32) &&& 31).toUInt32).toInt32) &&& (511 : Int32)), oI (((ya.toUInt32 >>> ((18 : Int32) &&& 31).toUInt32).toInt32) &&& (511 : Int32)), oJ ta, .second, .unset, .unset, .unset, .unset] []))
          exact K106 T0 e0 X0 (xa &&& (511 : Int32)) (((xa.toUInt32 >>> ((9 : Int32) &&& 31).toUInt32).toInt32) &&& (511 : Int32)) (((xa.toUInt32 >>> ((18 : Int32) &&& 31).toUInt32).toInt32) &&& (511 : Int32)) (ya &&& (511 : Int32)) (((xa.toUInt32 >>> ((9 : Int32) &&& 31).toUInt32).toInt32) &&& (511 : Int32)) (((ya.toUInt32 >>> ((18 : Int32) &&& 31).toUInt32).toInt32) &&& (511 : Int32)) ta
      · refine Done.step (fun _ => XS.ifNo X0.here hx rfl (hb hby at_72) rfl (XT.i0_eq_f hc240)) ?_
        show Done _ p e below s _ _ (T0.setTop (mkF m 75 #[oI xa, oI ya, oJ ta, .second, oJ tb, .second, oI sel, oI (xa &&& (511 : Int32)), oI (((xa.toUInt32 >>> ((9 : Int32) &&& 31).toUInt32).toInt32) &&& (511 : Int32)), oI (((xa.toUInt32 >>> ((18 : Int32) &&& 31).toUInt32).toInt32) &&& (511 : Int32)), oI (ya &&& (511 : Int32)), oI (((xa.toUInt32 >>> ((9 : Int32) &&& 31).toUInt32).toInt32) &&& (511 : Int32)), .unset, .unset, .unset, .unset, .unset, .unset, .unset] []))
        refine Done.step (fun _ => XS.iload X0.here hx rfl (hb hby at_75) rfl) ?_
        show Done _ p e below s _ _ (T0.setTop (mkF m 77 #[oI xa, oI ya, oJ ta, .second, oJ tb, .second, oI sel, oI (xa &&& (511 : Int32)), oI (((xa.toUInt32 >>> ((9 : Int32) &&& 31).toUInt32).toInt32) &&& (511 : Int32)), oI (((xa.toUInt32 >>> ((18 : Int32) &&& 31).toUInt32).toInt32) &&& (511 : Int32)), oI (ya &&& (511 : Int32)), oI (((xa.toUInt32 >>> ((9 : Int32) &&& 31).toUInt32).toInt32) &&& (511 : Int32)), .unset, .unset, .unset, .unset, .unset, .unset, .unset] [(.int (((xa.toUInt32 >>> ((18 : Int32) &&& 31).toUInt32).toInt32) &&& (511 : Int32)))]))
        refine Done.step (fun _ => XS.goto X0.here hx rfl (pc0 := 77) (pc' := 88) rfl (hb hby at_77) (by decide) (by decide)) ?_
        show Done _ p e below s _ _ (T0.setTop (mkF m 88 #[oI xa, oI ya, oJ ta, .second, oJ tb, .second, oI sel, oI (xa &&& (511 : Int32)), oI (((xa.toUInt32 >>> ((9 : Int32) &&& 31).toUInt32).toInt32) &&& (511 : Int32)), oI (((xa.toUInt32 >>> ((18 : Int32) &&& 31).toUInt32).toInt32) &&& (511 : Int32)), oI (ya &&& (511 : Int32)), oI (((xa.toUInt32 >>> ((9 : Int32) &&& 31).toUInt32).toInt32) &&& (511 : Int32)), .unset, .unset, .unset, .unset, .unset, .unset, .unset] [(.int (((xa.toUInt32 >>> ((18 : Int32) &&& 31).toUInt32).toInt32) &&& (511 : Int32)))]))
        refine Done.step (fun _ => XS.istore X0.here hx rfl (hb hby at_88) rfl (l' := #[oI xa, oI ya, oJ ta, .second, oJ tb, .second, oI sel, oI (xa &&& (511 : Int32)), oI (((xa.toUInt32 >>> ((9 : Int32) &&& 31).toUInt32).toInt32) &&& (511 : Int32)), oI (((xa.toUInt32 >>> ((18 : Int32) &&& 31).toUInt32).toInt32) &&& (511 : Int32)), oI (ya &&& (511 : Int32)), oI (((xa.toUInt32 >>> ((9 : Int32) &&& 31).toUInt32).toInt32) &&& (511 : Int32)), oI (((xa.toUInt32 >>> ((18 : Int32) &&& 31).toUInt32).toInt32) &&& (511 : Int32)), .unset, .unset, .unset, .unset, .unset, .unset]) rfl) ?_
        show Done _ p e below s _ _ (T0.setTop (mkF m 90 #[oI xa, oI ya, oJ ta, .second, oJ tb, .second, oI sel, oI (xa &&& (511 : Int32)), oI (((xa.toUInt32 >>> ((9 : Int32) &&& 31).toUInt32).toInt32) &&& (511 : Int32)), oI (((xa.toUInt32 >>> ((18 : Int32) &&& 31).toUInt32).toInt32) &&& (511 : Int32)), oI (ya &&& (511 : Int32)), oI (((xa.toUInt32 >>> ((9 : Int32) &&& 31).toUInt32).toInt32) &&& (511 : Int32)), oI (((xa.toUInt32 >>> ((18 : Int32) &&& 31).toUInt32).toInt32) &&& (511 : Int32)), .unset, .unset, .unset, .unset, .unset, .unset] []))
        refine Done.step (fun _ => XS.iload X0.here hx rfl (hb hby at_90) rfl) ?_
        show Done _ p e below s _ _ (T0.setTop (mkF m 92 #[oI xa, oI ya, oJ ta, .second, oJ tb, .second, oI sel, oI (xa &&& (511 : Int32)), oI (((xa.toUInt32 >>> ((9 : Int32) &&& 31).toUInt32).toInt32) &&& (511 : Int32)), oI (((xa.toUInt32 >>> ((18 : Int32) &&& 31).toUInt32).toInt32) &&& (511 : Int32)), oI (ya &&& (511 : Int32)), oI (((xa.toUInt32 >>> ((9 : Int32) &&& 31).toUInt32).toInt32) &&& (511 : Int32)), oI (((xa.toUInt32 >>> ((18 : Int32) &&& 31).toUInt32).toInt32) &&& (511 : Int32)), .unset, .unset, .unset, .unset, .unset, .unset] [(.int sel)]))
        refine Done.step (fun _ => XT.bipushV X0.here hx rfl (8 : Int32) (hb hby at_92) (by decide)) ?_
        show Done _ p e below s _ _ (T0.setTop (mkF m 94 #[oI xa, oI ya, oJ ta, .second, oJ tb, .second, oI sel, oI (xa &&& (511 : Int32)), oI (((xa.toUInt32 >>> ((9 : Int32) &&& 31).toUInt32).toInt32) &&& (511 : Int32)), oI (((xa.toUInt32 >>> ((18 : Int32) &&& 31).toUInt32).toInt32) &&& (511 : Int32)), oI (ya &&& (511 : Int32)), oI (((xa.toUInt32 >>> ((9 : Int32) &&& 31).toUInt32).toInt32) &&& (511 : Int32)), oI (((xa.toUInt32 >>> ((18 : Int32) &&& 31).toUInt32).toInt32) &&& (511 : Int32)), .unset, .unset, .unset, .unset, .unset, .unset] [(.int (8 : Int32)), (.int sel)]))
        refine Done.step (fun _ => XS.iand X0.here hx rfl (hb hby at_94) rfl) ?_
        show Done _ p e below s _ _ (T0.setTop (mkF m 95 #[oI xa, oI ya, oJ ta, .second, oJ tb, .second, oI sel, oI (xa &&& (511 : Int32)), oI (((xa.toUInt32 >>> ((9 : Int32) &&& 31).toUInt32).toInt32) &&& (511 : Int32)), oI (((xa.toUInt32 >>> ((18 : Int32) &&& 31).toUInt32).toInt32) &&& (511 : Int32)), oI (ya &&& (511 : Int32)), oI (((xa.toUInt32 >>> ((9 : Int32) &&& 31).toUInt32).toInt32) &&& (511 : Int32)), oI (((xa.toUInt32 >>> ((18 : Int32) &&& 31).toUInt32).toInt32) &&& (511 : Int32)), .unset, .unset, .unset, .unset, .unset, .unset] [(.int (sel &&& (8 : Int32)))]))
        by_cases hc242 : (sel &&& (8 : Int32)) = (0 : Int32)
        · refine Done.step (fun _ => XS.ifYes X0.here hx rfl (pc0 := 95) (pc' := 102) rfl (hb hby at_95) rfl (XT.i0_eq_t hc242) (by decide) (by decide)) ?_
          show Done _ p e below s _ _ (T0.setTop (mkF m 102 #[oI xa, oI ya, oJ ta, .second, oJ tb, .second, oI sel, oI (xa &&& (511 : Int32)), oI (((xa.toUInt32 >>> ((9 : Int32) &&& 31).toUInt32).toInt32) &&& (511 : Int32)), oI (((xa.toUInt32 >>> ((18 : Int32) &&& 31).toUInt32).toInt32) &&& (511 : Int32)), oI (ya &&& (511 : Int32)), oI (((xa.toUInt32 >>> ((9 : Int32) &&& 31).toUInt32).toInt32) &&& (511 : Int32)), oI (((xa.toUInt32 >>> ((18 : Int32) &&& 31).toUInt32).toInt32) &&& (511 : Int32)), .unset, .unset, .unset, .unset, .unset, .unset] []))
          refine Done.step (fun _ => XT.lload X0.here hx rfl (hb hby at_102) rfl) ?_
          show Done _ p e below s _ _ (T0.setTop (mkF m 104 #[oI xa, oI ya, oJ ta, .second, oJ tb, .second, oI sel, oI (xa &&& (511 : Int32)), oI (((xa.toUInt32 >>> ((9 : Int32) &&& 31).toUInt32).toInt32) &&& (511 : Int32)), oI (((xa.toUInt32 >>> ((18 : Int32) &&& 31).toUInt32).toInt32) &&& (511 : Int32)), oI (ya &&& (511 : Int32)), oI (((xa.toUInt32 >>> ((9 : Int32) &&& 31).toUInt32).toInt32) &&& (511 : Int32)), oI (((xa.toUInt32 >>> ((18 : Int32) &&& 31).toUInt32).toInt32) &&& (511 : Int32)), .unset, .unset, .unset, .unset, .unset, .unset] [(.long tb)]))
          refine Done.step (fun _ => XT.lstore X0.here hx rfl (hb hby at_104) rfl (l' := #[oI xa, oI ya, oJ ta, .second, oJ tb, .second, oI sel, oI (xa &&& (511 : Int32)), oI (((xa.toUInt32 >>> ((9 : Int32) &&& 31).toUInt32).toInt32) &&& (511 : Int32)), oI (((xa.toUInt32 >>> ((18 : Int32) &&& 31).toUInt32).toInt32) &&& (511 : Int32)), oI (ya &&& (511 : Int32)), oI (((xa.toUInt32 >>> ((9 : Int32) &&& 31).toUInt32).toInt32) &&& (511 : Int32)), oI (((xa.toUInt32 >>> ((18 : Int32) &&& 31).toUInt32).toInt32) &&& (511 : Int32)), oJ tb, .second, .unset, .unset, .unset, .unset]) rfl) ?_
          show Done _ p e below s _ _ (T0.setTop (mkF m 106 #[oI xa, oI ya, oJ ta, .second, oJ tb, .second, oI sel, oI (xa &&& (511 : Int32)), oI (((xa.toUInt32 >>> ((9 : Int32) &&& 31).toUInt32).toInt32) &&& (511 : Int32)), oI (((xa.toUInt32 >>> ((18 : Int32) &&& 31).toUInt32).toInt32) &&& (511 : Int32)), oI (ya &&& (511 : Int32)), oI (((xa.toUInt32 >>> ((9 : Int32) &&& 31).toUInt32).toInt32) &&& (511 : Int32)), oI (((xa.toUInt32 >>> ((18 : Int32) &&& 31).toUInt32).toInt32) &&& (511 : Int32)), oJ tb, .second, .unset, .unset, .unset, .unset] []))
          exact K106 T0 e0 X0 (xa &&& (511 : Int32)) (((xa.toUInt32 >>> ((9 : Int32) &&& 31).toUInt32).toInt32) &&& (511 : Int32)) (((xa.toUInt32 >>> ((18 : Int32) &&& 31).toUInt32).toInt32) &&& (511 : Int32)) (ya &&& (511 : Int32)) (((xa.toUInt32 >>> ((9 : Int32) &&& 31).toUInt32).toInt32) &&& (511 : Int32)) (((xa.toUInt32 >>> ((18 : Int32) &&& 31).toUInt32).toInt32) &&& (511 : Int32)) tb
        · refine Done.step (fun _ => XS.ifNo X0.here hx rfl (hb hby at_95) rfl (XT.i0_eq_f hc242)) ?_
          show Done _ p e below s _ _ (T0.setTop (mkF m 98 #[oI xa, oI ya, oJ ta, .second, oJ tb, .second, oI sel, oI (xa &&& (511 : Int32)), oI (((xa.toUInt32 >>> ((9 : Int32) &&& 31).toUInt32).toInt32) &&& (511 : Int32)), oI (((xa.toUInt32 >>> ((18 : Int32) &&& 31).toUInt32).toInt32) &&& (511 : Int32)), oI (ya &&& (511 : Int32)), oI (((xa.toUInt32 >>> ((9 : Int32) &&& 31).toUInt32).toInt32) &&& (511 : Int32)), oI (((xa.toUInt32 >>> ((18 : Int32) &&& 31).toUInt32).toInt32) &&& (511 : Int32)), .unset, .unset, .unset, .unset, .unset, .unset] []))
          refine Done.step (fun _ => XT.lloadN X0.here hx rfl (hb hby at_98) rfl) ?_
          show Done _ p e below s _ _ (T0.setTop (mkF m 99 #[oI xa, oI ya, oJ ta, .second, oJ tb, .second, oI sel, oI (xa &&& (511 : Int32)), oI (((xa.toUInt32 >>> ((9 : Int32) &&& 31).toUInt32).toInt32) &&& (511 : Int32)), oI (((xa.toUInt32 >>> ((18 : Int32) &&& 31).toUInt32).toInt32) &&& (511 : Int32)), oI (ya &&& (511 : Int32)), oI (((xa.toUInt32 >>> ((9 : Int32) &&& 31).toUInt32).toInt32) &&& (511 : Int32)), oI (((xa.toUInt32 >>> ((18 : Int32) &&& 31).toUInt32).toInt32) &&& (511 : Int32)), .unset, .unset, .unset, .unset, .unset, .unset] [(.long ta)]))
          refine Done.step (fun _ => XS.goto X0.here hx rfl (pc0 := 99) (pc' := 104) rfl (hb hby at_99) (by decide) (by decide)) ?_
          show Done _ p e below s _ _ (T0.setTop (mkF m 104 #[oI xa, oI ya, oJ ta, .second, oJ tb, .second, oI sel, oI (xa &&& (511 : Int32)), oI (((xa.toUInt32 >>> ((9 : Int32) &&& 31).toUInt32).toInt32) &&& (511 : Int32)), oI (((xa.toUInt32 >>> ((18 : Int32) &&& 31).toUInt32).toInt32) &&& (511 : Int32)), oI (ya &&& (511 : Int32)), oI (((xa.toUInt32 >>> ((9 : Int32) &&& 31).toUInt32).toInt32) &&& (511 : Int32)), oI (((xa.toUInt32 >>> ((18 : Int32) &&& 31).toUInt32).toInt32) &&& (511 : Int32)), .unset, .unset, .unset, .unset, .unset, .unset] [(.long ta)]))
          refine Done.step (fun _ => XT.lstore X0.here hx rfl (hb hby at_104) rfl (l' := #[oI xa, oI ya, oJ ta, .second, oJ tb, .second, oI sel, oI (xa &&& (511 : Int32)), oI (((xa.toUInt32 >>> ((9 : Int32) &&& 31).toUInt32).toInt32) &&& (511 : Int32)), oI (((xa.toUInt32 >>> ((18 : Int32) &&& 31).toUInt32).toInt32) &&& (511 : Int32)), oI (ya &&& (511 : Int32)), oI (((xa.toUInt32 >>> ((9 : Int32) &&& 31).toUInt32).toInt32) &&& (511 : Int32)), oI (((xa.toUInt32 >>> ((18 : Int32) &&& 31).toUInt32).toInt32) &&& (511 : Int32)), oJ ta, .second, .unset, .unset, .unset, .unset]) rfl) ?_
          show Done _ p e below s _ _ (T0.setTop (mkF m 106 #[oI xa, oI ya, oJ ta, .second, oJ tb, .second, oI sel, oI (xa &&& (511 : Int32)), oI (((xa.toUInt32 >>> ((9 : Int32) &&& 31).toUInt32).toInt32) &&& (511 : Int32)), oI (((xa.toUInt32 >>> ((18 : Int32) &&& 31).toUInt32).toInt32) &&& (511 : Int32)), oI (ya &&& (511 : Int32)), oI (((xa.toUInt32 >>> ((9 : Int32) &&& 31).toUInt32).toInt32) &&& (511 : Int32)), oI (((xa.toUInt32 >>> ((18 : Int32) &&& 31).toUInt32).toInt32) &&& (511 : Int32)), oJ ta, .second, .unset, .unset, .unset, .unset] []))
          exact K106 T0 e0 X0 (xa &&& (511 : Int32)) (((xa.toUInt32 >>> ((9 : Int32) &&& 31).toUInt32).toInt32) &&& (511 : Int32)) (((xa.toUInt32 >>> ((18 : Int32) &&& 31).toUInt32).toInt32) &&& (511 : Int32)) (ya &&& (511 : Int32)) (((xa.toUInt32 >>> ((9 : Int32) &&& 31).toUInt32).toInt32) &&& (511 : Int32)) (((xa.toUInt32 >>> ((18 : Int32) &&& 31).toUInt32).toInt32) &&& (511 : Int32)) ta
  · refine Done.step (fun _ => XS.ifNo X0.here hx rfl (hb hby at_31) rfl (XT.i0_eq_f hc235)) ?_
    show Done _ p e below s _ _ (T0.setTop (mkF m 34 #[oI xa, oI ya, oJ ta, .second, oJ tb, .second, oI sel, oI (xa &&& (511 : Int32)), oI (((xa.toUInt32 >>> ((9 : Int32) &&& 31).toUInt32).toInt32) &&& (511 : Int32)), oI (((xa.toUInt32 >>> ((18 : Int32) &&& 31).toUInt32).toInt32) &&& (511 : Int32)), .unset, .unset, .unset, .unset, .unset, .unset, .unset, .unset, .unset] []))
    refine Done.step (fun _ => XS.iload X0.here hx rfl (hb hby at_34) rfl) ?_
    show Done _ p e below s _ _ (T0.setTop (mkF m 36 #[oI xa, oI ya, oJ ta, .second, oJ tb, .second, oI sel, oI (xa &&& (511 : Int32)), oI (((xa.toUInt32 >>> ((9 : Int32) &&& 31).toUInt32).toInt32) &&& (511 : Int32)), oI (((xa.toUInt32 >>> ((18 : Int32) &&& 31).toUInt32).toInt32) &&& (511 : Int32)), .unset, .unset, .unset, .unset, .unset, .unset, .unset, .unset, .unset] [(.int (xa &&& (511 : Int32)))]))
    refine Done.step (fun _ => XS.goto X0.here hx rfl (pc0 := 36) (pc' := 44) rfl (hb hby at_36) (by decide) (by decide)) ?_
    show Done _ p e below s _ _ (T0.setTop (mkF m 44 #[oI xa, oI ya, oJ ta, .second, oJ tb, .second, oI sel, oI (xa &&& (511 : Int32)), oI (((xa.toUInt32 >>> ((9 : Int32) &&& 31).toUInt32).toInt32) &&& (511 : Int32)), oI (((xa.toUInt32 >>> ((18 : Int32) &&& 31).toUInt32).toInt32) &&& (511 : Int32)), .unset, .unset, .unset, .unset, .unset, .unset, .unset, .unset, .unset] [(.int (xa &&& (511 : Int32)))]))
    refine Done.step (fun _ => XS.istore X0.here hx rfl (hb hby at_44) rfl (l' := #[oI xa, oI ya, oJ ta, .second, oJ tb, .second, oI sel, oI (xa &&& (511 : Int32)), oI (((xa.toUInt32 >>> ((9 : Int32) &&& 31).toUInt32).toInt32) &&& (511 : Int32)), oI (((xa.toUInt32 >>> ((18 : Int32) &&& 31).toUInt32).toInt32) &&& (511 : Int32)), oI (xa &&& (511 : Int32)), .unset, .unset, .unset, .unset, .unset, .unset, .unset, .unset]) rfl) ?_
    show Done _ p e below s _ _ (T0.setTop (mkF m 46 #[oI xa, oI ya, oJ ta, .second, oJ tb, .second, oI sel, oI (xa &&& (511 : Int32)), oI (((xa.toUInt32 >>> ((9 : Int32) &&& 31).toUInt32).toInt32) &&& (511 : Int32)), oI (((xa.toUInt32 >>> ((18 : Int32) &&& 31).toUInt32).toInt32) &&& (511 : Int32)), oI (xa &&& (511 : Int32)), .unset, .unset, .unset, .unset, .unset, .unset, .unset, .unset] []))
    refine Done.step (fun _ => XS.iload X0.here hx rfl (hb hby at_46) rfl) ?_
    show Done _ p e below s _ _ (T0.setTop (mkF m 48 #[oI xa, oI ya, oJ ta, .second, oJ tb, .second, oI sel, oI (xa &&& (511 : Int32)), oI (((xa.toUInt32 >>> ((9 : Int32) &&& 31).toUInt32).toInt32) &&& (511 : Int32)), oI (((xa.toUInt32 >>> ((18 : Int32) &&& 31).toUInt32).toInt32) &&& (511 : Int32)), oI (xa &&& (511 : Int32)), .unset, .unset, .unset, .unset, .unset, .unset, .unset, .unset] [(.int sel)]))
    refine Done.step (fun _ => XT.iconstV X0.here hx rfl (2 : Int32) (hb hby at_48) (by decide)) ?_
    show Done _ p e below s _ _ (T0.setTop (mkF m 49 #[oI xa, oI ya, oJ ta, .second, oJ tb, .second, oI sel, oI (xa &&& (511 : Int32)), oI (((xa.toUInt32 >>> ((9 : Int32) &&& 31).toUInt32).toInt32) &&& (511 : Int32)), oI (((xa.toUInt32 >>> ((18 : Int32) &&& 31).toUInt32).toInt32) &&& (511 : Int32)), oI (xa &&& (511 : Int32)), .unset, .unset, .unset, .unset, .unset, .unset, .unset, .unset] [(.int (2 : Int32)), (.int sel)]))
    refine Done.step (fun _ => XS.iand X0.here hx rfl (hb hby at_49) rfl) ?_
    show Done _ p e below s _ _ (T0.setTop (mkF m 50 #[oI xa, oI ya, oJ ta, .second, oJ tb, .second, oI sel, oI (xa &&& (511 : Int32)), oI (((xa.toUInt32 >>> ((9 : Int32) &&& 31).toUInt32).toInt32) &&& (511 : Int32)), oI (((xa.toUInt32 >>> ((18 : Int32) &&& 31).toUInt32).toInt32) &&& (511 : Int32)), oI (xa &&& (511 : Int32)), .unset, .unset, .unset, .unset, .unset, .unset, .unset, .unset] [(.int (sel &&& (2 : Int32)))]))
    by_cases hc243 : (sel &&& (2 : Int32)) = (0 : Int32)
    · refine Done.step (fun _ => XS.ifYes X0.here hx rfl (pc0 := 50) (pc' := 58) rfl (hb hby at_50) rfl (XT.i0_eq_t hc243) (by decide) (by decide)) ?_
      show Done _ p e below s _ _ (T0.setTop (mkF m 58 #[oI xa, oI ya, oJ ta, .second, oJ tb, .second, oI sel, oI (xa &&& (511 : Int32)), oI (((xa.toUInt32 >>> ((9 : Int32) &&& 31).toUInt32).toInt32) &&& (511 : Int32)), oI (((xa.toUInt32 >>> ((18 : Int32) &&& 31).toUInt32).toInt32) &&& (511 : Int32)), oI (xa &&& (511 : Int32)), .unset, .unset, .unset, .unset, .unset, .unset, .unset, .unset] []))
      refine Done.step (fun _ => XS.iloadN X0.here hx rfl (hb hby at_58) rfl) ?_
      show Done _ p e below s _ _ (T0.setTop (mkF m 59 #[oI xa, oI ya, oJ ta, .second, oJ tb, .second, oI sel, oI (xa &&& (511 : Int32)), oI (((xa.toUInt32 >>> ((9 : Int32) &&& 31).toUInt32).toInt32) &&& (511 : Int32)), oI (((xa.toUInt32 >>> ((18 : Int32) &&& 31).toUInt32).toInt32) &&& (511 : Int32)), oI (xa &&& (511 : Int32)), .unset, .unset, .unset, .unset, .unset, .unset, .unset, .unset] [(.int ya)]))
      refine Done.step (fun _ => XT.bipushV X0.here hx rfl (9 : Int32) (hb hby at_59) (by decide)) ?_
      show Done _ p e below s _ _ (T0.setTop (mkF m 61 #[oI xa, oI ya, oJ ta, .second, oJ tb, .second, oI sel, oI (xa &&& (511 : Int32)), oI (((xa.toUInt32 >>> ((9 : Int32) &&& 31).toUInt32).toInt32) &&& (511 : Int32)), oI (((xa.toUInt32 >>> ((18 : Int32) &&& 31).toUInt32).toInt32) &&& (511 : Int32)), oI (xa &&& (511 : Int32)), .unset, .unset, .unset, .unset, .unset, .unset, .unset, .unset] [(.int (9 : Int32)), (.int ya)]))
      refine Done.step (fun _ => XT.iushr X0.here hx rfl (hb hby at_61) rfl) ?_
      show Done _ p e below s _ _ (T0.setTop (mkF m 62 #[oI xa, oI ya, oJ ta, .second, oJ tb, .second, oI sel, oI (xa &&& (511 : Int32)), oI (((xa.toUInt32 >>> ((9 : Int32) &&& 31).toUInt32).toInt32) &&& (511 : Int32)), oI (((xa.toUInt32 >>> ((18 : Int32) &&& 31).toUInt32).toInt32) &&& (511 : Int32)), oI (xa &&& (511 : Int32)), .unset, .unset, .unset, .unset, .unset, .unset, .unset, .unset] [(.int ((ya.toUInt32 >>> ((9 : Int32) &&& 31).toUInt32).toInt32))]))
      refine Done.step (fun _ => XT.sipushV X0.here hx rfl (511 : Int32) (hb hby at_62) (by decide)) ?_
      show Done _ p e below s _ _ (T0.setTop (mkF m 65 #[oI xa, oI ya, oJ ta, .second, oJ tb, .second, oI sel, oI (xa &&& (511 : Int32)), oI (((xa.toUInt32 >>> ((9 : Int32) &&& 31).toUInt32).toInt32) &&& (511 : Int32)), oI (((xa.toUInt32 >>> ((18 : Int32) &&& 31).toUInt32).toInt32) &&& (511 : Int32)), oI (xa &&& (511 : Int32)), .unset, .unset, .unset, .unset, .unset, .unset, .unset, .unset] [(.int (511 : Int32)), (.int ((ya.toUInt32 >>> ((9 : Int32) &&& 31).toUInt32).toInt32))]))
      refine Done.step (fun _ => XS.iand X0.here hx rfl (hb hby at_65) rfl) ?_
      show Done _ p e below s _ _ (T0.setTop (mkF m 66 #[oI xa, oI ya, oJ ta, .second, oJ tb, .second, oI sel, oI (xa &&& (511 : Int32)), oI (((xa.toUInt32 >>> ((9 : Int32) &&& 31).toUInt32).toInt32) &&& (511 : Int32)), oI (((xa.toUInt32 >>> ((18 : Int32) &&& 31).toUInt32).toInt32) &&& (511 : Int32)), oI (xa &&& (511 : Int32)), .unset, .unset, .unset, .unset, .unset, .unset, .unset, .unset] [(.int (((ya.toUInt32 >>> ((9 : Int32) &&& 31).toUInt32).toInt32) &&& (511 : Int32)))]))
      refine Done.step (fun _ => XS.istore X0.here hx rfl (hb hby at_66) rfl (l' := #[oI xa, oI ya, oJ ta, .second, oJ tb, .second, oI sel, oI (xa &&& (511 : Int32)), oI (((xa.toUInt32 >>> ((9 : Int32) &&& 31).toUInt32).toInt32) &&& (511 : Int32)), oI (((xa.toUInt32 >>> ((18 : Int32) &&& 31).toUInt32).toInt32) &&& (511 : Int32)), oI (xa &&& (511 : Int32)), oI (((ya.toUInt32 >>> ((9 : Int32) &&& 31).toUInt32).toInt32) &&& (511 : Int32)), .unset, .unset, .unset, .unset, .unset, .unset, .unset]) rfl) ?_
      show Done _ p e below s _ _ (T0.setTop (mkF m 68 #[oI xa, oI ya, oJ ta, .second, oJ tb, .second, oI sel, oI (xa &&& (511 : Int32)), oI (((xa.toUInt32 >>> ((9 : Int32) &&& 31).toUInt32).toInt32) &&& (511 : Int32)), oI (((xa.toUInt32 >>> ((18 : Int32) &&& 31).toUInt32).toInt32) &&& (511 : Int32)), oI (xa &&& (511 : Int32)), oI (((ya.toUInt32 >>> ((9 : Int32) &&& 31).toUInt32).toInt32) &&& (511 : Int32)), .unset, .unset, .unset, .unset, .unset, .unset, .unset] []))
      refine Done.step (fun _ => XS.iload X0.here hx rfl (hb hby at_68) rfl) ?_
      show Done _ p e below s _ _ (T0.setTop (mkF m 70 #[oI xa, oI ya, oJ ta, .second, oJ tb, .second, oI sel, oI (xa &&& (511 : Int32)), oI (((xa.toUInt32 >>> ((9 : Int32) &&& 31).toUInt32).toInt32) &&& (511 : Int32)), oI (((xa.toUInt32 >>> ((18 : Int32) &&& 31).toUInt32).toInt32) &&& (511 : Int32)), oI (xa &&& (511 : Int32)), oI (((ya.toUInt32 >>> ((9 : Int32) &&& 31).toUInt32).toInt32) &&& (511 : Int32)), .unset, .unset, .unset, .unset, .unset, .unset, .unset] [(.int sel)]))
      refine Done.step (fun _ => XT.iconstV X0.here hx rfl (4 : Int32) (hb hby at_70) (by decide)) ?_
      show Done _ p e below s _ _ (T0.setTop (mkF m 71 #[oI xa, oI ya, oJ ta, .second, oJ tb, .second, oI sel, oI (xa &&& (511 : Int32)), oI (((xa.toUInt32 >>> ((9 : Int32) &&& 31).toUInt32).toInt32) &&& (511 : Int32)), oI (((xa.toUInt32 >>> ((18 : Int32) &&& 31).toUInt32).toInt32) &&& (511 : Int32)), oI (xa &&& (511 : Int32)), oI (((ya.toUInt32 >>> ((9 : Int32) &&& 31).toUInt32).toInt32) &&& (511 : Int32)), .unset, .unset, .unset, .unset, .unset, .unset, .unset] [(.int (4 : Int32)), (.int sel)]))
      refine Done.step (fun _ => XS.iand X0.here hx rfl (hb hby at_71) rfl) ?_
      show Done _ p e below s _ _ (T0.setTop (mkF m 72 #[oI xa, oI ya, oJ ta, .second, oJ tb, .second, oI sel, oI (xa &&& (511 : Int32)), oI (((xa.toUInt32 >>> ((9 : Int32) &&& 31).toUInt32).toInt32) &&& (511 : Int32)), oI (((xa.toUInt32 >>> ((18 : Int32) &&& 31).toUInt32).toInt32) &&& (511 : Int32)), oI (xa &&& (511 : Int32)), oI (((ya.toUInt32 >>> ((9 : Int32) &&& 31).toUInt32).toInt32) &&& (511 : Int32)), .unset, .unset, .unset, .unset, .unset, .unset, .unset] [(.int (sel &&& (4 : Int32)))]))
      by_cases hc244 : (sel &&& (4 : Int32)) = (0 : Int32)
      · refine Done.step (fun _ => XS.ifYes X0.here hx rfl (pc0 := 72) (pc' := 80) rfl (hb hby at_72) rfl (XT.i0_eq_t hc244) (by decide) (by decide)) ?_
        show Done _ p e below s _ _ (T0.setTop (mkF m 80 #[oI xa, oI ya, oJ ta, .second, oJ tb, .second, oI sel, oI (xa &&& (511 : Int32)), oI (((xa.toUInt32 >>> ((9 : Int32) &&& 31).toUInt32).toInt32) &&& (511 : Int32)), oI (((xa.toUInt32 >>> ((18 : Int32) &&& 31).toUInt32).toInt32) &&& (511 : Int32)), oI (xa &&& (511 : Int32)), oI (((ya.toUInt32 >>> ((9 : Int32) &&& 31).toUInt32).toInt32) &&& (511 : Int32)), .unset, .unset, .unset, .unset, .unset, .unset, .unset] []))
        refine Done.step (fun _ => XS.iloadN X0.here hx rfl (hb hby at_80) rfl) ?_
        show Done _ p e below s _ _ (T0.setTop (mkF m 81 #[oI xa, oI ya, oJ ta, .second, oJ tb, .second, oI sel, oI (xa &&& (511 : Int32)), oI (((xa.toUInt32 >>> ((9 : Int32) &&& 31).toUInt32).toInt32) &&& (511 : Int32)), oI (((xa.toUInt32 >>> ((18 : Int32) &&& 31).toUInt32).toInt32) &&& (511 : Int32)), oI (xa &&& (511 : Int32)), oI (((ya.toUInt32 >>> ((9 : Int32) &&& 31).toUInt32).toInt32) &&& (511 : Int32)), .unset, .unset, .unset, .unset, .unset, .unset, .unset] [(.int ya)]))
        refine Done.step (fun _ => XT.bipushV X0.here hx rfl (18 : Int32) (hb hby at_81) (by decide)) ?_
        show Done _ p e below s _ _ (T0.setTop (mkF m 83 #[oI xa, oI ya, oJ ta, .second, oJ tb, .second, oI sel, oI (xa &&& (511 : Int32)), oI (((xa.toUInt32 >>> ((9 : Int32) &&& 31).toUInt32).toInt32) &&& (511 : Int32)), oI (((xa.toUInt32 >>> ((18 : Int32) &&& 31).toUInt32).toInt32) &&& (511 : Int32)), oI (xa &&& (511 : Int32)), oI (((ya.toUInt32 >>> ((9 : Int32) &&& 31).toUInt32).toInt32) &&& (511 : Int32)), .unset, .unset, .unset, .unset, .unset, .unset, .unset] [(.int (18 : Int32)), (.int ya)]))
        refine Done.step (fun _ => XT.iushr X0.here hx rfl (hb hby at_83) rfl) ?_
        show Done _ p e below s _ _ (T0.setTop (mkF m 84 #[oI xa, oI ya, oJ ta, .second, oJ tb, .second, oI sel, oI (xa &&& (511 : Int32)), oI (((xa.toUInt32 >>> ((9 : Int32) &&& 31).toUInt32).toInt32) &&& (511 : Int32)), oI (((xa.toUInt32 >>> ((18 : Int32) &&& 31).toUInt32).toInt32) &&& (511 : Int32)), oI (xa &&& (511 : Int32)), oI (((ya.toUInt32 >>> ((9 : Int32) &&& 31).toUInt32).toInt32) &&& (511 : Int32)), .unset, .unset, .unset, .unset, .unset, .unset, .unset] [(.int ((ya.toUInt32 >>> ((18 : Int32) &&& 31).toUInt32).toInt32))]))
        refine Done.step (fun _ => XT.sipushV X0.here hx rfl (511 : Int32) (hb hby at_84) (by decide)) ?_
        show Done _ p e below s _ _ (T0.setTop (mkF m 87 #[oI xa, oI ya, oJ ta, .second, oJ tb, .second, oI sel, oI (xa &&& (511 : Int32)), oI (((xa.toUInt32 >>> ((9 : Int32) &&& 31).toUInt32).toInt32) &&& (511 : Int32)), oI (((xa.toUInt32 >>> ((18 : Int32) &&& 31).toUInt32).toInt32) &&& (511 : Int32)), oI (xa &&& (511 : Int32)), oI (((ya.toUInt32 >>> ((9 : Int32) &&& 31).toUInt32).toInt32) &&& (511 : Int32)), .unset, .unset, .unset, .unset, .unset, .unset, .unset] [(.int (511 : Int32)), (.int ((ya.toUInt32 >>> ((18 : Int32) &&& 31).toUInt32).toInt32))]))
        refine Done.step (fun _ => XS.iand X0.here hx rfl (hb hby at_87) rfl) ?_
        show Done _ p e below s _ _ (T0.setTop (mkF m 88 #[oI xa, oI ya, oJ ta, .second, oJ tb, .second, oI sel, oI (xa &&& (511 : Int32)), oI (((xa.toUInt32 >>> ((9 : Int32) &&& 31).toUInt32).toInt32) &&& (511 : Int32)), oI (((xa.toUInt32 >>> ((18 : Int32) &&& 31).toUInt32).toInt32) &&& (511 : Int32)), oI (xa &&& (511 : Int32)), oI (((ya.toUInt32 >>> ((9 : Int32) &&& 31).toUInt32).toInt32) &&& (511 : Int32)), .unset, .unset, .unset, .unset, .unset, .unset, .unset] [(.int (((ya.toUInt32 >>> ((18 : Int32) &&& 31).toUInt32).toInt32) &&& (511 : Int32)))]))
        refine Done.step (fun _ => XS.istore X0.here hx rfl (hb hby at_88) rfl (l' := #[oI xa, oI ya, oJ ta, .second, oJ tb, .second, oI sel, oI (xa &&& (511 : Int32)), oI (((xa.toUInt32 >>> ((9 : Int32) &&& 31).toUInt32).toInt32) &&& (511 : Int32)), oI (((xa.toUInt32 >>> ((18 : Int32) &&& 31).toUInt32).toInt32) &&& (511 : Int32)), oI (xa &&& (511 : Int32)), oI (((ya.toUInt32 >>> ((9 : Int32) &&& 31).toUInt32).toInt32) &&& (511 : Int32)), oI (((ya.toUInt32 >>> ((18 : Int32) &&& 31).toUInt32).toInt32) &&& (511 : Int32)), .unset, .unset, .unset, .unset, .unset, .unset]) rfl) ?_
        show Done _ p e below s _ _ (T0.setTop (mkF m 90 #[oI xa, oI ya, oJ ta, .second, oJ tb, .second, oI sel, oI (xa &&& (511 : Int32)), oI (((xa.toUInt32 >>> ((9 : Int32) &&& 31).toUInt32).toInt32) &&& (511 : Int32)), oI (((xa.toUInt32 >>> ((18 : Int32) &&& 31).toUInt32).toInt32) &&& (511 : Int32)), oI (xa &&& (511 : Int32)), oI (((ya.toUInt32 >>> ((9 : Int32) &&& 31).toUInt32).toInt32) &&& (511 : Int32)), oI (((ya.toUInt32 >>> ((18 : Int32) &&& 31).toUInt32).toInt32) &&& (511 : Int32)), .unset, .unset, .unset, .unset, .unset, .unset] []))
        refine Done.step (fun _ => XS.iload X0.here hx rfl (hb hby at_90) rfl) ?_
        show Done _ p e below s _ _ (T0.setTop (mkF m 92 #[oI xa, oI ya, oJ ta, .second, oJ tb, .second, oI sel, oI (xa &&& (511 : Int32)), oI (((xa.toUInt32 >>> ((9 : Int32) &&& 31).toUInt32).toInt32) &&& (511 : Int32)), oI (((xa.toUInt32 >>> ((18 : Int32) &&& 31).toUInt32).toInt32) &&& (511 : Int32)), oI (xa &&& (511 : Int32)), oI (((ya.toUInt32 >>> ((9 : Int32) &&& 31).toUInt32).toInt32) &&& (511 : Int32)), oI (((ya.toUInt32 >>> ((18 : Int32) &&& 31).toUInt32).toInt32) &&& (511 : Int32)), .unset, .unset, .unset, .unset, .unset, .unset] [(.int sel)]))
        refine Done.step (fun _ => XT.bipushV X0.here hx rfl (8 : Int32) (hb hby at_92) (by decide)) ?_
        show Done _ p e below s _ _ (T0.setTop (mkF m 94 #[oI xa, oI ya, oJ ta, .second, oJ tb, .second, oI sel, oI (xa &&& (511 : Int32)), oI (((xa.toUInt32 >>> ((9 : Int32) &&& 31).toUInt32).toInt32) &&& (511 : Int32)), oI (((xa.toUInt32 >>> ((18 : Int32) &&& 31).toUInt32).toInt32) &&& (511 : Int32)), oI (xa &&& (511 : Int32)), oI (((ya.toUInt32 >>> ((9 : Int32) &&& 31).toUInt32).toInt32) &&& (511 : Int32)), oI (((ya.toUInt32 >>> ((18 : Int32) &&& 31).toUInt32).toInt32) &&& (511 : Int32)), .unset, .unset, .unset, .unset, .unset, .unset] [(.int (8 : Int32)), (.int sel)]))
        refine Done.step (fun _ => XS.iand X0.here hx rfl (hb hby at_94) rfl) ?_
        show Done _ p e below s _ _ (T0.setTop (mkF m 95 #[oI xa, oI ya, oJ ta, .second, oJ tb, .second, oI sel, oI (xa &&& (511 : Int32)), oI (((xa.toUInt32 >>> ((9 : Int32) &&& 31).toUInt32).toInt32) &&& (511 : Int32)), oI (((xa.toUInt32 >>> ((18 : Int32) &&& 31).toUInt32).toInt32) &&& (511 : Int32)), oI (xa &&& (511 : Int32)), oI (((ya.toUInt32 >>> ((9 : Int32) &&& 31).toUInt32).toInt32) &&& (511 : Int32)), oI (((ya.toUInt32 >>> ((18 : Int32) &&& 31).toUInt32).toInt32) &&& (511 : Int32)), .unset, .unset, .unset, .unset, .unset, .unset] [(.int (sel &&& (8 : Int32)))]))
        by_cases hc245 : (sel &&& (8 : Int32)) = (0 : Int32)
        · refine Done.step (fun _ => XS.ifYes X0.here hx rfl (pc0 := 95) (pc' := 102) rfl (hb hby at_95) rfl (XT.i0_eq_t hc245) (by decide) (by decide)) ?_
          show Done _ p e below s _ _ (T0.setTop (mkF m 102 #[oI xa, oI ya, oJ ta, .second, oJ tb, .second, oI sel, oI (xa &&& (511 : Int32)), oI (((xa.toUInt32 >>> ((9 : Int32) &&& 31).toUInt32).toInt32) &&& (511 : Int32)), oI (((xa.toUInt32 >>> ((18 : Int32) &&& 31).toUInt32).toInt32) &&& (511 : Int32)), oI (xa &&& (511 : Int32)), oI (((ya.toUInt32 >>> ((9 : Int32) &&& 31).toUInt32).toInt32) &&& (511 : Int32)), oI (((ya.toUInt32 >>> ((18 : Int32) &&& 31).toUInt32).toInt32) &&& (511 : Int32)), .unset, .unset, .unset, .unset, .unset, .unset] []))
          refine Done.step (fun _ => XT.lload X0.here hx rfl (hb hby at_102) rfl) ?_
          show Done _ p e below s _ _ (T0.setTop (mkF m 104 #[oI xa, oI ya, oJ ta, .second, oJ tb, .second, oI sel, oI (xa &&& (511 : Int32)), oI (((xa.toUInt32 >>> ((9 : Int32) &&& 31).toUInt32).toInt32) &&& (511 : Int32)), oI (((xa.toUInt32 >>> ((18 : Int32) &&& 31).toUInt32).toInt32) &&& (511 : Int32)), oI (xa &&& (511 : Int32)), oI (((ya.toUInt32 >>> ((9 : Int32) &&& 31).toUInt32).toInt32) &&& (511 : Int32)), oI (((ya.toUInt32 >>> ((18 : Int32) &&& 31).toUInt32).toInt32) &&& (511 : Int32)), .unset, .unset, .unset, .unset, .unset, .unset] [(.long tb)]))
          refine Done.step (fun _ => XT.lstore X0.here hx rfl (hb hby at_104) rfl (l' := #[oI xa, oI ya, oJ ta, .second, oJ tb, .second, oI sel, oI (xa &&& (511 : Int32)), oI (((xa.toUInt32 >>> ((9 : Int32) &&& 31).toUInt32).toInt32) &&& (511 : Int32)), oI (((xa.toUInt32 >>> ((18 : Int32) &&& 31).toUInt32).toInt32) &&& (511 : Int32)), oI (xa &&& (511 : Int32)), oI (((ya.toUInt32 >>> ((9 : Int32) &&& 31).toUInt32).toInt32) &&& (511 : Int32)), oI (((ya.toUInt32 >>> ((18 : Int32) &&& 31).toUInt32).toInt32) &&& (511 : Int32)), oJ tb, .second, .unset, .unset, .unset, .unset]) rfl) ?_
          show Done _ p e below s _ _ (T0.setTop (mkF m 106 #[oI xa, oI ya, oJ ta, .second, oJ tb, .second, oI sel, oI (xa &&& (511 : Int32)), oI (((xa.toUInt32 >>> ((9 : Int32) &&& 31).toUInt32).toInt32) &&& (511 : Int32)), oI (((xa.toUInt32 >>> ((18 : Int32) &&& 31).toUInt32).toInt32) &&& (511 : Int32)), oI (xa &&& (511 : Int32)), oI (((ya.toUInt32 >>> ((9 : Int32) &&& 31).toUInt32).toInt32) &&& (511 : Int32)), oI (((ya.toUInt32 >>> ((18 : Int32) &&& 31).toUInt32).toInt32) &&& (511 : Int32)), oJ tb, .second, .unset, .unset, .unset, .unset] []))
          exact K106 T0 e0 X0 (xa &&& (511 : Int32)) (((xa.toUInt32 >>> ((9 : Int32) &&& 31).toUInt32).toInt32) &&& (511 : Int32)) (((xa.toUInt32 >>> ((18 : Int32) &&& 31).toUInt32).toInt32) &&& (511 : Int32)) (xa &&& (511 : Int32)) (((ya.toUInt32 >>> ((9 : Int32) &&& 31).toUInt32).toInt32) &&& (511 : Int32)) (((ya.toUInt32 >>> ((18 : Int32) &&& 31).toUInt32).toInt32) &&& (511 : Int32)) tb
        · refine Done.step (fun _ => XS.ifNo X0.here hx rfl (hb hby at_95) rfl (XT.i0_eq_f hc245)) ?_
          show Done _ p e below s _ _ (T0.setTop (mkF m 98 #[oI xa, oI ya, oJ ta, .second, oJ tb, .second, oI sel, oI (xa &&& (511 : Int32)), oI (((xa.toUInt32 >>> ((9 : Int32) &&& 31).toUInt32).toInt32) &&& (511 : Int32)), oI (((xa.toUInt32 >>> ((18 : Int32) &&& 31).toUInt32).toInt32) &&& (511 : Int32)), oI (xa &&& (511 : Int32)), oI (((ya.toUInt32 >>> ((9 : Int32) &&& 31).toUInt32).toInt32) &&& (511 : Int32)), oI (((ya.toUInt32 >>> ((18 : Int32) &&& 31).toUInt32).toInt32) &&& (511 : Int32)), .unset, .unset, .unset, .unset, .unset, .unset] []))
          refine Done.step (fun _ => XT.lloadN X0.here hx rfl (hb hby at_98) rfl) ?_
          show Done _ p e below s _ _ (T0.setTop (mkF m 99 #[oI xa, oI ya, oJ ta, .second, oJ tb, .second, oI sel, oI (xa &&& (511 : Int32)), oI (((xa.toUInt32 >>> ((9 : Int32) &&& 31).toUInt32).toInt32) &&& (511 : Int32)), oI (((xa.toUInt32 >>> ((18 : Int32) &&& 31).toUInt32).toInt32) &&& (511 : Int32)), oI (xa &&& (511 : Int32)), oI (((ya.toUInt32 >>> ((9 : Int32) &&& 31).toUInt32).toInt32) &&& (511 : Int32)), oI (((ya.toUInt32 >>> ((18 : Int32) &&& 31).toUInt32).toInt32) &&& (511 : Int32)), .unset, .unset, .unset, .unset, .unset, .unset] [(.long ta)]))
          refine Done.step (fun _ => XS.goto X0.here hx rfl (pc0 := 99) (pc' := 104) rfl (hb hby at_99) (by decide) (by decide)) ?_
          show Done _ p e below s _ _ (T0.setTop (mkF m 104 #[oI xa, oI ya, oJ ta, .second, oJ tb, .second, oI sel, oI (xa &&& (511 : Int32)), oI (((xa.toUInt32 >>> ((9 : Int32) &&& 31).toUInt32).toInt32) &&& (511 : Int32)), oI (((xa.toUInt32 >>> ((18 : Int32) &&& 31).toUInt32).toInt32) &&& (511 : Int32)), oI (xa &&& (511 : Int32)), oI (((ya.toUInt32 >>> ((9 : Int32) &&& 31).toUInt32).toInt32) &&& (511 : Int32)), oI (((ya.toUInt32 >>> ((18 : Int32) &&& 31).toUInt32).toInt32) &&& (511 : Int32)), .unset, .unset, .unset, .unset, .unset, .unset] [(.long ta)]))
          refine Done.step (fun _ => XT.lstore X0.here hx rfl (hb hby at_104) rfl (l' := #[oI xa, oI ya, oJ ta, .second, oJ tb, .second, oI sel, oI (xa &&& (511 : Int32)), oI (((xa.toUInt32 >>> ((9 : Int32) &&& 31).toUInt32).toInt32) &&& (511 : Int32)), oI (((xa.toUInt32 >>> ((18 : Int32) &&& 31).toUInt32).toInt32) &&& (511 : Int32)), oI (xa &&& (511 : Int32)), oI (((ya.toUInt32 >>> ((9 : Int32) &&& 31).toUInt32).toInt32) &&& (511 : Int32)), oI (((ya.toUInt32 >>> ((18 : Int32) &&& 31).toUInt32).toInt32) &&& (511 : Int32)), oJ ta, .second, .unset, .unset, .unset, .unset]) rfl) ?_
          show Done _ p e below s _ _ (T0.setTop (mkF m 106 #[oI xa, oI ya, oJ ta, .second, oJ tb, .second, oI sel, oI (xa &&& (511 : Int32)), oI (((xa.toUInt32 >>> ((9 : Int32) &&& 31).toUInt32).toInt32) &&& (511 : Int32)), oI (((xa.toUInt32 >>> ((18 : Int32) &&& 31).toUInt32).toInt32) &&& (511 : Int32)), oI (xa &&& (511 : Int32)), oI (((ya.toUInt32 >>> ((9 : Int32) &&& 31).toUInt32).toInt32) &&& (511 : Int32)), oI (((ya.toUInt32 >>> ((18 : Int32) &&& 31).toUInt32).toInt32) &&& (511 : Int32)), oJ ta, .second, .unset, .unset, .unset, .unset] []))
          exact K106 T0 e0 X0 (xa &&& (511 : Int32)) (((xa.toUInt32 >>> ((9 : Int32) &&& 31).toUInt32).toInt32) &&& (511 : Int32)) (((xa.toUInt32 >>> ((18 : Int32) &&& 31).toUInt32).toInt32) &&& (511 : Int32)) (xa &&& (511 : Int32)) (((ya.toUInt32 >>> ((9 : Int32) &&& 31).toUInt32).toInt32) &&& (511 : Int32)) (((ya.toUInt32 >>> ((18 : Int32) &&& 31).toUInt32).toInt32) &&& (511 : Int32)) ta
      · refine Done.step (fun _ => XS.ifNo X0.here hx rfl (hb hby at_72) rfl (XT.i0_eq_f hc244)) ?_
        show Done _ p e below s _ _ (T0.setTop (mkF m 75 #[oI xa, oI ya, oJ ta, .second, oJ tb, .second, oI sel, oI (xa &&& (511 : Int32)), oI (((xa.toUInt32 >>> ((9 : Int32) &&& 31).toUInt32).toInt32) &&& (511 : Int32)), oI (((xa.toUInt32 >>> ((18 : Int32) &&& 31).toUInt32).toInt32) &&& (511 : Int32)), oI (xa &&& (511 : Int32)), oI (((ya.toUInt32 >>> ((9 : Int32) &&& 31).toUInt32).toInt32) &&& (511 : Int32)), .unset, .unset, .unset, .unset, .unset, .unset, .unset] []))
        refine Done.step (fun _ => XS.iload X0.here hx rfl (hb hby at_75) rfl) ?_
        show Done _ p e below s _ _ (T0.setTop (mkF m 77 #[oI xa, oI ya, oJ ta, .second, oJ tb, .second, oI sel, oI (xa &&& (511 : Int32)), oI (((xa.toUInt32 >>> ((9 : Int32) &&& 31).toUInt32).toInt32) &&& (511 : Int32)), oI (((xa.toUInt32 >>> ((18 : Int32) &&& 31).toUInt32).toInt32) &&& (511 : Int32)), oI (xa &&& (511 : Int32)), oI (((ya.toUInt32 >>> ((9 : Int32) &&& 31).toUInt32).toInt32) &&& (511 : Int32)), .unset, .unset, .unset, .unset, .unset, .unset, .unset] [(.int (((xa.toUInt32 >>> ((18 : Int32) &&& 31).toUInt32).toInt32) &&& (511 : Int32)))]))
        refine Done.step (fun _ => XS.goto X0.here hx rfl (pc0 := 77) (pc' := 88) rfl (hb hby at_77) (by decide) (by decide)) ?_
        show Done _ p e below s _ _ (T0.setTop (mkF m 88 #[oI xa, oI ya, oJ ta, .second, oJ tb, .second, oI sel, oI (xa &&& (511 : Int32)), oI (((xa.toUInt32 >>> ((9 : Int32) &&& 31).toUInt32).toInt32) &&& (511 : Int32)), oI (((xa.toUInt32 >>> ((18 : Int32) &&& 31).toUInt32).toInt32) &&& (511 : Int32)), oI (xa &&& (511 : Int32)), oI (((ya.toUInt32 >>> ((9 : Int32) &&& 31).toUInt32).toInt32) &&& (511 : Int32)), .unset, .unset, .unset, .unset, .unset, .unset, .unset] [(.int (((xa.toUInt32 >>> ((18 : Int32) &&& 31).toUInt32).toInt32) &&& (511 : Int32)))]))
        refine Done.step (fun _ => XS.istore X0.here hx rfl (hb hby at_88) rfl (l' := #[oI xa, oI ya, oJ ta, .second, oJ tb, .second, oI sel, oI (xa &&& (511 : Int32)), oI (((xa.toUInt32 >>> ((9 : Int32) &&& 31).toUInt32).toInt32) &&& (511 : Int32)), oI (((xa.toUInt32 >>> ((18 : Int32) &&& 31).toUInt32).toInt32) &&& (511 : Int32)), oI (xa &&& (511 : Int32)), oI (((ya.toUInt32 >>> ((9 : Int32) &&& 31).toUInt32).toInt32) &&& (511 : Int32)), oI (((xa.toUInt32 >>> ((18 : Int32) &&& 31).toUInt32).toInt32) &&& (511 : Int32)), .unset, .unset, .unset, .unset, .unset, .unset]) rfl) ?_
        show Done _ p e below s _ _ (T0.setTop (mkF m 90 #[oI xa, oI ya, oJ ta, .second, oJ tb, .second, oI sel, oI (xa &&& (511 : Int32)), oI (((xa.toUInt32 >>> ((9 : Int32) &&& 31).toUInt32).toInt32) &&& (511 : Int32)), oI (((xa.toUInt32 >>> ((18 : Int32) &&& 31).toUInt32).toInt32) &&& (511 : Int32)), oI (xa &&& (511 : Int32)), oI (((ya.toUInt32 >>> ((9 : Int32) &&& 31).toUInt32).toInt32) &&& (511 : Int32)), oI (((xa.toUInt32 >>> ((18 : Int32) &&& 31).toUInt32).toInt32) &&& (511 : Int32)), .unset, .unset, .unset, .unset, .unset, .unset] []))
        refine Done.step (fun _ => XS.iload X0.here hx rfl (hb hby at_90) rfl) ?_
        show Done _ p e below s _ _ (T0.setTop (mkF m 92 #[oI xa, oI ya, oJ ta, .second, oJ tb, .second, oI sel, oI (xa &&& (511 : Int32)), oI (((xa.toUInt32 >>> ((9 : Int32) &&& 31).toUInt32).toInt32) &&& (511 : Int32)), oI (((xa.toUInt32 >>> ((18 : Int32) &&& 31).toUInt32).toInt32) &&& (511 : Int32)), oI (xa &&& (511 : Int32)), oI (((ya.toUInt32 >>> ((9 : Int32) &&& 31).toUInt32).toInt32) &&& (511 : Int32)), oI (((xa.toUInt32 >>> ((18 : Int32) &&& 31).toUInt32).toInt32) &&& (511 : Int32)), .unset, .unset, .unset, .unset, .unset, .unset] [(.int sel)]))
        refine Done.step (fun _ => XT.bipushV X0.here hx rfl (8 : Int32) (hb hby at_92) (by decide)) ?_
        show Done _ p e below s _ _ (T0.setTop (mkF m 94 #[oI xa, oI ya, oJ ta, .second, oJ tb, .second, oI sel, oI (xa &&& (511 : Int32)), oI (((xa.toUInt32 >>> ((9 : Int32) &&& 31).toUInt32).toInt32) &&& (511 : Int32)), oI (((xa.toUInt32 >>> ((18 : Int32) &&& 31).toUInt32).toInt32) &&& (511 : Int32)), oI (xa &&& (511 : Int32)), oI (((ya.toUInt32 >>> ((9 : Int32) &&& 31).toUInt32).toInt32) &&& (511 : Int32)), oI (((xa.toUInt32 >>> ((18 : Int32) &&& 31).toUInt32).toInt32) &&& (511 : Int32)), .unset, .unset, .unset, .unset, .unset, .unset] [(.int (8 : Int32)), (.int sel)]))
        refine Done.step (fun _ => XS.iand X0.here hx rfl (hb hby at_94) rfl) ?_
        show Done _ p e below s _ _ (T0.setTop (mkF m 95 #[oI xa, oI ya, oJ ta, .second, oJ tb, .second, oI sel, oI (xa &&& (511 : Int32)), oI (((xa.toUInt32 >>> ((9 : Int32) &&& 31).toUInt32).toInt32) &&& (511 : Int32)), oI (((xa.toUInt32 >>> ((18 : Int32) &&& 31).toUInt32).toInt32) &&& (511 : Int32)), oI (xa &&& (511 : Int32)), oI (((ya.toUInt32 >>> ((9 : Int32) &&& 31).toUInt32).toInt32) &&& (511 : Int32)), oI (((xa.toUInt32 >>> ((18 : Int32) &&& 31).toUInt32).toInt32) &&& (511 : Int32)), .unset, .unset, .unset, .unset, .unset, .unset] [(.int (sel &&& (8 : Int32)))]))
        by_cases hc246 : (sel &&& (8 : Int32)) = (0 : Int32)
        · refine Done.step (fun _ => XS.ifYes X0.here hx rfl (pc0 := 95) (pc' := 102) rfl (hb hby at_95) rfl (XT.i0_eq_t hc246) (by decide) (by decide)) ?_
          show Done _ p e below s _ _ (T0.setTop (mkF m 102 #[oI xa, oI ya, oJ ta, .second, oJ tb, .second, oI sel, oI (xa &&& (511 : Int32)), oI (((xa.toUInt32 >>> ((9 : Int32) &&& 31).toUInt32).toInt32) &&& (511 : Int32)), oI (((xa.toUInt32 >>> ((18 : Int32) &&& 31).toUInt32).toInt32) &&& (511 : Int32)), oI (xa &&& (511 : Int32)), oI (((ya.toUInt32 >>> ((9 : Int32) &&& 31).toUInt32).toInt32) &&& (511 : Int32)), oI (((xa.toUInt32 >>> ((18 : Int32) &&& 31).toUInt32).toInt32) &&& (511 : Int32)), .unset, .unset, .unset, .unset, .unset, .unset] []))
          refine Done.step (fun _ => XT.lload X0.here hx rfl (hb hby at_102) rfl) ?_
          show Done _ p e below s _ _ (T0.setTop (mkF m 104 #[oI xa, oI ya, oJ ta, .second, oJ tb, .second, oI sel, oI (xa &&& (511 : Int32)), oI (((xa.toUInt32 >>> ((9 : Int32) &&& 31).toUInt32).toInt32) &&& (511 : Int32)), oI (((xa.toUInt32 >>> ((18 : Int32) &&& 31).toUInt32).toInt32) &&& (511 : Int32)), oI (xa &&& (511 : Int32)), oI (((ya.toUInt32 >>> ((9 : Int32) &&& 31).toUInt32).toInt32) &&& (511 : Int32)), oI (((xa.toUInt32 >>> ((18 : Int32) &&& 31).toUInt32).toInt32) &&& (511 : Int32)), .unset, .unset, .unset, .unset, .unset, .unset] [(.long tb)]))
          refine Done.step (fun _ => XT.lstore X0.here hx rfl (hb hby at_104) rfl (l' := #[oI xa, oI ya, oJ ta, .second, oJ tb, .second, oI sel, oI (xa &&& (511 : Int32)), oI (((xa.toUInt32 >>> ((9 : Int32) &&& 31).toUInt32).toInt32) &&& (511 : Int32)), oI (((xa.toUInt32 >>> ((18 : Int32) &&& 31).toUInt32).toInt32) &&& (511 : Int32)), oI (xa &&& (511 : Int32)), oI (((ya.toUInt32 >>> ((9 : Int32) &&& 31).toUInt32).toInt32) &&& (511 : Int32)), oI (((xa.toUInt32 >>> ((18 : Int32) &&& 31).toUInt32).toInt32) &&& (511 : Int32)), oJ tb, .second, .unset, .unset, .unset, .unset]) rfl) ?_
          show Done _ p e below s _ _ (T0.setTop (mkF m 106 #[oI xa, oI ya, oJ ta, .second, oJ tb, .second, oI sel, oI (xa &&& (511 : Int32)), oI (((xa.toUInt32 >>> ((9 : Int32) &&& 31).toUInt32).toInt32) &&& (511 : Int32)), oI (((xa.toUInt32 >>> ((18 : Int32) &&& 31).toUInt32).toInt32) &&& (511 : Int32)), oI (xa &&& (511 : Int32)), oI (((ya.toUInt32 >>> ((9 : Int32) &&& 31).toUInt32).toInt32) &&& (511 : Int32)), oI (((xa.toUInt32 >>> ((18 : Int32) &&& 31).toUInt32).toInt32) &&& (511 : Int32)), oJ tb, .second, .unset, .unset, .unset, .unset] []))
          exact K106 T0 e0 X0 (xa &&& (511 : Int32)) (((xa.toUInt32 >>> ((9 : Int32) &&& 31).toUInt32).toInt32) &&& (511 : Int32)) (((xa.toUInt32 >>> ((18 : Int32) &&& 31).toUInt32).toInt32) &&& (511 : Int32)) (xa &&& (511 : Int32)) (((ya.toUInt32 >>> ((9 : Int32) &&& 31).toUInt32).toInt32) &&& (511 : Int32)) (((xa.toUInt32 >>> ((18 : Int32) &&& 31).toUInt32).toInt32) &&& (511 : Int32)) tb
        · refine Done.step (fun _ => XS.ifNo X0.here hx rfl (hb hby at_95) rfl (XT.i0_eq_f hc246)) ?_
          show Done _ p e below s _ _ (T0.setTop (mkF m 98 #[oI xa, oI ya, oJ ta, .second, oJ tb, .second, oI sel, oI (xa &&& (511 : Int32)), oI (((xa.toUInt32 >>> ((9 : Int32) &&& 31).toUInt32).toInt32) &&& (511 : Int32)), oI (((xa.toUInt32 >>> ((18 : Int32) &&& 31).toUInt32).toInt32) &&& (511 : Int32)), oI (xa &&& (511 : Int32)), oI (((ya.toUInt32 >>> ((9 : Int32) &&& 31).toUInt32).toInt32) &&& (511 : Int32)), oI (((xa.toUInt32 >>> ((18 : Int32) &&& 31).toUInt32).toInt32) &&& (511 : Int32)), .unset, .unset, .unset, .unset, .unset, .unset] []))
          refine Done.step (fun _ => XT.lloadN X0.here hx rfl (hb hby at_98) rfl) ?_
          show Done _ p e below s _ _ (T0.setTop (mkF m 99 #[oI xa, oI ya, oJ ta, .second, oJ tb, .second, oI sel, oI (xa &&& (511 : Int32)), oI (((xa.toUInt32 >>> ((9 : Int32) &&& 31).toUInt32).toInt32) &&& (511 : Int32)), oI (((xa.toUInt32 >>> ((18 : Int32) &&& 31).toUInt32).toInt32) &&& (511 : Int32)), oI (xa &&& (511 : Int32)), oI (((ya.toUInt32 >>> ((9 : Int32) &&& 31).toUInt32).toInt32) &&& (511 : Int32)), oI (((xa.toUInt32 >>> ((18 : Int32) &&& 31).toUInt32).toInt32) &&& (511 : Int32)), .unset, .unset, .unset, .unset, .unset, .unset] [(.long ta)]))
          refine Done.step (fun _ => XS.goto X0.here hx rfl (pc0 := 99) (pc' := 104) rfl (hb hby at_99) (by decide) (by decide)) ?_
          show Done _ p e below s _ _ (T0.setTop (mkF m 104 #[oI xa, oI ya, oJ ta, .second, oJ tb, .second, oI sel, oI (xa &&& (511 : Int32)), oI (((xa.toUInt32 >>> ((9 : Int32) &&& 31).toUInt32).toInt32) &&& (511 : Int32)), oI (((xa.toUInt32 >>> ((18 : Int32) &&& 31).toUInt32).toInt32) &&& (511 : Int32)), oI (xa &&& (511 : Int32)), oI (((ya.toUInt32 >>> ((9 : Int32) &&& 31).toUInt32).toInt32) &&& (511 : Int32)), oI (((xa.toUInt32 >>> ((18 : Int32) &&& 31).toUInt32).toInt32) &&& (511 : Int32)), .unset, .unset, .unset, .unset, .unset, .unset] [(.long ta)]))
          refine Done.step (fun _ => XT.lstore X0.here hx rfl (hb hby at_104) rfl (l' := #[oI xa, oI ya, oJ ta, .second, oJ tb, .second, oI sel, oI (xa &&& (511 : Int32)), oI (((xa.toUInt32 >>> ((9 : Int32) &&& 31).toUInt32).toInt32) &&& (511 : Int32)), oI (((xa.toUInt32 >>> ((18 : Int32) &&& 31).toUInt32).toInt32) &&& (511 : Int32)), oI (xa &&& (511 : Int32)), oI (((ya.toUInt32 >>> ((9 : Int32) &&& 31).toUInt32).toInt32) &&& (511 : Int32)), oI (((xa.toUInt32 >>> ((18 : Int32) &&& 31).toUInt32).toInt32) &&& (511 : Int32)), oJ ta, .second, .unset, .unset, .unset, .unset]) rfl) ?_
          show Done _ p e below s _ _ (T0.setTop (mkF m 106 #[oI xa, oI ya, oJ ta, .second, oJ tb, .second, oI sel, oI (xa &&& (511 : Int32)), oI (((xa.toUInt32 >>> ((9 : Int32) &&& 31).toUInt32).toInt32) &&& (511 : Int32)), oI (((xa.toUInt32 >>> ((18 : Int32) &&& 31).toUInt32).toInt32) &&& (511 : Int32)), oI (xa &&& (511 : Int32)), oI (((ya.toUInt32 >>> ((9 : Int32) &&& 31).toUInt32).toInt32) &&& (511 : Int32)), oI (((xa.toUInt32 >>> ((18 : Int32) &&& 31).toUInt32).toInt32) &&& (511 : Int32)), oJ ta, .second, .unset, .unset, .unset, .unset] []))
          exact K106 T0 e0 X0 (xa &&& (511 : Int32)) (((xa.toUInt32 >>> ((9 : Int32) &&& 31).toUInt32).toInt32) &&& (511 : Int32)) (((xa.toUInt32 >>> ((18 : Int32) &&& 31).toUInt32).toInt32) &&& (511 : Int32)) (xa &&& (511 : Int32)) (((ya.toUInt32 >>> ((9 : Int32) &&& 31).toUInt32).toInt32) &&& (511 : Int32)) (((xa.toUInt32 >>> ((18 : Int32) &&& 31).toUInt32).toInt32) &&& (511 : Int32)) ta
    · refine Done.step (fun _ => XS.ifNo X0.here hx rfl (hb hby at_50) rfl (XT.i0_eq_f hc243)) ?_
      show Done _ p e below s _ _ (T0.setTop (mkF m 53 #[oI xa, oI ya, oJ ta, .second, oJ tb, .second, oI sel, oI (xa &&& (511 : Int32)), oI (((xa.toUInt32 >>> ((9 : Int32) &&& 31).toUInt32).toInt32) &&& (511 : Int32)), oI (((xa.toUInt32 >>> ((18 : Int32) &&& 31).toUInt32).toInt32) &&& (511 : Int32)), oI (xa &&& (511 : Int32)), .unset, .unset, .unset, .unset, .unset, .unset, .unset, .unset] []))
      refine Done.step (fun _ => XS.iload X0.here hx rfl (hb hby at_53) rfl) ?_
      show Done _ p e below s _ _ (T0.setTop (mkF m 55 #[oI xa, oI ya, oJ ta, .second, oJ tb, .second, oI sel, oI (xa &&& (511 : Int32)), oI (((xa.toUInt32 >>> ((9 : Int32) &&& 31).toUInt32).toInt32) &&& (511 : Int32)), oI (((xa.toUInt32 >>> ((18 : Int32) &&& 31).toUInt32).toInt32) &&& (511 : Int32)), oI (xa &&& (511 : Int32)), .unset, .unset, .unset, .unset, .unset, .unset, .unset, .unset] [(.int (((xa.toUInt32 >>> ((9 : Int32) &&& 31).toUInt32).toInt32) &&& (511 : Int32)))]))
      refine Done.step (fun _ => XS.goto X0.here hx rfl (pc0 := 55) (pc' := 66) rfl (hb hby at_55) (by decide) (by decide)) ?_
      show Done _ p e below s _ _ (T0.setTop (mkF m 66 #[oI xa, oI ya, oJ ta, .second, oJ tb, .second, oI sel, oI (xa &&& (511 : Int32)), oI (((xa.toUInt32 >>> ((9 : Int32) &&& 31).toUInt32).toInt32) &&& (511 : Int32)), oI (((xa.toUInt32 >>> ((18 : Int32) &&& 31).toUInt32).toInt32) &&& (511 : Int32)), oI (xa &&& (511 : Int32)), .unset, .unset, .unset, .unset, .unset, .unset, .unset, .unset] [(.int (((xa.toUInt32 >>> ((9 : Int32) &&& 31).toUInt32).toInt32) &&& (511 : Int32)))]))
      refine Done.step (fun _ => XS.istore X0.here hx rfl (hb hby at_66) rfl (l' := #[oI xa, oI ya, oJ ta, .second, oJ tb, .second, oI sel, oI (xa &&& (511 : Int32)), oI (((xa.toUInt32 >>> ((9 : Int32) &&& 31).toUInt32).toInt32) &&& (511 : Int32)), oI (((xa.toUInt32 >>> ((18 : Int32) &&& 31).toUInt32).toInt32) &&& (511 : Int32)), oI (xa &&& (511 : Int32)), oI (((xa.toUInt32 >>> ((9 : Int32) &&& 31).toUInt32).toInt32) &&& (511 : Int32)), .unset, .unset, .unset, .unset, .unset, .unset, .unset]) rfl) ?_
      show Done _ p e below s _ _ (T0.setTop (mkF m 68 #[oI xa, oI ya, oJ ta, .second, oJ tb, .second, oI sel, oI (xa &&& (511 : Int32)), oI (((xa.toUInt32 >>> ((9 : Int32) &&& 31).toUInt32).toInt32) &&& (511 : Int32)), oI (((xa.toUInt32 >>> ((18 : Int32) &&& 31).toUInt32).toInt32) &&& (511 : Int32)), oI (xa &&& (511 : Int32)), oI (((xa.toUInt32 >>> ((9 : Int32) &&& 31).toUInt32).toInt32) &&& (511 : Int32)), .unset, .unset, .unset, .unset, .unset, .unset, .unset] []))
      refine Done.step (fun _ => XS.iload X0.here hx rfl (hb hby at_68) rfl) ?_
      show Done _ p e below s _ _ (T0.setTop (mkF m 70 #[oI xa, oI ya, oJ ta, .second, oJ tb, .second, oI sel, oI (xa &&& (511 : Int32)), oI (((xa.toUInt32 >>> ((9 : Int32) &&& 31).toUInt32).toInt32) &&& (511 : Int32)), oI (((xa.toUInt32 >>> ((18 : Int32) &&& 31).toUInt32).toInt32) &&& (511 : Int32)), oI (xa &&& (511 : Int32)), oI (((xa.toUInt32 >>> ((9 : Int32) &&& 31).toUInt32).toInt32) &&& (511 : Int32)), .unset, .unset, .unset, .unset, .unset, .unset, .unset] [(.int sel)]))
      refine Done.step (fun _ => XT.iconstV X0.here hx rfl (4 : Int32) (hb hby at_70) (by decide)) ?_
      show Done _ p e below s _ _ (T0.setTop (mkF m 71 #[oI xa, oI ya, oJ ta, .second, oJ tb, .second, oI sel, oI (xa &&& (511 : Int32)), oI (((xa.toUInt32 >>> ((9 : Int32) &&& 31).toUInt32).toInt32) &&& (511 : Int32)), oI (((xa.toUInt32 >>> ((18 : Int32) &&& 31).toUInt32).toInt32) &&& (511 : Int32)), oI (xa &&& (511 : Int32)), oI (((xa.toUInt32 >>> ((9 : Int32) &&& 31).toUInt32).toInt32) &&& (511 : Int32)), .unset, .unset, .unset, .unset, .unset, .unset, .unset] [(.int (4 : Int32)), (.int sel)]))
      refine Done.step (fun _ => XS.iand X0.here hx rfl (hb hby at_71) rfl) ?_
      show Done _ p e below s _ _ (T0.setTop (mkF m 72 #[oI xa, oI ya, oJ ta, .second, oJ tb, .second, oI sel, oI (xa &&& (511 : Int32)), oI (((xa.toUInt32 >>> ((9 : Int32) &&& 31).toUInt32).toInt32) &&& (511 : Int32)), oI (((xa.toUInt32 >>> ((18 : Int32) &&& 31).toUInt32).toInt32) &&& (511 : Int32)), oI (xa &&& (511 : Int32)), oI (((xa.toUInt32 >>> ((9 : Int32) &&& 31).toUInt32).toInt32) &&& (511 : Int32)), .unset, .unset, .unset, .unset, .unset, .unset, .unset] [(.int (sel &&& (4 : Int32)))]))
      by_cases hc247 : (sel &&& (4 : Int32)) = (0 : Int32)
      · refine Done.step (fun _ => XS.ifYes X0.here hx rfl (pc0 := 72) (pc' := 80) rfl (hb hby at_72) rfl (XT.i0_eq_t hc247) (by decide) (by decide)) ?_
        show Done _ p e below s _ _ (T0.setTop (mkF m 80 #[oI xa, oI ya, oJ ta, .second, oJ tb, .second, oI sel, oI (xa &&& (511 : Int32)), oI (((xa.toUInt32 >>> ((9 : Int32) &&& 31).toUInt32).toInt32) &&& (511 : Int32)), oI (((xa.toUInt32 >>> ((18 : Int32) &&& 31).toUInt32).toInt32) &&& (511 : Int32)), oI (xa &&& (511 : Int32)), oI (((xa.toUInt32 >>> ((9 : Int32) &&& 31).toUInt32).toInt32) &&& (511 : Int32)), .unset, .unset, .unset, .unset, .unset, .unset, .unset] []))
        refine Done.step (fun _ => XS.iloadN X0.here hx rfl (hb hby at_80) rfl) ?_
        show Done _ p e below s _ _ (T0.setTop (mkF m 81 #[oI xa, oI ya, oJ ta, .second, oJ tb, .second, oI sel, oI (xa &&& (511 : Int32)), oI (((xa.toUInt32 >>> ((9 : Int32) &&& 31).toUInt32).toInt32) &&& (511 : Int32)), oI (((xa.toUInt32 >>> ((18 : Int32) &&& 31).toUInt32).toInt32) &&& (511 : Int32)), oI (xa &&& (511 : Int32)), oI (((xa.toUInt32 >>> ((9 : Int32) &&& 31).toUInt32).toInt32) &&& (511 : Int32)), .unset, .unset, .unset, .unset, .unset, .unset, .unset] [(.int ya)]))
        refine Done.step (fun _ => XT.bipushV X0.here hx rfl (18 : Int32) (hb hby at_81) (by decide)) ?_
        show Done _ p e below s _ _ (T0.setTop (mkF m 83 #[oI xa, oI ya, oJ ta, .second, oJ tb, .second, oI sel, oI (xa &&& (511 : Int32)), oI (((xa.toUInt32 >>> ((9 : Int32) &&& 31).toUInt32).toInt32) &&& (511 : Int32)), oI (((xa.toUInt32 >>> ((18 : Int32) &&& 31).toUInt32).toInt32) &&& (511 : Int32)), oI (xa &&& (511 : Int32)), oI (((xa.toUInt32 >>> ((9 : Int32) &&& 31).toUInt32).toInt32) &&& (511 : Int32)), .unset, .unset, .unset, .unset, .unset, .unset, .unset] [(.int (18 : Int32)), (.int ya)]))
        refine Done.step (fun _ => XT.iushr X0.here hx rfl (hb hby at_83) rfl) ?_
        show Done _ p e below s _ _ (T0.setTop (mkF m 84 #[oI xa, oI ya, oJ ta, .second, oJ tb, .second, oI sel, oI (xa &&& (511 : Int32)), oI (((xa.toUInt32 >>> ((9 : Int32) &&& 31).toUInt32).toInt32) &&& (511 : Int32)), oI (((xa.toUInt32 >>> ((18 : Int32) &&& 31).toUInt32).toInt32) &&& (511 : Int32)), oI (xa &&& (511 : Int32)), oI (((xa.toUInt32 >>> ((9 : Int32) &&& 31).toUInt32).toInt32) &&& (511 : Int32)), .unset, .unset, .unset, .unset, .unset, .unset, .unset] [(.int ((ya.toUInt32 >>> ((18 : Int32) &&& 31).toUInt32).toInt32))]))
        refine Done.step (fun _ => XT.sipushV X0.here hx rfl (511 : Int32) (hb hby at_84) (by decide)) ?_
        show Done _ p e below s _ _ (T0.setTop (mkF m 87 #[oI xa, oI ya, oJ ta, .second, oJ tb, .second, oI sel, oI (xa &&& (511 : Int32)), oI (((xa.toUInt32 >>> ((9 : Int32) &&& 31).toUInt32).toInt32) &&& (511 : Int32)), oI (((xa.toUInt32 >>> ((18 : Int32) &&& 31).toUInt32).toInt32) &&& (511 : Int32)), oI (xa &&& (511 : Int32)), oI (((xa.toUInt32 >>> ((9 : Int32) &&& 31).toUInt32).toInt32) &&& (511 : Int32)), .unset, .unset, .unset, .unset, .unset, .unset, .unset] [(.int (511 : Int32)), (.int ((ya.toUInt32 >>> ((18 : Int32) &&& 31).toUInt32).toInt32))]))
        refine Done.step (fun _ => XS.iand X0.here hx rfl (hb hby at_87) rfl) ?_
        show Done _ p e below s _ _ (T0.setTop (mkF m 88 #[oI xa, oI ya, oJ ta, .second, oJ tb, .second, oI sel, oI (xa &&& (511 : Int32)), oI (((xa.toUInt32 >>> ((9 : Int32) &&& 31).toUInt32).toInt32) &&& (511 : Int32)), oI (((xa.toUInt32 >>> ((18 : Int32) &&& 31).toUInt32).toInt32) &&& (511 : Int32)), oI (xa &&& (511 : Int32)), oI (((xa.toUInt32 >>> ((9 : Int32) &&& 31).toUInt32).toInt32) &&& (511 : Int32)), .unset, .unset, .unset, .unset, .unset, .unset, .unset] [(.int (((ya.toUInt32 >>> ((18 : Int32) &&& 31).toUInt32).toInt32) &&& (511 : Int32)))]))
        refine Done.step (fun _ => XS.istore X0.here hx rfl (hb hby at_88) rfl (l' := #[oI xa, oI ya, oJ ta, .second, oJ tb, .second, oI sel, oI (xa &&& (511 : Int32)), oI (((xa.toUInt32 >>> ((9 : Int32) &&& 31).toUInt32).toInt32) &&& (511 : Int32)), oI (((xa.toUInt32 >>> ((18 : Int32) &&& 31).toUInt32).toInt32) &&& (511 : Int32)), oI (xa &&& (511 : Int32)), oI (((xa.toUInt32 >>> ((9 : Int32) &&& 31).toUInt32).toInt32) &&& (511 : Int32)), oI (((ya.toUInt32 >>> ((18 : Int32) &&& 31).toUInt32).toInt32) &&& (511 : Int32)), .unset, .unset, .unset, .unset, .unset, .unset]) rfl) ?_
        show Done _ p e below s _ _ (T0.setTop (mkF m 90 #[oI xa, oI ya, oJ ta, .second, oJ tb, .second, oI sel, oI (xa &&& (511 : Int32)), oI (((xa.toUInt32 >>> ((9 : Int32) &&& 31).toUInt32).toInt32) &&& (511 : Int32)), oI (((xa.toUInt32 >>> ((18 : Int32) &&& 31).toUInt32).toInt32) &&& (511 : Int32)), oI (xa &&& (511 : Int32)), oI (((xa.toUInt32 >>> ((9 : Int32) &&& 31).toUInt32).toInt32) &&& (511 : Int32)), oI (((ya.toUInt32 >>> ((18 : Int32) &&& 31).toUInt32).toInt32) &&& (511 : Int32)), .unset, .unset, .unset, .unset, .unset, .unset] []))
        refine Done.step (fun _ => XS.iload X0.here hx rfl (hb hby at_90) rfl) ?_
        show Done _ p e below s _ _ (T0.setTop (mkF m 92 #[oI xa, oI ya, oJ ta, .second, oJ tb, .second, oI sel, oI (xa &&& (511 : Int32)), oI (((xa.toUInt32 >>> ((9 : Int32) &&& 31).toUInt32).toInt32) &&& (511 : Int32)), oI (((xa.toUInt32 >>> ((18 : Int32) &&& 31).toUInt32).toInt32) &&& (511 : Int32)), oI (xa &&& (511 : Int32)), oI (((xa.toUInt32 >>> ((9 : Int32) &&& 31).toUInt32).toInt32) &&& (511 : Int32)), oI (((ya.toUInt32 >>> ((18 : Int32) &&& 31).toUInt32).toInt32) &&& (511 : Int32)), .unset, .unset, .unset, .unset, .unset, .unset] [(.int sel)]))
        refine Done.step (fun _ => XT.bipushV X0.here hx rfl (8 : Int32) (hb hby at_92) (by decide)) ?_
        show Done _ p e below s _ _ (T0.setTop (mkF m 94 #[oI xa, oI ya, oJ ta, .second, oJ tb, .second, oI sel, oI (xa &&& (511 : Int32)), oI (((xa.toUInt32 >>> ((9 : Int32) &&& 31).toUInt32).toInt32) &&& (511 : Int32)), oI (((xa.toUInt32 >>> ((18 : Int32) &&& 31).toUInt32).toInt32) &&& (511 : Int32)), oI (xa &&& (511 : Int32)), oI (((xa.toUInt32 >>> ((9 : Int32) &&& 31).toUInt32).toInt32) &&& (511 : Int32)), oI (((ya.toUInt32 >>> ((18 : Int32) &&& 31).toUInt32).toInt32) &&& (511 : Int32)), .unset, .unset, .unset, .unset, .unset, .unset] [(.int (8 : Int32)), (.int sel)]))
        refine Done.step (fun _ => XS.iand X0.here hx rfl (hb hby at_94) rfl) ?_
        show Done _ p e below s _ _ (T0.setTop (mkF m 95 #[oI xa, oI ya, oJ ta, .second, oJ tb, .second, oI sel, oI (xa &&& (511 : Int32)), oI (((xa.toUInt32 >>> ((9 : Int32) &&& 31).toUInt32).toInt32) &&& (511 : Int32)), oI (((xa.toUInt32 >>> ((18 : Int32) &&& 31).toUInt32).toInt32) &&& (511 : Int32)), oI (xa &&& (511 : Int32)), oI (((xa.toUInt32 >>> ((9 : Int32) &&& 31).toUInt32).toInt32) &&& (511 : Int32)), oI (((ya.toUInt32 >>> ((18 : Int32) &&& 31).toUInt32).toInt32) &&& (511 : Int32)), .unset, .unset, .unset, .unset, .unset, .unset] [(.int (sel &&& (8 : Int32)))]))
        by_cases hc248 : (sel &&& (8 : Int32)) = (0 : Int32)
        · refine Done.step (fun _ => XS.ifYes X0.here hx rfl (pc0 := 95) (pc' := 102) rfl (hb hby at_95) rfl (XT.i0_eq_t hc248) (by decide) (by decide)) ?_
          show Done _ p e below s _ _ (T0.setTop (mkF m 102 #[oI xa, oI ya, oJ ta, .second, oJ tb, .second, oI sel, oI (xa &&& (511 : Int32)), oI (((xa.toUInt32 >>> ((9 : Int32) &&& 31).toUInt32).toInt32) &&& (511 : Int32)), oI (((xa.toUInt32 >>> ((18 : Int32) &&& 31).toUInt32).toInt32) &&& (511 : Int32)), oI (xa &&& (511 : Int32)), oI (((xa.toUInt32 >>> ((9 : Int32) &&& 31).toUInt32).toInt32) &&& (511 : Int32)), oI (((ya.toUInt32 >>> ((18 : Int32) &&& 31).toUInt32).toInt32) &&& (511 : Int32)), .unset, .unset, .unset, .unset, .unset, .unset] []))
          refine Done.step (fun _ => XT.lload X0.here hx rfl (hb hby at_102) rfl) ?_
          show Done _ p e below s _ _ (T0.setTop (mkF m 104 #[oI xa, oI ya, oJ ta, .second, oJ tb, .second, oI sel, oI (xa &&& (511 : Int32)), oI (((xa.toUInt32 >>> ((9 : Int32) &&& 31).toUInt32).toInt32) &&& (511 : Int32)), oI (((xa.toUInt32 >>> ((18 : Int32) &&& 31).toUInt32).toInt32) &&& (511 : Int32)), oI (xa &&& (511 : Int32)), oI (((xa.toUInt32 >>> ((9 : Int32) &&& 31).toUInt32).toInt32) &&& (511 : Int32)), oI (((ya.toUInt32 >>> ((18 : Int32) &&& 31).toUInt32).toInt32) &&& (511 : Int32)), .unset, .unset, .unset, .unset, .unset, .unset] [(.long tb)]))
          refine Done.step (fun _ => XT.lstore X0.here hx rfl (hb hby at_104) rfl (l' := #[oI xa, oI ya, oJ ta, .second, oJ tb, .second, oI sel, oI (xa &&& (511 : Int32)), oI (((xa.toUInt32 >>> ((9 : Int32) &&& 31).toUInt32).toInt32) &&& (511 : Int32)), oI (((xa.toUInt32 >>> ((18 : Int32) &&& 31).toUInt32).toInt32) &&& (511 : Int32)), oI (xa &&& (511 : Int32)), oI (((xa.toUInt32 >>> ((9 : Int32) &&& 31).toUInt32).toInt32) &&& (511 : Int32)), oI (((ya.toUInt32 >>> ((18 : Int32) &&& 31).toUInt32).toInt32) &&& (511 : Int32)), oJ tb, .second, .unset, .unset, .unset, .unset]) rfl) ?_
          show Done _ p e below s _ _ (T0.setTop (mkF m 106 #[oI xa, oI ya, oJ ta, .second, oJ tb, .second, oI sel, oI (xa &&& (511 : Int32)), oI (((xa.toUInt32 >>> ((9 : Int32) &&& 31).toUInt32).toInt32) &&& (511 : Int32)), oI (((xa.toUInt32 >>> ((18 : Int32) &&& 31).toUInt32).toInt32) &&& (511 : Int32)), oI (xa &&& (511 : Int32)), oI (((xa.toUInt32 >>> ((9 : Int32) &&& 31).toUInt32).toInt32) &&& (511 : Int32)), oI (((ya.toUInt32 >>> ((18 : Int32) &&& 31).toUInt32).toInt32) &&& (511 : Int32)), oJ tb, .second, .unset, .unset, .unset, .unset] []))
          exact K106 T0 e0 X0 (xa &&& (511 : Int32)) (((xa.toUInt32 >>> ((9 : Int32) &&& 31).toUInt32).toInt32) &&& (511 : Int32)) (((xa.toUInt32 >>> ((18 : Int32) &&& 31).toUInt32).toInt32) &&& (511 : Int32)) (xa &&& (511 : Int32)) (((xa.toUInt32 >>> ((9 : Int32) &&& 31).toUInt32).toInt32) &&& (511 : Int32)) (((ya.toUInt32 >>> ((18 : Int32) &&& 31).toUInt32).toInt32) &&& (511 : Int32)) tb
        · refine Done.step (fun _ => XS.ifNo X0.here hx rfl (hb hby at_95) rfl (XT.i0_eq_f hc248)) ?_
          show Done _ p e below s _ _ (T0.setTop (mkF m 98 #[oI xa, oI ya, oJ ta, .second, oJ tb, .second, oI sel, oI (xa &&& (511 : Int32)), oI (((xa.toUInt32 >>> ((9 : Int32) &&& 31).toUInt32).toInt32) &&& (511 : Int32)), oI (((xa.toUInt32 >>> ((18 : Int32) &&& 31).toUInt32).toInt32) &&& (511 : Int32)), oI (xa &&& (511 : Int32)), oI (((xa.toUInt32 >>> ((9 : Int32) &&& 31).toUInt32).toInt32) &&& (511 : Int32)), oI (((ya.toUInt32 >>> ((18 : Int32) &&& 31).toUInt32).toInt32) &&& (511 : Int32)), .unset, .unset, .unset, .unset, .unset, .unset] []))
          refine Done.step (fun _ => XT.lloadN X0.here hx rfl (hb hby at_98) rfl) ?_
          show Done _ p e below s _ _ (T0.setTop (mkF m 99 #[oI xa, oI ya, oJ ta, .second, oJ tb, .second, oI sel, oI (xa &&& (511 : Int32)), oI (((xa.toUInt32 >>> ((9 : Int32) &&& 31).toUInt32).toInt32) &&& (511 : Int32)), oI (((xa.toUInt32 >>> ((18 : Int32) &&& 31).toUInt32).toInt32) &&& (511 : Int32)), oI (xa &&& (511 : Int32)), oI (((xa.toUInt32 >>> ((9 : Int32) &&& 31).toUInt32).toInt32) &&& (511 : Int32)), oI (((ya.toUInt32 >>> ((18 : Int32) &&& 31).toUInt32).toInt32) &&& (511 : Int32)), .unset, .unset, .unset, .unset, .unset, .unset] [(.long ta)]))
          refine Done.step (fun _ => XS.goto X0.here hx rfl (pc0 := 99) (pc' := 104) rfl (hb hby at_99) (by decide) (by decide)) ?_
          show Done _ p e below s _ _ (T0.setTop (mkF m 104 #[oI xa, oI ya, oJ ta, .second, oJ tb, .second, oI sel, oI (xa &&& (511 : Int32)), oI (((xa.toUInt32 >>> ((9 : Int32) &&& 31).toUInt32).toInt32) &&& (511 : Int32)), oI (((xa.toUInt32 >>> ((18 : Int32) &&& 31).toUInt32).toInt32) &&& (511 : Int32)), oI (xa &&& (511 : Int32)), oI (((xa.toUInt32 >>> ((9 : Int32) &&& 31).toUInt32).toInt32) &&& (511 : Int32)), oI (((ya.toUInt32 >>> ((18 : Int32) &&& 31).toUInt32).toInt32) &&& (511 : Int32)), .unset, .unset, .unset, .unset, .unset, .unset] [(.long ta)]))
          refine Done.step (fun _ => XT.lstore X0.here hx rfl (hb hby at_104) rfl (l' := #[oI xa, oI ya, oJ ta, .second, oJ tb, .second, oI sel, oI (xa &&& (511 : Int32)), oI (((xa.toUInt32 >>> ((9 : Int32) &&& 31).toUInt32).toInt32) &&& (511 : Int32)), oI (((xa.toUInt32 >>> ((18 : Int32) &&& 31).toUInt32).toInt32) &&& (511 : Int32)), oI (xa &&& (511 : Int32)), oI (((xa.toUInt32 >>> ((9 : Int32) &&& 31).toUInt32).toInt32) &&& (511 : Int32)), oI (((ya.toUInt32 >>> ((18 : Int32) &&& 31).toUInt32).toInt32) &&& (511 : Int32)), oJ ta, .second, .unset, .unset, .unset, .unset]) rfl) ?_
          show Done _ p e below s _ _ (T0.setTop (mkF m 106 #[oI xa, oI ya, oJ ta, .second, oJ tb, .second, oI sel, oI (xa &&& (511 : Int32)), oI (((xa.toUInt32 >>> ((9 : Int32) &&& 31).toUInt32).toInt32) &&& (511 : Int32)), oI (((xa.toUInt32 >>> ((18 : Int32) &&& 31).toUInt32).toInt32) &&& (511 : Int32)), oI (xa &&& (511 : Int32)), oI (((xa.toUInt32 >>> ((9 : Int32) &&& 31).toUInt32).toInt32) &&& (511 : Int32)), oI (((ya.toUInt32 >>> ((18 : Int32) &&& 31).toUInt32).toInt32) &&& (511 : Int32)), oJ ta, .second, .unset, .unset, .unset, .unset] []))
          exact K106 T0 e0 X0 (xa &&& (511 : Int32)) (((xa.toUInt32 >>> ((9 : Int32) &&& 31).toUInt32).toInt32) &&& (511 : Int32)) (((xa.toUInt32 >>> ((18 : Int32) &&& 31).toUInt32).toInt32) &&& (511 : Int32)) (xa &&& (511 : Int32)) (((xa.toUInt32 >>> ((9 : Int32) &&& 31).toUInt32).toInt32) &&& (511 : Int32)) (((ya.toUInt32 >>> ((18 : Int32) &&& 31).toUInt32).toInt32) &&& (511 : Int32)) ta
      · refine Done.step (fun _ => XS.ifNo X0.here hx rfl (hb hby at_72) rfl (XT.i0_eq_f hc247)) ?_
        show Done _ p e below s _ _ (T0.setTop (mkF m 75 #[oI xa, oI ya, oJ ta, .second, oJ tb, .second, oI sel, oI (xa &&& (511 : Int32)), oI (((xa.toUInt32 >>> ((9 : Int32) &&& 31).toUInt32).toInt32) &&& (511 : Int32)), oI (((xa.toUInt32 >>> ((18 : Int32) &&& 31).toUInt32).toInt32) &&& (511 : Int32)), oI (xa &&& (511 : Int32)), oI (((xa.toUInt32 >>> ((9 : Int32) &&& 31).toUInt32).toInt32) &&& (511 : Int32)), .unset, .unset, .unset, .unset, .unset, .unset, .unset] []))
        refine Done.step (fun _ => XS.iload X0.here hx rfl (hb hby at_75) rfl) ?_
        show Done _ p e below s _ _ (T0.setTop (mkF m 77 #[oI xa, oI ya, oJ ta, .second, oJ tb, .second, oI sel, oI (xa &&& (511 : Int32)), oI (((xa.toUInt32 >>> ((9 : Int32) &&& 31).toUInt32).toInt32) &&& (511 : Int32)), oI (((xa.toUInt32 >>> ((18 : Int32) &&& 31).toUInt32).toInt32) &&& (511 : Int32)), oI (xa &&& (511 : Int32)), oI (((xa.toUInt32 >>> ((9 : Int32) &&& 31).toUInt32).toInt32) &&& (511 : Int32)), .unset, .unset, .unset, .unset, .unset, .unset, .unset] [(.int (((xa.toUInt32 >>> ((18 : Int32) &&& 31).toUInt32).toInt32) &&& (511 : Int32)))]))
        refine Done.step (fun _ => XS.goto X0.here hx rfl (pc0 := 77) (pc' := 88) rfl (hb hby at_77) (by decide) (by decide)) ?_
        show Done _ p e below s _ _ (T0.setTop (mkF m 88 #[oI xa, oI ya, oJ ta, .second, oJ tb, .second, oI sel, oI (xa &&& (511 : Int32)), oI (((xa.toUInt32 >>> ((9 : Int32) &&& 31).toUInt32).toInt32) &&& (511 : Int32)), oI (((xa.toUInt32 >>> ((18 : Int32) &&& 31).toUInt32).toInt32) &&& (511 : Int32)), oI (xa &&& (511 : Int32)), oI (((xa.toUInt32 >>> ((9 : Int32) &&& 31).toUInt32).toInt32) &&& (511 : Int32)), .unset, .unset, .unset, .unset, .unset, .unset, .unset] [(.int (((xa.toUInt32 >>> ((18 : Int32) &&& 31).toUInt32).toInt32) &&& (511 : Int32)))]))
        refine Done.step (fun _ => XS.istore X0.here hx rfl (hb hby at_88) rfl (l' := #[oI xa, oI ya, oJ ta, .second, oJ tb, .second, oI sel, oI (xa &&& (511 : Int32)), oI (((xa.toUInt32 >>> ((9 : Int32) &&& 31).toUInt32).toInt32) &&& (511 : Int32)), oI (((xa.toUInt32 >>> ((18 : Int32) &&& 31).toUInt32).toInt32) &&& (511 : Int32)), oI (xa &&& (511 : Int32)), oI (((xa.toUInt32 >>> ((9 : Int32) &&& 31).toUInt32).toInt32) &&& (511 : Int32)), oI (((xa.toUInt32 >>> ((18 : Int32) &&& 31).toUInt32).toInt32) &&& (511 : Int32)), .unset, .unset, .unset, .unset, .unset, .unset]) rfl) ?_
        show Done _ p e below s _ _ (T0.setTop (mkF m 90 #[oI xa, oI ya, oJ ta, .second, oJ tb, .second, oI sel, oI (xa &&& (511 : Int32)), oI (((xa.toUInt32 >>> ((9 : Int32) &&& 31).toUInt32).toInt32) &&& (511 : Int32)), oI (((xa.toUInt32 >>> ((18 : Int32) &&& 31).toUInt32).toInt32) &&& (511 : Int32)), oI (xa &&& (511 : Int32)), oI (((xa.toUInt32 >>> ((9 : Int32) &&& 31).toUInt32).toInt32) &&& (511 : Int32)), oI (((xa.toUInt32 >>> ((18 : Int32) &&& 31).toUInt32).toInt32) &&& (511 : Int32)), .unset, .unset, .unset, .unset, .unset, .unset] []))
        refine Done.step (fun _ => XS.iload X0.here hx rfl (hb hby at_90) rfl) ?_
        show Done _ p e below s _ _ (T0.setTop (mkF m 92 #[oI xa, oI ya, oJ ta, .second, oJ tb, .second, oI sel, oI (xa &&& (511 : Int32)), oI (((xa.toUInt32 >>> ((9 : Int32) &&& 31).toUInt32).toInt32) &&& (511 : Int32)), oI (((xa.toUInt32 >>> ((18 : Int32) &&& 31).toUInt32).toInt32) &&& (511 : Int32)), oI (xa &&& (511 : Int32)), oI (((xa.toUInt32 >>> ((9 : Int32) &&& 31).toUInt32).toInt32) &&& (511 : Int32)), oI (((xa.toUInt32 >>> ((18 : Int32) &&& 31).toUInt32).toInt32) &&& (511 : Int32)), .unset, .unset, .unset, .unset, .unset, .unset] [(.int sel)]))
        refine Done.step (fun _ => XT.bipushV X0.here hx rfl (8 : Int32) (hb hby at_92) (by decide)) ?_
        show Done _ p e below s _ _ (T0.setTop (mkF m 94 #[oI xa, oI ya, oJ ta, .second, oJ tb, .second, oI sel, oI (xa &&& (511 : Int32)), oI (((xa.toUInt32 >>> ((9 : Int32) &&& 31).toUInt32).toInt32) &&& (511 : Int32)), oI (((xa.toUInt32 >>> ((18 : Int32) &&& 31).toUInt32).toInt32) &&& (511 : Int32)), oI (xa &&& (511 : Int32)), oI (((xa.toUInt32 >>> ((9 : Int32) &&& 31).toUInt32).toInt32) &&& (511 : Int32)), oI (((xa.toUInt32 >>> ((18 : Int32) &&& 31).toUInt32).toInt32) &&& (511 : Int32)), .unset, .unset, .unset, .unset, .unset, .unset] [(.int (8 : Int32)), (.int sel)]))
        refine Done.step (fun _ => XS.iand X0.here hx rfl (hb hby at_94) rfl) ?_
        show Done _ p e below s _ _ (T0.setTop (mkF m 95 #[oI xa, oI ya, oJ ta, .second, oJ tb, .second, oI sel, oI (xa &&& (511 : Int32)), oI (((xa.toUInt32 >>> ((9 : Int32) &&& 31).toUInt32).toInt32) &&& (511 : Int32)), oI (((xa.toUInt32 >>> ((18 : Int32) &&& 31).toUInt32).toInt32) &&& (511 : Int32)), oI (xa &&& (511 : Int32)), oI (((xa.toUInt32 >>> ((9 : Int32) &&& 31).toUInt32).toInt32) &&& (511 : Int32)), oI (((xa.toUInt32 >>> ((18 : Int32) &&& 31).toUInt32).toInt32) &&& (511 : Int32)), .unset, .unset, .unset, .unset, .unset, .unset] [(.int (sel &&& (8 : Int32)))]))
        by_cases hc249 : (sel &&& (8 : Int32)) = (0 : Int32)
        · refine Done.step (fun _ => XS.ifYes X0.here hx rfl (pc0 := 95) (pc' := 102) rfl (hb hby at_95) rfl (XT.i0_eq_t hc249) (by decide) (by decide)) ?_
          show Done _ p e below s _ _ (T0.setTop (mkF m 102 #[oI xa, oI ya, oJ ta, .second, oJ tb, .second, oI sel, oI (xa &&& (511 : Int32)), oI (((xa.toUInt32 >>> ((9 : Int32) &&& 31).toUInt32).toInt32) &&& (511 : Int32)), oI (((xa.toUInt32 >>> ((18 : Int32) &&& 31).toUInt32).toInt32) &&& (511 : Int32)), oI (xa &&& (511 : Int32)), oI (((xa.toUInt32 >>> ((9 : Int32) &&& 31).toUInt32).toInt32) &&& (511 : Int32)), oI (((xa.toUInt32 >>> ((18 : Int32) &&& 31).toUInt32).toInt32) &&& (511 : Int32)), .unset, .unset, .unset, .unset, .unset, .unset] []))
          refine Done.step (fun _ => XT.lload X0.here hx rfl (hb hby at_102) rfl) ?_
          show Done _ p e below s _ _ (T0.setTop (mkF m 104 #[oI xa, oI ya, oJ ta, .second, oJ tb, .second, oI sel, oI (xa &&& (511 : Int32)), oI (((xa.toUInt32 >>> ((9 : Int32) &&& 31).toUInt32).toInt32) &&& (511 : Int32)), oI (((xa.toUInt32 >>> ((18 : Int32) &&& 31).toUInt32).toInt32) &&& (511 : Int32)), oI (xa &&& (511 : Int32)), oI (((xa.toUInt32 >>> ((9 : Int32) &&& 31).toUInt32).toInt32) &&& (511 : Int32)), oI (((xa.toUInt32 >>> ((18 : Int32) &&& 31).toUInt32).toInt32) &&& (511 : Int32)), .unset, .unset, .unset, .unset, .unset, .unset] [(.long tb)]))
          refine Done.step (fun _ => XT.lstore X0.here hx rfl (hb hby at_104) rfl (l' := #[oI xa, oI ya, oJ ta, .second, oJ tb, .second, oI sel, oI (xa &&& (511 : Int32)), oI (((xa.toUInt32 >>> ((9 : Int32) &&& 31).toUInt32).toInt32) &&& (511 : Int32)), oI (((xa.toUInt32 >>> ((18 : Int32) &&& 31).toUInt32).toInt32) &&& (511 : Int32)), oI (xa &&& (511 : Int32)), oI (((xa.toUInt32 >>> ((9 : Int32) &&& 31).toUInt32).toInt32) &&& (511 : Int32)), oI (((xa.toUInt32 >>> ((18 : Int32) &&& 31).toUInt32).toInt32) &&& (511 : Int32)), oJ tb, .second, .unset, .unset, .unset, .unset]) rfl) ?_
          show Done _ p e below s _ _ (T0.setTop (mkF m 106 #[oI xa, oI ya, oJ ta, .second, oJ tb, .second, oI sel, oI (xa &&& (511 : Int32)), oI (((xa.toUInt32 >>> ((9 : Int32) &&& 31).toUInt32).toInt32) &&& (511 : Int32)), oI (((xa.toUInt32 >>> ((18 : Int32) &&& 31).toUInt32).toInt32) &&& (511 : Int32)), oI (xa &&& (511 : Int32)), oI (((xa.toUInt32 >>> ((9 : Int32) &&& 31).toUInt32).toInt32) &&& (511 : Int32)), oI (((xa.toUInt32 >>> ((18 : Int32) &&& 31).toUInt32).toInt32) &&& (511 : Int32)), oJ tb, .second, .unset, .unset, .unset, .unset] []))
          exact K106 T0 e0 X0 (xa &&& (511 : Int32)) (((xa.toUInt32 >>> ((9 : Int32) &&& 31).toUInt32).toInt32) &&& (511 : Int32)) (((xa.toUInt32 >>> ((18 : Int32) &&& 31).toUInt32).toInt32) &&& (511 : Int32)) (xa &&& (511 : Int32)) (((xa.toUInt32 >>> ((9 : Int32) &&& 31).toUInt32).toInt32) &&& (511 : Int32)) (((xa.toUInt32 >>> ((18 : Int32) &&& 31).toUInt32).toInt32) &&& (511 : Int32)) tb
        · refine Done.step (fun _ => XS.ifNo X0.here hx rfl (hb hby at_95) rfl (XT.i0_eq_f hc249)) ?_
          show Done _ p e below s _ _ (T0.setTop (mkF m 98 #[oI xa, oI ya, oJ ta, .second, oJ tb, .second, oI sel, oI (xa &&& (511 : Int32)), oI (((xa.toUInt32 >>> ((9 : Int32) &&& 31).toUInt32).toInt32) &&& (511 : Int32)), oI (((xa.toUInt32 >>> ((18 : Int32) &&& 31).toUInt32).toInt32) &&& (511 : Int32)), oI (xa &&& (511 : Int32)), oI (((xa.toUInt32 >>> ((9 : Int32) &&& 31).toUInt32).toInt32) &&& (511 : Int32)), oI (((xa.toUInt32 >>> ((18 : Int32) &&& 31).toUInt32).toInt32) &&& (511 : Int32)), .unset, .unset, .unset, .unset, .unset, .unset] []))
          refine Done.step (fun _ => XT.lloadN X0.here hx rfl (hb hby at_98) rfl) ?_
          show Done _ p e below s _ _ (T0.setTop (mkF m 99 #[oI xa, oI ya, oJ ta, .second, oJ tb, .second, oI sel, oI (xa &&& (511 : Int32)), oI (((xa.toUInt32 >>> ((9 : Int32) &&& 31).toUInt32).toInt32) &&& (511 : Int32)), oI (((xa.toUInt32 >>> ((18 : Int32) &&& 31).toUInt32).toInt32) &&& (511 : Int32)), oI (xa &&& (511 : Int32)), oI (((xa.toUInt32 >>> ((9 : Int32) &&& 31).toUInt32).toInt32) &&& (511 : Int32)), oI (((xa.toUInt32 >>> ((18 : Int32) &&& 31).toUInt32).toInt32) &&& (511 : Int32)), .unset, .unset, .unset, .unset, .unset, .unset] [(.long ta)]))
          refine Done.step (fun _ => XS.goto X0.here hx rfl (pc0 := 99) (pc' := 104) rfl (hb hby at_99) (by decide) (by decide)) ?_
          show Done _ p e below s _ _ (T0.setTop (mkF m 104 #[oI xa, oI ya, oJ ta, .second, oJ tb, .second, oI sel, oI (xa &&& (511 : Int32)), oI (((xa.toUInt32 >>> ((9 : Int32) &&& 31).toUInt32).toInt32) &&& (511 : Int32)), oI (((xa.toUInt32 >>> ((18 : Int32) &&& 31).toUInt32).toInt32) &&& (511 : Int32)), oI (xa &&& (511 : Int32)), oI (((xa.toUInt32 >>> ((9 : Int32) &&& 31).toUInt32).toInt32) &&& (511 : Int32)), oI (((xa.toUInt32 >>> ((18 : Int32) &&& 31).toUInt32).toInt32) &&& (511 : Int32)), .unset, .unset, .unset, .unset, .unset, .unset] [(.long ta)]))
          refine Done.step (fun _ => XT.lstore X0.here hx rfl (hb hby at_104) rfl (l' := #[oI xa, oI ya, oJ ta, .second, oJ tb, .second, oI sel, oI (xa &&& (511 : Int32)), oI (((xa.toUInt32 >>> ((9 : Int32) &&& 31).toUInt32).toInt32) &&& (511 : Int32)), oI (((xa.toUInt32 >>> ((18 : Int32) &&& 31).toUInt32).toInt32) &&& (511 : Int32)), oI (xa &&& (511 : Int32)), oI (((xa.toUInt32 >>> ((9 : Int32) &&& 31).toUInt32).toInt32) &&& (511 : Int32)), oI (((xa.toUInt32 >>> ((18 : Int32) &&& 31).toUInt32).toInt32) &&& (511 : Int32)), oJ ta, .second, .unset, .unset, .unset, .unset]) rfl) ?_
          show Done _ p e below s _ _ (T0.setTop (mkF m 106 #[oI xa, oI ya, oJ ta, .second, oJ tb, .second, oI sel, oI (xa &&& (511 : Int32)), oI (((xa.toUInt32 >>> ((9 : Int32) &&& 31).toUInt32).toInt32) &&& (511 : Int32)), oI (((xa.toUInt32 >>> ((18 : Int32) &&& 31).toUInt32).toInt32) &&& (511 : Int32)), oI (xa &&& (511 : Int32)), oI (((xa.toUInt32 >>> ((9 : Int32) &&& 31).toUInt32).toInt32) &&& (511 : Int32)), oI (((xa.toUInt32 >>> ((18 : Int32) &&& 31).toUInt32).toInt32) &&& (511 : Int32)), oJ ta, .second, .unset, .unset, .unset, .unset] []))
          exact K106 T0 e0 X0 (xa &&& (511 : Int32)) (((xa.toUInt32 >>> ((9 : Int32) &&& 31).toUInt32).toInt32) &&& (511 : Int32)) (((xa.toUInt32 >>> ((18 : Int32) &&& 31).toUInt32).toInt32) &&& (511 : Int32)) (xa &&& (511 : Int32)) (((xa.toUInt32 >>> ((9 : Int32) &&& 31).toUInt32).toInt32) &&& (511 : Int32)) (((xa.toUInt32 >>> ((18 : Int32) &&& 31).toUInt32).toInt32) &&& (511 : Int32)) ta
set_option maxRecDepth 65536 in
set_option maxHeartbeats 40000000 in
theorem comes_1 {Post : Tables → Env → Array Value → State → Outcome → State → Prop} (hpost : ∀ tb e args s v u, (limb_1_1.after args s (.returned v) u = true ∧ limb_1_2.after args s (.returned v) u = true ∧ True) → ReturnedEndW s (.returned v) u (Jvm.fieldLocs frame_1_writes args s ++ Jvm.arrayLocs frame_1_arrays args s ++ Jvm.staticLocs frame_1_statics s) 48 4288 → Post tb e args s (.returned v) u) :
    ArmFor flags0 classFile x code maxLocals ret World_1 tables_1 room_1 Calls_1 rest_1 Pre_1 Post := by
  intro l hfl _ _ p e ha hc hk s m args below hf hA hF happ hP
  obtain ⟨hcalls, hrest, hpre⟩ := hP
  obtain ⟨-, -, -, hnamed, -, -, -, hat⟩ := (Spec.applies_iff hf).mp happ
  obtain ⟨hg, hn⟩ := and_e (Cond.before_iff.mp (show (Jvm.Cond.and given_1 narrow_1).before args s = true from hpre))
  obtain ⟨w0, w1, w2, w3, w4, rfl⟩ : ∃ w0 w1 w2 w3 w4 : Value, args = #[w0, w1, w2, w3, w4] := by
    have hs : args.size = 5 := by simpa [Cond.value] using (and_e hg).1
    obtain ⟨L⟩ := args
    match L, hs with
    | [w0, w1, w2, w3, w4], _ => exact ⟨w0, w1, w2, w3, w4, rfl⟩
  have hw := fun d (hd : d ∈ tables_1) => atoms_spec (ws := Jvm.Cond.code x code maxLocals ret :: tables_1) hat d (List.mem_cons_of_mem _ hd)
  have hfit : Fit s := fun {y c} hc i hi => by
    obtain ⟨ha, rfl⟩ := Array.getElem?_eq_some_iff.mp hc
    have q := List.all_eq_true.mp ((Array.all_eq_true_iff_forall_mem.mp hF) _ (Array.getElem_mem ha)) i (List.mem_range.mpr hi)
    simpa [Array.getElem?_eq_getElem hi] using q
  obtain ⟨hsets, hown0⟩ := atoms_of _ (rest_1_c_eq ▸ (show rest_1_c.before _ s = true from hrest))
  have hr0 := Cond.before_iff.mp hown0
  obtain ⟨_, hg0⟩ := and_e hg
  obtain ⟨ga0, hg1⟩ := and_e hg0
  obtain ⟨i0, ei0⟩ := is_v ga0
  obtain rfl : w0 = (.int i0) := Option.some.inj ei0
  obtain ⟨ga1, hg2⟩ := and_e hg1
  obtain ⟨i1, ei1⟩ := is_v ga1
  obtain rfl : w1 = (.int i1) := Option.some.inj ei1
  obtain ⟨ga2, hg3⟩ := and_e hg2
  obtain ⟨i2, ei2⟩ := isL_v ga2
  obtain rfl : w2 = (.long i2) := Option.some.inj ei2
  obtain ⟨ga3, hg4⟩ := and_e hg3
  obtain ⟨i3, ei3⟩ := isL_v ga3
  obtain rfl : w3 = (.long i3) := Option.some.inj ei3
  obtain ⟨i4, ei4⟩ := is_v hg4
  obtain rfl : w4 = (.int i4) := Option.some.inj ei4
  obtain ⟨z, ez⟩ := is_v (Cond.before_iff.mp (hsets _ (List.mem_of_getElem? (i := 1) rfl)))
  have SC := Sta.start ez (Or.inl (hsets _ (List.mem_of_getElem? (i := 0) rfl)))
  have hz : ¬ z = 0 := fun q => gotF (eq_v ez) (not_v (Cond.before_iff.mp (hsets _ (List.mem_of_getElem? (i := 2) rfl)))) q
  have hcw : Jvm.Lit.compactW.before #[(.int i0), (.int i1), (.long i2), (.long i3), (.int i4)] s = true := hsets _ (List.mem_of_getElem? (i := 2) rfl)
  have hhC : Jvm.Lit.constHeld s "com/example/wide_weir/wideweir/accesslog/AccessLogLine" 7 := hcalls.1 _ (List.mem_of_getElem? (i := 0) rfl)
  have hhM : Jvm.Lit.constHeld s "com/example/wide_weir/wideweir/accesslog/AccessLogLine" 26 := hcalls.1 _ (List.mem_of_getElem? (i := 1) rfl)
  have hhP : Jvm.Lit.constHeld s "com/example/wide_weir/wideweir/accesslog/AccessLogLine" 30 := hcalls.1 _ (List.mem_of_getElem? (i := 2) rfl)
  have hh : Jvm.Lit.constHeld s "com/example/wide_weir/wideweir/accesslog/AccessLogLineEqualsPinLaw" 7 := hcalls.1 _ (List.mem_of_getElem? (i := 3) rfl)
  obtain ⟨n, o, h1, h2, h3, _, L, rfl, ⟨rfl, N⟩, hq⟩ := rm0 l s _ hw tables_1 i0 i1 i2 i3 i4 z s.heap s.heap.size (Nat.le_refl _) (Old.start s) SC hz hh hcw hhC hhM hhP p e ha hc hk s m _ below hf ((Spec.applies_iff_loose hf).mp happ).1 ⟨rfl, State.Warmed39.refl s, rfl, ⟨[], IB.start, Or.inl rfl⟩⟩ trivial
  refine ⟨n, _, h1, h2, h3, hpost _ _ _ _ _ _ ⟨Cond.after_iff.mpr rfl, Cond.after_iff.mpr (eq_i res_at (Term.int_eval (1)) rfl), trivial⟩ ⟨hq.1, hq.2.1, hq.2.2.1, (hq.2.2.2.sift fun y hy => Or.inr (N y hy)).mono (by decide) (by decide)⟩⟩
theorem main_1_1 : Claimed_1_1 := comes_1 fun _ _ _ _ _ _ h hF => ⟨h.1, hF⟩
theorem main_1_2 : Claimed_1_2 := comes_1 fun _ _ _ _ _ _ h hF => ⟨h.2.1, hF⟩
end Jvm.Pilot.@@N@@
namespace Jvm.Pilot.@@N@@
open Jvm Jvm.ClassFile Sem Op Lib Jvm.Free Jvm.Stand Jvm.Pilot.@@N@@.Jvm.D
/-! MADE BY PROGRAM (witnessworld.py) out of the Statement's table words and the real class files: 18 classes; the members and pool entries that the words name. The judged class is class 1, her method 3. -/
namespace start1
open Jvm.ClassFile
def u (s : String) : CpInfo := .utf8 (stringToUtf16 s)
/-- a pool by its gaps: so many unusable entries, then the entry; so many at the end -/
def gap : Nat → List CpInfo → List CpInfo
  | 0, r => r
  | n + 1, r => .unusable :: gap n r
def poolList (es : List (Nat × CpInfo)) (last : Nat) : List CpInfo := es.foldr (fun e r => gap e.1 (e.2 :: r)) (gap last [])
def pool (es : List (Nat × CpInfo)) (last : Nat) : Array CpInfo := ⟨poolList es last⟩
def fileOf (pool : Array CpInfo) (this : Nat) (attrs : Array Attribute := #[]) (ms : Array MethodInfo := #[]) (fl : Nat := 33) (sup : Nat := 0) (ifs : Array Nat := #[]) (fds : Array FieldInfo := #[]) : ClassFile where
  minorVersion := 0
  majorVersion := 65
  constantPool := pool
  accessFlags := fl
  thisClass := this
  superClass := sup
  interfaces := ifs
  fields := fds
  methods := ms
  attributes := attrs
def plain (name : String) (sup : Option ClassId) : Class where
  name := name
  kind := .ordinary
  loader := none
  accessFlags := 33
  super := sup
  interfaces := #[]
  cf := none
  fields := #[]
  methods := #[]
  instanceTypes := #[]
  staticTypes := #[]
  resolved := #[]
  callSites := []
  init := .initialized
  statics := none
  mirror := none

def pool0 : Array CpInfo := pool [(5, u "<init>"), (0, u "()V"), (1, .class_ 10), (1, u "java/lang/Object")] 113

def k0c0 : Code := { maxStack := 0, maxLocals := 1, code := object_method_1_code, exceptionTable := #[], attributes := #[] }
def k0m0 : Method := { name := "<init>", desc := "()V", sig := { parameters := [], returnType := none }, accessFlags := 1, code := some k0c0 }
/-- java/lang/Object -/
def k0 : Class := { plain "java/lang/Object" none with
  accessFlags := 33
  interfaces := #[]
  cf := some (fileOf pool0 8 #[] #[{ accessFlags := 1, nameIndex := 5, descriptorIndex := 6, attributes := #[] }] 33 0 #[] #[])
  fields := #[]
  methods := #[k0m0]
  instanceTypes := #[]
  staticTypes := #[]
  resolved := Array.replicate 124 none
  statics := none }

def pool1 : Array CpInfo := pool [(2, .class_ 4), (1, u "java/lang/Object"), (0, u "<init>"), (0, u "()V"), (0, .string 8), (0, u ""), (0, .methodref 10 11), (0, .class_ 12), (0, .nameAndType 13 14), (0, u "java/lang/String"), (0, u "valueOf"), (0, u "(C)Ljava/lang/String;"), (0, .class_ 16), (0, u "com/example/wide_weir/wideweir/accesslog/AccessLogLine"), (0, .methodref 18 19), (0, .class_ 20), (0, .nameAndType 21 22), (0, u "com/example/wide_weir/wideweir/accesslog/AccessLogLineEqualsPinLaw"), (0, u "str"), (0, u "(I)Ljava/lang/String;"), (0, .methodref 15 24), (0, .nameAndType 5 25), (0, u "(Ljava/lang/String;JLjava/lang/String;Ljava/lang/String;)V"), (0, .methodref 15 27), (0, .nameAndType 28 29), (0, u "equals"), (0, u "(Ljava/lang/Object;)Z"), (0, .methodref 18 31), (0, .nameAndType 32 33), (0, u "norm"), (0, u "(I)I"), (3, u "law"), (0, u "(IIJJI)Z")] 2

def k1m0 : Method := { name := "<init>", desc := "()V", sig := { parameters := [], returnType := none }, accessFlags := 1, code := none }
def k1c1 : Code := { maxStack := 2, maxLocals := 1, code := method_2_code, exceptionTable := #[], attributes := #[] }
def k1m1 : Method := { name := "norm", desc := "(I)I", sig := { parameters := [.int], returnType := some .int }, accessFlags := 10, code := some k1c1 }
def k1c2 : Code := { maxStack := 2, maxLocals := 1, code := method_3_code, exceptionTable := #[], attributes := #[] }
def k1m2 : Method := { name := "str", desc := "(I)Ljava/lang/String;", sig := { parameters := [.int], returnType := some (.object "java/lang/String") }, accessFlags := 10, code := some k1c2 }
def k1c3 : Code := { maxStack := 7, maxLocals := 19, code := code, exceptionTable := #[], attributes := #[] }
def k1m3 : Method := { name := "law", desc := "(IIJJI)Z", sig := { parameters := [.int, .int, .long, .long, .int], returnType := some .boolean }, accessFlags := 9, code := some k1c3 }
/-- com/example/wide_weir/wideweir/accesslog/AccessLogLineEqualsPinLaw -/
def k1 : Class := { plain "com/example/wide_weir/wideweir/accesslog/AccessLogLineEqualsPinLaw" (some 0) with
  accessFlags := 49
  interfaces := #[]
  cf := some (fileOf pool1 18 #[] #[{ accessFlags := 1, nameIndex := 5, descriptorIndex := 6, attributes := #[] }, { accessFlags := 10, nameIndex := 32, descriptorIndex := 33, attributes := #[] }, { accessFlags := 10, nameIndex := 21, descriptorIndex := 22, attributes := #[] }, { accessFlags := 9, nameIndex := 37, descriptorIndex := 38, attributes := #[] }] 49 2 #[] #[])
  fields := #[]
  methods := #[k1m0, k1m1, k1m2, k1m3]
  instanceTypes := #[]
  staticTypes := #[]
  resolved := Array.replicate 41 none
  statics := none }

def pool2 : Array CpInfo := pool [(1, .methodref 2 3), (0, .class_ 4), (0, .nameAndType 5 6), (0, u "java/lang/Object"), (0, u "<init>"), (0, u "()V"), (0, .string 8), (0, u "client"), (0, .methodref 10 11), (0, .class_ 12), (0, .nameAndType 13 14), (0, u "java/util/Objects"), (0, u "requireNonNull"), (0, u "(Ljava/lang/Object;Ljava/lang/String;)Ljava/lang/Object;"), (0, .class_ 16), (0, u "java/lang/String"), (0, .fieldref 18 19), (0, .class_ 20), (0, .nameAndType 8 21), (0, u "com/example/wide_weir/wideweir/accesslog/AccessLogLine"), (0, u "Ljava/lang/String;"), (0, .fieldref 18 23), (0, .nameAndType 24 25), (0, u "epochSecond"), (0, u "J"), (0, .string 27), (0, u "method"), (0, .fieldref 18 29), (0, .nameAndType 27 21), (0, .string 31), (0, u "path"), (0, .fieldref 18 33), (0, .nameAndType 31 21), (2, .class_ 37), (0, u "com/example/wide_weir/wideweir/accesslog/AccessLogLine$Cursor"), (13, .class_ 52), (0, u "com/example/wide_weir/wideweir/accesslog/AccessLogLine$NotInFormat"), (4, .methodref 15 58), (0, .nameAndType 59 60), (0, u "equals"), (0, u "(Ljava/lang/Object;)Z"), (54, u "(Ljava/lang/String;JLjava/lang/String;Ljava/lang/String;)V")] 38

def k2c0 : Code := { maxStack := 3, maxLocals := 6, code := prog_2_method_1_code, exceptionTable := #[], attributes := #[] }
def k2m0 : Method := { name := "<init>", desc := "(Ljava/lang/String;JLjava/lang/String;Ljava/lang/String;)V", sig := { parameters := [(.object "java/lang/String"), .long, (.object "java/lang/String"), (.object "java/lang/String")], returnType := none }, accessFlags := 1, code := some k2c0 }
def k2c1 : Code := { maxStack := 4, maxLocals := 3, code := prog_2_method_7_code, exceptionTable := #[], attributes := #[] }
def k2m1 : Method := { name := "equals", desc := "(Ljava/lang/Object;)Z", sig := { parameters := [(.object "java/lang/Object")], returnType := some .boolean }, accessFlags := 1, code := some k2c1 }
/-- com/example/wide_weir/wideweir/accesslog/AccessLogLine -/
def k2 : Class := { plain "com/example/wide_weir/wideweir/accesslog/AccessLogLine" (some 0) with
  accessFlags := 49
  interfaces := #[]
  cf := some (fileOf pool2 18 #[.nestMembers #[51, 36]] #[{ accessFlags := 1, nameIndex := 5, descriptorIndex := 115, attributes := #[] }, { accessFlags := 1, nameIndex := 59, descriptorIndex := 60, attributes := #[] }] 49 2 #[] #[{ accessFlags := 18, nameIndex := 8, descriptorIndex := 21, attributes := #[] }, { accessFlags := 18, nameIndex := 24, descriptorIndex := 25, attributes := #[] }, { accessFlags := 18, nameIndex := 27, descriptorIndex := 21, attributes := #[] }, { accessFlags := 18, nameIndex := 31, descriptorIndex := 21, attributes := #[] }])
  fields := #[{ name := "client", type := (.object "java/lang/String"), accessFlags := 18, slot := 0, constantValue := 0 }, { name := "epochSecond", type := .long, accessFlags := 18, slot := 1, constantValue := 0 }, { name := "method", type := (.object "java/lang/String"), accessFlags := 18, slot := 2, constantValue := 0 }, { name := "path", type := (.object "java/lang/String"), accessFlags := 18, slot := 3, constantValue := 0 }]
  methods := #[k2m0, k2m1]
  instanceTypes := #[(.object "java/lang/String"), .long, (.object "java/lang/String"), (.object "java/lang/String")]
  staticTypes := #[]
  resolved := Array.replicate 154 none
  statics := none }

def pool3 : Array CpInfo := pool [(1, .class_ 2), (0, u "java/io/Serializable"), (0, .class_ 4), (0, u "java/lang/Object")] 2

/-- java/io/Serializable -/
def k3 : Class := { plain "java/io/Serializable" (some 0) with
  accessFlags := 1537
  interfaces := #[]
  cf := some (fileOf pool3 1 #[] #[] 1537 3 #[] #[])
  fields := #[]
  methods := #[]
  instanceTypes := #[]
  staticTypes := #[]
  resolved := Array.replicate 7 none
  statics := none }

def pool4 : Array CpInfo := pool [(1, .class_ 2), (0, u "java/lang/Comparable"), (0, .class_ 4), (0, u "java/lang/Object")] 7

/-- java/lang/Comparable -/
def k4 : Class := { plain "java/lang/Comparable" (some 0) with
  accessFlags := 1537
  interfaces := #[]
  cf := some (fileOf pool4 1 #[] #[] 1537 3 #[] #[])
  fields := #[]
  methods := #[]
  instanceTypes := #[]
  staticTypes := #[]
  resolved := Array.replicate 12 none
  statics := none }

def pool5 : Array CpInfo := pool [(2, .class_ 4), (1, u "java/lang/CharSequence"), (42, .class_ 48), (0, u "java/lang/CharSequence$1CodePointIterator"), (10, .class_ 60), (0, u "java/lang/CharSequence$1CharIterator"), (5, .class_ 67), (0, u "java/lang/Object")] 63

/-- java/lang/CharSequence -/
def k5 : Class := { plain "java/lang/CharSequence" (some 0) with
  accessFlags := 1537
  interfaces := #[]
  cf := some (fileOf pool5 2 #[.nestMembers #[47, 59]] #[] 1537 66 #[] #[])
  fields := #[]
  methods := #[]
  instanceTypes := #[]
  staticTypes := #[]
  resolved := Array.replicate 131 none
  statics := none }

def pool6 : Array CpInfo := pool [(1, .class_ 2), (0, u "java/lang/constant/Constable"), (0, .class_ 4), (0, u "java/lang/Object")] 6

/-- java/lang/constant/Constable -/
def k6 : Class := { plain "java/lang/constant/Constable" (some 0) with
  accessFlags := 1537
  interfaces := #[]
  cf := some (fileOf pool6 1 #[] #[] 1537 3 #[] #[])
  fields := #[]
  methods := #[]
  instanceTypes := #[]
  staticTypes := #[]
  resolved := Array.replicate 11 none
  statics := none }

def pool7 : Array CpInfo := pool [(1, .class_ 2), (0, u "java/lang/constant/ConstantDesc"), (0, .class_ 4), (0, u "java/lang/Object")] 32

/-- java/lang/constant/ConstantDesc -/
def k7 : Class := { plain "java/lang/constant/ConstantDesc" (some 0) with
  accessFlags := 1537
  interfaces := #[]
  cf := some (fileOf pool7 1 #[] #[] 1537 3 #[] #[])
  fields := #[]
  methods := #[]
  instanceTypes := #[]
  staticTypes := #[]
  resolved := Array.replicate 37 none
  statics := none }

def pool8 : Array CpInfo := pool [(1, .methodref 2 3), (0, .class_ 4), (0, .nameAndType 5 6), (0, u "java/lang/Object"), (0, u "<init>"), (0, u "()V"), (2, .fieldref 10 11), (0, .class_ 12), (0, .nameAndType 13 14), (0, u "java/lang/String"), (0, u "value"), (0, u "[B"), (0, .fieldref 10 16), (0, .nameAndType 17 18), (0, u "coder"), (0, u "B"), (2, u "hash"), (0, u "I"), (2, u "hashIsZero"), (0, u "Z"), (11, .fieldref 10 39), (0, .nameAndType 40 26), (0, u "COMPACT_STRINGS"), (12, u "toBytes"), (53, .class_ 109), (1, u "java/lang/StringLatin1"), (99, .methodref 10 210), (0, .nameAndType 5 211), (0, u "([BB)V"), (157, u "(C)Z"), (171, .methodref 107 542), (0, .nameAndType 543 544), (0, u "equals"), (0, u "([B[B)Z"), (28, u "(Ljava/lang/Object;)Z"), (1, .class_ 576), (0, u "java/lang/CharSequence"), (22, u "CASE_INSENSITIVE_ORDER"), (0, u "Ljava/util/Comparator;"), (181, u "valueOf"), (0, u "(C)Ljava/lang/String;"), (231, .methodref 107 1016), (0, .nameAndType 1017 369), (0, u "canEncode"), (0, .methodref 107 1019), (0, .nameAndType 53 1020), (0, u "(C)[B"), (80, u "serialPersistentFields"), (0, u "[Ljava/io/ObjectStreamField;"), (0, .class_ 1104), (0, u "java/lang/String$CaseInsensitiveComparator"), (1, .class_ 1107), (0, u "java/io/Serializable"), (0, .class_ 1109), (0, u "java/lang/Comparable"), (0, .class_ 1111), (0, u "java/lang/constant/Constable"), (0, .class_ 1113), (0, u "java/lang/constant/ConstantDesc"), (2, u "serialVersionUID"), (0, u "J"), (3, u "REPL"), (0, u "C"), (2, u "LATIN1"), (1, u "UTF16")] 323

def k8m0 : Method := { name := "<init>", desc := "()V", sig := { parameters := [], returnType := none }, accessFlags := 1, code := none }
def k8c1 : Code := { maxStack := 2, maxLocals := 3, code := jdk_42_method_66_code, exceptionTable := #[], attributes := #[] }
def k8m1 : Method := { name := "equals", desc := "(Ljava/lang/Object;)Z", sig := { parameters := [(.object "java/lang/Object")], returnType := some .boolean }, accessFlags := 1, code := some k8c1 }
def k8c2 : Code := { maxStack := 4, maxLocals := 1, code := jdk_42_method_139_code, exceptionTable := #[], attributes := #[] }
def k8m2 : Method := { name := "valueOf", desc := "(C)Ljava/lang/String;", sig := { parameters := [.char], returnType := some (.object "java/lang/String") }, accessFlags := 9, code := some k8c2 }
def k8c3 : Code := { maxStack := 2, maxLocals := 3, code := jdk_42_method_151_code, exceptionTable := #[], attributes := #[] }
def k8m3 : Method := { name := "<init>", desc := "([BB)V", sig := { parameters := [(.array .byte), .byte], returnType := none }, accessFlags := 0, code := some k8c3 }
/-- java/lang/String -/
def k8 : Class := { plain "java/lang/String" (some 0) with
  accessFlags := 49
  interfaces := #[3, 4, 5, 6, 7]
  cf := some (fileOf pool8 10 #[.nestMembers #[1103]] #[{ accessFlags := 1, nameIndex := 5, descriptorIndex := 6, attributes := #[] }, { accessFlags := 1, nameIndex := 543, descriptorIndex := 573, attributes := #[] }, { accessFlags := 9, nameIndex := 782, descriptorIndex := 783, attributes := #[] }, { accessFlags := 0, nameIndex := 5, descriptorIndex := 211, attributes := #[] }] 49 2 #[1106, 1108, 575, 1110, 1112] #[{ accessFlags := 18, nameIndex := 13, descriptorIndex := 14, attributes := #[] }, { accessFlags := 18, nameIndex := 17, descriptorIndex := 18, attributes := #[] }, { accessFlags := 2, nameIndex := 21, descriptorIndex := 22, attributes := #[] }, { accessFlags := 2, nameIndex := 25, descriptorIndex := 26, attributes := #[] }, { accessFlags := 26, nameIndex := 1116, descriptorIndex := 1117, attributes := #[] }, { accessFlags := 24, nameIndex := 40, descriptorIndex := 26, attributes := #[] }, { accessFlags := 26, nameIndex := 1101, descriptorIndex := 1102, attributes := #[] }, { accessFlags := 26, nameIndex := 1121, descriptorIndex := 1122, attributes := #[] }, { accessFlags := 25, nameIndex := 599, descriptorIndex := 600, attributes := #[] }, { accessFlags := 24, nameIndex := 1125, descriptorIndex := 18, attributes := #[] }, { accessFlags := 24, nameIndex := 1127, descriptorIndex := 18, attributes := #[] }])
  fields := #[{ name := "value", type := (.array .byte), accessFlags := 18, slot := 0, constantValue := 0 }, { name := "coder", type := .byte, accessFlags := 18, slot := 1, constantValue := 0 }, { name := "hash", type := .int, accessFlags := 2, slot := 2, constantValue := 0 }, { name := "hashIsZero", type := .boolean, accessFlags := 2, slot := 3, constantValue := 0 }, { name := "serialVersionUID", type := .long, accessFlags := 26, slot := 0, constantValue := 0 }, { name := "COMPACT_STRINGS", type := .boolean, accessFlags := 24, slot := 1, constantValue := 0 }, { name := "serialPersistentFields", type := (.array (.object "java/io/ObjectStreamField")), accessFlags := 26, slot := 2, constantValue := 0 }, { name := "REPL", type := .char, accessFlags := 26, slot := 3, constantValue := 0 }, { name := "CASE_INSENSITIVE_ORDER", type := (.object "java/util/Comparator"), accessFlags := 25, slot := 4, constantValue := 0 }, { name := "LATIN1", type := .byte, accessFlags := 24, slot := 5, constantValue := 0 }, { name := "UTF16", type := .byte, accessFlags := 24, slot := 6, constantValue := 0 }]
  methods := #[k8m0, k8m1, k8m2, k8m3]
  instanceTypes := #[(.array .byte), .byte, .int, .boolean]
  staticTypes := #[.long, .boolean, (.array (.object "java/io/ObjectStreamField")), .char, (.object "java/util/Comparator"), .byte, .byte]
  resolved := Array.replicate 1451 none
  statics := some 0 }

def pool9 : Array CpInfo := pool [(2, .class_ 4), (1, u "java/lang/Object"), (0, u "<init>"), (0, u "()V"), (35, .class_ 44), (1, u "java/util/Objects"), (0, u "requireNonNull"), (48, u "(Ljava/lang/Object;Ljava/lang/String;)Ljava/lang/Object;")] 89

def k9m0 : Method := { name := "<init>", desc := "()V", sig := { parameters := [], returnType := none }, accessFlags := 2, code := none }
def k9c1 : Code := { maxStack := 3, maxLocals := 2, code := jdk_31_method_11_code, exceptionTable := #[], attributes := #[] }
def k9m1 : Method := { name := "requireNonNull", desc := "(Ljava/lang/Object;Ljava/lang/String;)Ljava/lang/Object;", sig := { parameters := [(.object "java/lang/Object"), (.object "java/lang/String")], returnType := some (.object "java/lang/Object") }, accessFlags := 9, code := some k9c1 }
/-- java/util/Objects -/
def k9 : Class := { plain "java/util/Objects" (some 0) with
  accessFlags := 49
  interfaces := #[]
  cf := some (fileOf pool9 42 #[] #[{ accessFlags := 2, nameIndex := 5, descriptorIndex := 6, attributes := #[] }, { accessFlags := 9, nameIndex := 45, descriptorIndex := 94, attributes := #[] }] 49 2 #[] #[])
  fields := #[]
  methods := #[k9m0, k9m1]
  instanceTypes := #[]
  staticTypes := #[]
  resolved := Array.replicate 184 none
  statics := none }

def pool10 : Array CpInfo := pool [(4, .class_ 6), (1, u "java/lang/Object"), (0, u "<init>"), (0, u "()V"), (5, .class_ 16), (1, u "java/lang/StringLatin1"), (73, u "canEncode"), (14, u "(C)Z"), (15, u "$assertionsDisabled"), (0, u "Z"), (98, .class_ 223), (1, u "java/lang/StringLatin1$LinesSpliterator"), (57, u "equals"), (0, u "([B[B)Z"), (97, u "toBytes"), (1, u "(C)[B"), (7, .class_ 391), (0, u "java/lang/StringLatin1$CharsSpliterator")] 3

def k10m0 : Method := { name := "<init>", desc := "()V", sig := { parameters := [], returnType := none }, accessFlags := 0, code := none }
def k10c1 : Code := { maxStack := 2, maxLocals := 1, code := jdk_43_method_3_code, exceptionTable := #[], attributes := #[] }
def k10m1 : Method := { name := "canEncode", desc := "(C)Z", sig := { parameters := [.char], returnType := some .boolean }, accessFlags := 9, code := some k10c1 }
def k10c2 : Code := { maxStack := 3, maxLocals := 3, code := jdk_43_method_13_code, exceptionTable := #[], attributes := #[] }
def k10m2 : Method := { name := "equals", desc := "([B[B)Z", sig := { parameters := [(.array .byte), (.array .byte)], returnType := some .boolean }, accessFlags := 9, code := some k10c2 }
def k10c3 : Code := { maxStack := 4, maxLocals := 1, code := jdk_43_method_46_code, exceptionTable := #[], attributes := #[] }
def k10m3 : Method := { name := "toBytes", desc := "(C)[B", sig := { parameters := [.char], returnType := some (.array .byte) }, accessFlags := 9, code := some k10c3 }
/-- java/lang/StringLatin1 -/
def k10 : Class := { plain "java/lang/StringLatin1" (some 0) with
  accessFlags := 48
  interfaces := #[]
  cf := some (fileOf pool10 14 #[.nestMembers #[390, 221]] #[{ accessFlags := 0, nameIndex := 7, descriptorIndex := 8, attributes := #[] }, { accessFlags := 9, nameIndex := 90, descriptorIndex := 105, attributes := #[] }, { accessFlags := 9, nameIndex := 281, descriptorIndex := 282, attributes := #[] }, { accessFlags := 9, nameIndex := 380, descriptorIndex := 382, attributes := #[] }] 48 4 #[] #[{ accessFlags := 4120, nameIndex := 121, descriptorIndex := 122, attributes := #[] }])
  fields := #[{ name := "$assertionsDisabled", type := .boolean, accessFlags := 4120, slot := 0, constantValue := 0 }]
  methods := #[k10m0, k10m1, k10m2, k10m3]
  instanceTypes := #[]
  staticTypes := #[.boolean]
  resolved := Array.replicate 395 none
  statics := none }

def pool11 : Array CpInfo := pool [(2, .class_ 4), (1, u "java/lang/Object"), (0, u "<init>"), (0, u "()V"), (17, .class_ 26), (1, u "jdk/internal/util/Preconditions"), (28, .class_ 56), (0, u "jdk/internal/util/Preconditions$4"), (57, .class_ 115), (0, u "jdk/internal/util/Preconditions$1"), (7, u "SIOOBE_FORMATTER"), (0, u "Ljava/util/function/BiFunction;"), (0, .class_ 126), (0, u "jdk/internal/util/Preconditions$2"), (3, u "AIOOBE_FORMATTER"), (0, .class_ 132), (0, u "jdk/internal/util/Preconditions$3"), (3, u "IOOBE_FORMATTER")] 57

def k11m0 : Method := { name := "<init>", desc := "()V", sig := { parameters := [], returnType := none }, accessFlags := 1, code := none }
/-- jdk/internal/util/Preconditions -/
def k11 : Class := { plain "jdk/internal/util/Preconditions" (some 0) with
  accessFlags := 33
  interfaces := #[]
  cf := some (fileOf pool11 24 #[.nestMembers #[55, 131, 125, 114]] #[{ accessFlags := 1, nameIndex := 5, descriptorIndex := 6, attributes := #[] }] 33 2 #[] #[{ accessFlags := 25, nameIndex := 123, descriptorIndex := 124, attributes := #[] }, { accessFlags := 25, nameIndex := 130, descriptorIndex := 124, attributes := #[] }, { accessFlags := 25, nameIndex := 136, descriptorIndex := 124, attributes := #[] }])
  fields := #[{ name := "SIOOBE_FORMATTER", type := (.object "java/util/function/BiFunction"), accessFlags := 25, slot := 0, constantValue := 0 }, { name := "AIOOBE_FORMATTER", type := (.object "java/util/function/BiFunction"), accessFlags := 25, slot := 1, constantValue := 0 }, { name := "IOOBE_FORMATTER", type := (.object "java/util/function/BiFunction"), accessFlags := 25, slot := 2, constantValue := 0 }]
  methods := #[k11m0]
  instanceTypes := #[]
  staticTypes := #[(.object "java/util/function/BiFunction"), (.object "java/util/function/BiFunction"), (.object "java/util/function/BiFunction")]
  resolved := Array.replicate 194 none
  statics := some 1 }

def pool12 : Array CpInfo := pool [(9, u "<init>"), (6, .class_ 18), (1, u "java/lang/Object"), (0, u "()V"), (1, .class_ 23), (1, u "jdk/internal/util/ArraysSupport"), (0, u "LOG2_ARRAY_LONG_INDEX_SCALE"), (0, u "I"), (2, u "U"), (0, u "Ljdk/internal/misc/Unsafe;"), (8, u "BIG_ENDIAN"), (0, u "Z"), (8, u "LOG2_BYTE_BIT_SIZE"), (4, u "LOG2_ARRAY_INT_INDEX_SCALE"), (54, u "JLA"), (0, u "Ljdk/internal/access/JavaLangAccess;"), (11, u "LOG2_ARRAY_BOOLEAN_INDEX_SCALE"), (9, u "LOG2_ARRAY_BYTE_INDEX_SCALE"), (5, u "LOG2_ARRAY_CHAR_INDEX_SCALE"), (5, u "LOG2_ARRAY_SHORT_INDEX_SCALE"), (18, u "LOG2_ARRAY_FLOAT_INDEX_SCALE"), (24, u "LOG2_ARRAY_DOUBLE_INDEX_SCALE"), (89, u "T_BOOLEAN"), (2, u "T_CHAR"), (1, u "T_FLOAT"), (1, u "T_DOUBLE"), (1, u "T_BYTE"), (1, u "T_SHORT"), (1, u "T_INT"), (1, u "T_LONG"), (1, u "SOFT_MAX_ARRAY_LENGTH")] 83

def k12m0 : Method := { name := "<init>", desc := "()V", sig := { parameters := [], returnType := none }, accessFlags := 2, code := none }
/-- jdk/internal/util/ArraysSupport -/
def k12 : Class := { plain "jdk/internal/util/ArraysSupport" (some 0) with
  accessFlags := 33
  interfaces := #[]
  cf := some (fileOf pool12 21 #[] #[{ accessFlags := 2, nameIndex := 9, descriptorIndex := 19, attributes := #[] }] 33 16 #[] #[{ accessFlags := 24, nameIndex := 28, descriptorIndex := 29, attributes := #[] }, { accessFlags := 26, nameIndex := 38, descriptorIndex := 39, attributes := #[] }, { accessFlags := 25, nameIndex := 121, descriptorIndex := 25, attributes := #[] }, { accessFlags := 25, nameIndex := 131, descriptorIndex := 25, attributes := #[] }, { accessFlags := 25, nameIndex := 137, descriptorIndex := 25, attributes := #[] }, { accessFlags := 25, nameIndex := 143, descriptorIndex := 25, attributes := #[] }, { accessFlags := 25, nameIndex := 53, descriptorIndex := 25, attributes := #[] }, { accessFlags := 25, nameIndex := 24, descriptorIndex := 25, attributes := #[] }, { accessFlags := 25, nameIndex := 162, descriptorIndex := 25, attributes := #[] }, { accessFlags := 25, nameIndex := 187, descriptorIndex := 25, attributes := #[] }, { accessFlags := 26, nameIndex := 48, descriptorIndex := 25, attributes := #[] }, { accessFlags := 25, nameIndex := 277, descriptorIndex := 25, attributes := #[] }, { accessFlags := 25, nameIndex := 280, descriptorIndex := 25, attributes := #[] }, { accessFlags := 25, nameIndex := 282, descriptorIndex := 25, attributes := #[] }, { accessFlags := 25, nameIndex := 284, descriptorIndex := 25, attributes := #[] }, { accessFlags := 25, nameIndex := 286, descriptorIndex := 25, attributes := #[] }, { accessFlags := 25, nameIndex := 288, descriptorIndex := 25, attributes := #[] }, { accessFlags := 25, nameIndex := 290, descriptorIndex := 25, attributes := #[] }, { accessFlags := 25, nameIndex := 292, descriptorIndex := 25, attributes := #[] }, { accessFlags := 26, nameIndex := 108, descriptorIndex := 109, attributes := #[] }, { accessFlags := 25, nameIndex := 294, descriptorIndex := 25, attributes := #[] }])
  fields := #[{ name := "U", type := (.object "jdk/internal/misc/Unsafe"), accessFlags := 24, slot := 0, constantValue := 0 }, { name := "BIG_ENDIAN", type := .boolean, accessFlags := 26, slot := 1, constantValue := 0 }, { name := "LOG2_ARRAY_BOOLEAN_INDEX_SCALE", type := .int, accessFlags := 25, slot := 2, constantValue := 0 }, { name := "LOG2_ARRAY_BYTE_INDEX_SCALE", type := .int, accessFlags := 25, slot := 3, constantValue := 0 }, { name := "LOG2_ARRAY_CHAR_INDEX_SCALE", type := .int, accessFlags := 25, slot := 4, constantValue := 0 }, { name := "LOG2_ARRAY_SHORT_INDEX_SCALE", type := .int, accessFlags := 25, slot := 5, constantValue := 0 }, { name := "LOG2_ARRAY_INT_INDEX_SCALE", type := .int, accessFlags := 25, slot := 6, constantValue := 0 }, { name := "LOG2_ARRAY_LONG_INDEX_SCALE", type := .int, accessFlags := 25, slot := 7, constantValue := 0 }, { name := "LOG2_ARRAY_FLOAT_INDEX_SCALE", type := .int, accessFlags := 25, slot := 8, constantValue := 0 }, { name := "LOG2_ARRAY_DOUBLE_INDEX_SCALE", type := .int, accessFlags := 25, slot := 9, constantValue := 0 }, { name := "LOG2_BYTE_BIT_SIZE", type := .int, accessFlags := 26, slot := 10, constantValue := 0 }, { name := "T_BOOLEAN", type := .int, accessFlags := 25, slot := 11, constantValue := 0 }, { name := "T_CHAR", type := .int, accessFlags := 25, slot := 12, constantValue := 0 }, { name := "T_FLOAT", type := .int, accessFlags := 25, slot := 13, constantValue := 0 }, { name := "T_DOUBLE", type := .int, accessFlags := 25, slot := 14, constantValue := 0 }, { name := "T_BYTE", type := .int, accessFlags := 25, slot := 15, constantValue := 0 }, { name := "T_SHORT", type := .int, accessFlags := 25, slot := 16, constantValue := 0 }, { name := "T_INT", type := .int, accessFlags := 25, slot := 17, constantValue := 0 }, { name := "T_LONG", type := .int, accessFlags := 25, slot := 18, constantValue := 0 }, { name := "JLA", type := (.object "jdk/internal/access/JavaLangAccess"), accessFlags := 26, slot := 19, constantValue := 0 }, { name := "SOFT_MAX_ARRAY_LENGTH", type := .int, accessFlags := 25, slot := 20, constantValue := 0 }]
  methods := #[k12m0]
  instanceTypes := #[]
  staticTypes := #[(.object "jdk/internal/misc/Unsafe"), .boolean, .int, .int, .int, .int, .int, .int, .int, .int, .int, .int, .int, .int, .int, .int, .int, .int, .int, (.object "jdk/internal/access/JavaLangAccess"), .int]
  resolved := Array.replicate 378 none
  statics := none }

def pool13 : Array CpInfo := pool [(1, u "java/lang/Cloneable"), (0, .class_ 1), (0, u "java/lang/Object"), (0, .class_ 3)] 3

/-- java/lang/Cloneable -/
def k13 : Class := { plain "java/lang/Cloneable" (some 0) with
  accessFlags := 1537
  interfaces := #[]
  cf := some (fileOf pool13 2 #[] #[] 1537 4 #[] #[])
  fields := #[]
  methods := #[]
  instanceTypes := #[]
  staticTypes := #[]
  resolved := Array.replicate 8 none
  statics := none }

/-- the primitive byte -/
def k14 : Class := { plain "byte" none with kind := .primitive 'B', accessFlags := 0x411 }
/-- [B -/
def k15 : Class := { plain "[B" (some 0) with kind := .array 14 .byte, interfaces := #[13, 3], accessFlags := 1041 }

/-- the primitive int -/
def k16 : Class := { plain "int" none with kind := .primitive 'I', accessFlags := 0x411 }
/-- [I -/
def k17 : Class := { plain "[I" (some 0) with kind := .array 16 .int, interfaces := #[13, 3], accessFlags := 1041 }

def heap : Heap := #[{ cls := 8, slots := #[.long 0, .int 1, .null, .int 0, .null, .int 0, .int 0], vm := .statics 8 },
  { cls := 11, slots := #[.null, .null, .null], vm := .statics 11 }]
def classes : Array Class := #[k0, k1, k2, k3, k4, k5, k6, k7, k8, k9, k10, k11, k12, k13, k14, k15, k16, k17]
def interned : List (Array UInt16 × Addr) := []
def slotsUsed : Nat := 10
def theMethod : MethodId := ⟨1, 3⟩
def args0 : Array Value := #[.int 5, .int 6, .long 7, .long 8, .int 9]
def aboutOver (below : List Frame) : State where
  vm := { classes := classes, interned := interned.toArray }
  heap := heap
  slotsUsed := slotsUsed
  threads := #[{ frames := .invoking theMethod args0 :: below }]
def below0 : List Frame := [.native { method := ⟨0, 0⟩, args := #[] }]
def about1 : State := aboutOver below0
def p0 : Program := .bare "" "" ""
def e0 : Env := launch0.env 0 0 0
theorem w_frames : about1.frames = Frame.invoking theMethod args0 :: below0 := rfl
set_option maxRecDepth 65536 in
theorem w_args : argsFit about1.vm theMethod args0 = true := by decide +kernel
set_option maxRecDepth 65536 in
theorem w_heap : heapFits about1 = true := by decide +kernel
set_option maxRecDepth 65536 in
theorem w_runnable : about1.curStatus? = some .runnable := by decide +kernel
set_option maxRecDepth 65536 in
theorem w_alone : about1.alone = true := by decide +kernel
set_option maxRecDepth 65536 in
theorem w_named : about1.methodNamed? x = some theMethod := by decide +kernel
set_option maxRecDepth 65536 in
theorem w_hears : about1.hears theMethod below0 = true := by decide +kernel
set_option maxRecDepth 65536 in
theorem w_ripe : about1.ripe theMethod args0 below0 = true := by decide +kernel
theorem w_running : about1.status = .running := rfl
set_option maxRecDepth 65536 in
theorem w_room : about1.hasRoom e0.platform room_1 = true :=
  launch0.hasRoom_least _ room_1 (by decide +kernel) (by decide +kernel) (by decide +kernel) (by decide +kernel) (by decide +kernel) (by decide +kernel)
theorem allAtoms_all (ts : List Jvm.Cond) (a : Array Jvm.Value) (st : Jvm.State) : (allAtoms ts).before a st = ts.all (fun c => c.before a st) := by
  induction ts with
  | nil => rfl
  | cons c t ih =>
    show (Jvm.Cond.and c (allAtoms t)).before a st = _
    rw [Jvm.Cond.before_and, ih, List.all_cons]
def words1 : List Jvm.Cond := Jvm.Cond.code x code maxLocals ret :: tables_1
/-- a 'code' word, met by the world's own term for the bytes: nothing is compared byte by byte -/
theorem code_word {y : MethodName} {bytes : ByteArray} {mx : Nat} {rt : Option FieldType} {a : Array Value} {s : State} {m : MethodId} {meth : Method} {c : Code} (h1 : s.methodNamed? y = some m) (h2 : s.vm.method? m = some meth) (h3 : meth.code = some c) (h4 : c.code = bytes)
    (h5 : (c.maxLocals == mx && c.exceptionTable.isEmpty && decide (c.maxStack ≤ mostOperands) && decide (meth.sig.returnType = rt) && !meth.locks && decide (parseMethodDescriptor y.desc = some meth.sig)) = true) : (Jvm.Cond.code y bytes mx rt).before a s = true := by
  simp only [Bool.and_eq_true, beq_iff_eq, Bool.not_eq_true', decide_eq_true_eq] at h5
  obtain ⟨⟨⟨⟨⟨g1, g2⟩, g3⟩, g4⟩, g5⟩, g6⟩ := h5
  simp [Cond.before, Cond.holds, Cond.value, h1, h2, h3, h4, g1, g2, g3, g4, g5, g6]
def isCode : Jvm.Cond → Bool
  | .code _ _ _ _ => true
  | _ => false
theorem all_split {L : List Jvm.Cond} {P : Jvm.Cond → Bool} (h1 : L.all (fun c => isCode c || P c) = true) (h2 : ∀ c ∈ L.filter isCode, P c = true) : L.all P = true := by
  refine List.all_eq_true.mpr fun c hc => ?_
  have h := List.all_eq_true.mp h1 c hc
  rcases Bool.eq_false_or_eq_true (isCode c) with hi | hi
  · exact h2 c (List.mem_filter.mpr ⟨hc, hi⟩)
  · simpa [hi] using h
set_option maxRecDepth 65536 in
theorem w_c0 : (Jvm.Cond.code x code maxLocals ret).before args0 about1 = true := code_word (m := ⟨1, 3⟩) (meth := k1m3) (c := k1c3) (by decide +kernel) rfl rfl rfl (by decide +kernel)
set_option maxRecDepth 65536 in
theorem w_c1 : (Jvm.Cond.code ({ cls := "com/example/wide_weir/wideweir/accesslog/AccessLogLineEqualsPinLaw", name := "str", desc := "(I)Ljava/lang/String;" } : Jvm.MethodName) method_3_code (1 : Nat) (Option.some (Jvm.ClassFile.FieldType.object "java/lang/String"))).before args0 about1 = true := code_word (m := ⟨1, 2⟩) (meth := k1m2) (c := k1c2) (by decide +kernel) rfl rfl rfl (by decide +kernel)
set_option maxRecDepth 65536 in
theorem w_c2 : (Jvm.Cond.code ({ cls := "com/example/wide_weir/wideweir/accesslog/AccessLogLine", name := "<init>", desc := "(Ljava/lang/String;JLjava/lang/String;Ljava/lang/String;)V" } : Jvm.MethodName) prog_2_method_1_code (6 : Nat) (Option.none : Option Jvm.ClassFile.FieldType)).before args0 about1 = true := code_word (m := ⟨2, 0⟩) (meth := k2m0) (c := k2c0) (by decide +kernel) rfl rfl rfl (by decide +kernel)
set_option maxRecDepth 65536 in
theorem w_c3 : (Jvm.Cond.code ({ cls := "java/lang/Object", name := "<init>", desc := "()V" } : Jvm.MethodName) object_method_1_code (1 : Nat) (Option.none : Option Jvm.ClassFile.FieldType)).before args0 about1 = true := code_word (m := ⟨0, 0⟩) (meth := k0m0) (c := k0c0) (by decide +kernel) rfl rfl rfl (by decide +kernel)
set_option maxRecDepth 65536 in
theorem w_c4 : (Jvm.Cond.code ({ cls := "java/util/Objects", name := "requireNonNull", desc := "(Ljava/lang/Object;Ljava/lang/String;)Ljava/lang/Object;" } : Jvm.MethodName) jdk_31_method_11_code (2 : Nat) (Option.some (Jvm.ClassFile.FieldType.object "java/lang/Object"))).before args0 about1 = true := code_word (m := ⟨9, 1⟩) (meth := k9m1) (c := k9c1) (by decide +kernel) rfl rfl rfl (by decide +kernel)
set_option maxRecDepth 65536 in
theorem w_c5 : (Jvm.Cond.code ({ cls := "com/example/wide_weir/wideweir/accesslog/AccessLogLine", name := "equals", desc := "(Ljava/lang/Object;)Z" } : Jvm.MethodName) prog_2_method_7_code (3 : Nat) (Option.some Jvm.ClassFile.FieldType.boolean)).before args0 about1 = true := code_word (m := ⟨2, 1⟩) (meth := k2m1) (c := k2c1) (by decide +kernel) rfl rfl rfl (by decide +kernel)
set_option maxRecDepth 65536 in
theorem w_c6 : (Jvm.Cond.code ({ cls := "java/lang/String", name := "valueOf", desc := "(C)Ljava/lang/String;" } : Jvm.MethodName) jdk_42_method_139_code (1 : Nat) (Option.some (Jvm.ClassFile.FieldType.object "java/lang/String"))).before args0 about1 = true := code_word (m := ⟨8, 2⟩) (meth := k8m2) (c := k8c2) (by decide +kernel) rfl rfl rfl (by decide +kernel)
set_option maxRecDepth 65536 in
theorem w_c7 : (Jvm.Cond.code ({ cls := "java/lang/StringLatin1", name := "canEncode", desc := "(C)Z" } : Jvm.MethodName) jdk_43_method_3_code (1 : Nat) (Option.some Jvm.ClassFile.FieldType.boolean)).before args0 about1 = true := code_word (m := ⟨10, 1⟩) (meth := k10m1) (c := k10c1) (by decide +kernel) rfl rfl rfl (by decide +kernel)
set_option maxRecDepth 65536 in
theorem w_c8 : (Jvm.Cond.code ({ cls := "java/lang/StringLatin1", name := "toBytes", desc := "(C)[B" } : Jvm.MethodName) jdk_43_method_46_code (1 : Nat) (Option.some (Jvm.ClassFile.FieldType.array Jvm.ClassFile.FieldType.byte))).before args0 about1 = true := code_word (m := ⟨10, 3⟩) (meth := k10m3) (c := k10c3) (by decide +kernel) rfl rfl rfl (by decide +kernel)
set_option maxRecDepth 65536 in
theorem w_c9 : (Jvm.Cond.code ({ cls := "java/lang/String", name := "<init>", desc := "([BB)V" } : Jvm.MethodName) jdk_42_method_151_code (3 : Nat) (Option.none : Option Jvm.ClassFile.FieldType)).before args0 about1 = true := code_word (m := ⟨8, 3⟩) (meth := k8m3) (c := k8c3) (by decide +kernel) rfl rfl rfl (by decide +kernel)
set_option maxRecDepth 65536 in
theorem w_c10 : (Jvm.Cond.code ({ cls := "com/example/wide_weir/wideweir/accesslog/AccessLogLineEqualsPinLaw", name := "norm", desc := "(I)I" } : Jvm.MethodName) method_2_code (1 : Nat) (Option.some Jvm.ClassFile.FieldType.int)).before args0 about1 = true := code_word (m := ⟨1, 1⟩) (meth := k1m1) (c := k1c1) (by decide +kernel) rfl rfl rfl (by decide +kernel)
set_option maxRecDepth 65536 in
theorem w_c11 : (Jvm.Cond.code ({ cls := "java/lang/String", name := "equals", desc := "(Ljava/lang/Object;)Z" } : Jvm.MethodName) jdk_42_method_66_code (3 : Nat) (Option.some Jvm.ClassFile.FieldType.boolean)).before args0 about1 = true := code_word (m := ⟨8, 1⟩) (meth := k8m1) (c := k8c1) (by decide +kernel) rfl rfl rfl (by decide +kernel)
set_option maxRecDepth 65536 in
theorem w_c12 : (Jvm.Cond.code ({ cls := "java/lang/StringLatin1", name := "equals", desc := "([B[B)Z" } : Jvm.MethodName) jdk_43_method_13_code (3 : Nat) (Option.some Jvm.ClassFile.FieldType.boolean)).before args0 about1 = true := code_word (m := ⟨10, 2⟩) (meth := k10m2) (c := k10c2) (by decide +kernel) rfl rfl rfl (by decide +kernel)
def codes1 : List Jvm.Cond := [Jvm.Cond.code x code maxLocals ret, Jvm.Cond.code ({ cls := "com/example/wide_weir/wideweir/accesslog/AccessLogLineEqualsPinLaw", name := "str", desc := "(I)Ljava/lang/String;" } : Jvm.MethodName) method_3_code (1 : Nat) (Option.some (Jvm.ClassFile.FieldType.object "java/lang/String")), Jvm.Cond.code ({ cls := "com/example/wide_weir/wideweir/accesslog/AccessLogLine", name := "<init>", desc := "(Ljava/lang/String;JLjava/lang/String;Ljava/lang/String;)V" } : Jvm.MethodName) prog_2_method_1_code (6 : Nat) (Option.none : Option Jvm.ClassFile.FieldType), Jvm.Cond.code ({ cls := "java/lang/Object", name := "<init>", desc := "()V" } : Jvm.MethodName) object_method_1_code (1 : Nat) (Option.none : Option Jvm.ClassFile.FieldType), Jvm.Cond.code ({ cls := "java/util/Objects", name := "requireNonNull", desc := "(Ljava/lang/Object;Ljava/lang/String;)Ljava/lang/Object;" } : Jvm.MethodName) jdk_31_method_11_code (2 : Nat) (Option.some (Jvm.ClassFile.FieldType.object "java/lang/Object")), Jvm.Cond.code ({ cls := "com/example/wide_weir/wideweir/accesslog/AccessLogLine", name := "equals", desc := "(Ljava/lang/Object;)Z" } : Jvm.MethodName) prog_2_method_7_code (3 : Nat) (Option.some Jvm.ClassFile.FieldType.boolean), Jvm.Cond.code ({ cls := "java/lang/String", name := "valueOf", desc := "(C)Ljava/lang/String;" } : Jvm.MethodName) jdk_42_method_139_code (1 : Nat) (Option.some (Jvm.ClassFile.FieldType.object "java/lang/String")), Jvm.Cond.code ({ cls := "java/lang/StringLatin1", name := "canEncode", desc := "(C)Z" } : Jvm.MethodName) jdk_43_method_3_code (1 : Nat) (Option.some Jvm.ClassFile.FieldType.boolean), Jvm.Cond.code ({ cls := "java/lang/StringLatin1", name := "toBytes", desc := "(C)[B" } : Jvm.MethodName) jdk_43_method_46_code (1 : Nat) (Option.some (Jvm.ClassFile.FieldType.array Jvm.ClassFile.FieldType.byte)), Jvm.Cond.code ({ cls := "java/lang/String", name := "<init>", desc := "([BB)V" } : Jvm.MethodName) jdk_42_method_151_code (3 : Nat) (Option.none : Option Jvm.ClassFile.FieldType), Jvm.Cond.code ({ cls := "com/example/wide_weir/wideweir/accesslog/AccessLogLineEqualsPinLaw", name := "norm", desc := "(I)I" } : Jvm.MethodName) method_2_code (1 : Nat) (Option.some Jvm.ClassFile.FieldType.int), Jvm.Cond.code ({ cls := "java/lang/String", name := "equals", desc := "(Ljava/lang/Object;)Z" } : Jvm.MethodName) jdk_42_method_66_code (3 : Nat) (Option.some Jvm.ClassFile.FieldType.boolean), Jvm.Cond.code ({ cls := "java/lang/StringLatin1", name := "equals", desc := "([B[B)Z" } : Jvm.MethodName) jdk_43_method_13_code (3 : Nat) (Option.some Jvm.ClassFile.FieldType.boolean)]
set_option maxRecDepth 65536 in
theorem codes_eq : words1.filter isCode = codes1 := rfl
theorem w_codes : ∀ c ∈ words1.filter isCode, c.before args0 about1 = true := by
  rw [codes_eq]
  intro c hc
  simp only [codes1, List.mem_cons, List.not_mem_nil, or_false] at hc
  rcases hc with rfl | rfl | rfl | rfl | rfl | rfl | rfl | rfl | rfl | rfl | rfl | rfl | rfl
  · exact w_c0
  · exact w_c1
  · exact w_c2
  · exact w_c3
  · exact w_c4
  · exact w_c5
  · exact w_c6
  · exact w_c7
  · exact w_c8
  · exact w_c9
  · exact w_c10
  · exact w_c11
  · exact w_c12
set_option maxRecDepth 65536 in
theorem w_t1 : (words1.take 24).all (fun c => isCode c || c.before args0 about1) = true := by decide +kernel
set_option maxRecDepth 65536 in
theorem w_t2 : ((words1.drop 24).take 24).all (fun c => isCode c || c.before args0 about1) = true := by decide +kernel
set_option maxRecDepth 65536 in
theorem w_t3 : (((words1.drop 24).drop 24).take 24).all (fun c => isCode c || c.before args0 about1) = true := by decide +kernel
set_option maxRecDepth 65536 in
theorem w_t4 : (((words1.drop 24).drop 24).drop 24).all (fun c => isCode c || c.before args0 about1) = true := by decide +kernel
theorem w_tables : (allAtoms (Jvm.Cond.code x code maxLocals ret :: tables_1)).before args0 about1 = true := by
  rw [allAtoms_all]
  show words1.all (fun c => c.before args0 about1) = true
  refine all_split ?_ w_codes
  rw [← List.take_append_drop 24 words1, List.all_append, w_t1, ← List.take_append_drop 24 (words1.drop 24), List.all_append, w_t2, ← List.take_append_drop 24 ((words1.drop 24).drop 24), List.all_append, w_t3, w_t4]
  rfl
set_option maxRecDepth 65536 in
theorem w_rest : rest_1_c.before args0 about1 = true := by decide +kernel
set_option maxRecDepth 65536 in
theorem w_case : (Jvm.Cond.and given_1 narrow_1).before args0 about1 = true := by decide +kernel
set_option maxRecDepth 65536 in
theorem w_consts : constsHeld consts_1 about1 := Jvm.Lit.constsHeldB_iff.mp (by decide +kernel)
theorem w_applies : (headSpec (Jvm.Cond.code x code maxLocals ret :: tables_1) room_1).applies x e0.platform about1 = true :=
  (Spec.applies_iff w_frames).mpr ⟨w_running, w_runnable, w_alone, w_named, w_hears, w_ripe, w_room, w_tables⟩
theorem atStart : AtStart classFile x code maxLocals ret World_1 tables_1 room_1 Calls_1 rest_1 Pre_1 launch0 p0 e0 about1 theMethod args0 below0 :=
  ⟨lists_1, trivial, launch0.admits_env _ _ _, launch0.least_env, fairChoices_fair.cas, fairChoices_fair.clock, w_frames, w_args, w_heap, w_applies, ⟨w_consts, trivial⟩, w_rest, w_case⟩
end start1
theorem witness_1 : WitnessClaimed_1 := ⟨start1.p0, start1.e0, start1.about1, start1.theMethod, start1.args0, start1.below0, start1.atStart⟩
end Jvm.Pilot.@@N@@
