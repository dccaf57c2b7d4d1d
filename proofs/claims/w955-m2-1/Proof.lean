import JvmDerived
import JvmDerived.Pilot.@@N@@Statement
import JvmDerived.Pilot.@@N@@Code
set_option linter.unusedVariables false
set_option linter.unusedSimpArgs false
namespace Jvm.OwnKit
open Sem ClassFile Op Lib Jvm.Stand Jvm.Free Jvm.LawKit Jvm.RoadKit
section Own
variable {p : Program} {l : Launch} {e : Env} {R : Room} {s s0 : State} {m : MethodId} {args : Array Value} {below : List Frame} {meth : Method} {c : Code} {T : State} {locs : List Loc} {cells slots : Nat} {Z : State} {a0 : Array Value} {h : Heap}
/-- a walk comes to its return; Q says what it leaves; En is the frame's word -/
def Done (En : State → Outcome → State → List Loc → Nat → Nat → Prop) (p : Program) (e : Env) (below : List Frame) (s : State) (R : Room) (Q : Option Value → Heap → Vm → List Loc → Prop) (U : State) : Prop :=
  ∃ s₂ o, Steps p.tables e below U s₂ ∧ s₂.status = .running ∧ Ended s₂ below o ∧ ∃ v L, o = .returned v ∧ Q v s₂.heap s₂.vm L ∧ En s o s₂ L R.cells R.slots
variable {En : State → Outcome → State → List Loc → Nat → Nat → Prop} {Q : Option Value → Heap → Vm → List Loc → Prop} {U U' : State}
theorem Done.step (k : ∀ t, Steps p.tables e below U' t → Steps p.tables e below U t) (h : Done En p e below s R Q U') : Done En p e below s R Q U := by
  obtain ⟨s₂, o, h1, r⟩ := h
  exact ⟨s₂, o, k _ h1, r⟩
theorem Done.go (k : Steps p.tables e below U U') (h : Done En p e below s R Q U') : Done En p e below s R Q U := by
  obtain ⟨s₂, o, h1, r⟩ := h
  exact ⟨s₂, o, k.trans h1, r⟩
/-- the method may be left here -/
def Leaves (En : State → Outcome → State → List Loc → Nat → Nat → Prop) (e : Env) (below : List Frame) (s : State) (m : MethodId) (meth : Method) (T : State) (locs : List Loc) (R : Room) : Prop :=
  ∀ v : Option Value, (meth.sig.returnType = none → v = none) → ∃ fs, (∀ (f : JFrame) (acts : List Action), f.method = m → f.locked = none → f.entered = [] → (doReturn e (T.setTop f) acts v).1 = T.setFrames fs) ∧
    (T.setFrames fs).status = .running ∧ Ended (T.setFrames fs) below (.returned v) ∧ En s (.returned v) (T.setFrames fs) locs R.cells R.slots
theorem leavesF (X : Stand p l e R s m args below meth c T locs cells slots) (hlk : meth.locks = false) (hc : cells ≤ R.cells) (hs : slots ≤ R.slots) : Leaves FrameEnd e below s m meth T locs R := by
  intro v hv
  obtain ⟨fs, hr, hrun, hended, hW, hsame⟩ := X.leave hv hlk
  exact ⟨fs, hr, hrun, hended, ⟨_, rfl⟩, hW, hsame.mono hc hs⟩
theorem leavesW {vm0 : Vm} (X : Stand p l e R (s.setVm vm0) m args below meth c T locs cells slots) {n : Nat} (hS : s.Since vm0 n) (hn : n ≤ T.heap.size) (hlk : meth.locks = false) (hc : cells ≤ R.cells) (hs : slots ≤ R.slots) : Leaves ReturnedEndW e below s m meth T locs R := by
  intro v hv
  obtain ⟨fs, hr, hrun, hended, h1, h2, h3, h4⟩ := X.leaveW hS hn hv hlk
  exact ⟨fs, hr, hrun, hended, h1, h2, h3, h4.mono hc hs⟩
theorem Done.retI (Lv : Leaves En e below s0 m meth T locs R) (X : Stand p l e R s m args below meth c T locs cells slots) (hx : p.tables.exec = Jvm.exec) {pc : Nat} {Ls : Array Slot} {z : Int32} {rest : List Value} (hret : meth.sig.returnType = some .int) (hd : decode c.code pc = .ok (.ireturn, 1))
    (hq : Q (some (.int z)) T.heap T.vm locs) : Done En p e below s0 R Q (T.setTop (mkF m pc Ls (.int z :: rest))) := by
  obtain ⟨fs, hr, hrun, hended, hE⟩ := Lv (some (.int z)) (fun h => by rw [hret] at h; cases h)
  exact ⟨_, _, retOut X hx hret rfl (Or.inl ⟨rfl, Or.inl rfl, z, rfl⟩) hd hr, hrun, hended, _, _, rfl, hq, hE⟩
theorem Done.retJ (Lv : Leaves En e below s0 m meth T locs R) (X : Stand p l e R s m args below meth c T locs cells slots) (hx : p.tables.exec = Jvm.exec) {pc : Nat} {Ls : Array Slot} {z : Int64} {rest : List Value} (hret : meth.sig.returnType = some .long) (hd : decode c.code pc = .ok (.lreturn, 1))
    (hq : Q (some (.long z)) T.heap T.vm locs) : Done En p e below s0 R Q (T.setTop (mkF m pc Ls (.long z :: rest))) := by
  obtain ⟨fs, hr, hrun, hended, hE⟩ := Lv (some (.long z)) (fun h => by rw [hret] at h; cases h)
  exact ⟨_, _, retOut X hx hret rfl (Or.inr (Or.inl ⟨rfl, rfl, z, rfl⟩)) hd hr, hrun, hended, _, _, rfl, hq, hE⟩
theorem Done.retD (Lv : Leaves En e below s0 m meth T locs R) (X : Stand p l e R s m args below meth c T locs cells slots) (hx : p.tables.exec = Jvm.exec) {pc : Nat} {Ls : Array Slot} {z : UInt64} {rest : List Value} (hret : meth.sig.returnType = some .double) (hd : decode c.code pc = .ok (.dreturn, 1))
    (hq : Q (some (.double z)) T.heap T.vm locs) : Done En p e below s0 R Q (T.setTop (mkF m pc Ls (.double z :: rest))) := by
  obtain ⟨fs, hr, hrun, hended, hE⟩ := Lv (some (.double z)) (fun h => by rw [hret] at h; cases h)
  exact ⟨_, _, retOut X hx hret rfl (Or.inr (Or.inr (Or.inl ⟨rfl, rfl, z, rfl⟩))) hd hr, hrun, hended, _, _, rfl, hq, hE⟩
theorem Done.retA (Lv : Leaves En e below s0 m meth T locs R) (X : Stand p l e R s m args below meth c T locs cells slots) (hx : p.tables.exec = Jvm.exec) {pc : Nat} {Ls : Array Slot} {w : Value} {t : FieldType} {rest : List Value} (hret : meth.sig.returnType = some t) (ht : t.isReference = true) (hw : w.isRef = true) (hd : decode c.code pc = .ok (.areturn, 1))
    (hq : Q (some w) T.heap T.vm locs) : Done En p e below s0 R Q (T.setTop (mkF m pc Ls (w :: rest))) := by
  obtain ⟨fs, hr, hrun, hended, hE⟩ := Lv (some w) (fun h => by rw [hret] at h; cases h)
  have hn : narrow t w = w := by rcases ref_cases hw with rfl | ⟨a, rfl⟩ <;> cases t <;> rfl
  exact ⟨_, _, retOut X hx hret hn (Or.inr (Or.inr (Or.inr (Or.inr ⟨rfl, ht, hw⟩)))) hd hr, hrun, hended, _, _, rfl, hq, hE⟩
theorem Done.retN (Lv : Leaves En e below s0 m meth T locs R) (X : Stand p l e R s m args below meth c T locs cells slots) (hx : p.tables.exec = Jvm.exec) {pc : Nat} {Ls : Array Slot} {z : Int32} {t : FieldType} {rest : List Value} (hret : meth.sig.returnType = some t) (ht : t = .boolean ∨ t = .byte ∨ t = .char ∨ t = .short) (hd : decode c.code pc = .ok (.ireturn, 1))
    (hq : Q (some (.int (nar t z))) T.heap T.vm locs) : Done En p e below s0 R Q (T.setTop (mkF m pc Ls (.int z :: rest))) := by
  obtain ⟨fs, hr, hrun, hended, hE⟩ := Lv (some (.int (nar t z))) (fun h => by rw [hret] at h; cases h)
  exact ⟨_, _, Jvm.RoadKit.retN X hx hret ht hd hr, hrun, hended, _, _, rfl, hq, hE⟩
theorem Done.retV (Lv : Leaves En e below s0 m meth T locs R) (X : Stand p l e R s m args below meth c T locs cells slots) (hx : p.tables.exec = Jvm.exec) {pc : Nat} {Ls : Array Slot} (hret : meth.sig.returnType = none) (hd : decode c.code pc = .ok (.return_, 1))
    (hq : Q none T.heap T.vm locs) : Done En p e below s0 R Q (T.setTop (mkF m pc Ls [])) := by
  obtain ⟨fs, hr, hrun, hended, hE⟩ := Lv none (fun _ => rfl)
  exact ⟨_, _, X.returnOut hx hret hd hr, hrun, hended, _, _, rfl, hq, hE⟩
/-- a body's contract: from the arguments as' and the heap h0 it returns, and Q holds; PV is asked of the tables -/
def Ctr (En : State → Outcome → State → List Loc → Nat → Nat → Prop) (l : Launch) (Z : State) (y : MethodName) (code : ByteArray) (ml : Nat) (rt : Option FieldType) (ws : List Jvm.Cond) (rm : Room) (as' : Array Value) (h0 : Heap) (PV : Vm → Prop) (Q : Option Value → Heap → Vm → List Loc → Prop) : Prop :=
  MetFree l y (head1 (Jvm.Cond.code y code ml rt :: ws) rm) (fun a U => a = as' ∧ Z.Warmed39 U.vm ∧ U.heap = h0 ∧ PV U.vm) (fun _ _ _ _ _ => True) (fun _ U o U' => ∃ v L, o = .returned v ∧ Q v U'.heap U'.vm L ∧ En U o U' L rm.cells rm.slots)
abbrev TrueV : Vm → Prop := fun _ => True
theorem Ctr.intro {y : MethodName} {code : ByteArray} {ml : Nat} {rt : Option FieldType} {ws : List Jvm.Cond} {rm : Room} {as' : Array Value} {h0 : Heap} {PV : Vm → Prop} {Ls : Array Slot} (hpl : plainFor y = true) (hf : ∀ m, entryFrame m as' ml = mkF m 0 Ls [])
    (body : ∀ (p : Program) (e : Env) (s : State) (m : MethodId) (below : List Frame) (meth : Method) (c : Code) (T : State), p.tables.exec = Jvm.exec → c.code = code → c.maxLocals = ml → s.vm.findClass y.cls = some m.cls → meth.name = y.name → meth.sig.returnType = rt → meth.locks = false → Z.Warmed39 s.vm → PV s.vm → s.heap = h0 → T.heap = h0 →
      Stand p l e rm s m as' below meth c T [] 0 0 → Done En p e below s rm Q (T.setTop (mkF m 0 Ls []))) : Ctr En l Z y code ml rt ws rm as' h0 PV Q := by
  refine MetFree.of_bodySF hpl hisR ?_
  intro p e s m args below meth c s₁ Bd hml0 hP hK
  obtain ⟨rfl, hZ, hh, hV⟩ := hP
  have X0 : Stand p l e rm s m args below meth c s₁ [] 0 0 := Stand.of_body Bd
  have e0 : s₁.heap = h0 := by rw [← hh, Bd.state]; rfl
  obtain ⟨s₂, o, h1, r⟩ := body p e s m below meth c s₁ Bd.exec Bd.bytes hml0 (findClass_of_methodNamed Bd.named) (name_of_methodNamed Bd.named Bd.method).1 Bd.returns Bd.notSynchronized hZ hV hh e0 X0
  exact ⟨s₂, o, castTop (hf m) h1, r⟩
variable {Qc : Option Value → Heap → Vm → List Loc → Prop}
theorem Ctr.back {y : MethodName} {bytes : ByteArray} {maxL : Nat} {ret : Option FieldType} {rm : Room} {len W : Nat} {as' : Array Value} {PV : Vm → Prop} (hM : Ctr FrameEnd l Z y bytes maxL ret [] rm as' h PV Qc)
    (hZ : Z.Warmed39 s.vm) (hV : ∀ vm', s.WarmedH vm' → PV vm') (wc : (Jvm.Cond.code y bytes maxL ret).before a0 Z = true) (wz : (Jvm.Cond.initialized y.cls).before a0 Z = true) (hf : rm.frames + 1 ≤ R.frames) (hl : W + (maxL + 11) + rm.locals ≤ R.locals) :
    Back l R p e below s args y len W (fun A a => a = as' ∧ A.U.heap = h ∧ A.cells + rm.cells ≤ R.cells ∧ A.slots + rm.slots ≤ R.slots)
      (fun A _ v B => ∃ L, Qc v B.U.heap B.U.vm L ∧ B.locs = A.locs ++ L ∧ B.cells = A.cells + rm.cells ∧ B.slots = A.slots + rm.slots) :=
  Back.of_free (bytes := bytes) (maxL := maxL) (ret := ret) (E := fun _ _ o t L k n => k = rm.cells ∧ n = rm.slots ∧ ∃ v, o = .returned v ∧ Qc v t.heap t.vm L) hM hf hl
    (fun m meth c A a Y hp => have hU : Z.Warmed39 A.U.vm := wtrans hZ Y.warmed
      ⟨by show (Cond.and _ .tt).before a A.U = true; rw [Cond.before_and, mv hU wc]; rfl, mv hU wc, mv hU wz, hp.2.2.1, hp.2.2.2⟩)
    (fun m meth c A a g mk Y hp => ⟨hp.1, wtrans hZ Y.warmed, hp.2.1, hV _ Y.warmed⟩) (fun _ _ _ _ _ _ _ _ _ => trivial)
    (fun _ _ _ _ ⟨v, L, h1, h2, h3⟩ => ⟨L, _, _, h3, rfl, rfl, v, h1, h2⟩)
    (fun m meth c A a g mk v t L k n Y hp _ _ ⟨e1, e2, v', e3, e4⟩ => by cases e3; subst e1 e2; exact ⟨L, e4, rfl, rfl, rfl⟩)
theorem Ctr.backW {y : MethodName} {bytes : ByteArray} {maxL : Nat} {ret : Option FieldType} {rm : Room} {len W : Nat} {as' : Array Value} {PV : Vm → Prop} (hM : Ctr ReturnedEndW l Z y bytes maxL ret [] rm as' h PV Qc)
    (hZ : Z.Warmed39 s.vm) (hV : ∀ vm', s.WarmedH vm' → PV vm') (wc : (Jvm.Cond.code y bytes maxL ret).before a0 Z = true) (wz : (Jvm.Cond.initialized y.cls).before a0 Z = true) (hf : rm.frames + 1 ≤ R.frames) (hl : W + (maxL + 11) + rm.locals ≤ R.locals) :
    BackS l R p e below s args y len W (fun A a => a = as' ∧ A.U.heap = h ∧ A.cells + rm.cells ≤ R.cells ∧ A.slots + rm.slots ≤ R.slots)
      (fun A _ v B => ∃ L, Qc v B.U.heap B.U.vm L ∧ B.locs = A.locs ++ L ∧ B.cells = A.cells + rm.cells ∧ B.slots = A.slots + rm.slots) :=
  BackS.of_freeW (bytes := bytes) (maxL := maxL) (ret := ret) (E := fun _ _ o t L k n => k = rm.cells ∧ n = rm.slots ∧ ∃ v, o = .returned v ∧ Qc v t.heap t.vm L) hM hf hl
    (fun m meth c A a Y hp => have hU : Z.Warmed39 A.U.vm := wtrans hZ Y.warmed
      ⟨by show (Cond.and _ .tt).before a A.U = true; rw [Cond.before_and, mv hU wc]; rfl, mv hU wc, mv hU wz, hp.2.2.1, hp.2.2.2⟩)
    (fun m meth c A a g mk Y hp => ⟨hp.1, wtrans hZ Y.warmed, hp.2.1, hV _ Y.warmed⟩) (fun _ _ _ _ _ _ _ _ _ => trivial)
    (fun _ _ _ _ ⟨v, L, h1, h2, h3⟩ => ⟨L, _, _, h3, rfl, rfl, v, h1, h2⟩)
    (fun m meth c A a g mk v t L k n Y hp _ _ ⟨e1, e2, v', e3, e4⟩ => by cases e3; subst e1 e2; exact ⟨L, e4, rfl, rfl, rfl⟩)
theorem wAt {ws : List Jvm.Cond} (hw : ∀ d ∈ ws, d.before a0 Z = true) (k : Nat) {d : Jvm.Cond} (q : ws[k]? = some d) : d.before a0 Z = true := hw _ (List.mem_of_getElem? q)
theorem int_eq_v {first s : State} {o : Option Outcome} {idx : List Nat} {t : Term} {k : Int32} (q : (Jvm.Cond.eq t (.int k)).value args first o s idx = some true) : t.eval args first o idx s = some (.int k) := by
  cases ht : t.eval args first o idx s with
  | none => simp [Cond.value, ht] at q
  | some x => cases x <;> simp [Cond.value, Term.eval, ht] at q ⊢; exact q
/-- a truth value as the JVM returns it -/
def bP (P : Prop) [Decidable P] : Int32 := if P then 1 else 0
theorem bP_t {P : Prop} [Decidable P] (q : P) : bP P = 1 := if_pos q
theorem bP_f {P : Prop} [Decidable P] (q : ¬ P) : bP P = 0 := if_neg q
/-- what a law leaves: it returns 1, and wrote in new cells alone -/
def LawQ (n0 : Nat) : Option Value → Heap → Vm → List Loc → Prop := fun v _ _ L => v = some (.int 1) ∧ Fr n0 L
/-- what a body leaves that writes and makes nothing -/
def PureQ (r : Option Value) (h0 : Heap) : Option Value → Heap → Vm → List Loc → Prop := fun v h _ L => v = r ∧ h = h0 ∧ L = []
/-- what a constructor leaves of which no more is wanted: it wrote in ws and in new cells alone -/
def QW (n0 : Nat) (h0 : Heap) (ws : List Addr) : Option Value → Heap → Vm → List Loc → Prop := fun v h _ L => v = none ∧ Fr n0 L ∧ Keep h0 h ws
section Calls
variable {own C : String} {index : Nat} {y z : MethodName} {bytes : ByteArray} {maxL : Nat} {ret : Option FieldType} {rm : Room} {as' : Array Value} {PV : Vm → Prop} {g : JFrame} {r : Option Value}
theorem Done.callS (X : Stand p l e R s m args below meth c T locs cells slots) (hx : p.tables.exec = Jvm.exec) (hZ : Z.Warmed39 s.vm) (hown : s.vm.findClass own = some m.cls)
    (w1 : (Jvm.Cond.methodLink own index y).before a0 Z = true) (w2 : (Jvm.Cond.static y).before a0 Z = true) (w3 : (Jvm.Cond.initialized y.cls).before a0 Z = true) (w4 : (Jvm.Cond.code y bytes maxL ret).before a0 Z = true)
    (hy : y.cls ≠ "java/lang/invoke/MethodHandle" ∧ y.cls ≠ "java/lang/invoke/VarHandle") (hM : Ctr FrameEnd l Z y bytes maxL ret [] rm as' h PV Qc) (hV : ∀ vm', s.WarmedH vm' → PV vm') (eT : T.heap = h)
    (hg : g.method = m) (hsize : g.locals.size = c.maxLocals) (argsL rest : List Value) (W : Nat) (hlen : ∀ sig, parseMethodDescriptor y.desc = some sig → argsL.length = sig.parameters.length)
    (hstack : g.stack = argsL.reverse ++ rest) (has : argsL.toArray = as') (hW : 2 * g.monitorRoom + (rest.map fun v => v.category).sum ≤ W) (hdg : decode c.code g.pc = .ok (.invokestatic index, 3))
    (hf : rm.frames + 1 ≤ R.frames) (hl : W + (maxL + 11) + rm.locals ≤ R.locals) (hc : cells + rm.cells ≤ R.cells) (hs : slots + rm.slots ≤ R.slots)
    (k : ∀ (T' : State) (v : Option Value) (L : List Loc), Stand p l e R s m args below meth c T' (locs ++ L) (cells + rm.cells) (slots + rm.slots) → Qc v T'.heap T'.vm L → Done En p e below s0 R Q (T'.setTop { g with pc := g.pc + 3, stack := v.toList ++ rest })) :
    Done En p e below s0 R Q (T.setTop g) := by
  subst has
  obtain ⟨v, vm₁, ⟨T', L', k', n'⟩, -, X', ⟨L, hq, e1, e2, e3⟩, st⟩ := Jvm.LawKit.callS X hx (y := y) hown (mvT hZ w1) (mvT hZ w2) (mvT hZ w3) (mvT hZ w4) hy (hM.back (W := W) hZ hV w4 w3 hf hl) hg hsize (argsL := argsL) (rest := rest) hlen hstack hW hdg (fun _ _ => ⟨rfl, eT, hc, hs⟩)
  dsimp only [Pt.U, Pt.locs, Pt.cells, Pt.slots] at X' e1 e2 e3 st hq
  subst e1 e2 e3
  exact Done.step st (k _ _ _ X' hq)
theorem Done.callSP (X : Stand p l e R s m args below meth c T locs cells slots) (hx : p.tables.exec = Jvm.exec) (hZ : Z.Warmed39 s.vm) (hown : s.vm.findClass own = some m.cls)
    (w1 : (Jvm.Cond.methodLink own index y).before a0 Z = true) (w2 : (Jvm.Cond.static y).before a0 Z = true) (w3 : (Jvm.Cond.initialized y.cls).before a0 Z = true) (w4 : (Jvm.Cond.code y bytes maxL ret).before a0 Z = true)
    (hy : y.cls ≠ "java/lang/invoke/MethodHandle" ∧ y.cls ≠ "java/lang/invoke/VarHandle") (hM : Ctr FrameEnd l Z y bytes maxL ret [] rm as' h TrueV (PureQ r h)) (eT : T.heap = h)
    (hg : g.method = m) (hsize : g.locals.size = c.maxLocals) (argsL rest : List Value) (W : Nat) (hlen : ∀ sig, parseMethodDescriptor y.desc = some sig → argsL.length = sig.parameters.length)
    (hstack : g.stack = argsL.reverse ++ rest) (has : argsL.toArray = as') (hW : 2 * g.monitorRoom + (rest.map fun v => v.category).sum ≤ W) (hdg : decode c.code g.pc = .ok (.invokestatic index, 3))
    (hf : rm.frames + 1 ≤ R.frames) (hl : W + (maxL + 11) + rm.locals ≤ R.locals) (hc : cells ≤ R.cells) (hs : slots ≤ R.slots) (rc : rm.cells = 0) (rs : rm.slots = 0)
    (k : ∀ (T' : State), Stand p l e R s m args below meth c T' locs cells slots → T'.heap = h → Done En p e below s0 R Q (T'.setTop { g with pc := g.pc + 3, stack := r.toList ++ rest })) :
    Done En p e below s0 R Q (T.setTop g) := by
  refine Done.callS X hx hZ hown w1 w2 w3 w4 hy hM (fun _ _ => trivial) eT hg hsize argsL rest W hlen hstack has hW hdg hf hl (by rw [rc]; exact hc) (by rw [rs]; exact hs) ?_
  intro T' v L X' q
  obtain ⟨rfl, e1, rfl⟩ := q
  rw [List.append_nil, rc, rs] at X'
  exact k T' X' e1
theorem Done.callI (X : Stand p l e R s m args below meth c T locs cells slots) (hx : p.tables.exec = Jvm.exec) (hZ : Z.Warmed39 s.vm) (hy1 : y.name = "<init>") (hown : s.vm.findClass own = some m.cls)
    (w1 : (Jvm.Cond.methodLink own index y).before a0 Z = true) (w2 : (Jvm.Cond.instanceMethod y).before a0 Z = true) (w3 : (Jvm.Cond.initialized y.cls).before a0 Z = true) (w4 : (Jvm.Cond.code y bytes maxL none).before a0 Z = true)
    (hy : y.cls ≠ "java/lang/invoke/MethodHandle" ∧ y.cls ≠ "java/lang/invoke/VarHandle") (hM : Ctr FrameEnd l Z y bytes maxL none [] rm as' h PV Qc) (hV : ∀ vm', s.WarmedH vm' → PV vm') (eT : T.heap = h)
    (hg : g.method = m) (hsize : g.locals.size = c.maxLocals) (a : Addr) (argsL rest : List Value) (W : Nat) (hlen : ∀ sig, parseMethodDescriptor y.desc = some sig → argsL.length = sig.parameters.length)
    (hstack : g.stack = argsL.reverse ++ .ref a :: rest) (has : (Value.ref a :: argsL).toArray = as') (hW : 2 * g.monitorRoom + (rest.map fun v => v.category).sum ≤ W) (hdg : decode c.code g.pc = .ok (.invokespecial index, 3))
    (hf : rm.frames + 1 ≤ R.frames) (hl : W + (maxL + 11) + rm.locals ≤ R.locals) (hc : cells + rm.cells ≤ R.cells) (hs : slots + rm.slots ≤ R.slots)
    (k : ∀ (T' : State) (v : Option Value) (L : List Loc), Stand p l e R s m args below meth c T' (locs ++ L) (cells + rm.cells) (slots + rm.slots) → Qc v T'.heap T'.vm L → Done En p e below s0 R Q (T'.setTop { g with pc := g.pc + 3, stack := v.toList ++ rest })) :
    Done En p e below s0 R Q (T.setTop g) := by
  subst has
  obtain ⟨v, vm₁, ⟨T', L', k', n'⟩, -, X', ⟨L, hq, e1, e2, e3⟩, st⟩ := X.specialBack hx (y := y) hy1 hown (mvT hZ w1) (mvT hZ w2) (mvT hZ w4) hy (hM.back (W := W) hZ hV w4 w3 hf hl) hg hsize (Steps.refl _) (a := a) (argsL := argsL) (rest := rest) hlen hstack hW hdg (fun _ _ => ⟨rfl, eT, hc, hs⟩)
  dsimp only [Pt.U, Pt.locs, Pt.cells, Pt.slots] at X' e1 e2 e3 st hq
  subst e1 e2 e3
  exact Done.go st (k _ _ _ X' hq)
theorem Done.callV (X : Stand p l e R s m args below meth c T locs cells slots) (hx : p.tables.exec = Jvm.exec) (hZ : Z.Warmed39 s.vm) (hown : s.vm.findClass own = some m.cls)
    (w1 : (Jvm.Cond.methodLink own index y).before a0 Z = true) (w2 : (Jvm.Cond.declares y).before a0 Z = true) (hnf : NotFace s y) (w5 : (Jvm.Cond.selects C y z).before a0 Z = true) (w6 : (Jvm.Cond.instanceMethod z).before a0 Z = true)
    (w3 : (Jvm.Cond.initialized z.cls).before a0 Z = true) (w4 : (Jvm.Cond.code z bytes maxL ret).before a0 Z = true)
    (hy : y.cls ≠ "java/lang/invoke/MethodHandle" ∧ y.cls ≠ "java/lang/invoke/VarHandle") (hM : Ctr FrameEnd l Z z bytes maxL ret [] rm as' h PV Qc) (hV : ∀ vm', s.WarmedH vm' → PV vm') (eT : T.heap = h) {b : Addr} (E : Exa Z h b C)
    (hg : g.method = m) (hsize : g.locals.size = c.maxLocals) (argsL rest : List Value) (W : Nat) (hlen : ∀ sig, parseMethodDescriptor y.desc = some sig → argsL.length = sig.parameters.length)
    (hstack : g.stack = argsL.reverse ++ .ref b :: rest) (has : (Value.ref b :: argsL).toArray = as') (hW : 2 * g.monitorRoom + (rest.map fun v => v.category).sum ≤ W) (hdg : decode c.code g.pc = .ok (.invokevirtual index, 3))
    (hf : rm.frames + 1 ≤ R.frames) (hl : W + (maxL + 11) + rm.locals ≤ R.locals) (hc : cells + rm.cells ≤ R.cells) (hs : slots + rm.slots ≤ R.slots)
    (k : ∀ (T' : State) (v : Option Value) (L : List Loc), Stand p l e R s m args below meth c T' (locs ++ L) (cells + rm.cells) (slots + rm.slots) → Qc v T'.heap T'.vm L → Done En p e below s0 R Q (T'.setTop { g with pc := g.pc + 3, stack := v.toList ++ rest })) :
    Done En p e below s0 R Q (T.setTop g) := by
  subst has
  obtain ⟨cq, kq, qa, qb, qc⟩ := isOf (T := T) hZ eT E
  obtain ⟨v, vm₁, ⟨T', L', k', n'⟩, -, X', ⟨L, hq, e1, e2, e3⟩, st⟩ := X.virtualBack hx (y := y) (z := z) hown (mvT hZ w1) (mvT hZ w2) hnf (mvT hZ w5) (mvT hZ w6) hy (hM.back (W := W) hZ hV w4 w3 hf hl) qa qc hg hsize (Steps.refl _) (argsL := argsL) (rest := rest) hlen hstack hW hdg (fun _ _ => ⟨rfl, eT, hc, hs⟩)
  dsimp only [Pt.U, Pt.locs, Pt.cells, Pt.slots] at X' e1 e2 e3 st hq
  subst e1 e2 e3
  exact Done.go st (k _ _ _ X' hq)
theorem Done.callVP (X : Stand p l e R s m args below meth c T locs cells slots) (hx : p.tables.exec = Jvm.exec) (hZ : Z.Warmed39 s.vm) (hown : s.vm.findClass own = some m.cls)
    (w1 : (Jvm.Cond.methodLink own index y).before a0 Z = true) (w2 : (Jvm.Cond.declares y).before a0 Z = true) (hnf : NotFace s y) (w5 : (Jvm.Cond.selects C y z).before a0 Z = true) (w6 : (Jvm.Cond.instanceMethod z).before a0 Z = true)
    (w3 : (Jvm.Cond.initialized z.cls).before a0 Z = true) (w4 : (Jvm.Cond.code z bytes maxL ret).before a0 Z = true)
    (hy : y.cls ≠ "java/lang/invoke/MethodHandle" ∧ y.cls ≠ "java/lang/invoke/VarHandle") (hM : Ctr FrameEnd l Z z bytes maxL ret [] rm as' h TrueV (PureQ r h)) (eT : T.heap = h) {b : Addr} (E : Exa Z h b C)
    (hg : g.method = m) (hsize : g.locals.size = c.maxLocals) (argsL rest : List Value) (W : Nat) (hlen : ∀ sig, parseMethodDescriptor y.desc = some sig → argsL.length = sig.parameters.length)
    (hstack : g.stack = argsL.reverse ++ .ref b :: rest) (has : (Value.ref b :: argsL).toArray = as') (hW : 2 * g.monitorRoom + (rest.map fun v => v.category).sum ≤ W) (hdg : decode c.code g.pc = .ok (.invokevirtual index, 3))
    (hf : rm.frames + 1 ≤ R.frames) (hl : W + (maxL + 11) + rm.locals ≤ R.locals) (hc : cells ≤ R.cells) (hs : slots ≤ R.slots) (rc : rm.cells = 0) (rs : rm.slots = 0)
    (k : ∀ (T' : State), Stand p l e R s m args below meth c T' locs cells slots → T'.heap = h → Done En p e below s0 R Q (T'.setTop { g with pc := g.pc + 3, stack := r.toList ++ rest })) :
    Done En p e below s0 R Q (T.setTop g) := by
  refine Done.callV X hx hZ hown w1 w2 hnf w5 w6 w3 w4 hy hM (fun _ _ => trivial) eT E hg hsize argsL rest W hlen hstack has hW hdg hf hl (by rw [rc]; exact hc) (by rw [rs]; exact hs) ?_
  intro T' v L X' q
  obtain ⟨rfl, e1, rfl⟩ := q
  rw [List.append_nil, rc, rs] at X'
  exact k T' X' e1
/-- calls that a law of the library or of a paste pays -/
theorem Done.callIB {nc ns W : Nat} {Qh : Option Value → Heap → List Loc → Prop} (X : Stand p l e R s m args below meth c T locs cells slots) (hx : p.tables.exec = Jvm.exec) (hZ : Z.Warmed39 s.vm) (hy1 : y.name = "<init>") (hown : s.vm.findClass own = some m.cls)
    (w1 : (Jvm.Cond.methodLink own index y).before a0 Z = true) (w2 : (Jvm.Cond.instanceMethod y).before a0 Z = true) (w4 : (Jvm.Cond.code y bytes maxL none).before a0 Z = true)
    (hy : y.cls ≠ "java/lang/invoke/MethodHandle" ∧ y.cls ≠ "java/lang/invoke/VarHandle")
    (hK : Back l R p e below s args y 3 W (fun A a => a = as' ∧ A.U.heap = h ∧ A.cells + nc ≤ R.cells ∧ A.slots + ns ≤ R.slots) (fun A _ v B => ∃ L, Qh v B.U.heap L ∧ B.locs = A.locs ++ L ∧ B.cells = A.cells + nc ∧ B.slots = A.slots + ns)) (eT : T.heap = h)
    (hg : g.method = m) (hsize : g.locals.size = c.maxLocals) (a : Addr) (argsL rest : List Value) (hlen : ∀ sig, parseMethodDescriptor y.desc = some sig → argsL.length = sig.parameters.length)
    (hstack : g.stack = argsL.reverse ++ .ref a :: rest) (has : (Value.ref a :: argsL).toArray = as') (hW : 2 * g.monitorRoom + (rest.map fun v => v.category).sum ≤ W) (hdg : decode c.code g.pc = .ok (.invokespecial index, 3))
    (hc : cells + nc ≤ R.cells) (hs : slots + ns ≤ R.slots)
    (k : ∀ (T' : State) (v : Option Value) (L : List Loc), Stand p l e R s m args below meth c T' (locs ++ L) (cells + nc) (slots + ns) → Qh v T'.heap L → Done En p e below s0 R Q (T'.setTop { g with pc := g.pc + 3, stack := v.toList ++ rest })) :
    Done En p e below s0 R Q (T.setTop g) := by
  subst has
  obtain ⟨v, vm₁, ⟨T', L', k', n'⟩, -, X', ⟨L, hq, e1, e2, e3⟩, st⟩ := X.specialBack hx (y := y) hy1 hown (mvT hZ w1) (mvT hZ w2) (mvT hZ w4) hy hK hg hsize (Steps.refl _) (a := a) (argsL := argsL) (rest := rest) hlen hstack hW hdg (fun _ _ => ⟨rfl, eT, hc, hs⟩)
  dsimp only [Pt.U, Pt.locs, Pt.cells, Pt.slots] at X' e1 e2 e3 st hq
  subst e1 e2 e3
  exact Done.go st (k _ _ _ X' hq)
theorem Done.callVB {nc ns W : Nat} {Qh : Option Value → Heap → List Loc → Prop} (X : Stand p l e R s m args below meth c T locs cells slots) (hx : p.tables.exec = Jvm.exec) (hZ : Z.Warmed39 s.vm) (hown : s.vm.findClass own = some m.cls)
    (w1 : (Jvm.Cond.methodLink own index y).before a0 Z = true) (w2 : (Jvm.Cond.declares y).before a0 Z = true) (hnf : NotFace s y) (w5 : (Jvm.Cond.selects C y z).before a0 Z = true) (w6 : (Jvm.Cond.instanceMethod z).before a0 Z = true)
    (hy : y.cls ≠ "java/lang/invoke/MethodHandle" ∧ y.cls ≠ "java/lang/invoke/VarHandle")
    (hK : Back l R p e below s args z 3 W (fun A a => a = as' ∧ A.U.heap = h ∧ A.cells + nc ≤ R.cells ∧ A.slots + ns ≤ R.slots) (fun A _ v B => ∃ L, Qh v B.U.heap L ∧ B.locs = A.locs ++ L ∧ B.cells = A.cells + nc ∧ B.slots = A.slots + ns)) (eT : T.heap = h) {b : Addr} (E : Exa Z h b C)
    (hg : g.method = m) (hsize : g.locals.size = c.maxLocals) (argsL rest : List Value) (hlen : ∀ sig, parseMethodDescriptor y.desc = some sig → argsL.length = sig.parameters.length)
    (hstack : g.stack = argsL.reverse ++ .ref b :: rest) (has : (Value.ref b :: argsL).toArray = as') (hW : 2 * g.monitorRoom + (rest.map fun v => v.category).sum ≤ W) (hdg : decode c.code g.pc = .ok (.invokevirtual index, 3))
    (hc : cells + nc ≤ R.cells) (hs : slots + ns ≤ R.slots)
    (k : ∀ (T' : State) (v : Option Value) (L : List Loc), Stand p l e R s m args below meth c T' (locs ++ L) (cells + nc) (slots + ns) → Qh v T'.heap L → Done En p e below s0 R Q (T'.setTop { g with pc := g.pc + 3, stack := v.toList ++ rest })) :
    Done En p e below s0 R Q (T.setTop g) := by
  subst has
  obtain ⟨cq, kq, qa, qb, qc⟩ := isOf (T := T) hZ eT E
  obtain ⟨v, vm₁, ⟨T', L', k', n'⟩, -, X', ⟨L, hq, e1, e2, e3⟩, st⟩ := X.virtualBack hx (y := y) (z := z) hown (mvT hZ w1) (mvT hZ w2) hnf (mvT hZ w5) (mvT hZ w6) hy hK qa qc hg hsize (Steps.refl _) (argsL := argsL) (rest := rest) hlen hstack hW hdg (fun _ _ => ⟨rfl, eT, hc, hs⟩)
  dsimp only [Pt.U, Pt.locs, Pt.cells, Pt.slots] at X' e1 e2 e3 st hq
  subst e1 e2 e3
  exact Done.go st (k _ _ _ X' hq)
/-- the three calls of a callee that may load literals -/
theorem Done.callSW {vm0 : Vm} {k0 : Nat} (X : Stand p l e R (s.setVm vm0) m args below meth c T locs cells slots) (hx : p.tables.exec = Jvm.exec) (hZ : Z.Warmed39 vm0) (hown : vm0.findClass own = some m.cls) (hS : s.Since vm0 k0) (hk : k0 ≤ h.size)
    (w1 : (Jvm.Cond.methodLink own index y).before a0 Z = true) (w2 : (Jvm.Cond.static y).before a0 Z = true) (w3 : (Jvm.Cond.initialized y.cls).before a0 Z = true) (w4 : (Jvm.Cond.code y bytes maxL ret).before a0 Z = true)
    (hy : y.cls ≠ "java/lang/invoke/MethodHandle" ∧ y.cls ≠ "java/lang/invoke/VarHandle") (hM : Ctr ReturnedEndW l Z y bytes maxL ret [] rm as' h PV Qc) (hV : ∀ vm', (s.setVm vm0).WarmedH vm' → PV vm') (eT : T.heap = h)
    (hg : g.method = m) (hsize : g.locals.size = c.maxLocals) (argsL rest : List Value) (W : Nat) (hlen : ∀ sig, parseMethodDescriptor y.desc = some sig → argsL.length = sig.parameters.length)
    (hstack : g.stack = argsL.reverse ++ rest) (has : argsL.toArray = as') (hW : 2 * g.monitorRoom + (rest.map fun v => v.category).sum ≤ W) (hdg : decode c.code g.pc = .ok (.invokestatic index, 3))
    (hf : rm.frames + 1 ≤ R.frames) (hl : W + (maxL + 11) + rm.locals ≤ R.locals) (hc : cells + rm.cells ≤ R.cells) (hs : slots + rm.slots ≤ R.slots)
    (k : ∀ (T' : State) (v : Option Value) (L : List Loc), Stand p l e R (s.setVm T'.vm) m args below meth c T' (locs ++ L) (cells + rm.cells) (slots + rm.slots) → s.Since T'.vm T'.heap.size → Z.Warmed39 T'.vm → T'.vm.findClass own = some m.cls → (s.setVm vm0).Warmed39 T'.vm → Qc v T'.heap T'.vm L →
      Done En p e below s0 R Q (T'.setTop { g with pc := g.pc + 3, stack := v.toList ++ rest })) :
    Done En p e below s0 R Q (T.setTop g) := by
  subst has eT
  obtain ⟨v, vm₁, ⟨T', L', k', n'⟩, hW1, X', hS', hgr, ⟨L, hq, e1, e2, e3⟩, st⟩ := callSS (s := s.setVm vm0) X hx (y := y) hown (mvT (s := s.setVm vm0) hZ w1) (mvT (s := s.setVm vm0) hZ w2) (mvT (s := s.setVm vm0) hZ w3) (mvT (s := s.setVm vm0) hZ w4) hy (hM.backW (s := s.setVm vm0) (W := W) hZ hV w4 w3 hf hl) hg hsize (argsL := argsL) (rest := rest) hlen hstack hW hdg (fun _ _ => ⟨rfl, rfl, hc, hs⟩)
  dsimp only [Pt.U, Pt.locs, Pt.cells, Pt.slots] at X' e1 e2 e3 st hq hS' hgr
  subst e1 e2 e3
  exact Done.go st (k T' v L X' (hS.trans hS' (Nat.le_trans hk hgr)) (State.Warmed39.trans (t := s.setVm vm0) hZ hS'.1) (by rw [hS'.1.alike.findClass]; exact hown) hS'.1 hq)
theorem Done.callIW {vm0 : Vm} {k0 : Nat} (X : Stand p l e R (s.setVm vm0) m args below meth c T locs cells slots) (hx : p.tables.exec = Jvm.exec) (hZ : Z.Warmed39 vm0) (hy1 : y.name = "<init>") (hown : vm0.findClass own = some m.cls) (hS : s.Since vm0 k0) (hk : k0 ≤ h.size)
    (w1 : (Jvm.Cond.methodLink own index y).before a0 Z = true) (w2 : (Jvm.Cond.instanceMethod y).before a0 Z = true) (w3 : (Jvm.Cond.initialized y.cls).before a0 Z = true) (w4 : (Jvm.Cond.code y bytes maxL none).before a0 Z = true)
    (hy : y.cls ≠ "java/lang/invoke/MethodHandle" ∧ y.cls ≠ "java/lang/invoke/VarHandle") (hM : Ctr ReturnedEndW l Z y bytes maxL none [] rm as' h PV Qc) (hV : ∀ vm', (s.setVm vm0).WarmedH vm' → PV vm') (eT : T.heap = h)
    (hg : g.method = m) (hsize : g.locals.size = c.maxLocals) (a : Addr) (argsL rest : List Value) (W : Nat) (hlen : ∀ sig, parseMethodDescriptor y.desc = some sig → argsL.length = sig.parameters.length)
    (hstack : g.stack = argsL.reverse ++ .ref a :: rest) (has : (Value.ref a :: argsL).toArray = as') (hW : 2 * g.monitorRoom + (rest.map fun v => v.category).sum ≤ W) (hdg : decode c.code g.pc = .ok (.invokespecial index, 3))
    (hf : rm.frames + 1 ≤ R.frames) (hl : W + (maxL + 11) + rm.locals ≤ R.locals) (hc : cells + rm.cells ≤ R.cells) (hs : slots + rm.slots ≤ R.slots)
    (k : ∀ (T' : State) (v : Option Value) (L : List Loc), Stand p l e R (s.setVm T'.vm) m args below meth c T' (locs ++ L) (cells + rm.cells) (slots + rm.slots) → s.Since T'.vm T'.heap.size → Z.Warmed39 T'.vm → T'.vm.findClass own = some m.cls → (s.setVm vm0).Warmed39 T'.vm → Qc v T'.heap T'.vm L →
      Done En p e below s0 R Q (T'.setTop { g with pc := g.pc + 3, stack := v.toList ++ rest })) :
    Done En p e below s0 R Q (T.setTop g) := by
  subst has eT
  obtain ⟨v, vm₁, ⟨T', L', k', n'⟩, hW1, X', hS', hgr, ⟨L, hq, e1, e2, e3⟩, st⟩ := specialBackS (s := s.setVm vm0) X hx (y := y) hy1 hown (mvT (s := s.setVm vm0) hZ w1) (mvT (s := s.setVm vm0) hZ w2) (mvT (s := s.setVm vm0) hZ w4) hy (hM.backW (s := s.setVm vm0) (W := W) hZ hV w4 w3 hf hl) hg hsize (Steps.refl _) (a := a) (argsL := argsL) (rest := rest) hlen hstack hW hdg (fun _ _ => ⟨rfl, rfl, hc, hs⟩)
  dsimp only [Pt.U, Pt.locs, Pt.cells, Pt.slots] at X' e1 e2 e3 st hq hS' hgr
  subst e1 e2 e3
  exact Done.go st (k T' v L X' (hS.trans hS' (Nat.le_trans hk hgr)) (State.Warmed39.trans (t := s.setVm vm0) hZ hS'.1) (by rw [hS'.1.alike.findClass]; exact hown) hS'.1 hq)
end Calls
end Own
end Jvm.OwnKit
@@BLOCK:NumsL.lean.txt@@
namespace Jvm.Pilot.@@N@@
open Jvm Jvm.ClassFile Sem Op Lib Jvm.Free Jvm.Stand Jvm.LawKit Jvm.RoadKit Jvm.OwnKit Bundle Jvm.Pilot.@@N@@.Jvm.D
abbrev oI (x : Int32) : Slot := .val (.int x)
abbrev oJ (x : Int64) : Slot := .val (.long x)
abbrev oR (x : Addr) : Slot := .val (.ref x)
theorem own_up (cs : List Int32) (h : ∀ c ∈ cs, ¬ c < 0 ∧ ¬ (255 : Int32) < c) : ∀ c ∈ cs, ¬ c < 0 ∧ ¬ (65535 : Int32) < c := fun c hc => ⟨(h c hc).1, fun q => (h c hc).2 (by rw [Int32.lt_iff_toInt_lt] at q ⊢; have e1 : (65535 : Int32).toInt = 65535 := rfl; have e2 : (255 : Int32).toInt = 255 := rfl; omega)⟩
theorem own_toInt16 (x : Int32) : x.toUInt32.toUInt16.toUInt32.toInt32.toInt = x.toInt % 65536 := by
  have h : (x.toUInt32.toUInt16.toUInt32.toInt32).toBitVec.toNat = x.toBitVec.toNat % 65536 := by simp
  have h2 : (x.toUInt32.toUInt16.toUInt32.toInt32).toBitVec.toNat < 65536 := by rw [h]; exact Nat.mod_lt _ (by decide)
  have e1 : (x.toUInt32.toUInt16.toUInt32.toInt32).toInt = ((x.toUInt32.toUInt16.toUInt32.toInt32).toBitVec.toNat : Int) := by
    rw [← Int32.toInt_toBitVec, BitVec.toInt_eq_toNat_of_lt (by omega)]
  rw [e1, h, ← Int32.toInt_toBitVec, BitVec.toInt_eq_toNat_bmod, Int.bmod_def]
  split <;> omega
theorem own_nar {c : Int32} (h0 : ¬ c < 0) (h1 : ¬ (65535 : Int32) < c) : nar .char c = c := by
  have e0 : c.toUInt32.toUInt16.toUInt32.toInt32 = c := by
    apply Int32.toInt_inj.mp
    rw [own_toInt16]
    rw [Int32.lt_iff_toInt_lt] at h0 h1
    have z : (0 : Int32).toInt = 0 := rfl
    have y : (65535 : Int32).toInt = 65535 := rfl
    omega
  exact e0
theorem eq_v {args : Array Value} {first s : State} {o : Option Outcome} {idx : List Nat} {t : Term} {k z : Int32} (q : t.eval args first o idx s = some (.int z)) : (Jvm.Cond.eq t (.int k)).value args first o s idx = some (decide (z = k)) := by simp [Cond.value, Term.eval, q]
theorem own_wS0 {a0 : Array Value} {Z : State} (hw : ∀ d ∈ tables_1, d.before a0 Z = true) : ∀ d ∈ Bundle.stringAtoms, d.before a0 Z = true := fun d hd => hw d ((by decide +kernel : ∀ d ∈ Bundle.stringAtoms, d ∈ tables_1) d hd)
/-- a walk's Stand, begun anew at the heap where it stands (no place written since) -/
def own_at (s T : State) : State := { s with heap := T.heap, slotsUsed := T.slotsUsed }
section OwnL
variable {p : Program} {l : Launch} {e : Env} {R : Room} {s : State} {m : MethodId} {args : Array Value} {below : List Frame} {meth : Method} {c : Code} {T : State} {locs : List Loc} {cells slots : Nat} {Z : State} {a0 : Array Value} {h : Heap} {vm0 vm1 : Vm} {Ts : List String} {own text : String} {index : Nat}
theorem own_reb (X : Stand p l e R s m args below meth c T locs cells slots) {k n : Nat} (hk : cells + k ≤ R.cells) (hn : slots + n ≤ R.slots) : Stand p l e { R with cells := k, slots := n } (own_at s T) m args below meth c T [] 0 0 := by
  obtain ⟨h1, h2, h3, h4, h5, h6⟩ := X.same
  have hT : (T.setVm s.vm).heap = T.heap := rfl
  have hT2 : (T.setVm s.vm).slotsUsed = T.slotsUsed := rfl
  rw [hT] at h2 h3 h4 h5
  rw [hT2] at h4
  have hb := X.book
  have hr := X.room
  have hdrop : T.heap.toList.drop T.heap.size = [] := by simp
  refine ⟨X.admits, X.cas, X.clock, X.frames, ?_, X.hears, X.method, X.code, X.here, X.tail, X.warmed, X.limits, X.bytes, ?_⟩
  · simp only [State.hasRoom, Bool.and_eq_true, decide_eq_true_eq] at hr ⊢
    obtain ⟨⟨⟨⟨r1, r2⟩, r3⟩, r4⟩, r5⟩ := hr
    refine ⟨⟨⟨⟨r1, r2⟩, ?_⟩, ?_⟩, hb⟩
    · show T.heap.size + k ≤ _; omega
    · show T.slotsUsed + n ≤ _; omega
  · refine ⟨h1, Nat.le_refl _, Nat.le_refl _, ?_, ?_, fun a cc hcc => ⟨cc, hcc, rfl, rfl, fun _ _ => rfl⟩⟩
    · show T.slotsUsed = T.slotsUsed + ((T.heap.toList.drop T.heap.size).map _).sum
      rw [hdrop]; rfl
    · show ((T.heap.toList.drop T.heap.size).map _).sum ≤ 0
      rw [hdrop]; exact Nat.le_refl _
theorem own_back {R' : Room} {T' : State} {c2 n2 : Nat} (X : Stand p l e R s m args below meth c T locs cells slots) (Y : Stand p l e R' ((own_at s T).setVm vm1) m args below meth c T' [] c2 n2) (hW : s.Warmed39 vm1) : Stand p l e R (s.setVm vm1) m args below meth c T' locs (cells + c2) (slots + n2) := by
  have X1 := X.retabled hW
  refine ⟨X1.admits, X1.cas, X1.clock, X1.frames, X1.room, X1.hears, X1.method, X1.code, Y.here, Y.tail, Y.warmed, Y.limits, Y.bytes, ?_⟩
  have hx : (s.setVm vm1).sameButNew (T.setVm vm1) locs cells slots := X1.same
  obtain ⟨y1, y2, y3, y4, y5, y6⟩ := Y.same
  have e1 : (T.setVm vm1).setFrames (T'.setVm vm1).frames = ({ (s.setVm vm1).setFrames (T'.setVm vm1).frames with heap := T.heap, slotsUsed := T.slotsUsed } : State) := by
    refine (congrArg (fun q : State => q.setFrames (T'.setVm vm1).frames) hx.1).trans ?_
    show ({ ((s.setVm vm1).setFrames (T.setVm vm1).frames).setFrames (T'.setVm vm1).frames with heap := T.heap, slotsUsed := T.slotsUsed } : State) = _
    rw [State.setFrames_setFrames]
  have hy : (T.setVm vm1).sameButNew (T'.setVm vm1) [] c2 n2 := by
    refine ⟨?_, y2, y3, y4, y5, y6⟩
    refine y1.trans ?_
    rw [e1]
    rfl
  have hz := hx.trans hy
  rw [List.append_nil] at hz
  exact hz
/-- a String constant's first load in this run, wherever the walk has written -/
theorem own_ldcI (X : Stand p l e R (s.setVm vm0) m args below meth c T locs cells slots) (hx : p.tables.exec = Jvm.exec) (hZ : Z.Warmed39 vm0) (hown : vm0.findClass own = some m.cls) (w : (Cond.stringLink own index text).before a0 Z = true) (wS : ∀ a ∈ Bundle.stringAtoms, a.before a0 Z = true)
    (eT : T.heap = h) {k0 : Nat} (hS : s.Since vm0 k0) (hk : k0 ≤ h.size) (hkeep : ∀ (b : Addr) (cl : Cell), Z.heap[b]? = some cl → h[b]? = some cl) (I : IB Z vm0 Ts) (hnot : text ∉ Ts) (hh : Jvm.Lit.constHeld Z own index) (hcw : Jvm.Lit.compactW.before a0 Z = true)
    {vs : List Value} {z : Int32} (ht : (∀ c ∈ text.toList, c.toNat < 256) ∧ text.toList.map (fun c => Value.int (Jvm.Lit.byteI c.toNat.toUInt16)) = vs) (hz : ¬ z < 0) (hl : z.toNatClampNeg = vs.length)
    {g : JFrame} (hg : g.method = m) (hd : decode c.code g.pc = .ok (.ldc index, 2)) {n : Nat} (hn : 4 * text.toList.length ≤ n) (hbig : n ≤ 536870912) (hc : cells + 2 ≤ R.cells) (hl' : slots + (n + 4) ≤ R.slots) :
    ∃ (a : Addr) (T' : State) (h' : Heap) (k1 : Nat) (b : Addr) (k : ClassId), Stand p l e R (s.setVm T'.vm) m args below meth c T' locs (cells + 2) (slots + (n + 4)) ∧ T'.heap = h' ∧ Ext h h' ∧ s.Since T'.vm k1 ∧ k1 ≤ h'.size ∧ Z.Warmed39 (s.setVm T'.vm).vm ∧ (s.setVm T'.vm).vm.findClass own = some m.cls ∧
      Exa Z h' a "java/lang/String" ∧ Fld Z h' a "java/lang/String" "coder" "B" (.int 0) ∧ Fld Z h' a "java/lang/String" "value" "[B" (.ref b) ∧ Arv Z h' b k .byte z vs (.int 0) ∧ IB Z T'.vm (text :: Ts) ∧ Lit (s.setVm T'.vm) own index a ∧
      ∀ target, Steps p.tables e below (T'.setTop { g with pc := g.pc + 2, stack := .ref a :: g.stack }) target → Steps p.tables e below (T.setTop g) target := by
  subst eT
  have Y0 : Stand p l e { R with cells := 2, slots := n + 4 } ((own_at (s.setVm vm0) T).setVm vm0) m args below meth c T [] 0 0 := own_reb X (k := 2) (n := n + 4) hc hl'
  have hS0 : (own_at (s.setVm vm0) T).Since vm0 0 := (State.WarmedH.refl (own_at (s.setVm vm0) T)).since 0
  obtain ⟨a, T', h', k1, b, k, X', e', E, hS', hk', hZ', hown', r1, r2, r3, r4, -, -, r5, r6, -, st⟩ := ldcSVd (s := own_at (s.setVm vm0) T) Y0 hx hZ hown w wS rfl hS0 (Nat.zero_le _) (Fr.nil _) hkeep I hnot hh hcw ht hz hl hg hd hn hbig (Nat.le_refl _) (Nat.le_of_eq (Nat.zero_add _))
  have hW : (s.setVm vm0).Warmed39 T'.vm := hS'.1
  have Xb := own_back (s := s.setVm vm0) X X' hW
  rw [Nat.zero_add, Nat.zero_add] at Xb
  have hS2 : (s.setVm vm0).Since T'.vm h'.size := ⟨hW, fun j q hj hq => ⟨Nat.le_trans X.same.2.1 (hS'.2 j q hj hq).1, Nat.lt_of_lt_of_le (hS'.2 j q hj hq).2 hk'⟩⟩
  exact ⟨a, T', h', h'.size, b, k, Xb, e', E, hS.trans hS2 (Nat.le_trans hk E.1), Nat.le_refl _, hZ', hown', r1, r2, r3, r4, r5, r6, st⟩
end OwnL
theorem own_callVW {En : State → Outcome → State → List Loc → Nat → Nat → Prop} {p : Program} {l : Launch} {e : Env} {R : Room} {s s0 : State} {m : MethodId} {args : Array Value} {below : List Frame} {meth : Method} {c : Code} {T : State} {locs : List Loc} {cells slots : Nat} {Z : State} {a0 : Array Value} {h : Heap} {Q Qc : Option Value → Heap → Vm → List Loc → Prop} {own C : String} {index : Nat} {y z : MethodName} {bytes : ByteArray} {maxL : Nat} {ret : Option FieldType} {rm : Room} {as' : Array Value} {PV : Vm → Prop} {g : JFrame} {vm0 : Vm} {k0 : Nat}
    (X : Stand p l e R (s.setVm vm0) m args below meth c T locs cells slots) (hx : p.tables.exec = Jvm.exec) (hZ : Z.Warmed39 vm0) (hown : vm0.findClass own = some m.cls) (hS : s.Since vm0 k0) (hk : k0 ≤ h.size)
    (w1 : (Jvm.Cond.methodLink own index y).before a0 Z = true) (w2 : (Jvm.Cond.declares y).before a0 Z = true) (hnf : NotFace (s.setVm vm0) y) (w5 : (Jvm.Cond.selects C y z).before a0 Z = true) (w6 : (Jvm.Cond.instanceMethod z).before a0 Z = true)
    (w3 : (Jvm.Cond.initialized z.cls).before a0 Z = true) (w4 : (Jvm.Cond.code z bytes maxL ret).before a0 Z = true)
    (hy : y.cls ≠ "java/lang/invoke/MethodHandle" ∧ y.cls ≠ "java/lang/invoke/VarHandle") (hM : Ctr ReturnedEndW l Z z bytes maxL ret [] rm as' h PV Qc) (hV : ∀ vm', (s.setVm vm0).WarmedH vm' → PV vm') (eT : T.heap = h) {b : Addr} (E : Exa Z h b C)
    (hg : g.method = m) (hsize : g.locals.size = c.maxLocals) (argsL rest : List Value) (W : Nat) (hlen : ∀ sig, parseMethodDescriptor y.desc = some sig → argsL.length = sig.parameters.length)
    (hstack : g.stack = argsL.reverse ++ .ref b :: rest) (has : (Value.ref b :: argsL).toArray = as') (hW : 2 * g.monitorRoom + (rest.map fun v => v.category).sum ≤ W) (hdg : decode c.code g.pc = .ok (.invokevirtual index, 3))
    (hf : rm.frames + 1 ≤ R.frames) (hl : W + (maxL + 11) + rm.locals ≤ R.locals) (hc : cells + rm.cells ≤ R.cells) (hs : slots + rm.slots ≤ R.slots)
    (k : ∀ (T' : State) (v : Option Value) (L : List Loc), Stand p l e R (s.setVm T'.vm) m args below meth c T' (locs ++ L) (cells + rm.cells) (slots + rm.slots) → s.Since T'.vm T'.heap.size → Z.Warmed39 T'.vm → T'.vm.findClass own = some m.cls → (s.setVm vm0).Warmed39 T'.vm → Qc v T'.heap T'.vm L →
      Done En p e below s0 R Q (T'.setTop { g with pc := g.pc + 3, stack := v.toList ++ rest })) :
    Done En p e below s0 R Q (T.setTop g) := by
  subst has eT
  obtain ⟨cq, kq, qa, qb, qc⟩ := isOf (s := s.setVm vm0) (T := T) hZ rfl E
  obtain ⟨v, vm₁, ⟨T', L', k', n'⟩, hW1, X', hS', hgr, ⟨L, hq, e1, e2, e3⟩, st⟩ := virtualBackS (s := s.setVm vm0) X hx (y := y) (z := z) hown (mvT (s := s.setVm vm0) hZ w1) (mvT (s := s.setVm vm0) hZ w2) hnf (mvT (s := s.setVm vm0) hZ w5) (mvT (s := s.setVm vm0) hZ w6) hy (hM.backW (s := s.setVm vm0) (W := W) hZ hV w4 w3 hf hl) qa qc hg hsize (Steps.refl _) (argsL := argsL) (rest := rest) hlen hstack hW hdg (fun _ _ => ⟨rfl, rfl, hc, hs⟩)
  dsimp only [Pt.U, Pt.locs, Pt.cells, Pt.slots] at X' e1 e2 e3 st hq hS' hgr
  subst e1 e2 e3
  exact Done.go st (k T' v L X' (hS.trans hS' (Nat.le_trans hk hgr)) (State.Warmed39.trans (t := s.setVm vm0) hZ hS'.1) (by rw [hS'.1.alike.findClass]; exact hown) hS'.1 hq)
def QZ (Z : State) (n0 : Nat) (h0 : Heap) (xx : Addr) (v : Option Value) (h : Heap) (vm : Vm) (L : List Loc) : Prop := v = none ∧ Fr n0 L ∧ Keep h0 h [xx] ∧ ∃ (aa bb : Addr) (kk : ClassId), IB Z vm [""] ∧ Lit (Z.setVm vm) "java/lang/String" 7 aa ∧ Fld Z h aa "java/lang/String" "value" "[B" (.ref bb) ∧ Fld Z h aa "java/lang/String" "coder" "B" (.int (0 : Int32)) ∧ Arv Z h bb kk .byte (0 : Int32) [] (.int 0) ∧ aa ≠ xx ∧ bb ≠ xx ∧ Exa Z h xx "java/lang/String" ∧ Fld Z h xx "java/lang/String" "value" "[B" (.ref bb) ∧ Fld Z h xx "java/lang/String" "coder" "B" (.int (0 : Int32))
def QZ1 (Z : State) (n0 : Nat) (h0 : Heap) (xx bb : Addr) (v : Option Value) (h : Heap) (vm : Vm) (L : List Loc) : Prop := v = none ∧ Fr n0 L ∧ Keep h0 h [xx] ∧ Exa Z h xx "java/lang/String" ∧ Fld Z h xx "java/lang/String" "value" "[B" (.ref bb) ∧ Fld Z h xx "java/lang/String" "coder" "B" (.int (0 : Int32))
theorem own_emp : (∀ c ∈ "".toList, c.toNat < 256) ∧ "".toList.map (fun c => Value.int (Jvm.Lit.byteI c.toNat.toUInt16)) = [] := ⟨fun c hc => by simp at hc, rfl⟩
theorem own_ib {p : Program} {l : Launch} {e : Env} {R : Room} {s : State} {m : MethodId} {args : Array Value} {below : List Frame} {meth : Method} {c : Code} {T : State} {locs : List Loc} {cells slots : Nat} {Z : State} {vm0 : Vm} {Ts : List String} (X : Stand p l e R (s.setVm vm0) m args below meth c T locs cells slots) (I : IB Z vm0 Ts) : IB Z T.vm Ts := by
  have hi : T.vm.interned = vm0.interned := X.warmed.interned_eq
  obtain ⟨more, h1, h2⟩ := I
  exact ⟨more, hi.trans h1, h2⟩
theorem own_litS {s Z : State} {vm : Vm} {own : String} {i : Nat} {a : Addr} (L : Lit (s.setVm vm) own i a) : Lit (Z.setVm vm) own i a := L
theorem own_lit {p : Program} {l : Launch} {e : Env} {R : Room} {s : State} {m : MethodId} {args : Array Value} {below : List Frame} {meth : Method} {c : Code} {T : State} {locs : List Loc} {cells slots : Nat} {Z : State} {vm0 : Vm} {own : String} {i : Nat} {a : Addr} (X : Stand p l e R (s.setVm vm0) m args below meth c T locs cells slots) (L : Lit (s.setVm vm0) own i a) : Lit (Z.setVm T.vm) own i a :=
  own_litS (L.stays X.warmed.wide)
theorem own_ibV {s : State} {Z : State} {vm0 vm' : Vm} {Ts : List String} (I : IB Z vm0 Ts) (hW : (s.setVm vm0).WarmedH vm') : IB Z vm' Ts := by
  have hi : vm'.interned = vm0.interned := hW.interned_eq
  obtain ⟨more, h1, h2⟩ := I
  exact ⟨more, hi.trans h1, h2⟩
theorem own_litV {s Z : State} {vm0 vm' : Vm} {own : String} {i : Nat} {a : Addr} (L : Lit (Z.setVm vm0) own i a) (hW : (s.setVm vm0).WarmedH vm') : Lit (Z.setVm vm') own i a :=
  own_litS (s := s) ((own_litS L).stays hW.wide)
theorem own_litW {s Z : State} {vm0 vm' : Vm} {own : String} {i : Nat} {a : Addr} (L : Lit (Z.setVm vm0) own i a) (hW : (s.setVm vm0).Warmed39 vm') : Lit (Z.setVm vm') own i a :=
  own_litS (s := s) ((own_litS L).stays hW)
theorem pn_java_lang_String : plainName "java/lang/String" = true := by first | (simp [plainName, overriddenIn]; done) | decide +kernel
theorem d4_0 : decode jdk_42_method_149_code 0 = .ok (.aload_n 0, 1) := by decide +kernel
theorem d4_1 : decode jdk_42_method_149_code 1 = .ok (.invokespecial 1, 3) := by decide +kernel
theorem d4_4 : decode jdk_42_method_149_code 4 = .ok (.iload_n 3, 1) := by decide +kernel
theorem d4_5 : decode jdk_42_method_149_code 5 = .ok (.ifCond .ne 22, 3) := by decide +kernel
theorem d4_8 : decode jdk_42_method_149_code 8 = .ok (.aload_n 0, 1) := by decide +kernel
theorem d4_9 : decode jdk_42_method_149_code 9 = .ok (.ldc 7, 2) := by decide +kernel
theorem d4_11 : decode jdk_42_method_149_code 11 = .ok (.getfield 9, 3) := by decide +kernel
theorem d4_14 : decode jdk_42_method_149_code 14 = .ok (.putfield 9, 3) := by decide +kernel
theorem d4_17 : decode jdk_42_method_149_code 17 = .ok (.aload_n 0, 1) := by decide +kernel
theorem d4_18 : decode jdk_42_method_149_code 18 = .ok (.ldc 7, 2) := by decide +kernel
theorem d4_20 : decode jdk_42_method_149_code 20 = .ok (.getfield 15, 3) := by decide +kernel
theorem d4_23 : decode jdk_42_method_149_code 23 = .ok (.putfield 15, 3) := by decide +kernel
theorem d4_26 : decode jdk_42_method_149_code 26 = .ok (.return_, 1) := by decide +kernel
set_option maxRecDepth 65536 in
set_option maxHeartbeats 40000000 in
theorem rmZ4 (l : Launch) (Z : State) (a0 : Array Value) (hw : ∀ d ∈ tables_1, d.before a0 Z = true) (ws : List Jvm.Cond) (xx cA : Addr) (h0 : Heap) (n0 : Nat) (Z0 : n0 ≤ h0.size) (Ex : Exa Z h0 xx "java/lang/String") (Fv : Fld Z h0 xx "java/lang/String" "value" "[B" .null) (Fc : Fld Z h0 xx "java/lang/String" "coder" "B" (.int (0 : Int32))) (gx : n0 ≤ xx) (O0 : Old Z n0 h0) (hh : Jvm.Lit.constHeld Z "java/lang/String" 7) (hcw : Jvm.Lit.compactW.before a0 Z = true) :
    Ctr ReturnedEndW l Z (⟨"java/lang/String", "<init>", "([CIILjava/lang/Void;)V"⟩ : MethodName) jdk_42_method_149_code 6 none ws ({ frames := 1, cells := 2, slots := 4, locals := 12 } : Room) #[(.ref xx), (.ref cA), (.int (0 : Int32)), (.int (0 : Int32)), .null] h0 (fun vm => IB Z vm []) (QZ Z n0 h0 xx) := by
  refine Ctr.intro (plainFor_of_name pn_java_lang_String) (Ls := #[.val (.ref xx), .val (.ref cA), .val (.int (0 : Int32)), .val (.int (0 : Int32)), .val .null, .unset]) (fun m => by first | (simp [entryFrame, mkF, argsToLocals, Value.category]; done) | rfl) ?_
  intro p e s m below meth c T0 hx hby hml hown hnm hret hlk hZ hV hsh e0 X0
  have N0 := Fr.nil n0
  have hS : s.Since s.vm 0 := (State.WarmedH.refl s).since 0
  have hk : 0 ≤ h0.size := Nat.zero_le _
  have X0 : Stand p l e ({ frames := 1, cells := 2, slots := 4, locals := 12 } : Room) (s.setVm s.vm) m #[(.ref xx), (.ref cA), (.int (0 : Int32)), (.int (0 : Int32)), .null] below meth c T0 [] 0 0 := X0
  have hZ : Z.Warmed39 (s.setVm s.vm).vm := hZ
  have hown : (s.setVm s.vm).vm.findClass "java/lang/String" = some m.cls := hown
  have own_wS := own_wS0 hw
  show Done _ p e below s _ _ (T0.setTop (mkF m 0 #[oR xx, oR cA, oI (0 : Int32), oI (0 : Int32), .val .null, .unset] []))
  refine Done.step (fun _ => XS.aloadN X0.here hx rfl (hb hby d4_0) rfl rfl) ?_
  show Done _ p e below s _ _ (T0.setTop (mkF m 1 #[oR xx, oR cA, oI (0 : Int32), oI (0 : Int32), .val .null, .unset] [(.ref xx)]))
  obtain ⟨T1, X1, e1, st1⟩ := initO X0 hx hZ hown (wAt hw 20 rfl) (wAt hw 21 rfl) (wAt hw 22 rfl) e0 (g := (mkF m 1 #[oR xx, oR cA, oI (0 : Int32), oI (0 : Int32), .val .null, .unset] [(.ref xx)])) rfl (by rw [hml]; rfl) rfl (hb hby d4_1) (by decide) (W := 0) (by show 2 * 0 + _ ≤ _; exact Nat.le_of_eq rfl) (by decide)
  refine Done.step st1 ?_
  show Done _ p e below s _ _ (T1.setTop (mkF m 4 #[oR xx, oR cA, oI (0 : Int32), oI (0 : Int32), .val .null, .unset] []))
  refine Done.step (fun _ => XS.iloadN X1.here hx rfl (hb hby d4_4) rfl) ?_
  show Done _ p e below s _ _ (T1.setTop (mkF m 5 #[oR xx, oR cA, oI (0 : Int32), oI (0 : Int32), .val .null, .unset] [(.int (0 : Int32))]))
  refine Done.step (fun _ => XS.ifNo X1.here hx rfl (hb hby d4_5) rfl (XT.i0_ne_f rfl)) ?_
  show Done _ p e below s _ _ (T1.setTop (mkF m 8 #[oR xx, oR cA, oI (0 : Int32), oI (0 : Int32), .val .null, .unset] []))
  refine Done.step (fun _ => XS.aloadN X1.here hx rfl (hb hby d4_8) rfl rfl) ?_
  show Done _ p e below s _ _ (T1.setTop (mkF m 9 #[oR xx, oR cA, oI (0 : Int32), oI (0 : Int32), .val .null, .unset] [(.ref xx)]))
  obtain ⟨aa, T2, h2, k2, bb, kk, X2, e2, E2, hS, hk, hZ, hown, EA, FA2, FA1, FB, la, lb, IBn, LTn, hwh, st2⟩ := ldcSVd X1 hx hZ hown (wAt hw 23 rfl) own_wS e1 hS hk (Fr.nil _) (hsh ▸ O0.2.2) hV (List.not_mem_nil) hh hcw own_emp (z := (0 : Int32)) (by decide) (by decide) (g := (mkF m 9 #[oR xx, oR cA, oI (0 : Int32), oI (0 : Int32), .val .null, .unset] [(.ref xx)])) rfl (hb hby d4_9) (n := 0) (by decide) (by decide) (by decide) (by decide)
  have K2 := (Keep.refl h0 [xx]).ext E2
  have Zs2 := Nat.le_trans Z0 E2.1
  refine Done.step st2 ?_
  have f3 := (Fv.ext E2)
  have nax : aa ≠ xx := FA1.ne f3 (by simp)
  have f4 := (Ex.ext E2)
  have nbx : bb ≠ xx := Ne.symm (f4.neArv FB (wAt hw 10 rfl))
  show Done _ p e below s _ _ (T2.setTop (mkF m 11 #[oR xx, oR cA, oI (0 : Int32), oI (0 : Int32), .val .null, .unset] [(.ref aa), (.ref xx)]))
  obtain ⟨T5, X5, e5, st5⟩ := getF X2 hx hZ hown (host := "") (Or.inl (wAt hw 29 rfl)) Via.refl e2 FA1 (g := (mkF m 11 #[oR xx, oR cA, oI (0 : Int32), oI (0 : Int32), .val .null, .unset] [(.ref aa), (.ref xx)])) rfl rfl (hb hby d4_11)
  refine Done.step st5 ?_
  show Done _ p e below s _ _ (T5.setTop (mkF m 14 #[oR xx, oR cA, oI (0 : Int32), oI (0 : Int32), .val .null, .unset] [(.ref bb), (.ref xx)]))
  obtain ⟨T6, h6, X6, e6, W6, st6⟩ := putF X5 hx hZ hown (host := "") (Or.inl (wAt hw 29 rfl)) Via.refl e5 f3 f4 (Or.inr ⟨(wAt hw 25 rfl), rfl, hnm⟩) (wAt hw 10 rfl) (ty := (.array .byte)) (by decide) rfl rfl (g := (mkF m 14 #[oR xx, oR cA, oI (0 : Int32), oI (0 : Int32), .val .null, .unset] [(.ref bb), (.ref xx)])) rfl rfl (hb hby d4_14)
  have F6 := f3.same W6
  have N6 := Fr.snoc X6 N0 gx
  have Zs6 := Nat.le_trans Zs2 (Keep.of_wr W6).1
  have hk := Nat.le_trans hk (Keep.of_wr W6).1
  have K6 := K2.wr W6 (Or.inl (List.mem_of_getElem? (i := 0) rfl))
  refine Done.step st6 ?_
  show Done _ p e below s _ _ (T6.setTop (mkF m 17 #[oR xx, oR cA, oI (0 : Int32), oI (0 : Int32), .val .null, .unset] []))
  refine Done.step (fun _ => XS.aloadN X6.here hx rfl (hb hby d4_17) rfl rfl) ?_
  show Done _ p e below s _ _ (T6.setTop (mkF m 18 #[oR xx, oR cA, oI (0 : Int32), oI (0 : Int32), .val .null, .unset] [(.ref xx)]))
  refine Done.step (ldcAgain X6 hx hZ hown (wAt hw 23 rfl) LTn (g := (mkF m 18 #[oR xx, oR cA, oI (0 : Int32), oI (0 : Int32), .val .null, .unset] [(.ref xx)])) rfl (hb hby d4_18)) ?_
  show Done _ p e below s _ _ (T6.setTop (mkF m 20 #[oR xx, oR cA, oI (0 : Int32), oI (0 : Int32), .val .null, .unset] [(.ref aa), (.ref xx)]))
  have f8 := (FA2.other W6 (Or.inl nax))
  obtain ⟨T7, X7, e7, st7⟩ := getF X6 hx hZ hown (host := "") (Or.inl (wAt hw 30 rfl)) Via.refl e6 f8 (g := (mkF m 20 #[oR xx, oR cA, oI (0 : Int32), oI (0 : Int32), .val .null, .unset] [(.ref aa), (.ref xx)])) rfl rfl (hb hby d4_20)
  refine Done.step st7 ?_
  show Done _ p e below s _ _ (T7.setTop (mkF m 23 #[oR xx, oR cA, oI (0 : Int32), oI (0 : Int32), .val .null, .unset] [(.int (0 : Int32)), (.ref xx)]))
  have f10 := ((Fc.ext E2).other W6 (Or.inr (slot_ne (Or.inr (wAt hw 26 rfl)) (Or.inr (wAt hw 25 rfl)) (by decide) (t := .byte) (t' := (.array .byte)) (by decide) (by decide))))
  have f11 := (f4.wr W6)
  obtain ⟨T9, h9, X9, e9, W9, st9⟩ := putFN X7 hx hZ hown (wAt hw 30 rfl) Via.refl e7 f10 f11 (Or.inr ⟨(wAt hw 26 rfl), rfl, hnm⟩) (wAt hw 10 rfl) (ty := .byte) (v' := (.int (nar .byte (0 : Int32)))) (by decide) rfl (fits_nar_byte _) (g := (mkF m 23 #[oR xx, oR cA, oI (0 : Int32), oI (0 : Int32), .val .null, .unset] [(.int (0 : Int32)), (.ref xx)])) rfl rfl (hb hby d4_23)
  have F9 := f10.same W9
  have N9 := Fr.snoc X9 N6 gx
  have Zs9 := Nat.le_trans Zs6 (Keep.of_wr W9).1
  have hk := Nat.le_trans hk (Keep.of_wr W9).1
  have K9 := K6.wr W9 (Or.inl (List.mem_of_getElem? (i := 0) rfl))
  refine Done.step st9 ?_
  show Done _ p e below s _ _ (T9.setTop (mkF m 26 #[oR xx, oR cA, oI (0 : Int32), oI (0 : Int32), .val .null, .unset] []))
  have f12 := (f11.wr W9)
  have f13 := (F6.other W9 (Or.inr (slot_ne (Or.inr (wAt hw 25 rfl)) (Or.inr (wAt hw 26 rfl)) (by decide) (t := (.array .byte)) (t' := .byte) (by decide) (by decide))))
  have f14 := ((FA1.other W6 (Or.inl nax)).other W9 (Or.inl nax))
  have f15 := (f8.other W9 (Or.inl nax))
  have f16 := ((FB.other W6 nbx).other W9 nbx)
  refine Done.retV (leavesW X9 hS (by first | exact hk | (rw [e9]; exact hk)) hlk (by decide) (by decide)) X9 hx hret (hb hby d4_26) ?_
  rw [e9]
  exact ⟨rfl, N9, K9, aa, bb, kk, (own_ib X9 IBn), (own_lit X9 LTn), f14, f15, f16, nax, nbx, f12, f13, F9⟩
theorem d3_0 : decode jdk_42_method_3_code 0 = .ok (.aload_n 0, 1) := by decide +kernel
theorem d3_1 : decode jdk_42_method_3_code 1 = .ok (.aload_n 1, 1) := by decide +kernel
theorem d3_2 : decode jdk_42_method_3_code 2 = .ok (.iconst 0, 1) := by decide +kernel
theorem d3_3 : decode jdk_42_method_3_code 3 = .ok (.aload_n 1, 1) := by decide +kernel
theorem d3_4 : decode jdk_42_method_3_code 4 = .ok (.arraylength, 1) := by decide +kernel
theorem d3_5 : decode jdk_42_method_3_code 5 = .ok (.aconst_null, 1) := by decide +kernel
theorem d3_6 : decode jdk_42_method_3_code 6 = .ok (.invokespecial 27, 3) := by decide +kernel
theorem pd_0 : parseMethodDescriptor "([CIILjava/lang/Void;)V" = some ⟨[(.array .char), .int, .int, (.object "java/lang/Void")], none⟩ := by decide +kernel
theorem d3_9 : decode jdk_42_method_3_code 9 = .ok (.return_, 1) := by decide +kernel
set_option maxRecDepth 65536 in
set_option maxHeartbeats 40000000 in
theorem rmZ (l : Launch) (Z : State) (a0 : Array Value) (hw : ∀ d ∈ tables_1, d.before a0 Z = true) (ws : List Jvm.Cond) (xx cA : Addr) (kc : ClassId) (h0 : Heap) (n0 : Nat) (Z0 : n0 ≤ h0.size) (VA : Arv Z h0 cA kc .char (0 : Int32) [] (.int (0 : Int32))) (Ex : Exa Z h0 xx "java/lang/String") (Fv : Fld Z h0 xx "java/lang/String" "value" "[B" .null) (Fc : Fld Z h0 xx "java/lang/String" "coder" "B" (.int (0 : Int32))) (gx : n0 ≤ xx) (O0 : Old Z n0 h0) (hh : Jvm.Lit.constHeld Z "java/lang/String" 7) (hcw : Jvm.Lit.compactW.before a0 Z = true) :
    Ctr ReturnedEndW l Z (⟨"java/lang/String", "<init>", "([C)V"⟩ : MethodName) jdk_42_method_3_code 2 none ws ({ frames := 2, cells := 2, slots := 4, locals := 34 } : Room) #[(.ref xx), (.ref cA)] h0 (fun vm => IB Z vm []) (QZ Z n0 h0 xx) := by
  refine Ctr.intro (plainFor_of_name pn_java_lang_String) (Ls := #[.val (.ref xx), .val (.ref cA)]) (fun m => by first | (simp [entryFrame, mkF, argsToLocals, Value.category]; done) | rfl) ?_
  intro p e s m below meth c T0 hx hby hml hown hnm hret hlk hZ hV hsh e0 X0
  have N0 := Fr.nil n0
  have hS : s.Since s.vm 0 := (State.WarmedH.refl s).since 0
  have hk : 0 ≤ h0.size := Nat.zero_le _
  have X0 : Stand p l e ({ frames := 2, cells := 2, slots := 4, locals := 34 } : Room) (s.setVm s.vm) m #[(.ref xx), (.ref cA)] below meth c T0 [] 0 0 := X0
  have hZ : Z.Warmed39 (s.setVm s.vm).vm := hZ
  have hown : (s.setVm s.vm).vm.findClass "java/lang/String" = some m.cls := hown
  show Done _ p e below s _ _ (T0.setTop (mkF m 0 #[oR xx, oR cA] []))
  refine Done.step (fun _ => XS.aloadN X0.here hx rfl (hb hby d3_0) rfl rfl) ?_
  show Done _ p e below s _ _ (T0.setTop (mkF m 1 #[oR xx, oR cA] [(.ref xx)]))
  refine Done.step (fun _ => XS.aloadN X0.here hx rfl (hb hby d3_1) rfl rfl) ?_
  show Done _ p e below s _ _ (T0.setTop (mkF m 2 #[oR xx, oR cA] [(.ref cA), (.ref xx)]))
  refine Done.step (fun _ => XT.iconstV X0.here hx rfl (0 : Int32) (hb hby d3_2) (by decide)) ?_
  show Done _ p e below s _ _ (T0.setTop (mkF m 3 #[oR xx, oR cA] [(.int (0 : Int32)), (.ref cA), (.ref xx)]))
  refine Done.step (fun _ => XS.aloadN X0.here hx rfl (hb hby d3_3) rfl rfl) ?_
  show Done _ p e below s _ _ (T0.setTop (mkF m 4 #[oR xx, oR cA] [(.ref cA), (.int (0 : Int32)), (.ref cA), (.ref xx)]))
  obtain ⟨cl1, Ar1, q1, S1, Nn1, H1, G1⟩ := id VA
  refine Done.step (X0.arraylength hx (by first | exact Ar1.1 | (rw [e0]; exact Ar1.1)) (State.isArrayOf_alike hZ.alike Ar1.2.1) (g := (mkF m 4 #[oR xx, oR cA] [(.ref cA), (.int (0 : Int32)), (.ref cA), (.ref xx)])) rfl rfl (hb hby d3_4)) ?_
  rw [len_of S1 Nn1]
  show Done _ p e below s _ _ (T0.setTop (mkF m 5 #[oR xx, oR cA] [(.int (0 : Int32)), (.int (0 : Int32)), (.ref cA), (.ref xx)]))
  refine Done.step (fun _ => XS.aconstNull X0.here hx rfl (hb hby d3_5)) ?_
  show Done _ p e below s _ _ (T0.setTop (mkF m 6 #[oR xx, oR cA] [.null, (.int (0 : Int32)), (.int (0 : Int32)), (.ref cA), (.ref xx)]))
  refine Done.callIW X0 hx hZ rfl hown hS hk (wAt hw 16 rfl) (wAt hw 17 rfl) (wAt hw 11 rfl) (wAt hw 19 rfl) (by decide) (rmZ4 l Z a0 hw [] xx cA h0 n0 Z0 Ex Fv Fc gx O0 hh hcw) (fun vm' hW => own_ibV hV hW) e0 (g := (mkF m 6 #[oR xx, oR cA] [.null, (.int (0 : Int32)), (.int (0 : Int32)), (.ref cA), (.ref xx)])) rfl (by rw [hml]; rfl) xx [(.ref cA), (.int (0 : Int32)), (.int (0 : Int32)), .null] [] 0 (lenOf pd_0 rfl) rfl rfl (by show 2 * 0 + _ ≤ _; exact Nat.le_of_eq rfl) (hb hby d3_6) (by decide) (by decide) (by decide) (by decide) ?_
  intro T2 v2 L2 X2 hS hZ hown hW2 q2
  have hk := Nat.le_refl T2.heap.size
  obtain ⟨rfl, Nq2, K2q, aaq, bbq, kkq, IBqq, LTqq, FAvq, FAcq, FBqq, naxq, nbxq, Exqq, Fvqq, Fcqq⟩ := q2
  have N2 := Fr.app N0 Nq2
  have Zs2 := Nat.le_trans Z0 K2q.1
  have K2 := (Keep.refl h0 [xx]).trans K2q (allS (Or.inl (List.mem_of_getElem? (i := 0) rfl)) all0)
  show Done _ p e below s _ _ (T2.setTop (mkF m 9 #[oR xx, oR cA] []))
  exact Done.retV (leavesW X2 hS (by first | exact hk | (rw [rfl]; exact hk)) hlk (by decide) (by decide)) X2 hx hret (hb hby d3_9) ⟨rfl, N2, K2, aaq, bbq, kkq, (own_ib X2 IBqq), (own_lit X2 (own_litS LTqq)), FAvq, FAcq, FBqq, naxq, nbxq, Exqq, Fvqq, Fcqq⟩
def own_hi (c : Int32) : Int32 := nar .byte ((c >>> ((0 : Int32) &&& 31)).toInt8.toInt32)
def own_lo (c : Int32) : Int32 := nar .byte ((c >>> ((8 : Int32) &&& 31)).toInt8.toInt32)
def own_by (c : Int32) : Int32 := nar .byte (c.toInt8.toInt32)
def own_join (a b : Int32) : Int32 := nar .char ((((a &&& (255 : Int32)) <<< ((0 : Int32) &&& 31)) ||| ((b &&& (255 : Int32)) <<< ((8 : Int32) &&& 31))).toUInt32.toUInt16.toUInt32.toInt32)
theorem own_m255 (x : Int32) : (x &&& (255 : Int32)).toInt = x.toInt % 2 ^ 8 := Jvm.Kit.i32_mask x _ (k := 8) (by decide) (by decide)
theorem own_b8 (x : Int32) : (x.toInt8.toInt32).toInt % 256 = x.toInt % 256 := by
  rw [Int8.toInt_toInt32, Int32.toInt_toInt8]; exact Int.bmod_emod (m := 2 ^ 8)
theorem own_nn {A : Int32} (h0 : 0 ≤ A.toInt) : A.toBitVec.toNat = A.toInt.toNat := by
  rw [← Int32.toInt_toBitVec, BitVec.toInt_eq_toNat_bmod] at *
  rw [Int.bmod_def] at *
  split at * <;> omega
theorem own_or {A B : Int32} (hA : 0 ≤ A.toInt) (hA2 : A.toInt < 256) (hB : 0 ≤ B.toInt) (hB2 : B.toInt < 256) : ((A <<< ((0 : Int32) &&& 31)) ||| (B <<< ((8 : Int32) &&& 31))).toInt = A.toInt + B.toInt * 256 := by
  have a1 := own_nn hA
  have b1 := own_nn hB
  have e0 : A <<< ((0 : Int32) &&& 31) = A := by
    apply Int32.toBitVec_inj.mp; rw [Int32.toBitVec_shiftLeft]; show A.toBitVec <<< (0 : Nat) = _; simp
  have e : ((A <<< ((0 : Int32) &&& 31)) ||| (B <<< ((8 : Int32) &&& 31))).toBitVec.toNat = A.toInt.toNat + B.toInt.toNat * 256 := by
    rw [e0, Int32.toBitVec_or, Int32.toBitVec_shiftLeft]
    show (A.toBitVec ||| (B.toBitVec <<< (8 : Nat))).toNat = _
    rw [BitVec.toNat_or, BitVec.toNat_shiftLeft, a1, b1, Nat.shiftLeft_eq, Nat.mod_eq_of_lt (by omega), Nat.or_comm]
    rw [← Nat.shiftLeft_eq, ← Nat.shiftLeft_add_eq_or_of_lt (by omega : A.toInt.toNat < 2 ^ 8), Nat.shiftLeft_eq]
    omega
  rw [← Int32.toInt_toBitVec, BitVec.toInt_eq_toNat_of_lt (by omega), e]
  omega
theorem own_jn {c : Int32} (h : ¬ c < 0 ∧ ¬ (65535 : Int32) < c) : own_join (own_hi c) (own_lo c) = c := by
  obtain ⟨h0, h1⟩ := h
  have z : (0 : Int32).toInt = 0 := rfl
  have y : (65535 : Int32).toInt = 65535 := rfl
  rw [Int32.lt_iff_toInt_lt] at h0 h1
  have s0 : (c >>> ((0 : Int32) &&& 31)).toInt = c.toInt := by
    have : c >>> ((0 : Int32) &&& 31) = c := by apply Int32.toBitVec_inj.mp; rw [Int32.toBitVec_shiftRight]; show c.toBitVec.sshiftRight (0 : Nat) = _; simp
    rw [this]
  have s8 : (c >>> ((8 : Int32) &&& 31)).toInt = c.toInt / 256 := by
    rw [← Int32.toInt_toBitVec, Int32.toBitVec_shiftRight]; show (c.toBitVec.sshiftRight (8 : Nat)).toInt = _
    rw [BitVec.toInt_sshiftRight, Int32.toInt_toBitVec, Int.shiftRight_eq_div_pow]; rfl
  have A : (own_hi c &&& (255 : Int32)).toInt = c.toInt % 256 := by
    rw [own_m255]; unfold own_hi; show (Int8.toInt32 (Int32.toInt8 (Int8.toInt32 (Int32.toInt8 _)))).toInt % 256 = _
    rw [own_b8, own_b8, s0]
  have B : (own_lo c &&& (255 : Int32)).toInt = c.toInt / 256 % 256 := by
    rw [own_m255]; unfold own_lo; show (Int8.toInt32 (Int32.toInt8 (Int8.toInt32 (Int32.toInt8 _)))).toInt % 256 = _
    rw [own_b8, own_b8, s8]
  apply Int32.toInt_inj.mp
  unfold own_join
  show (Int32.toUInt32 _).toUInt16.toUInt32.toInt32.toInt = _
  rw [own_toInt16, own_toInt16, own_or (by omega) (by omega) (by omega) (by omega), A, B]
  omega
theorem own_jb {c : Int32} (h : ¬ c < 0 ∧ ¬ (255 : Int32) < c) : own_by c &&& (255 : Int32) = c := by
  obtain ⟨h0, h1⟩ := h
  have z : (0 : Int32).toInt = 0 := rfl
  have y : (255 : Int32).toInt = 255 := rfl
  rw [Int32.lt_iff_toInt_lt] at h0 h1
  apply Int32.toInt_inj.mp
  rw [own_m255]; unfold own_by; show (Int8.toInt32 (Int32.toInt8 (Int8.toInt32 (Int32.toInt8 _)))).toInt % 256 = _
  rw [own_b8, own_b8]; omega
theorem own_wide {c : Int32} (h : ¬ c < 0 ∧ ¬ (255 : Int32) < c) : ¬ c < 0 ∧ ¬ (65535 : Int32) < c := by
  have y : (255 : Int32).toInt = 255 := rfl
  have y2 : (65535 : Int32).toInt = 65535 := rfl
  rw [Int32.lt_iff_toInt_lt, Int32.lt_iff_toInt_lt] at *; omega
theorem own_c255 {c : Int32} (h : ¬ c < 0 ∧ ¬ (255 : Int32) < c) : c.toUInt32.toUInt16.toUInt32.toInt32 = c := own_nar (own_wide h).1 (own_wide h).2
theorem own_narI (x : Int32) : nar .char (x.toUInt32.toUInt16.toUInt32.toInt32) = x.toUInt32.toUInt16.toUInt32.toInt32 := by
  have h := own_toInt16 x
  have z : (0 : Int32).toInt = 0 := rfl
  have y : (65535 : Int32).toInt = 65535 := rfl
  refine own_nar ?_ ?_ <;> rw [Int32.lt_iff_toInt_lt, h] <;> omega
theorem own_big {c : Int32} (h : ¬ c < 0 ∧ ¬ (65535 : Int32) < c) (g : (255 : Int32) < c) : (255 : Int32) < own_join (own_hi c) (own_lo c) := by
  rw [own_jn h]; exact g
theorem own_nar2 {c : Int32} (h : ¬ c < 0 ∧ ¬ (65535 : Int32) < c) : nar .char c = c := own_nar h.1 h.2
theorem own_narj (a b : Int32) : nar .char (own_join a b) = own_join a b := own_narI _
theorem pn_jdk_internal_util_Preconditions : plainName "jdk/internal/util/Preconditions" = true := by first | (simp [plainName, overriddenIn]; done) | decide +kernel
theorem d21_0 : decode jdk_41_method_11_code 0 = .ok (.iload_n 0, 1) := by decide +kernel
theorem d21_1 : decode jdk_41_method_11_code 1 = .ok (.ifCond .lt 8, 3) := by decide +kernel
theorem d21_4 : decode jdk_41_method_11_code 4 = .ok (.iload_n 0, 1) := by decide +kernel
theorem d21_5 : decode jdk_41_method_11_code 5 = .ok (.iload_n 1, 1) := by decide +kernel
theorem d21_6 : decode jdk_41_method_11_code 6 = .ok (.if_icmp .lt 10, 3) := by decide +kernel
theorem d21_16 : decode jdk_41_method_11_code 16 = .ok (.iload_n 0, 1) := by decide +kernel
theorem d21_17 : decode jdk_41_method_11_code 17 = .ok (.ireturn, 1) := by decide +kernel
set_option maxRecDepth 65536 in
set_option maxHeartbeats 40000000 in
theorem rmPC (l : Launch) (Z : State) (a0 : Array Value) (hw : ∀ d ∈ tables_1, d.before a0 Z = true) (ws : List Jvm.Cond) (i n : Int32) (fm : Value) (h0 : Heap) (n0 : Nat) (Z0 : n0 ≤ h0.size) (rF : fm.isRef = true) (g0 : ¬ i < (0 : Int32)) (g1 : i < n) :
    Ctr FrameEnd l Z (⟨"jdk/internal/util/Preconditions", "checkIndex", "(IILjava/util/function/BiFunction;)I"⟩ : MethodName) jdk_41_method_11_code 3 (some .int) ws ({ frames := 0, cells := 0, slots := 0, locals := 0 } : Room) #[(.int i), (.int n), fm] h0 TrueV (PureQ (some (.int i)) h0) := by
  refine Ctr.intro (plainFor_of_name pn_jdk_internal_util_Preconditions) (Ls := #[.val (.int i), .val (.int n), .val fm]) (fun m => by rcases ref_cases rF with rfl | ⟨q, rfl⟩ <;> first | (simp [entryFrame, mkF, argsToLocals, Value.category]; done) | rfl) ?_
  intro p e s m below meth c T0 hx hby hml hown hnm hret hlk hZ hV hsh e0 X0
  have N0 := Fr.nil n0
  show Done _ p e below s _ _ (T0.setTop (mkF m 0 #[oI i, oI n, .val fm] []))
  refine Done.step (fun _ => XS.iloadN X0.here hx rfl (hb hby d21_0) rfl) ?_
  show Done _ p e below s _ _ (T0.setTop (mkF m 1 #[oI i, oI n, .val fm] [(.int i)]))
  refine Done.step (fun _ => XS.ifNo X0.here hx rfl (hb hby d21_1) rfl (XT.i0_lt_f g0)) ?_
  show Done _ p e below s _ _ (T0.setTop (mkF m 4 #[oI i, oI n, .val fm] []))
  refine Done.step (fun _ => XS.iloadN X0.here hx rfl (hb hby d21_4) rfl) ?_
  show Done _ p e below s _ _ (T0.setTop (mkF m 5 #[oI i, oI n, .val fm] [(.int i)]))
  refine Done.step (fun _ => XS.iloadN X0.here hx rfl (hb hby d21_5) rfl) ?_
  show Done _ p e below s _ _ (T0.setTop (mkF m 6 #[oI i, oI n, .val fm] [(.int n), (.int i)]))
  refine Done.step (fun _ => XS.icmpYes X0.here hx rfl (pc0 := 6) (pc' := 16) rfl (hb hby d21_6) rfl (XT.ii_lt_t g1) (by decide) (by decide)) ?_
  show Done _ p e below s _ _ (T0.setTop (mkF m 16 #[oI i, oI n, .val fm] []))
  refine Done.step (fun _ => XS.iloadN X0.here hx rfl (hb hby d21_16) rfl) ?_
  show Done _ p e below s _ _ (T0.setTop (mkF m 17 #[oI i, oI n, .val fm] [(.int i)]))
  exact Done.retI (leavesF X0 hlk (by decide) (by decide)) X0 hx hret (hb hby d21_17) ⟨rfl, e0, rfl⟩
theorem d20_0 : decode jdk_42_method_155_code 0 = .ok (.iload_n 0, 1) := by decide +kernel
theorem d20_1 : decode jdk_42_method_155_code 1 = .ok (.iload_n 1, 1) := by decide +kernel
theorem d20_2 : decode jdk_42_method_155_code 2 = .ok (.getstatic 1053, 3) := by decide +kernel
theorem d20_5 : decode jdk_42_method_155_code 5 = .ok (.invokestatic 1059, 3) := by decide +kernel
theorem pd_1 : parseMethodDescriptor "(IILjava/util/function/BiFunction;)I" = some ⟨[.int, .int, (.object "java/util/function/BiFunction")], some .int⟩ := by decide +kernel
theorem d20_8 : decode jdk_42_method_155_code 8 = .ok (.pop, 1) := by decide +kernel
theorem d20_9 : decode jdk_42_method_155_code 9 = .ok (.return_, 1) := by decide +kernel
set_option maxRecDepth 65536 in
set_option maxHeartbeats 40000000 in
theorem rmCI (l : Launch) (Z : State) (a0 : Array Value) (hw : ∀ d ∈ tables_1, d.before a0 Z = true) (ws : List Jvm.Cond) (i n z : Int32) (fm : Value) (h0 : Heap) (n0 : Nat) (Z0 : n0 ≤ h0.size) (O0 : Old Z n0 h0) (SC : Sta Z Z.heap "java/lang/String" "COMPACT_STRINGS" "Z" (.int z)) (hz : ¬ z = 0) (SF : Sta Z Z.heap "jdk/internal/util/Preconditions" "SIOOBE_FORMATTER" "Ljava/util/function/BiFunction;" fm) (rF : fm.isRef = true) (SA : Sta Z Z.heap "java/lang/StringUTF16" "$assertionsDisabled" "Z" (.int (1 : Int32))) (SH : Sta Z Z.heap "java/lang/StringUTF16" "HI_BYTE_SHIFT" "I" (.int (0 : Int32))) (SL : Sta Z Z.heap "java/lang/StringUTF16" "LO_BYTE_SHIFT" "I" (.int (8 : Int32))) (g0 : ¬ i < (0 : Int32)) (g1 : i < n) :
    Ctr FrameEnd l Z (⟨"java/lang/String", "checkIndex", "(II)V"⟩ : MethodName) jdk_42_method_155_code 2 none ws ({ frames := 1, cells := 0, slots := 0, locals := 14 } : Room) #[(.int i), (.int n)] h0 TrueV (PureQ none h0) := by
  refine Ctr.intro (plainFor_of_name pn_java_lang_String) (Ls := #[.val (.int i), .val (.int n)]) (fun m => by first | (simp [entryFrame, mkF, argsToLocals, Value.category]; done) | rfl) ?_
  intro p e s m below meth c T0 hx hby hml hown hnm hret hlk hZ hV hsh e0 X0
  have N0 := Fr.nil n0
  show Done _ p e below s _ _ (T0.setTop (mkF m 0 #[oI i, oI n] []))
  refine Done.step (fun _ => XS.iloadN X0.here hx rfl (hb hby d20_0) rfl) ?_
  show Done _ p e below s _ _ (T0.setTop (mkF m 1 #[oI i, oI n] [(.int i)]))
  refine Done.step (fun _ => XS.iloadN X0.here hx rfl (hb hby d20_1) rfl) ?_
  show Done _ p e below s _ _ (T0.setTop (mkF m 2 #[oI i, oI n] [(.int n), (.int i)]))
  obtain ⟨T1, X1, e1, st1⟩ := getS2 X0 hx hZ hown (host := "") (Or.inl (wAt hw 59 rfl)) Via.refl e0 (SF.ext O0.2) (g := (mkF m 2 #[oI i, oI n] [(.int n), (.int i)])) rfl (hb hby d20_2)
  refine Done.step st1 ?_
  show Done _ p e below s _ _ (T1.setTop (mkF m 5 #[oI i, oI n] [fm, (.int n), (.int i)]))
  refine Done.callSP X1 hx hZ hown (wAt hw 95 rfl) (wAt hw 96 rfl) (wAt hw 60 rfl) (wAt hw 97 rfl) (by decide) (rmPC l Z a0 hw [] i n fm h0 n0 Z0 rF g0 g1) e1 (g := (mkF m 5 #[oI i, oI n] [fm, (.int n), (.int i)])) rfl (by rw [hml]; rfl) [(.int i), (.int n), fm] [] 0 (lenOf pd_1 rfl) rfl rfl (by show 2 * 0 + _ ≤ _; exact Nat.le_of_eq rfl) (hb hby d20_5) (by decide) (by decide) (by decide) (by decide) rfl rfl ?_
  intro T2 X2 e2
  show Done _ p e below s _ _ (T2.setTop (mkF m 8 #[oI i, oI n] [(.int i)]))
  refine Done.step (fun _ => XT.pop X2.here hx rfl (hb hby d20_8) rfl rfl) ?_
  show Done _ p e below s _ _ (T2.setTop (mkF m 9 #[oI i, oI n] []))
  exact Done.retV (leavesF X2 hlk (by decide) (by decide)) X2 hx hret (hb hby d20_9) ⟨rfl, e2, rfl⟩
theorem d9_0 : decode jdk_42_method_152_code 0 = .ok (.getstatic 38, 3) := by decide +kernel
theorem d9_3 : decode jdk_42_method_152_code 3 = .ok (.ifCond .eq 10, 3) := by decide +kernel
theorem d9_6 : decode jdk_42_method_152_code 6 = .ok (.aload_n 0, 1) := by decide +kernel
theorem d9_7 : decode jdk_42_method_152_code 7 = .ok (.getfield 15, 3) := by decide +kernel
theorem d9_10 : decode jdk_42_method_152_code 10 = .ok (.goto 4, 3) := by decide +kernel
theorem d9_14 : decode jdk_42_method_152_code 14 = .ok (.ireturn, 1) := by decide +kernel
set_option maxRecDepth 65536 in
set_option maxHeartbeats 40000000 in
theorem rmCo0 (l : Launch) (Z : State) (a0 : Array Value) (hw : ∀ d ∈ tables_1, d.before a0 Z = true) (ws : List Jvm.Cond) (x1 : Addr) (z : Int32) (fm : Value) (h0 : Heap) (n0 : Nat) (Z0 : n0 ≤ h0.size) (O0 : Old Z n0 h0) (SC : Sta Z Z.heap "java/lang/String" "COMPACT_STRINGS" "Z" (.int z)) (hz : ¬ z = 0) (SF : Sta Z Z.heap "jdk/internal/util/Preconditions" "SIOOBE_FORMATTER" "Ljava/util/function/BiFunction;" fm) (rF : fm.isRef = true) (SA : Sta Z Z.heap "java/lang/StringUTF16" "$assertionsDisabled" "Z" (.int (1 : Int32))) (SH : Sta Z Z.heap "java/lang/StringUTF16" "HI_BYTE_SHIFT" "I" (.int (0 : Int32))) (SL : Sta Z Z.heap "java/lang/StringUTF16" "LO_BYTE_SHIFT" "I" (.int (8 : Int32))) (C1 : Fld Z h0 x1 "java/lang/String" "coder" "B" (.int (0 : Int32))) :
    Ctr FrameEnd l Z (⟨"java/lang/String", "coder", "()B"⟩ : MethodName) jdk_42_method_152_code 1 (some .byte) ws ({ frames := 0, cells := 0, slots := 0, locals := 0 } : Room) #[(.ref x1)] h0 TrueV (PureQ (some (.int (0 : Int32))) h0) := by
  refine Ctr.intro (plainFor_of_name pn_java_lang_String) (Ls := #[.val (.ref x1)]) (fun m => by first | (simp [entryFrame, mkF, argsToLocals, Value.category]; done) | rfl) ?_
  intro p e s m below meth c T0 hx hby hml hown hnm hret hlk hZ hV hsh e0 X0
  have N0 := Fr.nil n0
  show Done _ p e below s _ _ (T0.setTop (mkF m 0 #[oR x1] []))
  obtain ⟨T1, X1, e1, st1⟩ := getS2 X0 hx hZ hown (host := "") (Or.inl (wAt hw 49 rfl)) Via.refl e0 (SC.ext O0.2) (g := (mkF m 0 #[oR x1] [])) rfl (hb hby d9_0)
  refine Done.step st1 ?_
  show Done _ p e below s _ _ (T1.setTop (mkF m 3 #[oR x1] [(.int z)]))
  refine Done.step (fun _ => XS.ifNo X1.here hx rfl (hb hby d9_3) rfl (XT.i0_eq_f hz)) ?_
  show Done _ p e below s _ _ (T1.setTop (mkF m 6 #[oR x1] []))
  refine Done.step (fun _ => XS.aloadN X1.here hx rfl (hb hby d9_6) rfl rfl) ?_
  show Done _ p e below s _ _ (T1.setTop (mkF m 7 #[oR x1] [(.ref x1)]))
  obtain ⟨T2, X2, e2, st2⟩ := getF X1 hx hZ hown (host := "") (Or.inl (wAt hw 30 rfl)) Via.refl e1 C1 (g := (mkF m 7 #[oR x1] [(.ref x1)])) rfl rfl (hb hby d9_7)
  refine Done.step st2 ?_
  show Done _ p e below s _ _ (T2.setTop (mkF m 10 #[oR x1] [(.int (0 : Int32))]))
  refine Done.step (fun _ => XS.goto X2.here hx rfl (pc0 := 10) (pc' := 14) rfl (hb hby d9_10) (by decide) (by decide)) ?_
  show Done _ p e below s _ _ (T2.setTop (mkF m 14 #[oR x1] [(.int (0 : Int32))]))
  exact Done.retN (leavesF X2 hlk (by decide) (by decide)) X2 hx (t := .byte) hret (by simp) (hb hby d9_14) ⟨rfl, e2, rfl⟩
theorem d18_0 : decode jdk_42_method_154_code 0 = .ok (.getstatic 38, 3) := by decide +kernel
theorem d18_3 : decode jdk_42_method_154_code 3 = .ok (.ifCond .eq 14, 3) := by decide +kernel
theorem d18_6 : decode jdk_42_method_154_code 6 = .ok (.aload_n 0, 1) := by decide +kernel
theorem d18_7 : decode jdk_42_method_154_code 7 = .ok (.getfield 15, 3) := by decide +kernel
theorem d18_10 : decode jdk_42_method_154_code 10 = .ok (.ifCond .ne 7, 3) := by decide +kernel
theorem d18_13 : decode jdk_42_method_154_code 13 = .ok (.iconst 1, 1) := by decide +kernel
theorem d18_14 : decode jdk_42_method_154_code 14 = .ok (.goto 4, 3) := by decide +kernel
theorem d18_18 : decode jdk_42_method_154_code 18 = .ok (.ireturn, 1) := by decide +kernel
set_option maxRecDepth 65536 in
set_option maxHeartbeats 40000000 in
theorem rmIL0 (l : Launch) (Z : State) (a0 : Array Value) (hw : ∀ d ∈ tables_1, d.before a0 Z = true) (ws : List Jvm.Cond) (x1 : Addr) (z : Int32) (fm : Value) (h0 : Heap) (n0 : Nat) (Z0 : n0 ≤ h0.size) (O0 : Old Z n0 h0) (SC : Sta Z Z.heap "java/lang/String" "COMPACT_STRINGS" "Z" (.int z)) (hz : ¬ z = 0) (SF : Sta Z Z.heap "jdk/internal/util/Preconditions" "SIOOBE_FORMATTER" "Ljava/util/function/BiFunction;" fm) (rF : fm.isRef = true) (SA : Sta Z Z.heap "java/lang/StringUTF16" "$assertionsDisabled" "Z" (.int (1 : Int32))) (SH : Sta Z Z.heap "java/lang/StringUTF16" "HI_BYTE_SHIFT" "I" (.int (0 : Int32))) (SL : Sta Z Z.heap "java/lang/StringUTF16" "LO_BYTE_SHIFT" "I" (.int (8 : Int32))) (C1 : Fld Z h0 x1 "java/lang/String" "coder" "B" (.int (0 : Int32))) :
    Ctr FrameEnd l Z (⟨"java/lang/String", "isLatin1", "()Z"⟩ : MethodName) jdk_42_method_154_code 1 (some .boolean) ws ({ frames := 0, cells := 0, slots := 0, locals := 0 } : Room) #[(.ref x1)] h0 TrueV (PureQ (some (.int (1 : Int32))) h0) := by
  refine Ctr.intro (plainFor_of_name pn_java_lang_String) (Ls := #[.val (.ref x1)]) (fun m => by first | (simp [entryFrame, mkF, argsToLocals, Value.category]; done) | rfl) ?_
  intro p e s m below meth c T0 hx hby hml hown hnm hret hlk hZ hV hsh e0 X0
  have N0 := Fr.nil n0
  show Done _ p e below s _ _ (T0.setTop (mkF m 0 #[oR x1] []))
  obtain ⟨T1, X1, e1, st1⟩ := getS2 X0 hx hZ hown (host := "") (Or.inl (wAt hw 49 rfl)) Via.refl e0 (SC.ext O0.2) (g := (mkF m 0 #[oR x1] [])) rfl (hb hby d18_0)
  refine Done.step st1 ?_
  show Done _ p e below s _ _ (T1.setTop (mkF m 3 #[oR x1] [(.int z)]))
  refine Done.step (fun _ => XS.ifNo X1.here hx rfl (hb hby d18_3) rfl (XT.i0_eq_f hz)) ?_
  show Done _ p e below s _ _ (T1.setTop (mkF m 6 #[oR x1] []))
  refine Done.step (fun _ => XS.aloadN X1.here hx rfl (hb hby d18_6) rfl rfl) ?_
  show Done _ p e below s _ _ (T1.setTop (mkF m 7 #[oR x1] [(.ref x1)]))
  obtain ⟨T2, X2, e2, st2⟩ := getF X1 hx hZ hown (host := "") (Or.inl (wAt hw 30 rfl)) Via.refl e1 C1 (g := (mkF m 7 #[oR x1] [(.ref x1)])) rfl rfl (hb hby d18_7)
  refine Done.step st2 ?_
  show Done _ p e below s _ _ (T2.setTop (mkF m 10 #[oR x1] [(.int (0 : Int32))]))
  refine Done.step (fun _ => XS.ifNo X2.here hx rfl (hb hby d18_10) rfl (XT.i0_ne_f rfl)) ?_
  show Done _ p e below s _ _ (T2.setTop (mkF m 13 #[oR x1] []))
  refine Done.step (fun _ => XT.iconstV X2.here hx rfl (1 : Int32) (hb hby d18_13) (by decide)) ?_
  show Done _ p e below s _ _ (T2.setTop (mkF m 14 #[oR x1] [(.int (1 : Int32))]))
  refine Done.step (fun _ => XS.goto X2.here hx rfl (pc0 := 14) (pc' := 18) rfl (hb hby d18_14) (by decide) (by decide)) ?_
  show Done _ p e below s _ _ (T2.setTop (mkF m 18 #[oR x1] [(.int (1 : Int32))]))
  exact Done.retN (leavesF X2 hlk (by decide) (by decide)) X2 hx (t := .boolean) hret (by simp) (hb hby d18_18) ⟨rfl, e2, rfl⟩
set_option maxRecDepth 65536 in
set_option maxHeartbeats 40000000 in
theorem rmCo1 (l : Launch) (Z : State) (a0 : Array Value) (hw : ∀ d ∈ tables_1, d.before a0 Z = true) (ws : List Jvm.Cond) (x1 : Addr) (z : Int32) (fm : Value) (h0 : Heap) (n0 : Nat) (Z0 : n0 ≤ h0.size) (O0 : Old Z n0 h0) (SC : Sta Z Z.heap "java/lang/String" "COMPACT_STRINGS" "Z" (.int z)) (hz : ¬ z = 0) (SF : Sta Z Z.heap "jdk/internal/util/Preconditions" "SIOOBE_FORMATTER" "Ljava/util/function/BiFunction;" fm) (rF : fm.isRef = true) (SA : Sta Z Z.heap "java/lang/StringUTF16" "$assertionsDisabled" "Z" (.int (1 : Int32))) (SH : Sta Z Z.heap "java/lang/StringUTF16" "HI_BYTE_SHIFT" "I" (.int (0 : Int32))) (SL : Sta Z Z.heap "java/lang/StringUTF16" "LO_BYTE_SHIFT" "I" (.int (8 : Int32))) (C1 : Fld Z h0 x1 "java/lang/String" "coder" "B" (.int (1 : Int32))) :
    Ctr FrameEnd l Z (⟨"java/lang/String", "coder", "()B"⟩ : MethodName) jdk_42_method_152_code 1 (some .byte) ws ({ frames := 0, cells := 0, slots := 0, locals := 0 } : Room) #[(.ref x1)] h0 TrueV (PureQ (some (.int (1 : Int32))) h0) := by
  refine Ctr.intro (plainFor_of_name pn_java_lang_String) (Ls := #[.val (.ref x1)]) (fun m => by first | (simp [entryFrame, mkF, argsToLocals, Value.category]; done) | rfl) ?_
  intro p e s m below meth c T0 hx hby hml hown hnm hret hlk hZ hV hsh e0 X0
  have N0 := Fr.nil n0
  show Done _ p e below s _ _ (T0.setTop (mkF m 0 #[oR x1] []))
  obtain ⟨T1, X1, e1, st1⟩ := getS2 X0 hx hZ hown (host := "") (Or.inl (wAt hw 49 rfl)) Via.refl e0 (SC.ext O0.2) (g := (mkF m 0 #[oR x1] [])) rfl (hb hby d9_0)
  refine Done.step st1 ?_
  show Done _ p e below s _ _ (T1.setTop (mkF m 3 #[oR x1] [(.int z)]))
  refine Done.step (fun _ => XS.ifNo X1.here hx rfl (hb hby d9_3) rfl (XT.i0_eq_f hz)) ?_
  show Done _ p e below s _ _ (T1.setTop (mkF m 6 #[oR x1] []))
  refine Done.step (fun _ => XS.aloadN X1.here hx rfl (hb hby d9_6) rfl rfl) ?_
  show Done _ p e below s _ _ (T1.setTop (mkF m 7 #[oR x1] [(.ref x1)]))
  obtain ⟨T2, X2, e2, st2⟩ := getF X1 hx hZ hown (host := "") (Or.inl (wAt hw 30 rfl)) Via.refl e1 C1 (g := (mkF m 7 #[oR x1] [(.ref x1)])) rfl rfl (hb hby d9_7)
  refine Done.step st2 ?_
  show Done _ p e below s _ _ (T2.setTop (mkF m 10 #[oR x1] [(.int (1 : Int32))]))
  refine Done.step (fun _ => XS.goto X2.here hx rfl (pc0 := 10) (pc' := 14) rfl (hb hby d9_10) (by decide) (by decide)) ?_
  show Done _ p e below s _ _ (T2.setTop (mkF m 14 #[oR x1] [(.int (1 : Int32))]))
  exact Done.retN (leavesF X2 hlk (by decide) (by decide)) X2 hx (t := .byte) hret (by simp) (hb hby d9_14) ⟨rfl, e2, rfl⟩
theorem d18_17 : decode jdk_42_method_154_code 17 = .ok (.iconst 0, 1) := by decide +kernel
set_option maxRecDepth 65536 in
set_option maxHeartbeats 40000000 in
theorem rmIL1 (l : Launch) (Z : State) (a0 : Array Value) (hw : ∀ d ∈ tables_1, d.before a0 Z = true) (ws : List Jvm.Cond) (x1 : Addr) (z : Int32) (fm : Value) (h0 : Heap) (n0 : Nat) (Z0 : n0 ≤ h0.size) (O0 : Old Z n0 h0) (SC : Sta Z Z.heap "java/lang/String" "COMPACT_STRINGS" "Z" (.int z)) (hz : ¬ z = 0) (SF : Sta Z Z.heap "jdk/internal/util/Preconditions" "SIOOBE_FORMATTER" "Ljava/util/function/BiFunction;" fm) (rF : fm.isRef = true) (SA : Sta Z Z.heap "java/lang/StringUTF16" "$assertionsDisabled" "Z" (.int (1 : Int32))) (SH : Sta Z Z.heap "java/lang/StringUTF16" "HI_BYTE_SHIFT" "I" (.int (0 : Int32))) (SL : Sta Z Z.heap "java/lang/StringUTF16" "LO_BYTE_SHIFT" "I" (.int (8 : Int32))) (C1 : Fld Z h0 x1 "java/lang/String" "coder" "B" (.int (1 : Int32))) :
    Ctr FrameEnd l Z (⟨"java/lang/String", "isLatin1", "()Z"⟩ : MethodName) jdk_42_method_154_code 1 (some .boolean) ws ({ frames := 0, cells := 0, slots := 0, locals := 0 } : Room) #[(.ref x1)] h0 TrueV (PureQ (some (.int (0 : Int32))) h0) := by
  refine Ctr.intro (plainFor_of_name pn_java_lang_String) (Ls := #[.val (.ref x1)]) (fun m => by first | (simp [entryFrame, mkF, argsToLocals, Value.category]; done) | rfl) ?_
  intro p e s m below meth c T0 hx hby hml hown hnm hret hlk hZ hV hsh e0 X0
  have N0 := Fr.nil n0
  show Done _ p e below s _ _ (T0.setTop (mkF m 0 #[oR x1] []))
  obtain ⟨T1, X1, e1, st1⟩ := getS2 X0 hx hZ hown (host := "") (Or.inl (wAt hw 49 rfl)) Via.refl e0 (SC.ext O0.2) (g := (mkF m 0 #[oR x1] [])) rfl (hb hby d18_0)
  refine Done.step st1 ?_
  show Done _ p e below s _ _ (T1.setTop (mkF m 3 #[oR x1] [(.int z)]))
  refine Done.step (fun _ => XS.ifNo X1.here hx rfl (hb hby d18_3) rfl (XT.i0_eq_f hz)) ?_
  show Done _ p e below s _ _ (T1.setTop (mkF m 6 #[oR x1] []))
  refine Done.step (fun _ => XS.aloadN X1.here hx rfl (hb hby d18_6) rfl rfl) ?_
  show Done _ p e below s _ _ (T1.setTop (mkF m 7 #[oR x1] [(.ref x1)]))
  obtain ⟨T2, X2, e2, st2⟩ := getF X1 hx hZ hown (host := "") (Or.inl (wAt hw 30 rfl)) Via.refl e1 C1 (g := (mkF m 7 #[oR x1] [(.ref x1)])) rfl rfl (hb hby d18_7)
  refine Done.step st2 ?_
  show Done _ p e below s _ _ (T2.setTop (mkF m 10 #[oR x1] [(.int (1 : Int32))]))
  refine Done.step (fun _ => XS.ifYes X2.here hx rfl (pc0 := 10) (pc' := 17) rfl (hb hby d18_10) rfl (XT.i0_ne_t (by decide)) (by decide) (by decide)) ?_
  show Done _ p e below s _ _ (T2.setTop (mkF m 17 #[oR x1] []))
  refine Done.step (fun _ => XT.iconstV X2.here hx rfl (0 : Int32) (hb hby d18_17) (by decide)) ?_
  show Done _ p e below s _ _ (T2.setTop (mkF m 18 #[oR x1] [(.int (0 : Int32))]))
  exact Done.retN (leavesF X2 hlk (by decide) (by decide)) X2 hx (t := .boolean) hret (by simp) (hb hby d18_18) ⟨rfl, e2, rfl⟩
theorem own_oi {i : Nat} (h : i < 1000) : (Int32.ofNat i).toInt = i := Int32.toInt_ofNat_of_lt (by omega)
theorem own_lt {i j : Nat} (hi : i < 1000) (hj : j < 1000) : Int32.ofNat i < Int32.ofNat j ↔ i < j := by rw [Int32.lt_iff_toInt_lt, own_oi hi, own_oi hj]; omega
theorem own_nn0 {i : Nat} (hi : i < 1000) : ¬ Int32.ofNat i < (0 : Int32) := by
  rw [Int32.lt_iff_toInt_lt, own_oi hi]; have e : (0 : Int32).toInt = 0 := rfl; omega
theorem own_eqN {i j : Nat} (hi : i < 1000) (hj : j < 1000) : Int32.ofNat i = Int32.ofNat j ↔ i = j := ⟨fun h => by have q := congrArg Int32.toInt h; rw [own_oi hi, own_oi hj] at q; omega, fun h => by rw [h]⟩
theorem own_eq0 {i : Nat} (hi : i < 1000) : Int32.ofNat i = (0 : Int32) ↔ i = 0 := own_eqN (j := 0) hi (by omega)
theorem own_tn {i : Nat} (hi : i < 1000) : (Int32.ofNat i).toNatClampNeg = i := by
  show (Int32.ofNat i).toInt.toNat = i; rw [own_oi hi]; rfl
theorem own_ix {i n : Nat} (h : i < n) (hn : n < 1000) : ¬ Int32.ofNat i < (0 : Int32) ∧ Int32.ofNat i < Int32.ofNat n := ⟨own_nn0 (by omega), (own_lt (by omega) hn).mpr h⟩
theorem own_addN (i j : Nat) : Int32.ofNat i + Int32.ofNat j = Int32.ofNat (i + j) := (Int32.ofNat_add i j).symm
theorem own_inc (i : Nat) : Int32.ofNat i + (1 : Int32) = Int32.ofNat (i + 1) := own_addN i 1
theorem own_subN {i j : Nat} (h : j ≤ i) : Int32.ofNat i - Int32.ofNat j = Int32.ofNat (i - j) := by
  have e : Int32.ofNat i = Int32.ofNat (i - j) + Int32.ofNat j := by rw [own_addN]; congr 1; omega
  rw [e, Int32.add_sub_cancel]
theorem own_dec (i : Nat) : Int32.ofNat (i + 1) - (1 : Int32) = Int32.ofNat i := own_subN (i := i + 1) (j := 1) (by omega)
theorem own_dec2 (i : Nat) : Int32.ofNat (i + 1) + (-1 : Int32) = Int32.ofNat i := by
  rw [← own_dec i, Int32.sub_eq_add_neg]
theorem own_shl {i : Nat} (h : i < 9) : (Int32.ofNat i <<< ((1 : Int32) &&& 31)) = Int32.ofNat (2 * i) := (by decide +kernel : ∀ i < 9, (Int32.ofNat i <<< ((1 : Int32) &&& 31)) = Int32.ofNat (2 * i)) i h
theorem own_shr1 {i : Nat} (h : i < 9) : (Int32.ofNat (2 * i) >>> ((1 : Int32) &&& 31)) = Int32.ofNat i := (by decide +kernel : ∀ i < 9, (Int32.ofNat (2 * i) >>> ((1 : Int32) &&& 31)) = Int32.ofNat i) i h
theorem own_shr0 {i : Nat} (h : i < 9) : (Int32.ofNat i >>> ((0 : Int32) &&& 31)) = Int32.ofNat i := (by decide +kernel : ∀ i < 9, (Int32.ofNat i >>> ((0 : Int32) &&& 31)) = Int32.ofNat i) i h
theorem own_ior {i j k : Nat} (hi : i < 9) (hj : j < 9) (hk : k < 9) : ¬ ((Int32.ofNat i ||| Int32.ofNat j) ||| Int32.ofNat k) < (0 : Int32) := (by decide +kernel : ∀ i < 9, ∀ j < 9, ∀ k < 9, ¬ ((Int32.ofNat i ||| Int32.ofNat j) ||| Int32.ofNat k) < (0 : Int32)) i hi j hj k hk
theorem own_anti {a b : Int32} (h : ¬ a < b) (g : ¬ b < a) : a = b := by
  rw [Int32.lt_iff_toInt_lt] at h g; exact Int32.toInt_inj.mp (by omega)
def own_ll (cs : List Int32) : List Value := cs.map fun c => .int (own_by c)
def own_hl : List Int32 → List Value
  | [] => []
  | c :: cs => .int (own_hi c) :: .int (own_lo c) :: own_hl cs
theorem own_llL (cs : List Int32) : (own_ll cs).length = cs.length := by simp [own_ll]
theorem own_hlL : ∀ cs : List Int32, (own_hl cs).length = 2 * cs.length
  | [] => rfl
  | c :: cs => by show (own_hl cs).length + 1 + 1 = 2 * (cs.length + 1); rw [own_hlL cs]; omega
theorem own_llG {cs : List Int32} {i : Nat} (h : i < cs.length) (d : Value) : (own_ll cs).getD i d = .int (own_by (cs.getD i 0)) := by
  simp [own_ll, List.getD_eq_getElem?_getD, h]
theorem own_hlG : ∀ (cs : List Int32) (i : Nat) (h : i < cs.length) (d : Value), (own_hl cs).getD (2 * i) d = .int (own_hi (cs.getD i 0)) ∧ (own_hl cs).getD (2 * i + 1) d = .int (own_lo (cs.getD i 0))
  | [], i, h, d => absurd h (Nat.not_lt_zero _)
  | c :: cs, 0, h, d => ⟨rfl, rfl⟩
  | c :: cs, i + 1, h, d => own_hlG cs i (Nat.lt_of_succ_lt_succ h) d
theorem own_llS (cs : List Int32) (f m : Nat) : ((own_ll cs).drop f).take m = own_ll ((cs.drop f).take m) := by simp [own_ll, List.map_drop, List.map_take]
theorem own_hlD : ∀ (f : Nat) (cs : List Int32), (own_hl cs).drop (2 * f) = own_hl (cs.drop f)
  | 0, cs => rfl
  | f + 1, [] => by simp [own_hl]
  | f + 1, c :: cs => own_hlD f cs
theorem own_hlT : ∀ (m : Nat) (cs : List Int32), (own_hl cs).take (2 * m) = own_hl (cs.take m)
  | 0, cs => by simp [own_hl]
  | m + 1, [] => by simp [own_hl]
  | m + 1, c :: cs => by
    show (Value.int (own_hi c) :: Value.int (own_lo c) :: own_hl cs).take (2 * m + 1 + 1) = _
    rw [List.take_succ_cons, List.take_succ_cons, own_hlT m cs]; rfl
theorem own_hlS (cs : List Int32) (f m : Nat) : ((own_hl cs).drop (2 * f)).take (2 * m) = own_hl ((cs.drop f).take m) := by rw [own_hlD, own_hlT]
theorem own_subL {cs : List Int32} {f m : Nat} (h : f + m ≤ cs.length) : ((cs.drop f).take m).length = m := by simp; omega
theorem own_subG {cs : List Int32} {f m k : Nat} (h : k < m) : ((cs.drop f).take m).getD k 0 = cs.getD (f + k) 0 := by
  simp [List.getD_eq_getElem?_getD, List.getElem?_take, h]
theorem own_mem {P : Int32 → Prop} {cs : List Int32} (hb : ∀ c ∈ cs, P c) {i : Nat} (h : i < cs.length) : P (cs.getD i 0) := by
  have e : cs.getD i 0 = cs[i] := by simp [List.getD_eq_getElem?_getD, h]
  rw [e]; exact hb _ (List.getElem_mem h)
theorem own_subB {P : Int32 → Prop} {cs : List Int32} (hb : ∀ c ∈ cs, P c) (f m : Nat) : ∀ c ∈ (cs.drop f).take m, P c := fun c hc => hb c (List.mem_of_mem_drop (List.mem_of_mem_take hc))
theorem own_cpl {vs : List Value} {d : Value} {lo m : Nat} (h : lo + m ≤ vs.length) (hs : vs.length < 1000) : (List.replicate m d).take (0 : Int32).toNatClampNeg ++ ((List.range (Int32.ofNat m).toNatClampNeg).map fun i => vs.getD ((Int32.ofNat lo).toNatClampNeg + i) d) ++ (List.replicate m d).drop ((0 : Int32).toNatClampNeg + (Int32.ofNat m).toNatClampNeg) = (vs.drop lo).take m := by
  rw [own_tn (by omega), own_tn (by omega), show (0 : Int32).toNatClampNeg = 0 from rfl, Nat.zero_add, List.take_zero, List.nil_append, List.drop_eq_nil_of_le (by simp), List.append_nil]
  apply List.ext_getElem?
  intro i
  by_cases hi : i < m
  · rw [List.getElem?_map, List.getElem?_range hi, List.getElem?_take, if_pos hi, List.getElem?_drop]
    simp [List.getD_eq_getElem?_getD, show lo + i < vs.length by omega]
  · rw [List.getElem?_eq_none (by simp; omega), List.getElem?_eq_none (by simp; omega)]
def SM (cs : List Int32) : Prop := ∀ c ∈ cs, ¬ (255 : Int32) < c
/-- a String's chars, whichever its coder -/
def SD (Z : State) (h : Heap) (x t : Addr) (kb : ClassId) (cs : List Int32) : Prop := (SM cs ∧ Fld Z h x "java/lang/String" "coder" "B" (.int (0 : Int32)) ∧ Arv Z h t kb .byte (Int32.ofNat cs.length) (own_ll cs) (.int (0 : Int32))) ∨ (¬ SM cs ∧ Fld Z h x "java/lang/String" "coder" "B" (.int (1 : Int32)) ∧ Arv Z h t kb .byte (Int32.ofNat (2 * cs.length)) (own_hl cs) (.int (0 : Int32)))
theorem SD.keep {Z : State} {h h' : Heap} {x t : Addr} {kb : ClassId} {cs : List Int32} (D : SD Z h x t kb cs) (K : Keep h h' []) : SD Z h' x t kb cs := by
  rcases D with ⟨a, b, c⟩ | ⟨a, b, c⟩
  · exact Or.inl ⟨a, b.keep K nin0, c.keep K nin0⟩
  · exact Or.inr ⟨a, b.keep K nin0, c.keep K nin0⟩
theorem d26_0 : decode jdk_29_method_69_code 0 = .ok (.iload_n 0, 1) := by decide +kernel
theorem d26_1 : decode jdk_29_method_69_code 1 = .ok (.iload_n 1, 1) := by decide +kernel
theorem d26_2 : decode jdk_29_method_69_code 2 = .ok (.if_icmp .gt 7, 3) := by decide +kernel
theorem d26_9 : decode jdk_29_method_69_code 9 = .ok (.iload_n 1, 1) := by decide +kernel
theorem d26_10 : decode jdk_29_method_69_code 10 = .ok (.ireturn, 1) := by decide +kernel
theorem d26_5 : decode jdk_29_method_69_code 5 = .ok (.iload_n 0, 1) := by decide +kernel
theorem d26_6 : decode jdk_29_method_69_code 6 = .ok (.goto 4, 3) := by decide +kernel
set_option maxRecDepth 65536 in
set_option maxHeartbeats 40000000 in
theorem rMin (l : Launch) (Z : State) (a0 : Array Value) (hw : ∀ d ∈ tables_1, d.before a0 Z = true) (ws : List Jvm.Cond) (ia ib : Int32) (h0 : Heap) (n0 : Nat) (Z0 : n0 ≤ h0.size) (g : ¬ ia < ib) :
    Ctr FrameEnd l Z (⟨"java/lang/Math", "min", "(II)I"⟩ : MethodName) jdk_29_method_69_code 2 (some .int) ws ({ frames := 0, cells := 0, slots := 0, locals := 0 } : Room) #[(.int ia), (.int ib)] h0 TrueV (PureQ (some (.int ib)) h0) := by
  refine Ctr.intro (Jvm.Free.JP.mathPlain rfl (by decide +kernel)) (Ls := #[.val (.int ia), .val (.int ib)]) (fun m => by first | (simp [entryFrame, mkF, argsToLocals, Value.category]; done) | rfl) ?_
  intro p e s m below meth c T0 hx hby hml hown hnm hret hlk hZ hV hsh e0 X0
  have N0 := Fr.nil n0
  show Done _ p e below s _ _ (T0.setTop (mkF m 0 #[oI ia, oI ib] []))
  refine Done.step (fun _ => XS.iloadN X0.here hx rfl (hb hby d26_0) rfl) ?_
  show Done _ p e below s _ _ (T0.setTop (mkF m 1 #[oI ia, oI ib] [(.int ia)]))
  refine Done.step (fun _ => XS.iloadN X0.here hx rfl (hb hby d26_1) rfl) ?_
  show Done _ p e below s _ _ (T0.setTop (mkF m 2 #[oI ia, oI ib] [(.int ib), (.int ia)]))
  by_cases hc1 : ib < ia
  · refine Done.step (fun _ => XS.icmpYes X0.here hx rfl (pc0 := 2) (pc' := 9) rfl (hb hby d26_2) rfl (XT.ii_gt_t hc1) (by decide) (by decide)) ?_
    show Done _ p e below s _ _ (T0.setTop (mkF m 9 #[oI ia, oI ib] []))
    refine Done.step (fun _ => XS.iloadN X0.here hx rfl (hb hby d26_9) rfl) ?_
    show Done _ p e below s _ _ (T0.setTop (mkF m 10 #[oI ia, oI ib] [(.int ib)]))
    exact Done.retI (leavesF X0 hlk (by decide) (by decide)) X0 hx hret (hb hby d26_10) ⟨rfl, e0, rfl⟩
  · refine Done.step (fun _ => XS.icmpNo X0.here hx rfl (hb hby d26_2) rfl (XT.ii_gt_f hc1)) ?_
    show Done _ p e below s _ _ (T0.setTop (mkF m 5 #[oI ia, oI ib] []))
    refine Done.step (fun _ => XS.iloadN X0.here hx rfl (hb hby d26_5) rfl) ?_
    show Done _ p e below s _ _ (T0.setTop (mkF m 6 #[oI ia, oI ib] [(.int ia)]))
    refine Done.step (fun _ => XS.goto X0.here hx rfl (pc0 := 6) (pc' := 10) rfl (hb hby d26_6) (by decide) (by decide)) ?_
    show Done _ p e below s _ _ (T0.setTop (mkF m 10 #[oI ia, oI ib] [(.int ia)]))
    exact Done.retI (leavesF X0 hlk (by decide) (by decide)) X0 hx hret (hb hby d26_10) ⟨by rw [own_anti g hc1], e0, rfl⟩
def own_max (a b : Int32) : Int32 := if a < b then b else a
theorem d6_0 : decode jdk_29_method_65_code 0 = .ok (.iload_n 0, 1) := by decide +kernel
theorem d6_1 : decode jdk_29_method_65_code 1 = .ok (.iload_n 1, 1) := by decide +kernel
theorem d6_2 : decode jdk_29_method_65_code 2 = .ok (.if_icmp .lt 7, 3) := by decide +kernel
theorem d6_9 : decode jdk_29_method_65_code 9 = .ok (.iload_n 1, 1) := by decide +kernel
theorem d6_10 : decode jdk_29_method_65_code 10 = .ok (.ireturn, 1) := by decide +kernel
theorem d6_5 : decode jdk_29_method_65_code 5 = .ok (.iload_n 0, 1) := by decide +kernel
theorem d6_6 : decode jdk_29_method_65_code 6 = .ok (.goto 4, 3) := by decide +kernel
set_option maxRecDepth 65536 in
set_option maxHeartbeats 40000000 in
theorem rMax (l : Launch) (Z : State) (a0 : Array Value) (hw : ∀ d ∈ tables_1, d.before a0 Z = true) (ws : List Jvm.Cond) (ia ib : Int32) (h0 : Heap) (n0 : Nat) (Z0 : n0 ≤ h0.size)  :
    Ctr FrameEnd l Z (⟨"java/lang/Math", "max", "(II)I"⟩ : MethodName) jdk_29_method_65_code 2 (some .int) ws ({ frames := 0, cells := 0, slots := 0, locals := 0 } : Room) #[(.int ia), (.int ib)] h0 TrueV (PureQ (some (.int (own_max ia ib))) h0) := by
  refine Ctr.intro (Jvm.Free.JP.mathPlain rfl (by decide +kernel)) (Ls := #[.val (.int ia), .val (.int ib)]) (fun m => by first | (simp [entryFrame, mkF, argsToLocals, Value.category]; done) | rfl) ?_
  intro p e s m below meth c T0 hx hby hml hown hnm hret hlk hZ hV hsh e0 X0
  have N0 := Fr.nil n0
  show Done _ p e below s _ _ (T0.setTop (mkF m 0 #[oI ia, oI ib] []))
  refine Done.step (fun _ => XS.iloadN X0.here hx rfl (hb hby d6_0) rfl) ?_
  show Done _ p e below s _ _ (T0.setTop (mkF m 1 #[oI ia, oI ib] [(.int ia)]))
  refine Done.step (fun _ => XS.iloadN X0.here hx rfl (hb hby d6_1) rfl) ?_
  show Done _ p e below s _ _ (T0.setTop (mkF m 2 #[oI ia, oI ib] [(.int ib), (.int ia)]))
  by_cases hc1 : ia < ib
  · refine Done.step (fun _ => XS.icmpYes X0.here hx rfl (pc0 := 2) (pc' := 9) rfl (hb hby d6_2) rfl (XT.ii_lt_t hc1) (by decide) (by decide)) ?_
    show Done _ p e below s _ _ (T0.setTop (mkF m 9 #[oI ia, oI ib] []))
    refine Done.step (fun _ => XS.iloadN X0.here hx rfl (hb hby d6_9) rfl) ?_
    show Done _ p e below s _ _ (T0.setTop (mkF m 10 #[oI ia, oI ib] [(.int ib)]))
    exact Done.retI (leavesF X0 hlk (by decide) (by decide)) X0 hx hret (hb hby d6_10) ⟨by unfold own_max; rw [if_pos hc1], e0, rfl⟩
  · refine Done.step (fun _ => XS.icmpNo X0.here hx rfl (hb hby d6_2) rfl (XT.ii_lt_f hc1)) ?_
    show Done _ p e below s _ _ (T0.setTop (mkF m 5 #[oI ia, oI ib] []))
    refine Done.step (fun _ => XS.iloadN X0.here hx rfl (hb hby d6_5) rfl) ?_
    show Done _ p e below s _ _ (T0.setTop (mkF m 6 #[oI ia, oI ib] [(.int ia)]))
    refine Done.step (fun _ => XS.goto X0.here hx rfl (pc0 := 6) (pc' := 10) rfl (hb hby d6_6) (by decide) (by decide)) ?_
    show Done _ p e below s _ _ (T0.setTop (mkF m 10 #[oI ia, oI ib] [(.int ia)]))
    exact Done.retI (leavesF X0 hlk (by decide) (by decide)) X0 hx hret (hb hby d6_10) ⟨by unfold own_max; rw [if_neg hc1], e0, rfl⟩
theorem pn_java_util_Arrays : plainName "java/util/Arrays" = true := by first | (simp [plainName, overriddenIn]; done) | decide +kernel
theorem d25_0 : decode jdk_65_method_131_code 0 = .ok (.iload_n 1, 1) := by decide +kernel
theorem d25_1 : decode jdk_65_method_131_code 1 = .ok (.iload_n 0, 1) := by decide +kernel
theorem d25_2 : decode jdk_65_method_131_code 2 = .ok (.if_icmp .ge 35, 3) := by decide +kernel
theorem d25_37 : decode jdk_65_method_131_code 37 = .ok (.return_, 1) := by decide +kernel
set_option maxRecDepth 65536 in
set_option maxHeartbeats 40000000 in
theorem rCL (l : Launch) (Z : State) (a0 : Array Value) (hw : ∀ d ∈ tables_1, d.before a0 Z = true) (ws : List Jvm.Cond) (ia ib : Int32) (h0 : Heap) (n0 : Nat) (Z0 : n0 ≤ h0.size) (g : ¬ ib < ia) :
    Ctr FrameEnd l Z (⟨"java/util/Arrays", "checkLength", "(II)V"⟩ : MethodName) jdk_65_method_131_code 2 none ws ({ frames := 0, cells := 0, slots := 0, locals := 0 } : Room) #[(.int ia), (.int ib)] h0 TrueV (PureQ none h0) := by
  refine Ctr.intro (plainFor_of_name pn_java_util_Arrays) (Ls := #[.val (.int ia), .val (.int ib)]) (fun m => by first | (simp [entryFrame, mkF, argsToLocals, Value.category]; done) | rfl) ?_
  intro p e s m below meth c T0 hx hby hml hown hnm hret hlk hZ hV hsh e0 X0
  have N0 := Fr.nil n0
  show Done _ p e below s _ _ (T0.setTop (mkF m 0 #[oI ia, oI ib] []))
  refine Done.step (fun _ => XS.iloadN X0.here hx rfl (hb hby d25_0) rfl) ?_
  show Done _ p e below s _ _ (T0.setTop (mkF m 1 #[oI ia, oI ib] [(.int ib)]))
  refine Done.step (fun _ => XS.iloadN X0.here hx rfl (hb hby d25_1) rfl) ?_
  show Done _ p e below s _ _ (T0.setTop (mkF m 2 #[oI ia, oI ib] [(.int ia), (.int ib)]))
  refine Done.step (fun _ => XS.icmpYes X0.here hx rfl (pc0 := 2) (pc' := 37) rfl (hb hby d25_2) rfl (XT.ii_ge_t g) (by decide) (by decide)) ?_
  show Done _ p e below s _ _ (T0.setTop (mkF m 37 #[oI ia, oI ib] []))
  exact Done.retV (leavesF X0 hlk (by decide) (by decide)) X0 hx hret (hb hby d25_37) ⟨rfl, e0, rfl⟩
theorem d12_0 : decode jdk_41_method_12_code 0 = .ok (.iload_n 0, 1) := by decide +kernel
theorem d12_1 : decode jdk_41_method_12_code 1 = .ok (.ifCond .lt 13, 3) := by decide +kernel
theorem d12_4 : decode jdk_41_method_12_code 4 = .ok (.iload_n 0, 1) := by decide +kernel
theorem d12_5 : decode jdk_41_method_12_code 5 = .ok (.iload_n 1, 1) := by decide +kernel
theorem d12_6 : decode jdk_41_method_12_code 6 = .ok (.if_icmp .gt 8, 3) := by decide +kernel
theorem d12_9 : decode jdk_41_method_12_code 9 = .ok (.iload_n 1, 1) := by decide +kernel
theorem d12_10 : decode jdk_41_method_12_code 10 = .ok (.iload_n 2, 1) := by decide +kernel
theorem d12_11 : decode jdk_41_method_12_code 11 = .ok (.if_icmp .le 11, 3) := by decide +kernel
theorem d12_22 : decode jdk_41_method_12_code 22 = .ok (.iload_n 0, 1) := by decide +kernel
theorem d12_23 : decode jdk_41_method_12_code 23 = .ok (.ireturn, 1) := by decide +kernel
set_option maxRecDepth 65536 in
set_option maxHeartbeats 40000000 in
theorem rFT (l : Launch) (Z : State) (a0 : Array Value) (hw : ∀ d ∈ tables_1, d.before a0 Z = true) (ws : List Jvm.Cond) (ia ib ic : Int32) (fm : Value) (h0 : Heap) (n0 : Nat) (Z0 : n0 ≤ h0.size) (rF : fm.isRef = true) (g0 : ¬ ia < (0 : Int32)) (g1 : ¬ ib < ia) (g2 : ¬ ic < ib) :
    Ctr FrameEnd l Z (⟨"jdk/internal/util/Preconditions", "checkFromToIndex", "(IIILjava/util/function/BiFunction;)I"⟩ : MethodName) jdk_41_method_12_code 4 (some .int) ws ({ frames := 0, cells := 0, slots := 0, locals := 0 } : Room) #[(.int ia), (.int ib), (.int ic), fm] h0 TrueV (PureQ (some (.int ia)) h0) := by
  refine Ctr.intro (plainFor_of_name pn_jdk_internal_util_Preconditions) (Ls := #[.val (.int ia), .val (.int ib), .val (.int ic), .val fm]) (fun m => by rcases ref_cases rF with rfl | ⟨q, rfl⟩ <;> first | (simp [entryFrame, mkF, argsToLocals, Value.category]; done) | rfl) ?_
  intro p e s m below meth c T0 hx hby hml hown hnm hret hlk hZ hV hsh e0 X0
  have N0 := Fr.nil n0
  show Done _ p e below s _ _ (T0.setTop (mkF m 0 #[oI ia, oI ib, oI ic, .val fm] []))
  refine Done.step (fun _ => XS.iloadN X0.here hx rfl (hb hby d12_0) rfl) ?_
  show Done _ p e below s _ _ (T0.setTop (mkF m 1 #[oI ia, oI ib, oI ic, .val fm] [(.int ia)]))
  refine Done.step (fun _ => XS.ifNo X0.here hx rfl (hb hby d12_1) rfl (XT.i0_lt_f g0)) ?_
  show Done _ p e below s _ _ (T0.setTop (mkF m 4 #[oI ia, oI ib, oI ic, .val fm] []))
  refine Done.step (fun _ => XS.iloadN X0.here hx rfl (hb hby d12_4) rfl) ?_
  show Done _ p e below s _ _ (T0.setTop (mkF m 5 #[oI ia, oI ib, oI ic, .val fm] [(.int ia)]))
  refine Done.step (fun _ => XS.iloadN X0.here hx rfl (hb hby d12_5) rfl) ?_
  show Done _ p e below s _ _ (T0.setTop (mkF m 6 #[oI ia, oI ib, oI ic, .val fm] [(.int ib), (.int ia)]))
  refine Done.step (fun _ => XS.icmpNo X0.here hx rfl (hb hby d12_6) rfl (XT.ii_gt_f g1)) ?_
  show Done _ p e below s _ _ (T0.setTop (mkF m 9 #[oI ia, oI ib, oI ic, .val fm] []))
  refine Done.step (fun _ => XS.iloadN X0.here hx rfl (hb hby d12_9) rfl) ?_
  show Done _ p e below s _ _ (T0.setTop (mkF m 10 #[oI ia, oI ib, oI ic, .val fm] [(.int ib)]))
  refine Done.step (fun _ => XS.iloadN X0.here hx rfl (hb hby d12_10) rfl) ?_
  show Done _ p e below s _ _ (T0.setTop (mkF m 11 #[oI ia, oI ib, oI ic, .val fm] [(.int ic), (.int ib)]))
  refine Done.step (fun _ => XS.icmpYes X0.here hx rfl (pc0 := 11) (pc' := 22) rfl (hb hby d12_11) rfl (XT.ii_le_t g2) (by decide) (by decide)) ?_
  show Done _ p e below s _ _ (T0.setTop (mkF m 22 #[oI ia, oI ib, oI ic, .val fm] []))
  refine Done.step (fun _ => XS.iloadN X0.here hx rfl (hb hby d12_22) rfl) ?_
  show Done _ p e below s _ _ (T0.setTop (mkF m 23 #[oI ia, oI ib, oI ic, .val fm] [(.int ia)]))
  exact Done.retI (leavesF X0 hlk (by decide) (by decide)) X0 hx hret (hb hby d12_23) ⟨rfl, e0, rfl⟩
theorem d11_0 : decode jdk_42_method_158_code 0 = .ok (.iload_n 0, 1) := by decide +kernel
theorem d11_1 : decode jdk_42_method_158_code 1 = .ok (.iload_n 1, 1) := by decide +kernel
theorem d11_2 : decode jdk_42_method_158_code 2 = .ok (.iload_n 2, 1) := by decide +kernel
theorem d11_3 : decode jdk_42_method_158_code 3 = .ok (.getstatic 1053, 3) := by decide +kernel
theorem d11_6 : decode jdk_42_method_158_code 6 = .ok (.invokestatic 1062, 3) := by decide +kernel
theorem pd_2 : parseMethodDescriptor "(IIILjava/util/function/BiFunction;)I" = some ⟨[.int, .int, .int, (.object "java/util/function/BiFunction")], some .int⟩ := by decide +kernel
theorem d11_9 : decode jdk_42_method_158_code 9 = .ok (.pop, 1) := by decide +kernel
theorem d11_10 : decode jdk_42_method_158_code 10 = .ok (.return_, 1) := by decide +kernel
set_option maxRecDepth 65536 in
set_option maxHeartbeats 40000000 in
theorem rBE (l : Launch) (Z : State) (a0 : Array Value) (hw : ∀ d ∈ tables_1, d.before a0 Z = true) (ws : List Jvm.Cond) (ia ib ic : Int32) (z : Int32) (fm : Value) (h0 : Heap) (n0 : Nat) (Z0 : n0 ≤ h0.size) (O0 : Old Z n0 h0) (SC : Sta Z Z.heap "java/lang/String" "COMPACT_STRINGS" "Z" (.int z)) (hz : ¬ z = 0) (SF : Sta Z Z.heap "jdk/internal/util/Preconditions" "SIOOBE_FORMATTER" "Ljava/util/function/BiFunction;" fm) (rF : fm.isRef = true) (SA : Sta Z Z.heap "java/lang/StringUTF16" "$assertionsDisabled" "Z" (.int (1 : Int32))) (SH : Sta Z Z.heap "java/lang/StringUTF16" "HI_BYTE_SHIFT" "I" (.int (0 : Int32))) (SL : Sta Z Z.heap "java/lang/StringUTF16" "LO_BYTE_SHIFT" "I" (.int (8 : Int32))) (g0 : ¬ ia < (0 : Int32)) (g1 : ¬ ib < ia) (g2 : ¬ ic < ib) :
    Ctr FrameEnd l Z (⟨"java/lang/String", "checkBoundsBeginEnd", "(III)V"⟩ : MethodName) jdk_42_method_158_code 3 none ws ({ frames := 1, cells := 0, slots := 0, locals := 16 } : Room) #[(.int ia), (.int ib), (.int ic)] h0 TrueV (PureQ none h0) := by
  refine Ctr.intro (plainFor_of_name pn_java_lang_String) (Ls := #[.val (.int ia), .val (.int ib), .val (.int ic)]) (fun m => by first | (simp [entryFrame, mkF, argsToLocals, Value.category]; done) | rfl) ?_
  intro p e s m below meth c T0 hx hby hml hown hnm hret hlk hZ hV hsh e0 X0
  have N0 := Fr.nil n0
  show Done _ p e below s _ _ (T0.setTop (mkF m 0 #[oI ia, oI ib, oI ic] []))
  refine Done.step (fun _ => XS.iloadN X0.here hx rfl (hb hby d11_0) rfl) ?_
  show Done _ p e below s _ _ (T0.setTop (mkF m 1 #[oI ia, oI ib, oI ic] [(.int ia)]))
  refine Done.step (fun _ => XS.iloadN X0.here hx rfl (hb hby d11_1) rfl) ?_
  show Done _ p e below s _ _ (T0.setTop (mkF m 2 #[oI ia, oI ib, oI ic] [(.int ib), (.int ia)]))
  refine Done.step (fun _ => XS.iloadN X0.here hx rfl (hb hby d11_2) rfl) ?_
  show Done _ p e below s _ _ (T0.setTop (mkF m 3 #[oI ia, oI ib, oI ic] [(.int ic), (.int ib), (.int ia)]))
  obtain ⟨T1, X1, e1, st1⟩ := getS2 X0 hx hZ hown (host := "") (Or.inl (wAt hw 59 rfl)) Via.refl e0 (SF.ext O0.2) (g := (mkF m 3 #[oI ia, oI ib, oI ic] [(.int ic), (.int ib), (.int ia)])) rfl (hb hby d11_3)
  refine Done.step st1 ?_
  show Done _ p e below s _ _ (T1.setTop (mkF m 6 #[oI ia, oI ib, oI ic] [fm, (.int ic), (.int ib), (.int ia)]))
  refine Done.callSP X1 hx hZ hown (wAt hw 61 rfl) (wAt hw 62 rfl) (wAt hw 60 rfl) (wAt hw 63 rfl) (by decide) (rFT l Z a0 hw [] ia ib ic fm h0 n0 Z0 rF g0 g1 g2) e1 (g := (mkF m 6 #[oI ia, oI ib, oI ic] [fm, (.int ic), (.int ib), (.int ia)])) rfl (by rw [hml]; rfl) [(.int ia), (.int ib), (.int ic), fm] [] 0 (lenOf pd_2 rfl) rfl rfl (by show 2 * 0 + _ ≤ _; exact Nat.le_of_eq rfl) (hb hby d11_6) (by decide) (by decide) (by decide) (by decide) rfl rfl ?_
  intro T2 X2 e2
  show Done _ p e below s _ _ (T2.setTop (mkF m 9 #[oI ia, oI ib, oI ic] [(.int ia)]))
  refine Done.step (fun _ => XT.pop X2.here hx rfl (hb hby d11_9) rfl rfl) ?_
  show Done _ p e below s _ _ (T2.setTop (mkF m 10 #[oI ia, oI ib, oI ic] []))
  exact Done.retV (leavesF X2 hlk (by decide) (by decide)) X2 hx hret (hb hby d11_10) ⟨rfl, e2, rfl⟩
theorem d42_0 : decode jdk_41_method_13_code 0 = .ok (.iload_n 2, 1) := by decide +kernel
theorem d42_1 : decode jdk_41_method_13_code 1 = .ok (.iload_n 0, 1) := by decide +kernel
theorem d42_2 : decode jdk_41_method_13_code 2 = .ok (.ior, 1) := by decide +kernel
theorem d42_3 : decode jdk_41_method_13_code 3 = .ok (.iload_n 1, 1) := by decide +kernel
theorem d42_4 : decode jdk_41_method_13_code 4 = .ok (.ior, 1) := by decide +kernel
theorem d42_5 : decode jdk_41_method_13_code 5 = .ok (.ifCond .lt 10, 3) := by decide +kernel
theorem d42_8 : decode jdk_41_method_13_code 8 = .ok (.iload_n 1, 1) := by decide +kernel
theorem d42_9 : decode jdk_41_method_13_code 9 = .ok (.iload_n 2, 1) := by decide +kernel
theorem d42_10 : decode jdk_41_method_13_code 10 = .ok (.iload_n 0, 1) := by decide +kernel
theorem d42_11 : decode jdk_41_method_13_code 11 = .ok (.isub, 1) := by decide +kernel
theorem d42_12 : decode jdk_41_method_13_code 12 = .ok (.if_icmp .le 11, 3) := by decide +kernel
theorem d42_23 : decode jdk_41_method_13_code 23 = .ok (.iload_n 0, 1) := by decide +kernel
theorem d42_24 : decode jdk_41_method_13_code 24 = .ok (.ireturn, 1) := by decide +kernel
set_option maxRecDepth 65536 in
set_option maxHeartbeats 40000000 in
theorem rFS (l : Launch) (Z : State) (a0 : Array Value) (hw : ∀ d ∈ tables_1, d.before a0 Z = true) (ws : List Jvm.Cond) (fi mi ni : Nat) (fm : Value) (h0 : Heap) (n0 : Nat) (Z0 : n0 ≤ h0.size) (rF : fm.isRef = true) (g0 : fi + mi ≤ ni) (g1 : ni ≤ 8) :
    Ctr FrameEnd l Z (⟨"jdk/internal/util/Preconditions", "checkFromIndexSize", "(IIILjava/util/function/BiFunction;)I"⟩ : MethodName) jdk_41_method_13_code 4 (some .int) ws ({ frames := 0, cells := 0, slots := 0, locals := 0 } : Room) #[(.int (Int32.ofNat fi)), (.int (Int32.ofNat mi)), (.int (Int32.ofNat ni)), fm] h0 TrueV (PureQ (some (.int (Int32.ofNat fi))) h0) := by
  refine Ctr.intro (plainFor_of_name pn_jdk_internal_util_Preconditions) (Ls := #[.val (.int (Int32.ofNat fi)), .val (.int (Int32.ofNat mi)), .val (.int (Int32.ofNat ni)), .val fm]) (fun m => by rcases ref_cases rF with rfl | ⟨q, rfl⟩ <;> first | (simp [entryFrame, mkF, argsToLocals, Value.category]; done) | rfl) ?_
  intro p e s m below meth c T0 hx hby hml hown hnm hret hlk hZ hV hsh e0 X0
  have N0 := Fr.nil n0
  show Done _ p e below s _ _ (T0.setTop (mkF m 0 #[oI (Int32.ofNat fi), oI (Int32.ofNat mi), oI (Int32.ofNat ni), .val fm] []))
  refine Done.step (fun _ => XS.iloadN X0.here hx rfl (hb hby d42_0) rfl) ?_
  show Done _ p e below s _ _ (T0.setTop (mkF m 1 #[oI (Int32.ofNat fi), oI (Int32.ofNat mi), oI (Int32.ofNat ni), .val fm] [(.int (Int32.ofNat ni))]))
  refine Done.step (fun _ => XS.iloadN X0.here hx rfl (hb hby d42_1) rfl) ?_
  show Done _ p e below s _ _ (T0.setTop (mkF m 2 #[oI (Int32.ofNat fi), oI (Int32.ofNat mi), oI (Int32.ofNat ni), .val fm] [(.int (Int32.ofNat fi)), (.int (Int32.ofNat ni))]))
  refine Done.step (fun _ => XT.ior X0.here hx rfl (hb hby d42_2) rfl) ?_
  show Done _ p e below s _ _ (T0.setTop (mkF m 3 #[oI (Int32.ofNat fi), oI (Int32.ofNat mi), oI (Int32.ofNat ni), .val fm] [(.int ((Int32.ofNat ni) ||| (Int32.ofNat fi)))]))
  refine Done.step (fun _ => XS.iloadN X0.here hx rfl (hb hby d42_3) rfl) ?_
  show Done _ p e below s _ _ (T0.setTop (mkF m 4 #[oI (Int32.ofNat fi), oI (Int32.ofNat mi), oI (Int32.ofNat ni), .val fm] [(.int (Int32.ofNat mi)), (.int ((Int32.ofNat ni) ||| (Int32.ofNat fi)))]))
  refine Done.step (fun _ => XT.ior X0.here hx rfl (hb hby d42_4) rfl) ?_
  show Done _ p e below s _ _ (T0.setTop (mkF m 5 #[oI (Int32.ofNat fi), oI (Int32.ofNat mi), oI (Int32.ofNat ni), .val fm] [(.int (((Int32.ofNat ni) ||| (Int32.ofNat fi)) ||| (Int32.ofNat mi)))]))
  refine Done.step (fun _ => XS.ifNo X0.here hx rfl (hb hby d42_5) rfl (XT.i0_lt_f (own_ior (by omega) (by omega) (by omega)))) ?_
  show Done _ p e below s _ _ (T0.setTop (mkF m 8 #[oI (Int32.ofNat fi), oI (Int32.ofNat mi), oI (Int32.ofNat ni), .val fm] []))
  refine Done.step (fun _ => XS.iloadN X0.here hx rfl (hb hby d42_8) rfl) ?_
  show Done _ p e below s _ _ (T0.setTop (mkF m 9 #[oI (Int32.ofNat fi), oI (Int32.ofNat mi), oI (Int32.ofNat ni), .val fm] [(.int (Int32.ofNat mi))]))
  refine Done.step (fun _ => XS.iloadN X0.here hx rfl (hb hby d42_9) rfl) ?_
  show Done _ p e below s _ _ (T0.setTop (mkF m 10 #[oI (Int32.ofNat fi), oI (Int32.ofNat mi), oI (Int32.ofNat ni), .val fm] [(.int (Int32.ofNat ni)), (.int (Int32.ofNat mi))]))
  refine Done.step (fun _ => XS.iloadN X0.here hx rfl (hb hby d42_10) rfl) ?_
  show Done _ p e below s _ _ (T0.setTop (mkF m 11 #[oI (Int32.ofNat fi), oI (Int32.ofNat mi), oI (Int32.ofNat ni), .val fm] [(.int (Int32.ofNat fi)), (.int (Int32.ofNat ni)), (.int (Int32.ofNat mi))]))
  refine Done.step (fun _ => XS.isub X0.here hx rfl (hb hby d42_11) rfl) ?_
  show Done _ p e below s _ _ (T0.setTop (mkF m 12 #[oI (Int32.ofNat fi), oI (Int32.ofNat mi), oI (Int32.ofNat ni), .val fm] [(.int ((Int32.ofNat ni) - (Int32.ofNat fi))), (.int (Int32.ofNat mi))]))
  refine Done.step (fun _ => XS.icmpYes X0.here hx rfl (pc0 := 12) (pc' := 23) rfl (hb hby d42_12) rfl (XT.ii_le_t (by rw [own_subN (by omega), own_lt (by omega) (by omega)]; omega)) (by decide) (by decide)) ?_
  show Done _ p e below s _ _ (T0.setTop (mkF m 23 #[oI (Int32.ofNat fi), oI (Int32.ofNat mi), oI (Int32.ofNat ni), .val fm] []))
  refine Done.step (fun _ => XS.iloadN X0.here hx rfl (hb hby d42_23) rfl) ?_
  show Done _ p e below s _ _ (T0.setTop (mkF m 24 #[oI (Int32.ofNat fi), oI (Int32.ofNat mi), oI (Int32.ofNat ni), .val fm] [(.int (Int32.ofNat fi))]))
  exact Done.retI (leavesF X0 hlk (by decide) (by decide)) X0 hx hret (hb hby d42_24) ⟨rfl, e0, rfl⟩
theorem d41_0 : decode jdk_42_method_157_code 0 = .ok (.iload_n 0, 1) := by decide +kernel
theorem d41_1 : decode jdk_42_method_157_code 1 = .ok (.iload_n 1, 1) := by decide +kernel
theorem d41_2 : decode jdk_42_method_157_code 2 = .ok (.iload_n 2, 1) := by decide +kernel
theorem d41_3 : decode jdk_42_method_157_code 3 = .ok (.getstatic 1053, 3) := by decide +kernel
theorem d41_6 : decode jdk_42_method_157_code 6 = .ok (.invokestatic 1065, 3) := by decide +kernel
theorem d41_9 : decode jdk_42_method_157_code 9 = .ok (.ireturn, 1) := by decide +kernel
set_option maxRecDepth 65536 in
set_option maxHeartbeats 40000000 in
theorem rBO (l : Launch) (Z : State) (a0 : Array Value) (hw : ∀ d ∈ tables_1, d.before a0 Z = true) (ws : List Jvm.Cond) (fi mi ni : Nat) (z : Int32) (fm : Value) (h0 : Heap) (n0 : Nat) (Z0 : n0 ≤ h0.size) (O0 : Old Z n0 h0) (SC : Sta Z Z.heap "java/lang/String" "COMPACT_STRINGS" "Z" (.int z)) (hz : ¬ z = 0) (SF : Sta Z Z.heap "jdk/internal/util/Preconditions" "SIOOBE_FORMATTER" "Ljava/util/function/BiFunction;" fm) (rF : fm.isRef = true) (SA : Sta Z Z.heap "java/lang/StringUTF16" "$assertionsDisabled" "Z" (.int (1 : Int32))) (SH : Sta Z Z.heap "java/lang/StringUTF16" "HI_BYTE_SHIFT" "I" (.int (0 : Int32))) (SL : Sta Z Z.heap "java/lang/StringUTF16" "LO_BYTE_SHIFT" "I" (.int (8 : Int32))) (g0 : fi + mi ≤ ni) (g1 : ni ≤ 8) :
    Ctr FrameEnd l Z (⟨"java/lang/String", "checkBoundsOffCount", "(III)I"⟩ : MethodName) jdk_42_method_157_code 3 (some .int) ws ({ frames := 1, cells := 0, slots := 0, locals := 16 } : Room) #[(.int (Int32.ofNat fi)), (.int (Int32.ofNat mi)), (.int (Int32.ofNat ni))] h0 TrueV (PureQ (some (.int (Int32.ofNat fi))) h0) := by
  refine Ctr.intro (plainFor_of_name pn_java_lang_String) (Ls := #[.val (.int (Int32.ofNat fi)), .val (.int (Int32.ofNat mi)), .val (.int (Int32.ofNat ni))]) (fun m => by first | (simp [entryFrame, mkF, argsToLocals, Value.category]; done) | rfl) ?_
  intro p e s m below meth c T0 hx hby hml hown hnm hret hlk hZ hV hsh e0 X0
  have N0 := Fr.nil n0
  show Done _ p e below s _ _ (T0.setTop (mkF m 0 #[oI (Int32.ofNat fi), oI (Int32.ofNat mi), oI (Int32.ofNat ni)] []))
  refine Done.step (fun _ => XS.iloadN X0.here hx rfl (hb hby d41_0) rfl) ?_
  show Done _ p e below s _ _ (T0.setTop (mkF m 1 #[oI (Int32.ofNat fi), oI (Int32.ofNat mi), oI (Int32.ofNat ni)] [(.int (Int32.ofNat fi))]))
  refine Done.step (fun _ => XS.iloadN X0.here hx rfl (hb hby d41_1) rfl) ?_
  show Done _ p e below s _ _ (T0.setTop (mkF m 2 #[oI (Int32.ofNat fi), oI (Int32.ofNat mi), oI (Int32.ofNat ni)] [(.int (Int32.ofNat mi)), (.int (Int32.ofNat fi))]))
  refine Done.step (fun _ => XS.iloadN X0.here hx rfl (hb hby d41_2) rfl) ?_
  show Done _ p e below s _ _ (T0.setTop (mkF m 3 #[oI (Int32.ofNat fi), oI (Int32.ofNat mi), oI (Int32.ofNat ni)] [(.int (Int32.ofNat ni)), (.int (Int32.ofNat mi)), (.int (Int32.ofNat fi))]))
  obtain ⟨T1, X1, e1, st1⟩ := getS2 X0 hx hZ hown (host := "") (Or.inl (wAt hw 59 rfl)) Via.refl e0 (SF.ext O0.2) (g := (mkF m 3 #[oI (Int32.ofNat fi), oI (Int32.ofNat mi), oI (Int32.ofNat ni)] [(.int (Int32.ofNat ni)), (.int (Int32.ofNat mi)), (.int (Int32.ofNat fi))])) rfl (hb hby d41_3)
  refine Done.step st1 ?_
  show Done _ p e below s _ _ (T1.setTop (mkF m 6 #[oI (Int32.ofNat fi), oI (Int32.ofNat mi), oI (Int32.ofNat ni)] [fm, (.int (Int32.ofNat ni)), (.int (Int32.ofNat mi)), (.int (Int32.ofNat fi))]))
  refine Done.callSP X1 hx hZ hown (wAt hw 172 rfl) (wAt hw 173 rfl) (wAt hw 60 rfl) (wAt hw 174 rfl) (by decide) (rFS l Z a0 hw [] fi mi ni fm h0 n0 Z0 rF g0 g1) e1 (g := (mkF m 6 #[oI (Int32.ofNat fi), oI (Int32.ofNat mi), oI (Int32.ofNat ni)] [fm, (.int (Int32.ofNat ni)), (.int (Int32.ofNat mi)), (.int (Int32.ofNat fi))])) rfl (by rw [hml]; rfl) [(.int (Int32.ofNat fi)), (.int (Int32.ofNat mi)), (.int (Int32.ofNat ni)), fm] [] 0 (lenOf pd_2 rfl) rfl rfl (by show 2 * 0 + _ ≤ _; exact Nat.le_of_eq rfl) (hb hby d41_6) (by decide) (by decide) (by decide) (by decide) rfl rfl ?_
  intro T2 X2 e2
  show Done _ p e below s _ _ (T2.setTop (mkF m 9 #[oI (Int32.ofNat fi), oI (Int32.ofNat mi), oI (Int32.ofNat ni)] [(.int (Int32.ofNat fi))]))
  exact Done.retI (leavesF X2 hlk (by decide) (by decide)) X2 hx hret (hb hby d41_9) ⟨rfl, e2, rfl⟩
theorem d24_0 : decode jdk_65_method_133_code 0 = .ok (.iload_n 1, 1) := by decide +kernel
theorem d24_1 : decode jdk_65_method_133_code 1 = .ok (.iload_n 2, 1) := by decide +kernel
theorem d24_2 : decode jdk_65_method_133_code 2 = .ok (.invokestatic 343, 3) := by decide +kernel
theorem pd_3 : parseMethodDescriptor "(II)V" = some ⟨[.int, .int], none⟩ := by decide +kernel
theorem d24_5 : decode jdk_65_method_133_code 5 = .ok (.iload_n 2, 1) := by decide +kernel
theorem d24_6 : decode jdk_65_method_133_code 6 = .ok (.iload_n 1, 1) := by decide +kernel
theorem d24_7 : decode jdk_65_method_133_code 7 = .ok (.isub, 1) := by decide +kernel
theorem d24_8 : decode jdk_65_method_133_code 8 = .ok (.istore_n 3, 1) := by decide +kernel
theorem d24_9 : decode jdk_65_method_133_code 9 = .ok (.iload_n 3, 1) := by decide +kernel
theorem d24_10 : decode jdk_65_method_133_code 10 = .ok (.newarray .byte, 2) := by decide +kernel
theorem d24_12 : decode jdk_65_method_133_code 12 = .ok (.astore 4, 2) := by decide +kernel
theorem d24_14 : decode jdk_65_method_133_code 14 = .ok (.aload_n 0, 1) := by decide +kernel
theorem d24_15 : decode jdk_65_method_133_code 15 = .ok (.iload_n 1, 1) := by decide +kernel
theorem d24_16 : decode jdk_65_method_133_code 16 = .ok (.aload 4, 2) := by decide +kernel
theorem d24_18 : decode jdk_65_method_133_code 18 = .ok (.iconst 0, 1) := by decide +kernel
theorem d24_19 : decode jdk_65_method_133_code 19 = .ok (.aload_n 0, 1) := by decide +kernel
theorem d24_20 : decode jdk_65_method_133_code 20 = .ok (.arraylength, 1) := by decide +kernel
theorem d24_21 : decode jdk_65_method_133_code 21 = .ok (.iload_n 1, 1) := by decide +kernel
theorem d24_22 : decode jdk_65_method_133_code 22 = .ok (.isub, 1) := by decide +kernel
theorem d24_23 : decode jdk_65_method_133_code 23 = .ok (.iload_n 3, 1) := by decide +kernel
theorem d24_24 : decode jdk_65_method_133_code 24 = .ok (.invokestatic 304, 3) := by decide +kernel
theorem pd_4 : parseMethodDescriptor "(II)I" = some ⟨[.int, .int], some .int⟩ := by decide +kernel
theorem d24_27 : decode jdk_65_method_133_code 27 = .ok (.invokestatic 150, 3) := by decide +kernel
theorem d24_30 : decode jdk_65_method_133_code 30 = .ok (.aload 4, 2) := by decide +kernel
theorem d24_32 : decode jdk_65_method_133_code 32 = .ok (.areturn, 1) := by decide +kernel
set_option maxRecDepth 65536 in
set_option maxHeartbeats 40000000 in
theorem rCB (l : Launch) (Z : State) (a0 : Array Value) (hw : ∀ d ∈ tables_1, d.before a0 Z = true) (ws : List Jvm.Cond) (t1 : Addr) (kb1 : ClassId) (vs : List Value) (lo hi N : Nat) (h0 : Heap) (n0 : Nat) (Z0 : n0 ≤ h0.size) (O0 : Old Z n0 h0) (gK1 : Arv Z h0 t1 kb1 .byte (Int32.ofNat N) vs (.int (0 : Int32))) (hN : N ≤ 8) (hle : lo ≤ hi) (hhi : hi ≤ N) (hv : vs.length = N) :
    Ctr FrameEnd l Z (⟨"java/util/Arrays", "copyOfRangeByte", "([BII)[B"⟩ : MethodName) jdk_65_method_133_code 5 (some (.array .byte)) ws ({ frames := 1, cells := 1, slots := 8, locals := 40 } : Room) #[(.ref t1), (.int (Int32.ofNat lo)), (.int (Int32.ofNat hi))] h0 TrueV (fun v h _ L => ∃ (b : Addr) (kb : ClassId), v = some (.ref b) ∧ Fr n0 L ∧ Keep h0 h [] ∧ h0.size ≤ b ∧ Arv Z h b kb .byte (Int32.ofNat (hi - lo)) ((vs.drop lo).take (hi - lo)) (.int (0 : Int32))) := by
  refine Ctr.intro (plainFor_of_name pn_java_util_Arrays) (Ls := #[.val (.ref t1), .val (.int (Int32.ofNat lo)), .val (.int (Int32.ofNat hi)), .unset, .unset]) (fun m => by first | (simp [entryFrame, mkF, argsToLocals, Value.category]; done) | rfl) ?_
  intro p e s m below meth c T0 hx hby hml hown hnm hret hlk hZ hV hsh e0 X0
  have N0 := Fr.nil n0
  show Done _ p e below s _ _ (T0.setTop (mkF m 0 #[oR t1, oI (Int32.ofNat lo), oI (Int32.ofNat hi), .unset, .unset] []))
  refine Done.step (fun _ => XS.iloadN X0.here hx rfl (hb hby d24_0) rfl) ?_
  show Done _ p e below s _ _ (T0.setTop (mkF m 1 #[oR t1, oI (Int32.ofNat lo), oI (Int32.ofNat hi), .unset, .unset] [(.int (Int32.ofNat lo))]))
  refine Done.step (fun _ => XS.iloadN X0.here hx rfl (hb hby d24_1) rfl) ?_
  show Done _ p e below s _ _ (T0.setTop (mkF m 2 #[oR t1, oI (Int32.ofNat lo), oI (Int32.ofNat hi), .unset, .unset] [(.int (Int32.ofNat hi)), (.int (Int32.ofNat lo))]))
  refine Done.callSP X0 hx hZ hown (wAt hw 109 rfl) (wAt hw 110 rfl) (wAt hw 104 rfl) (wAt hw 111 rfl) (by decide) (rCL l Z a0 hw [] (Int32.ofNat lo) (Int32.ofNat hi) h0 n0 Z0 (by rw [own_lt (by omega) (by omega)]; omega)) e0 (g := (mkF m 2 #[oR t1, oI (Int32.ofNat lo), oI (Int32.ofNat hi), .unset, .unset] [(.int (Int32.ofNat hi)), (.int (Int32.ofNat lo))])) rfl (by rw [hml]; rfl) [(.int (Int32.ofNat lo)), (.int (Int32.ofNat hi))] [] 0 (lenOf pd_3 rfl) rfl rfl (by show 2 * 0 + _ ≤ _; exact Nat.le_of_eq rfl) (hb hby d24_2) (by decide) (by decide) (by decide) (by decide) rfl rfl ?_
  intro T1 X1 e1
  show Done _ p e below s _ _ (T1.setTop (mkF m 5 #[oR t1, oI (Int32.ofNat lo), oI (Int32.ofNat hi), .unset, .unset] []))
  refine Done.step (fun _ => XS.iloadN X1.here hx rfl (hb hby d24_5) rfl) ?_
  show Done _ p e below s _ _ (T1.setTop (mkF m 6 #[oR t1, oI (Int32.ofNat lo), oI (Int32.ofNat hi), .unset, .unset] [(.int (Int32.ofNat hi))]))
  refine Done.step (fun _ => XS.iloadN X1.here hx rfl (hb hby d24_6) rfl) ?_
  show Done _ p e below s _ _ (T1.setTop (mkF m 7 #[oR t1, oI (Int32.ofNat lo), oI (Int32.ofNat hi), .unset, .unset] [(.int (Int32.ofNat lo)), (.int (Int32.ofNat hi))]))
  refine Done.step (fun _ => XS.isub X1.here hx rfl (hb hby d24_7) rfl) ?_
  show Done _ p e below s _ _ (T1.setTop (mkF m 8 #[oR t1, oI (Int32.ofNat lo), oI (Int32.ofNat hi), .unset, .unset] [(.int ((Int32.ofNat hi) - (Int32.ofNat lo)))]))
  rw [own_subN hle]
  show Done _ p e below s _ _ (T1.setTop (mkF m 8 #[oR t1, oI (Int32.ofNat lo), oI (Int32.ofNat hi), .unset, .unset] [(.int (Int32.ofNat (hi - lo)))]))
  refine Done.step (fun _ => XS.istoreN X1.here hx rfl (hb hby d24_8) rfl (l' := #[oR t1, oI (Int32.ofNat lo), oI (Int32.ofNat hi), oI (Int32.ofNat (hi - lo)), .unset]) rfl) ?_
  show Done _ p e below s _ _ (T1.setTop (mkF m 9 #[oR t1, oI (Int32.ofNat lo), oI (Int32.ofNat hi), oI (Int32.ofNat (hi - lo)), .unset] []))
  refine Done.step (fun _ => XS.iloadN X1.here hx rfl (hb hby d24_9) rfl) ?_
  show Done _ p e below s _ _ (T1.setTop (mkF m 10 #[oR t1, oI (Int32.ofNat lo), oI (Int32.ofNat hi), oI (Int32.ofNat (hi - lo)), .unset] [(.int (Int32.ofNat (hi - lo)))]))
  obtain ⟨T2, h2, k2, X2, e2, E2, A2, st2⟩ := newP X1 hx hZ (wAt hw 24 rfl) e1 (g := (mkF m 10 #[oR t1, oI (Int32.ofNat lo), oI (Int32.ofNat hi), oI (Int32.ofNat (hi - lo)), .unset] [(.int (Int32.ofNat (hi - lo)))])) rfl (hb hby d24_10) rfl (own_nn0 (by omega)) (cap := 8) (by rw [own_tn (by omega)]; omega) (by decide) (by decide) (by decide)
  obtain ⟨b2, g2⟩ : ∃ z, z = h0.size := ⟨_, rfl⟩
  rw [← g2] at A2 st2
  have ne_t1_b2 : t1 ≠ b2 := by rw [g2]; exact Nat.ne_of_lt gK1.lt
  have n0_b2 : n0 ≤ b2 := by rw [g2]; exact Z0
  have sz_b2 : h0.size ≤ b2 := by rw [g2]; exact (Keep.refl h0 []).1
  have K2 := (Keep.refl h0 []).ext E2
  have Zs2 := Nat.le_trans Z0 E2.1
  have V_b2 : Arv Z h2 b2 k2 .byte (Int32.ofNat (hi - lo)) (List.replicate (hi - lo) (.int (0 : Int32))) (.int (0 : Int32)) := (Arv.new A2 (own_nn0 (by omega))).pad (pad_rep [] (.int (0 : Int32)) (hi - lo))
  refine Done.step st2 ?_
  show Done _ p e below s _ _ (T2.setTop (mkF m 12 #[oR t1, oI (Int32.ofNat lo), oI (Int32.ofNat hi), oI (Int32.ofNat (hi - lo)), .unset] [(.ref b2)]))
  refine Done.step (fun _ => XS.astore X2.here hx rfl (hb hby d24_12) rfl rfl (l' := #[oR t1, oI (Int32.ofNat lo), oI (Int32.ofNat hi), oI (Int32.ofNat (hi - lo)), oR b2]) rfl) ?_
  show Done _ p e below s _ _ (T2.setTop (mkF m 14 #[oR t1, oI (Int32.ofNat lo), oI (Int32.ofNat hi), oI (Int32.ofNat (hi - lo)), oR b2] []))
  refine Done.step (fun _ => XS.aloadN X2.here hx rfl (hb hby d24_14) rfl rfl) ?_
  show Done _ p e below s _ _ (T2.setTop (mkF m 15 #[oR t1, oI (Int32.ofNat lo), oI (Int32.ofNat hi), oI (Int32.ofNat (hi - lo)), oR b2] [(.ref t1)]))
  refine Done.step (fun _ => XS.iloadN X2.here hx rfl (hb hby d24_15) rfl) ?_
  show Done _ p e below s _ _ (T2.setTop (mkF m 16 #[oR t1, oI (Int32.ofNat lo), oI (Int32.ofNat hi), oI (Int32.ofNat (hi - lo)), oR b2] [(.int (Int32.ofNat lo)), (.ref t1)]))
  refine Done.step (fun _ => XS.aload X2.here hx rfl (hb hby d24_16) rfl rfl) ?_
  show Done _ p e below s _ _ (T2.setTop (mkF m 18 #[oR t1, oI (Int32.ofNat lo), oI (Int32.ofNat hi), oI (Int32.ofNat (hi - lo)), oR b2] [(.ref b2), (.int (Int32.ofNat lo)), (.ref t1)]))
  refine Done.step (fun _ => XT.iconstV X2.here hx rfl (0 : Int32) (hb hby d24_18) (by decide)) ?_
  show Done _ p e below s _ _ (T2.setTop (mkF m 19 #[oR t1, oI (Int32.ofNat lo), oI (Int32.ofNat hi), oI (Int32.ofNat (hi - lo)), oR b2] [(.int (0 : Int32)), (.ref b2), (.int (Int32.ofNat lo)), (.ref t1)]))
  refine Done.step (fun _ => XS.aloadN X2.here hx rfl (hb hby d24_19) rfl rfl) ?_
  show Done _ p e below s _ _ (T2.setTop (mkF m 20 #[oR t1, oI (Int32.ofNat lo), oI (Int32.ofNat hi), oI (Int32.ofNat (hi - lo)), oR b2] [(.ref t1), (.int (0 : Int32)), (.ref b2), (.int (Int32.ofNat lo)), (.ref t1)]))
  have f4 := (gK1.ext E2)
  obtain ⟨cl3, Ar3, q3, S3, Nn3, H3, G3⟩ := id f4
  refine Done.step (X2.arraylength hx (by first | exact Ar3.1 | (rw [e2]; exact Ar3.1)) (State.isArrayOf_alike hZ.alike Ar3.2.1) (g := (mkF m 20 #[oR t1, oI (Int32.ofNat lo), oI (Int32.ofNat hi), oI (Int32.ofNat (hi - lo)), oR b2] [(.ref t1), (.int (0 : Int32)), (.ref b2), (.int (Int32.ofNat lo)), (.ref t1)])) rfl rfl (hb hby d24_20)) ?_
  rw [len_of S3 Nn3]
  show Done _ p e below s _ _ (T2.setTop (mkF m 21 #[oR t1, oI (Int32.ofNat lo), oI (Int32.ofNat hi), oI (Int32.ofNat (hi - lo)), oR b2] [(.int (Int32.ofNat N)), (.int (0 : Int32)), (.ref b2), (.int (Int32.ofNat lo)), (.ref t1)]))
  refine Done.step (fun _ => XS.iloadN X2.here hx rfl (hb hby d24_21) rfl) ?_
  show Done _ p e below s _ _ (T2.setTop (mkF m 22 #[oR t1, oI (Int32.ofNat lo), oI (Int32.ofNat hi), oI (Int32.ofNat (hi - lo)), oR b2] [(.int (Int32.ofNat lo)), (.int (Int32.ofNat N)), (.int (0 : Int32)), (.ref b2), (.int (Int32.ofNat lo)), (.ref t1)]))
  refine Done.step (fun _ => XS.isub X2.here hx rfl (hb hby d24_22) rfl) ?_
  show Done _ p e below s _ _ (T2.setTop (mkF m 23 #[oR t1, oI (Int32.ofNat lo), oI (Int32.ofNat hi), oI (Int32.ofNat (hi - lo)), oR b2] [(.int ((Int32.ofNat N) - (Int32.ofNat lo))), (.int (0 : Int32)), (.ref b2), (.int (Int32.ofNat lo)), (.ref t1)]))
  refine Done.step (fun _ => XS.iloadN X2.here hx rfl (hb hby d24_23) rfl) ?_
  show Done _ p e below s _ _ (T2.setTop (mkF m 24 #[oR t1, oI (Int32.ofNat lo), oI (Int32.ofNat hi), oI (Int32.ofNat (hi - lo)), oR b2] [(.int (Int32.ofNat (hi - lo))), (.int ((Int32.ofNat N) - (Int32.ofNat lo))), (.int (0 : Int32)), (.ref b2), (.int (Int32.ofNat lo)), (.ref t1)]))
  refine Done.callSP X2 hx hZ hown (wAt hw 112 rfl) (wAt hw 113 rfl) (wAt hw 33 rfl) (wAt hw 114 rfl) (by decide) (rMin l Z a0 hw [] ((Int32.ofNat N) - (Int32.ofNat lo)) (Int32.ofNat (hi - lo)) h2 n0 Zs2 (by rw [own_subN (by omega), own_lt (by omega) (by omega)]; omega)) e2 (g := (mkF m 24 #[oR t1, oI (Int32.ofNat lo), oI (Int32.ofNat hi), oI (Int32.ofNat (hi - lo)), oR b2] [(.int (Int32.ofNat (hi - lo))), (.int ((Int32.ofNat N) - (Int32.ofNat lo))), (.int (0 : Int32)), (.ref b2), (.int (Int32.ofNat lo)), (.ref t1)])) rfl (by rw [hml]; rfl) [(.int ((Int32.ofNat N) - (Int32.ofNat lo))), (.int (Int32.ofNat (hi - lo)))] [(.int (0 : Int32)), (.ref b2), (.int (Int32.ofNat lo)), (.ref t1)] 4 (lenOf pd_4 rfl) rfl rfl (by show 2 * 0 + _ ≤ _; exact Nat.le_of_eq rfl) (hb hby d24_24) (by decide) (by decide) (by decide) (by decide) rfl rfl ?_
  intro T5 X5 e5
  show Done _ p e below s _ _ (T5.setTop (mkF m 27 #[oR t1, oI (Int32.ofNat lo), oI (Int32.ofNat hi), oI (Int32.ofNat (hi - lo)), oR b2] [(.int (Int32.ofNat (hi - lo))), (.int (0 : Int32)), (.ref b2), (.int (Int32.ofNat lo)), (.ref t1)]))
  obtain ⟨T6, h6, L6, X6, e6, N6, Kc6, Vc6, st6⟩ := cpA X5 hx hZ hown (wAt hw 115 rfl) (wAt hw 118 rfl) (wAt hw 116 rfl) (wAt hw 117 rfl) e5 f4 V_b2 (Or.inl ⟨rfl, rfl⟩) (own_nn0 (by omega)) (by decide) (own_nn0 (by omega)) (by rw [own_tn (by omega), own_tn (by omega), own_tn (by omega)]; omega) (by rw [own_tn (by omega)]; exact Nat.le_of_eq (Nat.zero_add _)) rfl (by rw [own_tn (by omega), List.length_replicate]; exact Nat.le_of_eq (Nat.zero_add _)) N0 n0_b2 (g := (mkF m 27 #[oR t1, oI (Int32.ofNat lo), oI (Int32.ofNat hi), oI (Int32.ofNat (hi - lo)), oR b2] [(.int (Int32.ofNat (hi - lo))), (.int (0 : Int32)), (.ref b2), (.int (Int32.ofNat lo)), (.ref t1)])) rfl (by rw [hml]; rfl) (rest := []) rfl (hb hby d24_27) (by decide) (W := 0) (by show 2 * 0 + _ ≤ _; exact Nat.le_of_eq rfl) (by decide)
  have Zs6 := Nat.le_trans Zs2 Kc6.1
  have K6 := K2.trans Kc6 (allS (Or.inr sz_b2) all0)
  rw [own_cpl (by omega) (by omega)] at Vc6
  refine Done.step st6 ?_
  show Done _ p e below s _ _ (T6.setTop (mkF m 30 #[oR t1, oI (Int32.ofNat lo), oI (Int32.ofNat hi), oI (Int32.ofNat (hi - lo)), oR b2] []))
  refine Done.step (fun _ => XS.aload X6.here hx rfl (hb hby d24_30) rfl rfl) ?_
  show Done _ p e below s _ _ (T6.setTop (mkF m 32 #[oR t1, oI (Int32.ofNat lo), oI (Int32.ofNat hi), oI (Int32.ofNat (hi - lo)), oR b2] [(.ref b2)]))
  refine Done.retA (leavesF X6 hlk (by decide) (by decide)) X6 hx hret rfl rfl (hb hby d24_32) ?_
  rw [e6]
  exact ⟨b2, k2, rfl, N6, K6, sz_b2, Vc6⟩
theorem d23_0 : decode jdk_65_method_132_code 0 = .ok (.iload_n 1, 1) := by decide +kernel
theorem d23_1 : decode jdk_65_method_132_code 1 = .ok (.ifCond .ne 9, 3) := by decide +kernel
theorem d23_4 : decode jdk_65_method_132_code 4 = .ok (.iload_n 2, 1) := by decide +kernel
theorem d23_5 : decode jdk_65_method_132_code 5 = .ok (.aload_n 0, 1) := by decide +kernel
theorem d23_6 : decode jdk_65_method_132_code 6 = .ok (.arraylength, 1) := by decide +kernel
theorem d23_7 : decode jdk_65_method_132_code 7 = .ok (.if_icmp .eq 10, 3) := by decide +kernel
theorem d23_10 : decode jdk_65_method_132_code 10 = .ok (.aload_n 0, 1) := by decide +kernel
theorem d23_11 : decode jdk_65_method_132_code 11 = .ok (.iload_n 1, 1) := by decide +kernel
theorem d23_12 : decode jdk_65_method_132_code 12 = .ok (.iload_n 2, 1) := by decide +kernel
theorem d23_13 : decode jdk_65_method_132_code 13 = .ok (.invokestatic 339, 3) := by decide +kernel
theorem pd_5 : parseMethodDescriptor "([BII)[B" = some ⟨[(.array .byte), .int, .int], some (.array .byte)⟩ := by decide +kernel
theorem d23_16 : decode jdk_65_method_132_code 16 = .ok (.areturn, 1) := by decide +kernel
set_option maxRecDepth 65536 in
set_option maxHeartbeats 40000000 in
theorem rCR (l : Launch) (Z : State) (a0 : Array Value) (hw : ∀ d ∈ tables_1, d.before a0 Z = true) (ws : List Jvm.Cond) (t1 : Addr) (kb1 : ClassId) (vs : List Value) (lo hi N : Nat) (h0 : Heap) (n0 : Nat) (Z0 : n0 ≤ h0.size) (O0 : Old Z n0 h0) (gK1 : Arv Z h0 t1 kb1 .byte (Int32.ofNat N) vs (.int (0 : Int32))) (hN : N ≤ 8) (hle : lo ≤ hi) (hhi : hi ≤ N) (hv : vs.length = N) (hne : ¬ (lo = 0 ∧ hi = N)) :
    Ctr FrameEnd l Z (⟨"java/util/Arrays", "copyOfRange", "([BII)[B"⟩ : MethodName) jdk_65_method_132_code 3 (some (.array .byte)) ws ({ frames := 2, cells := 1, slots := 8, locals := 58 } : Room) #[(.ref t1), (.int (Int32.ofNat lo)), (.int (Int32.ofNat hi))] h0 TrueV (fun v h _ L => ∃ (b : Addr) (kb : ClassId), v = some (.ref b) ∧ Fr n0 L ∧ Keep h0 h [] ∧ h0.size ≤ b ∧ Arv Z h b kb .byte (Int32.ofNat (hi - lo)) ((vs.drop lo).take (hi - lo)) (.int (0 : Int32))) := by
  refine Ctr.intro (plainFor_of_name pn_java_util_Arrays) (Ls := #[.val (.ref t1), .val (.int (Int32.ofNat lo)), .val (.int (Int32.ofNat hi))]) (fun m => by first | (simp [entryFrame, mkF, argsToLocals, Value.category]; done) | rfl) ?_
  intro p e s m below meth c T0 hx hby hml hown hnm hret hlk hZ hV hsh e0 X0
  have N0 := Fr.nil n0
  show Done _ p e below s _ _ (T0.setTop (mkF m 0 #[oR t1, oI (Int32.ofNat lo), oI (Int32.ofNat hi)] []))
  refine Done.step (fun _ => XS.iloadN X0.here hx rfl (hb hby d23_0) rfl) ?_
  show Done _ p e below s _ _ (T0.setTop (mkF m 1 #[oR t1, oI (Int32.ofNat lo), oI (Int32.ofNat hi)] [(.int (Int32.ofNat lo))]))
  by_cases hc1 : (Int32.ofNat lo) = (0 : Int32)
  · refine Done.step (fun _ => XS.ifNo X0.here hx rfl (hb hby d23_1) rfl (XT.i0_ne_f hc1)) ?_
    show Done _ p e below s _ _ (T0.setTop (mkF m 4 #[oR t1, oI (Int32.ofNat lo), oI (Int32.ofNat hi)] []))
    refine Done.step (fun _ => XS.iloadN X0.here hx rfl (hb hby d23_4) rfl) ?_
    show Done _ p e below s _ _ (T0.setTop (mkF m 5 #[oR t1, oI (Int32.ofNat lo), oI (Int32.ofNat hi)] [(.int (Int32.ofNat hi))]))
    refine Done.step (fun _ => XS.aloadN X0.here hx rfl (hb hby d23_5) rfl rfl) ?_
    show Done _ p e below s _ _ (T0.setTop (mkF m 6 #[oR t1, oI (Int32.ofNat lo), oI (Int32.ofNat hi)] [(.ref t1), (.int (Int32.ofNat hi))]))
    obtain ⟨cl2, Ar2, q2, S2, Nn2, H2, G2⟩ := id gK1
    refine Done.step (X0.arraylength hx (by first | exact Ar2.1 | (rw [e0]; exact Ar2.1)) (State.isArrayOf_alike hZ.alike Ar2.2.1) (g := (mkF m 6 #[oR t1, oI (Int32.ofNat lo), oI (Int32.ofNat hi)] [(.ref t1), (.int (Int32.ofNat hi))])) rfl rfl (hb hby d23_6)) ?_
    rw [len_of S2 Nn2]
    show Done _ p e below s _ _ (T0.setTop (mkF m 7 #[oR t1, oI (Int32.ofNat lo), oI (Int32.ofNat hi)] [(.int (Int32.ofNat N)), (.int (Int32.ofNat hi))]))
    refine Done.step (fun _ => XS.icmpNo X0.here hx rfl (hb hby d23_7) rfl (XT.ii_eq_f (fun q => hne ⟨(own_eq0 (by omega)).mp hc1, (own_eqN (by omega) (by omega)).mp q⟩))) ?_
    show Done _ p e below s _ _ (T0.setTop (mkF m 10 #[oR t1, oI (Int32.ofNat lo), oI (Int32.ofNat hi)] []))
    refine Done.step (fun _ => XS.aloadN X0.here hx rfl (hb hby d23_10) rfl rfl) ?_
    show Done _ p e below s _ _ (T0.setTop (mkF m 11 #[oR t1, oI (Int32.ofNat lo), oI (Int32.ofNat hi)] [(.ref t1)]))
    refine Done.step (fun _ => XS.iloadN X0.here hx rfl (hb hby d23_11) rfl) ?_
    show Done _ p e below s _ _ (T0.setTop (mkF m 12 #[oR t1, oI (Int32.ofNat lo), oI (Int32.ofNat hi)] [(.int (Int32.ofNat lo)), (.ref t1)]))
    refine Done.step (fun _ => XS.iloadN X0.here hx rfl (hb hby d23_12) rfl) ?_
    show Done _ p e below s _ _ (T0.setTop (mkF m 13 #[oR t1, oI (Int32.ofNat lo), oI (Int32.ofNat hi)] [(.int (Int32.ofNat hi)), (.int (Int32.ofNat lo)), (.ref t1)]))
    refine Done.callS X0 hx hZ hown (wAt hw 106 rfl) (wAt hw 107 rfl) (wAt hw 104 rfl) (wAt hw 108 rfl) (by decide) (rCB l Z a0 hw [] t1 kb1 vs lo hi N h0 n0 Z0 O0 gK1 hN hle hhi hv) (fun _ _ => trivial) e0 (g := (mkF m 13 #[oR t1, oI (Int32.ofNat lo), oI (Int32.ofNat hi)] [(.int (Int32.ofNat hi)), (.int (Int32.ofNat lo)), (.ref t1)])) rfl (by rw [hml]; rfl) [(.ref t1), (.int (Int32.ofNat lo)), (.int (Int32.ofNat hi))] [] 0 (lenOf pd_5 rfl) rfl rfl (by show 2 * 0 + _ ≤ _; exact Nat.le_of_eq rfl) (hb hby d23_13) (by decide) (by decide) (by decide) (by decide) ?_
    intro T3 v3 L3 X3 q3
    obtain ⟨bC, kC, rfl, Nq3, K3q, sz_bC, VC⟩ := q3
    have N3 := Fr.app N0 Nq3
    have Zs3 := Nat.le_trans Z0 K3q.1
    have K3 := (Keep.refl h0 []).trans K3q all0
    show Done _ p e below s _ _ (T3.setTop (mkF m 16 #[oR t1, oI (Int32.ofNat lo), oI (Int32.ofNat hi)] [(.ref bC)]))
    exact Done.retA (leavesF X3 hlk (by decide) (by decide)) X3 hx hret rfl rfl (hb hby d23_16) ⟨bC, kC, rfl, N3, K3, sz_bC, VC⟩
  · refine Done.step (fun _ => XS.ifYes X0.here hx rfl (pc0 := 1) (pc' := 10) rfl (hb hby d23_1) rfl (XT.i0_ne_t hc1) (by decide) (by decide)) ?_
    show Done _ p e below s _ _ (T0.setTop (mkF m 10 #[oR t1, oI (Int32.ofNat lo), oI (Int32.ofNat hi)] []))
    refine Done.step (fun _ => XS.aloadN X0.here hx rfl (hb hby d23_10) rfl rfl) ?_
    show Done _ p e below s _ _ (T0.setTop (mkF m 11 #[oR t1, oI (Int32.ofNat lo), oI (Int32.ofNat hi)] [(.ref t1)]))
    refine Done.step (fun _ => XS.iloadN X0.here hx rfl (hb hby d23_11) rfl) ?_
    show Done _ p e below s _ _ (T0.setTop (mkF m 12 #[oR t1, oI (Int32.ofNat lo), oI (Int32.ofNat hi)] [(.int (Int32.ofNat lo)), (.ref t1)]))
    refine Done.step (fun _ => XS.iloadN X0.here hx rfl (hb hby d23_12) rfl) ?_
    show Done _ p e below s _ _ (T0.setTop (mkF m 13 #[oR t1, oI (Int32.ofNat lo), oI (Int32.ofNat hi)] [(.int (Int32.ofNat hi)), (.int (Int32.ofNat lo)), (.ref t1)]))
    refine Done.callS X0 hx hZ hown (wAt hw 106 rfl) (wAt hw 107 rfl) (wAt hw 104 rfl) (wAt hw 108 rfl) (by decide) (rCB l Z a0 hw [] t1 kb1 vs lo hi N h0 n0 Z0 O0 gK1 hN hle hhi hv) (fun _ _ => trivial) e0 (g := (mkF m 13 #[oR t1, oI (Int32.ofNat lo), oI (Int32.ofNat hi)] [(.int (Int32.ofNat hi)), (.int (Int32.ofNat lo)), (.ref t1)])) rfl (by rw [hml]; rfl) [(.ref t1), (.int (Int32.ofNat lo)), (.int (Int32.ofNat hi))] [] 0 (lenOf pd_5 rfl) rfl rfl (by show 2 * 0 + _ ≤ _; exact Nat.le_of_eq rfl) (hb hby d23_13) (by decide) (by decide) (by decide) (by decide) ?_
    intro T4 v4 L4 X4 q4
    obtain ⟨bC, kC, rfl, Nq4, K4q, sz_bC, VC⟩ := q4
    have N4 := Fr.app N0 Nq4
    have Zs4 := Nat.le_trans Z0 K4q.1
    have K4 := (Keep.refl h0 []).trans K4q all0
    show Done _ p e below s _ _ (T4.setTop (mkF m 16 #[oR t1, oI (Int32.ofNat lo), oI (Int32.ofNat hi)] [(.ref bC)]))
    exact Done.retA (leavesF X4 hlk (by decide) (by decide)) X4 hx hret rfl rfl (hb hby d23_16) ⟨bC, kC, rfl, N4, K4, sz_bC, VC⟩
theorem d27_0 : decode jdk_42_method_151_code 0 = .ok (.aload_n 0, 1) := by decide +kernel
theorem d27_1 : decode jdk_42_method_151_code 1 = .ok (.invokespecial 1, 3) := by decide +kernel
theorem d27_4 : decode jdk_42_method_151_code 4 = .ok (.aload_n 0, 1) := by decide +kernel
theorem d27_5 : decode jdk_42_method_151_code 5 = .ok (.aload_n 1, 1) := by decide +kernel
theorem d27_6 : decode jdk_42_method_151_code 6 = .ok (.putfield 9, 3) := by decide +kernel
theorem d27_9 : decode jdk_42_method_151_code 9 = .ok (.aload_n 0, 1) := by decide +kernel
theorem d27_10 : decode jdk_42_method_151_code 10 = .ok (.iload_n 2, 1) := by decide +kernel
theorem d27_11 : decode jdk_42_method_151_code 11 = .ok (.putfield 15, 3) := by decide +kernel
theorem d27_14 : decode jdk_42_method_151_code 14 = .ok (.return_, 1) := by decide +kernel
set_option maxRecDepth 65536 in
set_option maxHeartbeats 40000000 in
theorem vI0 (l : Launch) (Z : State) (a0 : Array Value) (hw : ∀ d ∈ tables_1, d.before a0 Z = true) (ws : List Jvm.Cond) (xx bA : Addr) (h0 : Heap) (n0 : Nat) (Z0 : n0 ≤ h0.size) (Ex : Exa Z h0 xx "java/lang/String") (Fv : Fld Z h0 xx "java/lang/String" "value" "[B" .null) (Fc : Fld Z h0 xx "java/lang/String" "coder" "B" (.int (0 : Int32))) (gx : n0 ≤ xx) (O0 : Old Z n0 h0) :
    Ctr FrameEnd l Z (⟨"java/lang/String", "<init>", "([BB)V"⟩ : MethodName) jdk_42_method_151_code 3 none ws ({ frames := 1, cells := 0, slots := 0, locals := 12 } : Room) #[(.ref xx), (.ref bA), (.int (0 : Int32))] h0 TrueV (fun v h _ L => v = none ∧ Fr n0 L ∧ Keep h0 h [xx] ∧ Exa Z h xx "java/lang/String" ∧ Fld Z h xx "java/lang/String" "value" "[B" (.ref bA) ∧ Fld Z h xx "java/lang/String" "coder" "B" (.int (0 : Int32))) := by
  refine Ctr.intro (plainFor_of_name pn_java_lang_String) (Ls := #[.val (.ref xx), .val (.ref bA), .val (.int (0 : Int32))]) (fun m => by first | (simp [entryFrame, mkF, argsToLocals, Value.category]; done) | rfl) ?_
  intro p e s m below meth c T0 hx hby hml hown hnm hret hlk hZ hV hsh e0 X0
  have N0 := Fr.nil n0
  show Done _ p e below s _ _ (T0.setTop (mkF m 0 #[oR xx, oR bA, oI (0 : Int32)] []))
  refine Done.step (fun _ => XS.aloadN X0.here hx rfl (hb hby d27_0) rfl rfl) ?_
  show Done _ p e below s _ _ (T0.setTop (mkF m 1 #[oR xx, oR bA, oI (0 : Int32)] [(.ref xx)]))
  obtain ⟨T1, X1, e1, st1⟩ := initO X0 hx hZ hown (wAt hw 20 rfl) (wAt hw 21 rfl) (wAt hw 22 rfl) e0 (g := (mkF m 1 #[oR xx, oR bA, oI (0 : Int32)] [(.ref xx)])) rfl (by rw [hml]; rfl) rfl (hb hby d27_1) (by decide) (W := 0) (by show 2 * 0 + _ ≤ _; exact Nat.le_of_eq rfl) (by decide)
  refine Done.step st1 ?_
  show Done _ p e below s _ _ (T1.setTop (mkF m 4 #[oR xx, oR bA, oI (0 : Int32)] []))
  refine Done.step (fun _ => XS.aloadN X1.here hx rfl (hb hby d27_4) rfl rfl) ?_
  show Done _ p e below s _ _ (T1.setTop (mkF m 5 #[oR xx, oR bA, oI (0 : Int32)] [(.ref xx)]))
  refine Done.step (fun _ => XS.aloadN X1.here hx rfl (hb hby d27_5) rfl rfl) ?_
  show Done _ p e below s _ _ (T1.setTop (mkF m 6 #[oR xx, oR bA, oI (0 : Int32)] [(.ref bA), (.ref xx)]))
  obtain ⟨T2, h2, X2, e2, W2, st2⟩ := putF X1 hx hZ hown (host := "") (Or.inl (wAt hw 29 rfl)) Via.refl e1 Fv Ex (Or.inr ⟨(wAt hw 25 rfl), rfl, hnm⟩) (wAt hw 10 rfl) (ty := (.array .byte)) (by decide) rfl rfl (g := (mkF m 6 #[oR xx, oR bA, oI (0 : Int32)] [(.ref bA), (.ref xx)])) rfl rfl (hb hby d27_6)
  have F2 := Fv.same W2
  have N2 := Fr.snoc X2 N0 gx
  have Zs2 := Nat.le_trans Z0 (Keep.of_wr W2).1
  have K2 := (Keep.refl h0 [xx]).wr W2 (Or.inl (List.mem_of_getElem? (i := 0) rfl))
  refine Done.step st2 ?_
  show Done _ p e below s _ _ (T2.setTop (mkF m 9 #[oR xx, oR bA, oI (0 : Int32)] []))
  refine Done.step (fun _ => XS.aloadN X2.here hx rfl (hb hby d27_9) rfl rfl) ?_
  show Done _ p e below s _ _ (T2.setTop (mkF m 10 #[oR xx, oR bA, oI (0 : Int32)] [(.ref xx)]))
  refine Done.step (fun _ => XS.iloadN X2.here hx rfl (hb hby d27_10) rfl) ?_
  show Done _ p e below s _ _ (T2.setTop (mkF m 11 #[oR xx, oR bA, oI (0 : Int32)] [(.int (0 : Int32)), (.ref xx)]))
  have f4 := (Fc.other W2 (Or.inr (slot_ne (Or.inr (wAt hw 26 rfl)) (Or.inr (wAt hw 25 rfl)) (by decide) (t := .byte) (t' := (.array .byte)) (by decide) (by decide))))
  have f5 := (Ex.wr W2)
  obtain ⟨T3, h3, X3, e3, W3, st3⟩ := putFN X2 hx hZ hown (wAt hw 30 rfl) Via.refl e2 f4 f5 (Or.inr ⟨(wAt hw 26 rfl), rfl, hnm⟩) (wAt hw 10 rfl) (ty := .byte) (v' := (.int (nar .byte (0 : Int32)))) (by decide) rfl (fits_nar_byte _) (g := (mkF m 11 #[oR xx, oR bA, oI (0 : Int32)] [(.int (0 : Int32)), (.ref xx)])) rfl rfl (hb hby d27_11)
  have F3 := f4.same W3
  have N3 := Fr.snoc X3 N2 gx
  have Zs3 := Nat.le_trans Zs2 (Keep.of_wr W3).1
  have K3 := K2.wr W3 (Or.inl (List.mem_of_getElem? (i := 0) rfl))
  refine Done.step st3 ?_
  show Done _ p e below s _ _ (T3.setTop (mkF m 14 #[oR xx, oR bA, oI (0 : Int32)] []))
  have f6 := (f5.wr W3)
  have f7 := (F2.other W3 (Or.inr (slot_ne (Or.inr (wAt hw 25 rfl)) (Or.inr (wAt hw 26 rfl)) (by decide) (t := (.array .byte)) (t' := .byte) (by decide) (by decide))))
  refine Done.retV (leavesF X3 hlk (by decide) (by decide)) X3 hx hret (hb hby d27_14) ?_
  rw [e3]
  exact ⟨rfl, N3, K3, f6, f7, F3⟩
set_option maxRecDepth 65536 in
set_option maxHeartbeats 40000000 in
theorem vI1 (l : Launch) (Z : State) (a0 : Array Value) (hw : ∀ d ∈ tables_1, d.before a0 Z = true) (ws : List Jvm.Cond) (xx bA : Addr) (h0 : Heap) (n0 : Nat) (Z0 : n0 ≤ h0.size) (Ex : Exa Z h0 xx "java/lang/String") (Fv : Fld Z h0 xx "java/lang/String" "value" "[B" .null) (Fc : Fld Z h0 xx "java/lang/String" "coder" "B" (.int (0 : Int32))) (gx : n0 ≤ xx) (O0 : Old Z n0 h0) :
    Ctr FrameEnd l Z (⟨"java/lang/String", "<init>", "([BB)V"⟩ : MethodName) jdk_42_method_151_code 3 none ws ({ frames := 1, cells := 0, slots := 0, locals := 12 } : Room) #[(.ref xx), (.ref bA), (.int (1 : Int32))] h0 TrueV (fun v h _ L => v = none ∧ Fr n0 L ∧ Keep h0 h [xx] ∧ Exa Z h xx "java/lang/String" ∧ Fld Z h xx "java/lang/String" "value" "[B" (.ref bA) ∧ Fld Z h xx "java/lang/String" "coder" "B" (.int (1 : Int32))) := by
  refine Ctr.intro (plainFor_of_name pn_java_lang_String) (Ls := #[.val (.ref xx), .val (.ref bA), .val (.int (1 : Int32))]) (fun m => by first | (simp [entryFrame, mkF, argsToLocals, Value.category]; done) | rfl) ?_
  intro p e s m below meth c T0 hx hby hml hown hnm hret hlk hZ hV hsh e0 X0
  have N0 := Fr.nil n0
  show Done _ p e below s _ _ (T0.setTop (mkF m 0 #[oR xx, oR bA, oI (1 : Int32)] []))
  refine Done.step (fun _ => XS.aloadN X0.here hx rfl (hb hby d27_0) rfl rfl) ?_
  show Done _ p e below s _ _ (T0.setTop (mkF m 1 #[oR xx, oR bA, oI (1 : Int32)] [(.ref xx)]))
  obtain ⟨T1, X1, e1, st1⟩ := initO X0 hx hZ hown (wAt hw 20 rfl) (wAt hw 21 rfl) (wAt hw 22 rfl) e0 (g := (mkF m 1 #[oR xx, oR bA, oI (1 : Int32)] [(.ref xx)])) rfl (by rw [hml]; rfl) rfl (hb hby d27_1) (by decide) (W := 0) (by show 2 * 0 + _ ≤ _; exact Nat.le_of_eq rfl) (by decide)
  refine Done.step st1 ?_
  show Done _ p e below s _ _ (T1.setTop (mkF m 4 #[oR xx, oR bA, oI (1 : Int32)] []))
  refine Done.step (fun _ => XS.aloadN X1.here hx rfl (hb hby d27_4) rfl rfl) ?_
  show Done _ p e below s _ _ (T1.setTop (mkF m 5 #[oR xx, oR bA, oI (1 : Int32)] [(.ref xx)]))
  refine Done.step (fun _ => XS.aloadN X1.here hx rfl (hb hby d27_5) rfl rfl) ?_
  show Done _ p e below s _ _ (T1.setTop (mkF m 6 #[oR xx, oR bA, oI (1 : Int32)] [(.ref bA), (.ref xx)]))
  obtain ⟨T2, h2, X2, e2, W2, st2⟩ := putF X1 hx hZ hown (host := "") (Or.inl (wAt hw 29 rfl)) Via.refl e1 Fv Ex (Or.inr ⟨(wAt hw 25 rfl), rfl, hnm⟩) (wAt hw 10 rfl) (ty := (.array .byte)) (by decide) rfl rfl (g := (mkF m 6 #[oR xx, oR bA, oI (1 : Int32)] [(.ref bA), (.ref xx)])) rfl rfl (hb hby d27_6)
  have F2 := Fv.same W2
  have N2 := Fr.snoc X2 N0 gx
  have Zs2 := Nat.le_trans Z0 (Keep.of_wr W2).1
  have K2 := (Keep.refl h0 [xx]).wr W2 (Or.inl (List.mem_of_getElem? (i := 0) rfl))
  refine Done.step st2 ?_
  show Done _ p e below s _ _ (T2.setTop (mkF m 9 #[oR xx, oR bA, oI (1 : Int32)] []))
  refine Done.step (fun _ => XS.aloadN X2.here hx rfl (hb hby d27_9) rfl rfl) ?_
  show Done _ p e below s _ _ (T2.setTop (mkF m 10 #[oR xx, oR bA, oI (1 : Int32)] [(.ref xx)]))
  refine Done.step (fun _ => XS.iloadN X2.here hx rfl (hb hby d27_10) rfl) ?_
  show Done _ p e below s _ _ (T2.setTop (mkF m 11 #[oR xx, oR bA, oI (1 : Int32)] [(.int (1 : Int32)), (.ref xx)]))
  have f4 := (Fc.other W2 (Or.inr (slot_ne (Or.inr (wAt hw 26 rfl)) (Or.inr (wAt hw 25 rfl)) (by decide) (t := .byte) (t' := (.array .byte)) (by decide) (by decide))))
  have f5 := (Ex.wr W2)
  obtain ⟨T3, h3, X3, e3, W3, st3⟩ := putFN X2 hx hZ hown (wAt hw 30 rfl) Via.refl e2 f4 f5 (Or.inr ⟨(wAt hw 26 rfl), rfl, hnm⟩) (wAt hw 10 rfl) (ty := .byte) (v' := (.int (nar .byte (1 : Int32)))) (by decide) rfl (fits_nar_byte _) (g := (mkF m 11 #[oR xx, oR bA, oI (1 : Int32)] [(.int (1 : Int32)), (.ref xx)])) rfl rfl (hb hby d27_11)
  have F3 := f4.same W3
  have N3 := Fr.snoc X3 N2 gx
  have Zs3 := Nat.le_trans Zs2 (Keep.of_wr W3).1
  have K3 := K2.wr W3 (Or.inl (List.mem_of_getElem? (i := 0) rfl))
  refine Done.step st3 ?_
  show Done _ p e below s _ _ (T3.setTop (mkF m 14 #[oR xx, oR bA, oI (1 : Int32)] []))
  have f6 := (f5.wr W3)
  have f7 := (F2.other W3 (Or.inr (slot_ne (Or.inr (wAt hw 25 rfl)) (Or.inr (wAt hw 26 rfl)) (by decide) (t := (.array .byte)) (t' := .byte) (by decide) (by decide))))
  refine Done.retV (leavesF X3 hlk (by decide) (by decide)) X3 hx hret (hb hby d27_14) ?_
  rw [e3]
  exact ⟨rfl, N3, K3, f6, f7, F3⟩
theorem pn_java_lang_StringUTF16 : plainName "java/lang/StringUTF16" = true := by first | (simp [plainName, overriddenIn]; done) | decide +kernel
theorem d33_0 : decode jdk_52_method_5_code 0 = .ok (.getstatic 44, 3) := by decide +kernel
theorem d33_3 : decode jdk_52_method_5_code 3 = .ok (.ifCond .ne 25, 3) := by decide +kernel
theorem d33_28 : decode jdk_52_method_5_code 28 = .ok (.iload_n 1, 1) := by decide +kernel
theorem d33_29 : decode jdk_52_method_5_code 29 = .ok (.iconst 1, 1) := by decide +kernel
theorem d33_30 : decode jdk_52_method_5_code 30 = .ok (.ishl, 1) := by decide +kernel
theorem d33_31 : decode jdk_52_method_5_code 31 = .ok (.istore_n 1, 1) := by decide +kernel
theorem d33_32 : decode jdk_52_method_5_code 32 = .ok (.aload_n 0, 1) := by decide +kernel
theorem d33_33 : decode jdk_52_method_5_code 33 = .ok (.iload_n 1, 1) := by decide +kernel
theorem d33_34 : decode jdk_52_method_5_code 34 = .ok (.iinc 1 1, 3) := by decide +kernel
theorem d33_37 : decode jdk_52_method_5_code 37 = .ok (.baload, 1) := by decide +kernel
theorem d33_38 : decode jdk_52_method_5_code 38 = .ok (.sipush 255, 3) := by decide +kernel
theorem d33_41 : decode jdk_52_method_5_code 41 = .ok (.iand, 1) := by decide +kernel
theorem d33_42 : decode jdk_52_method_5_code 42 = .ok (.getstatic 59, 3) := by decide +kernel
theorem d33_45 : decode jdk_52_method_5_code 45 = .ok (.ishl, 1) := by decide +kernel
theorem d33_46 : decode jdk_52_method_5_code 46 = .ok (.aload_n 0, 1) := by decide +kernel
theorem d33_47 : decode jdk_52_method_5_code 47 = .ok (.iload_n 1, 1) := by decide +kernel
theorem d33_48 : decode jdk_52_method_5_code 48 = .ok (.baload, 1) := by decide +kernel
theorem d33_49 : decode jdk_52_method_5_code 49 = .ok (.sipush 255, 3) := by decide +kernel
theorem d33_52 : decode jdk_52_method_5_code 52 = .ok (.iand, 1) := by decide +kernel
theorem d33_53 : decode jdk_52_method_5_code 53 = .ok (.getstatic 63, 3) := by decide +kernel
theorem d33_56 : decode jdk_52_method_5_code 56 = .ok (.ishl, 1) := by decide +kernel
theorem d33_57 : decode jdk_52_method_5_code 57 = .ok (.ior, 1) := by decide +kernel
theorem d33_58 : decode jdk_52_method_5_code 58 = .ok (.i2c, 1) := by decide +kernel
theorem d33_59 : decode jdk_52_method_5_code 59 = .ok (.ireturn, 1) := by decide +kernel
set_option maxRecDepth 65536 in
set_option maxHeartbeats 40000000 in
theorem rG (l : Launch) (Z : State) (a0 : Array Value) (hw : ∀ d ∈ tables_1, d.before a0 Z = true) (ws : List Jvm.Cond) (t1 : Addr) (kb1 : ClassId) (cs : List Int32) (i : Nat) (z : Int32) (fm : Value) (h0 : Heap) (n0 : Nat) (Z0 : n0 ≤ h0.size) (O0 : Old Z n0 h0) (SC : Sta Z Z.heap "java/lang/String" "COMPACT_STRINGS" "Z" (.int z)) (hz : ¬ z = 0) (SF : Sta Z Z.heap "jdk/internal/util/Preconditions" "SIOOBE_FORMATTER" "Ljava/util/function/BiFunction;" fm) (rF : fm.isRef = true) (SA : Sta Z Z.heap "java/lang/StringUTF16" "$assertionsDisabled" "Z" (.int (1 : Int32))) (SH : Sta Z Z.heap "java/lang/StringUTF16" "HI_BYTE_SHIFT" "I" (.int (0 : Int32))) (SL : Sta Z Z.heap "java/lang/StringUTF16" "LO_BYTE_SHIFT" "I" (.int (8 : Int32))) (gK1 : Arv Z h0 t1 kb1 .byte (Int32.ofNat (2 * cs.length)) (own_hl cs) (.int (0 : Int32))) (hn : cs.length ≤ 4) (hi : i < cs.length) (hbc : ∀ c ∈ cs, ¬ c < 0 ∧ ¬ (65535 : Int32) < c) :
    Ctr FrameEnd l Z (⟨"java/lang/StringUTF16", "getChar", "([BI)C"⟩ : MethodName) jdk_52_method_5_code 2 (some .char) ws ({ frames := 0, cells := 0, slots := 0, locals := 0 } : Room) #[(.ref t1), (.int (Int32.ofNat i))] h0 TrueV (PureQ (some (.int (cs.getD i 0))) h0) := by
  refine Ctr.intro (plainFor_of_name pn_java_lang_StringUTF16) (Ls := #[.val (.ref t1), .val (.int (Int32.ofNat i))]) (fun m => by first | (simp [entryFrame, mkF, argsToLocals, Value.category]; done) | rfl) ?_
  intro p e s m below meth c T0 hx hby hml hown hnm hret hlk hZ hV hsh e0 X0
  have N0 := Fr.nil n0
  show Done _ p e below s _ _ (T0.setTop (mkF m 0 #[oR t1, oI (Int32.ofNat i)] []))
  obtain ⟨T1, X1, e1, st1⟩ := getS2 X0 hx hZ hown (host := "") (Or.inl (wAt hw 140 rfl)) Via.refl e0 (SA.ext O0.2) (g := (mkF m 0 #[oR t1, oI (Int32.ofNat i)] [])) rfl (hb hby d33_0)
  refine Done.step st1 ?_
  show Done _ p e below s _ _ (T1.setTop (mkF m 3 #[oR t1, oI (Int32.ofNat i)] [(.int (1 : Int32))]))
  refine Done.step (fun _ => XS.ifYes X1.here hx rfl (pc0 := 3) (pc' := 28) rfl (hb hby d33_3) rfl (XT.i0_ne_t (by decide)) (by decide) (by decide)) ?_
  show Done _ p e below s _ _ (T1.setTop (mkF m 28 #[oR t1, oI (Int32.ofNat i)] []))
  refine Done.step (fun _ => XS.iloadN X1.here hx rfl (hb hby d33_28) rfl) ?_
  show Done _ p e below s _ _ (T1.setTop (mkF m 29 #[oR t1, oI (Int32.ofNat i)] [(.int (Int32.ofNat i))]))
  refine Done.step (fun _ => XT.iconstV X1.here hx rfl (1 : Int32) (hb hby d33_29) (by decide)) ?_
  show Done _ p e below s _ _ (T1.setTop (mkF m 30 #[oR t1, oI (Int32.ofNat i)] [(.int (1 : Int32)), (.int (Int32.ofNat i))]))
  refine Done.step (fun _ => XT.ishl X1.here hx rfl (hb hby d33_30) rfl) ?_
  show Done _ p e below s _ _ (T1.setTop (mkF m 31 #[oR t1, oI (Int32.ofNat i)] [(.int ((Int32.ofNat i) <<< ((1 : Int32) &&& 31)))]))
  rw [own_shl (by omega)]
  show Done _ p e below s _ _ (T1.setTop (mkF m 31 #[oR t1, oI (Int32.ofNat i)] [(.int (Int32.ofNat (2 * i)))]))
  refine Done.step (fun _ => XS.istoreN X1.here hx rfl (hb hby d33_31) rfl (l' := #[oR t1, oI (Int32.ofNat (2 * i))]) rfl) ?_
  show Done _ p e below s _ _ (T1.setTop (mkF m 32 #[oR t1, oI (Int32.ofNat (2 * i))] []))
  refine Done.step (fun _ => XS.aloadN X1.here hx rfl (hb hby d33_32) rfl rfl) ?_
  show Done _ p e below s _ _ (T1.setTop (mkF m 33 #[oR t1, oI (Int32.ofNat (2 * i))] [(.ref t1)]))
  refine Done.step (fun _ => XS.iloadN X1.here hx rfl (hb hby d33_33) rfl) ?_
  show Done _ p e below s _ _ (T1.setTop (mkF m 34 #[oR t1, oI (Int32.ofNat (2 * i))] [(.int (Int32.ofNat (2 * i))), (.ref t1)]))
  refine Done.step (fun _ => XS.iinc X1.here hx rfl (hb hby d33_34) rfl (l' := #[oR t1, oI ((Int32.ofNat (2 * i)) + (1 : Int32))]) rfl) ?_
  show Done _ p e below s _ _ (T1.setTop (mkF m 37 #[oR t1, oI ((Int32.ofNat (2 * i)) + (1 : Int32))] [(.int (Int32.ofNat (2 * i))), (.ref t1)]))
  rw [own_inc (2 * i)]
  show Done _ p e below s _ _ (T1.setTop (mkF m 37 #[oR t1, oI (Int32.ofNat (2 * i + 1))] [(.int (Int32.ofNat (2 * i))), (.ref t1)]))
  obtain ⟨cl2, Ar2, q2, S2, Nn2, H2, G2⟩ := id gK1
  have hin2 : ¬ ((Int32.ofNat (2 * i)) < 0 ∨ cl2.slots.size ≤ ((Int32.ofNat (2 * i))).toNatClampNeg) := inb_of S2 (own_ix (by omega) (by omega))
  have hat2 := Has.at H2 hin2 (v := .int (own_hi (cs.getD i 0))) (by rw [own_tn (by omega)]; exact (own_hlG cs i hi _).1)
  refine Done.step (X1.baloadBytes hx (j := (Int32.ofNat (2 * i))) (v := .int (own_hi (cs.getD i 0))) (by first | exact Ar2.1 | (rw [e1]; exact Ar2.1)) (State.isArrayOf_alike hZ.alike Ar2.2.1) Ar2.2.2 hin2 hat2 (g := (mkF m 37 #[oR t1, oI (Int32.ofNat (2 * i + 1))] [(.int (Int32.ofNat (2 * i))), (.ref t1)])) rfl rfl (hb hby d33_37)) ?_
  show Done _ p e below s _ _ (T1.setTop (mkF m 38 #[oR t1, oI (Int32.ofNat (2 * i + 1))] [(.int (own_hi (cs.getD i 0)))]))
  refine Done.step (fun _ => XT.sipushV X1.here hx rfl (255 : Int32) (hb hby d33_38) (by decide)) ?_
  show Done _ p e below s _ _ (T1.setTop (mkF m 41 #[oR t1, oI (Int32.ofNat (2 * i + 1))] [(.int (255 : Int32)), (.int (own_hi (cs.getD i 0)))]))
  refine Done.step (fun _ => XS.iand X1.here hx rfl (hb hby d33_41) rfl) ?_
  show Done _ p e below s _ _ (T1.setTop (mkF m 42 #[oR t1, oI (Int32.ofNat (2 * i + 1))] [(.int ((own_hi (cs.getD i 0)) &&& (255 : Int32)))]))
  obtain ⟨T3, X3, e3, st3⟩ := getS2 X1 hx hZ hown (host := "") (Or.inl (wAt hw 141 rfl)) Via.refl e1 (SH.ext O0.2) (g := (mkF m 42 #[oR t1, oI (Int32.ofNat (2 * i + 1))] [(.int ((own_hi (cs.getD i 0)) &&& (255 : Int32)))])) rfl (hb hby d33_42)
  refine Done.step st3 ?_
  show Done _ p e below s _ _ (T3.setTop (mkF m 45 #[oR t1, oI (Int32.ofNat (2 * i + 1))] [(.int (0 : Int32)), (.int ((own_hi (cs.getD i 0)) &&& (255 : Int32)))]))
  refine Done.step (fun _ => XT.ishl X3.here hx rfl (hb hby d33_45) rfl) ?_
  show Done _ p e below s _ _ (T3.setTop (mkF m 46 #[oR t1, oI (Int32.ofNat (2 * i + 1))] [(.int (((own_hi (cs.getD i 0)) &&& (255 : Int32)) <<< ((0 : Int32) &&& 31)))]))
  refine Done.step (fun _ => XS.aloadN X3.here hx rfl (hb hby d33_46) rfl rfl) ?_
  show Done _ p e below s _ _ (T3.setTop (mkF m 47 #[oR t1, oI (Int32.ofNat (2 * i + 1))] [(.ref t1), (.int (((own_hi (cs.getD i 0)) &&& (255 : Int32)) <<< ((0 : Int32) &&& 31)))]))
  refine Done.step (fun _ => XS.iloadN X3.here hx rfl (hb hby d33_47) rfl) ?_
  show Done _ p e below s _ _ (T3.setTop (mkF m 48 #[oR t1, oI (Int32.ofNat (2 * i + 1))] [(.int (Int32.ofNat (2 * i + 1))), (.ref t1), (.int (((own_hi (cs.getD i 0)) &&& (255 : Int32)) <<< ((0 : Int32) &&& 31)))]))
  obtain ⟨cl4, Ar4, q4, S4, Nn4, H4, G4⟩ := id gK1
  have hin4 : ¬ ((Int32.ofNat (2 * i + 1)) < 0 ∨ cl4.slots.size ≤ ((Int32.ofNat (2 * i + 1))).toNatClampNeg) := inb_of S4 (own_ix (by omega) (by omega))
  have hat4 := Has.at H4 hin4 (v := .int (own_lo (cs.getD i 0))) (by rw [own_tn (by omega)]; exact (own_hlG cs i hi _).2)
  refine Done.step (X3.baloadBytes hx (j := (Int32.ofNat (2 * i + 1))) (v := .int (own_lo (cs.getD i 0))) (by first | exact Ar4.1 | (rw [e3]; exact Ar4.1)) (State.isArrayOf_alike hZ.alike Ar4.2.1) Ar4.2.2 hin4 hat4 (g := (mkF m 48 #[oR t1, oI (Int32.ofNat (2 * i + 1))] [(.int (Int32.ofNat (2 * i + 1))), (.ref t1), (.int (((own_hi (cs.getD i 0)) &&& (255 : Int32)) <<< ((0 : Int32) &&& 31)))])) rfl rfl (hb hby d33_48)) ?_
  show Done _ p e below s _ _ (T3.setTop (mkF m 49 #[oR t1, oI (Int32.ofNat (2 * i + 1))] [(.int (own_lo (cs.getD i 0))), (.int (((own_hi (cs.getD i 0)) &&& (255 : Int32)) <<< ((0 : Int32) &&& 31)))]))
  refine Done.step (fun _ => XT.sipushV X3.here hx rfl (255 : Int32) (hb hby d33_49) (by decide)) ?_
  show Done _ p e below s _ _ (T3.setTop (mkF m 52 #[oR t1, oI (Int32.ofNat (2 * i + 1))] [(.int (255 : Int32)), (.int (own_lo (cs.getD i 0))), (.int (((own_hi (cs.getD i 0)) &&& (255 : Int32)) <<< ((0 : Int32) &&& 31)))]))
  refine Done.step (fun _ => XS.iand X3.here hx rfl (hb hby d33_52) rfl) ?_
  show Done _ p e below s _ _ (T3.setTop (mkF m 53 #[oR t1, oI (Int32.ofNat (2 * i + 1))] [(.int ((own_lo (cs.getD i 0)) &&& (255 : Int32))), (.int (((own_hi (cs.getD i 0)) &&& (255 : Int32)) <<< ((0 : Int32) &&& 31)))]))
  obtain ⟨T5, X5, e5, st5⟩ := getS2 X3 hx hZ hown (host := "") (Or.inl (wAt hw 142 rfl)) Via.refl e3 (SL.ext O0.2) (g := (mkF m 53 #[oR t1, oI (Int32.ofNat (2 * i + 1))] [(.int ((own_lo (cs.getD i 0)) &&& (255 : Int32))), (.int (((own_hi (cs.getD i 0)) &&& (255 : Int32)) <<< ((0 : Int32) &&& 31)))])) rfl (hb hby d33_53)
  refine Done.step st5 ?_
  show Done _ p e below s _ _ (T5.setTop (mkF m 56 #[oR t1, oI (Int32.ofNat (2 * i + 1))] [(.int (8 : Int32)), (.int ((own_lo (cs.getD i 0)) &&& (255 : Int32))), (.int (((own_hi (cs.getD i 0)) &&& (255 : Int32)) <<< ((0 : Int32) &&& 31)))]))
  refine Done.step (fun _ => XT.ishl X5.here hx rfl (hb hby d33_56) rfl) ?_
  show Done _ p e below s _ _ (T5.setTop (mkF m 57 #[oR t1, oI (Int32.ofNat (2 * i + 1))] [(.int (((own_lo (cs.getD i 0)) &&& (255 : Int32)) <<< ((8 : Int32) &&& 31))), (.int (((own_hi (cs.getD i 0)) &&& (255 : Int32)) <<< ((0 : Int32) &&& 31)))]))
  refine Done.step (fun _ => XT.ior X5.here hx rfl (hb hby d33_57) rfl) ?_
  show Done _ p e below s _ _ (T5.setTop (mkF m 58 #[oR t1, oI (Int32.ofNat (2 * i + 1))] [(.int ((((own_hi (cs.getD i 0)) &&& (255 : Int32)) <<< ((0 : Int32) &&& 31)) ||| (((own_lo (cs.getD i 0)) &&& (255 : Int32)) <<< ((8 : Int32) &&& 31))))]))
  refine Done.step (fun _ => XT.i2c X5.here hx rfl (hb hby d33_58) rfl) ?_
  show Done _ p e below s _ _ (T5.setTop (mkF m 59 #[oR t1, oI (Int32.ofNat (2 * i + 1))] [(.int (((((own_hi (cs.getD i 0)) &&& (255 : Int32)) <<< ((0 : Int32) &&& 31)) ||| (((own_lo (cs.getD i 0)) &&& (255 : Int32)) <<< ((8 : Int32) &&& 31))).toUInt32.toUInt16.toUInt32.toInt32))]))
  exact Done.retN (leavesF X5 hlk (by decide) (by decide)) X5 hx (t := .char) hret (by simp) (hb hby d33_59) ⟨(congrArg (fun q => some (Value.int q)) (own_jn (own_mem hbc (i := i) (by omega)))), e5, rfl⟩
theorem d36_0 : decode jdk_52_method_6_code 0 = .ok (.aload_n 0, 1) := by decide +kernel
theorem d36_1 : decode jdk_52_method_6_code 1 = .ok (.arraylength, 1) := by decide +kernel
theorem d36_2 : decode jdk_52_method_6_code 2 = .ok (.iconst 1, 1) := by decide +kernel
theorem d36_3 : decode jdk_52_method_6_code 3 = .ok (.ishr, 1) := by decide +kernel
theorem d36_4 : decode jdk_52_method_6_code 4 = .ok (.ireturn, 1) := by decide +kernel
set_option maxRecDepth 65536 in
set_option maxHeartbeats 40000000 in
theorem rU (l : Launch) (Z : State) (a0 : Array Value) (hw : ∀ d ∈ tables_1, d.before a0 Z = true) (ws : List Jvm.Cond) (t1 : Addr) (kb1 : ClassId) (cs : List Int32) (z : Int32) (fm : Value) (h0 : Heap) (n0 : Nat) (Z0 : n0 ≤ h0.size) (O0 : Old Z n0 h0) (SC : Sta Z Z.heap "java/lang/String" "COMPACT_STRINGS" "Z" (.int z)) (hz : ¬ z = 0) (SF : Sta Z Z.heap "jdk/internal/util/Preconditions" "SIOOBE_FORMATTER" "Ljava/util/function/BiFunction;" fm) (rF : fm.isRef = true) (SA : Sta Z Z.heap "java/lang/StringUTF16" "$assertionsDisabled" "Z" (.int (1 : Int32))) (SH : Sta Z Z.heap "java/lang/StringUTF16" "HI_BYTE_SHIFT" "I" (.int (0 : Int32))) (SL : Sta Z Z.heap "java/lang/StringUTF16" "LO_BYTE_SHIFT" "I" (.int (8 : Int32))) (gK1 : Arv Z h0 t1 kb1 .byte (Int32.ofNat (2 * cs.length)) (own_hl cs) (.int (0 : Int32))) (hn : cs.length ≤ 4) :
    Ctr FrameEnd l Z (⟨"java/lang/StringUTF16", "length", "([B)I"⟩ : MethodName) jdk_52_method_6_code 1 (some .int) ws ({ frames := 0, cells := 0, slots := 0, locals := 0 } : Room) #[(.ref t1)] h0 TrueV (PureQ (some (.int (Int32.ofNat cs.length))) h0) := by
  refine Ctr.intro (plainFor_of_name pn_java_lang_StringUTF16) (Ls := #[.val (.ref t1)]) (fun m => by first | (simp [entryFrame, mkF, argsToLocals, Value.category]; done) | rfl) ?_
  intro p e s m below meth c T0 hx hby hml hown hnm hret hlk hZ hV hsh e0 X0
  have N0 := Fr.nil n0
  show Done _ p e below s _ _ (T0.setTop (mkF m 0 #[oR t1] []))
  refine Done.step (fun _ => XS.aloadN X0.here hx rfl (hb hby d36_0) rfl rfl) ?_
  show Done _ p e below s _ _ (T0.setTop (mkF m 1 #[oR t1] [(.ref t1)]))
  obtain ⟨cl1, Ar1, q1, S1, Nn1, H1, G1⟩ := id gK1
  refine Done.step (X0.arraylength hx (by first | exact Ar1.1 | (rw [e0]; exact Ar1.1)) (State.isArrayOf_alike hZ.alike Ar1.2.1) (g := (mkF m 1 #[oR t1] [(.ref t1)])) rfl rfl (hb hby d36_1)) ?_
  rw [len_of S1 Nn1]
  show Done _ p e below s _ _ (T0.setTop (mkF m 2 #[oR t1] [(.int (Int32.ofNat (2 * cs.length)))]))
  refine Done.step (fun _ => XT.iconstV X0.here hx rfl (1 : Int32) (hb hby d36_2) (by decide)) ?_
  show Done _ p e below s _ _ (T0.setTop (mkF m 3 #[oR t1] [(.int (1 : Int32)), (.int (Int32.ofNat (2 * cs.length)))]))
  refine Done.step (fun _ => XT.ishr X0.here hx rfl (hb hby d36_3) rfl) ?_
  show Done _ p e below s _ _ (T0.setTop (mkF m 4 #[oR t1] [(.int ((Int32.ofNat (2 * cs.length)) >>> ((1 : Int32) &&& 31)))]))
  exact Done.retI (leavesF X0 hlk (by decide) (by decide)) X0 hx hret (hb hby d36_4) ⟨by rw [own_shr1 (by omega)], e0, rfl⟩
theorem d35_0 : decode jdk_52_method_91_code 0 = .ok (.iload_n 0, 1) := by decide +kernel
theorem d35_1 : decode jdk_52_method_91_code 1 = .ok (.aload_n 1, 1) := by decide +kernel
theorem d35_2 : decode jdk_52_method_91_code 2 = .ok (.invokestatic 48, 3) := by decide +kernel
theorem pd_6 : parseMethodDescriptor "([B)I" = some ⟨[(.array .byte)], some .int⟩ := by decide +kernel
theorem d35_5 : decode jdk_52_method_91_code 5 = .ok (.invokestatic 414, 3) := by decide +kernel
theorem d35_8 : decode jdk_52_method_91_code 8 = .ok (.return_, 1) := by decide +kernel
set_option maxRecDepth 65536 in
set_option maxHeartbeats 40000000 in
theorem rV (l : Launch) (Z : State) (a0 : Array Value) (hw : ∀ d ∈ tables_1, d.before a0 Z = true) (ws : List Jvm.Cond) (t1 : Addr) (kb1 : ClassId) (cs : List Int32) (i : Nat) (z : Int32) (fm : Value) (h0 : Heap) (n0 : Nat) (Z0 : n0 ≤ h0.size) (O0 : Old Z n0 h0) (SC : Sta Z Z.heap "java/lang/String" "COMPACT_STRINGS" "Z" (.int z)) (hz : ¬ z = 0) (SF : Sta Z Z.heap "jdk/internal/util/Preconditions" "SIOOBE_FORMATTER" "Ljava/util/function/BiFunction;" fm) (rF : fm.isRef = true) (SA : Sta Z Z.heap "java/lang/StringUTF16" "$assertionsDisabled" "Z" (.int (1 : Int32))) (SH : Sta Z Z.heap "java/lang/StringUTF16" "HI_BYTE_SHIFT" "I" (.int (0 : Int32))) (SL : Sta Z Z.heap "java/lang/StringUTF16" "LO_BYTE_SHIFT" "I" (.int (8 : Int32))) (gK1 : Arv Z h0 t1 kb1 .byte (Int32.ofNat (2 * cs.length)) (own_hl cs) (.int (0 : Int32))) (hn : cs.length ≤ 4) (hi : i < cs.length) :
    Ctr FrameEnd l Z (⟨"java/lang/StringUTF16", "checkIndex", "(I[B)V"⟩ : MethodName) jdk_52_method_91_code 2 none ws ({ frames := 2, cells := 0, slots := 0, locals := 29 } : Room) #[(.int (Int32.ofNat i)), (.ref t1)] h0 TrueV (PureQ none h0) := by
  refine Ctr.intro (plainFor_of_name pn_java_lang_StringUTF16) (Ls := #[.val (.int (Int32.ofNat i)), .val (.ref t1)]) (fun m => by first | (simp [entryFrame, mkF, argsToLocals, Value.category]; done) | rfl) ?_
  intro p e s m below meth c T0 hx hby hml hown hnm hret hlk hZ hV hsh e0 X0
  have N0 := Fr.nil n0
  show Done _ p e below s _ _ (T0.setTop (mkF m 0 #[oI (Int32.ofNat i), oR t1] []))
  refine Done.step (fun _ => XS.iloadN X0.here hx rfl (hb hby d35_0) rfl) ?_
  show Done _ p e below s _ _ (T0.setTop (mkF m 1 #[oI (Int32.ofNat i), oR t1] [(.int (Int32.ofNat i))]))
  refine Done.step (fun _ => XS.aloadN X0.here hx rfl (hb hby d35_1) rfl rfl) ?_
  show Done _ p e below s _ _ (T0.setTop (mkF m 2 #[oI (Int32.ofNat i), oR t1] [(.ref t1), (.int (Int32.ofNat i))]))
  refine Done.callSP X0 hx hZ hown (wAt hw 152 rfl) (wAt hw 153 rfl) (wAt hw 67 rfl) (wAt hw 154 rfl) (by decide) (rU l Z a0 hw [] t1 kb1 cs z fm h0 n0 Z0 O0 SC hz SF rF SA SH SL gK1 hn) e0 (g := (mkF m 2 #[oI (Int32.ofNat i), oR t1] [(.ref t1), (.int (Int32.ofNat i))])) rfl (by rw [hml]; rfl) [(.ref t1)] [(.int (Int32.ofNat i))] 1 (lenOf pd_6 rfl) rfl rfl (by show 2 * 0 + _ ≤ _; exact Nat.le_of_eq rfl) (hb hby d35_2) (by decide) (by decide) (by decide) (by decide) rfl rfl ?_
  intro T1 X1 e1
  show Done _ p e below s _ _ (T1.setTop (mkF m 5 #[oI (Int32.ofNat i), oR t1] [(.int (Int32.ofNat cs.length)), (.int (Int32.ofNat i))]))
  refine Done.callSP X1 hx hZ hown (wAt hw 155 rfl) (wAt hw 93 rfl) (wAt hw 11 rfl) (wAt hw 94 rfl) (by decide) (rmCI l Z a0 hw [] (Int32.ofNat i) (Int32.ofNat cs.length) z fm h0 n0 Z0 O0 SC hz SF rF SA SH SL (own_ix hi (by omega)).1 (own_ix hi (by omega)).2) e1 (g := (mkF m 5 #[oI (Int32.ofNat i), oR t1] [(.int (Int32.ofNat cs.length)), (.int (Int32.ofNat i))])) rfl (by rw [hml]; rfl) [(.int (Int32.ofNat i)), (.int (Int32.ofNat cs.length))] [] 0 (lenOf pd_3 rfl) rfl rfl (by show 2 * 0 + _ ≤ _; exact Nat.le_of_eq rfl) (hb hby d35_5) (by decide) (by decide) (by decide) (by decide) rfl rfl ?_
  intro T2 X2 e2
  show Done _ p e below s _ _ (T2.setTop (mkF m 8 #[oI (Int32.ofNat i), oR t1] []))
  exact Done.retV (leavesF X2 hlk (by decide) (by decide)) X2 hx hret (hb hby d35_8) ⟨rfl, e2, rfl⟩
theorem d34_0 : decode jdk_52_method_83_code 0 = .ok (.iload_n 1, 1) := by decide +kernel
theorem d34_1 : decode jdk_52_method_83_code 1 = .ok (.aload_n 0, 1) := by decide +kernel
theorem d34_2 : decode jdk_52_method_83_code 2 = .ok (.invokestatic 67, 3) := by decide +kernel
theorem pd_7 : parseMethodDescriptor "(I[B)V" = some ⟨[.int, (.array .byte)], none⟩ := by decide +kernel
theorem d34_5 : decode jdk_52_method_83_code 5 = .ok (.aload_n 0, 1) := by decide +kernel
theorem d34_6 : decode jdk_52_method_83_code 6 = .ok (.iload_n 1, 1) := by decide +kernel
theorem d34_7 : decode jdk_52_method_83_code 7 = .ok (.invokestatic 71, 3) := by decide +kernel
theorem pd_8 : parseMethodDescriptor "([BI)C" = some ⟨[(.array .byte), .int], some .char⟩ := by decide +kernel
theorem d34_10 : decode jdk_52_method_83_code 10 = .ok (.ireturn, 1) := by decide +kernel
set_option maxRecDepth 65536 in
set_option maxHeartbeats 40000000 in
theorem rA1 (l : Launch) (Z : State) (a0 : Array Value) (hw : ∀ d ∈ tables_1, d.before a0 Z = true) (ws : List Jvm.Cond) (t1 : Addr) (kb1 : ClassId) (cs : List Int32) (i : Nat) (z : Int32) (fm : Value) (h0 : Heap) (n0 : Nat) (Z0 : n0 ≤ h0.size) (O0 : Old Z n0 h0) (SC : Sta Z Z.heap "java/lang/String" "COMPACT_STRINGS" "Z" (.int z)) (hz : ¬ z = 0) (SF : Sta Z Z.heap "jdk/internal/util/Preconditions" "SIOOBE_FORMATTER" "Ljava/util/function/BiFunction;" fm) (rF : fm.isRef = true) (SA : Sta Z Z.heap "java/lang/StringUTF16" "$assertionsDisabled" "Z" (.int (1 : Int32))) (SH : Sta Z Z.heap "java/lang/StringUTF16" "HI_BYTE_SHIFT" "I" (.int (0 : Int32))) (SL : Sta Z Z.heap "java/lang/StringUTF16" "LO_BYTE_SHIFT" "I" (.int (8 : Int32))) (gK1 : Arv Z h0 t1 kb1 .byte (Int32.ofNat (2 * cs.length)) (own_hl cs) (.int (0 : Int32))) (hn : cs.length ≤ 4) (hi : i < cs.length) (hbc : ∀ c ∈ cs, ¬ c < 0 ∧ ¬ (65535 : Int32) < c) :
    Ctr FrameEnd l Z (⟨"java/lang/StringUTF16", "charAt", "([BI)C"⟩ : MethodName) jdk_52_method_83_code 2 (some .char) ws ({ frames := 3, cells := 0, slots := 0, locals := 44 } : Room) #[(.ref t1), (.int (Int32.ofNat i))] h0 TrueV (PureQ (some (.int (cs.getD i 0))) h0) := by
  refine Ctr.intro (plainFor_of_name pn_java_lang_StringUTF16) (Ls := #[.val (.ref t1), .val (.int (Int32.ofNat i))]) (fun m => by first | (simp [entryFrame, mkF, argsToLocals, Value.category]; done) | rfl) ?_
  intro p e s m below meth c T0 hx hby hml hown hnm hret hlk hZ hV hsh e0 X0
  have N0 := Fr.nil n0
  show Done _ p e below s _ _ (T0.setTop (mkF m 0 #[oR t1, oI (Int32.ofNat i)] []))
  refine Done.step (fun _ => XS.iloadN X0.here hx rfl (hb hby d34_0) rfl) ?_
  show Done _ p e below s _ _ (T0.setTop (mkF m 1 #[oR t1, oI (Int32.ofNat i)] [(.int (Int32.ofNat i))]))
  refine Done.step (fun _ => XS.aloadN X0.here hx rfl (hb hby d34_1) rfl rfl) ?_
  show Done _ p e below s _ _ (T0.setTop (mkF m 2 #[oR t1, oI (Int32.ofNat i)] [(.ref t1), (.int (Int32.ofNat i))]))
  refine Done.callSP X0 hx hZ hown (wAt hw 149 rfl) (wAt hw 150 rfl) (wAt hw 67 rfl) (wAt hw 151 rfl) (by decide) (rV l Z a0 hw [] t1 kb1 cs i z fm h0 n0 Z0 O0 SC hz SF rF SA SH SL gK1 hn hi) e0 (g := (mkF m 2 #[oR t1, oI (Int32.ofNat i)] [(.ref t1), (.int (Int32.ofNat i))])) rfl (by rw [hml]; rfl) [(.int (Int32.ofNat i)), (.ref t1)] [] 0 (lenOf pd_7 rfl) rfl rfl (by show 2 * 0 + _ ≤ _; exact Nat.le_of_eq rfl) (hb hby d34_2) (by decide) (by decide) (by decide) (by decide) rfl rfl ?_
  intro T1 X1 e1
  show Done _ p e below s _ _ (T1.setTop (mkF m 5 #[oR t1, oI (Int32.ofNat i)] []))
  refine Done.step (fun _ => XS.aloadN X1.here hx rfl (hb hby d34_5) rfl rfl) ?_
  show Done _ p e below s _ _ (T1.setTop (mkF m 6 #[oR t1, oI (Int32.ofNat i)] [(.ref t1)]))
  refine Done.step (fun _ => XS.iloadN X1.here hx rfl (hb hby d34_6) rfl) ?_
  show Done _ p e below s _ _ (T1.setTop (mkF m 7 #[oR t1, oI (Int32.ofNat i)] [(.int (Int32.ofNat i)), (.ref t1)]))
  refine Done.callSP X1 hx hZ hown (wAt hw 143 rfl) (wAt hw 144 rfl) (wAt hw 67 rfl) (wAt hw 145 rfl) (by decide) (rG l Z a0 hw [] t1 kb1 cs i z fm h0 n0 Z0 O0 SC hz SF rF SA SH SL gK1 hn hi hbc) e1 (g := (mkF m 7 #[oR t1, oI (Int32.ofNat i)] [(.int (Int32.ofNat i)), (.ref t1)])) rfl (by rw [hml]; rfl) [(.ref t1), (.int (Int32.ofNat i))] [] 0 (lenOf pd_8 rfl) rfl rfl (by show 2 * 0 + _ ≤ _; exact Nat.le_of_eq rfl) (hb hby d34_7) (by decide) (by decide) (by decide) (by decide) rfl rfl ?_
  intro T2 X2 e2
  show Done _ p e below s _ _ (T2.setTop (mkF m 10 #[oR t1, oI (Int32.ofNat i)] [(.int (cs.getD i 0))]))
  exact Done.retN (leavesF X2 hlk (by decide) (by decide)) X2 hx (t := .char) hret (by simp) (hb hby d34_10) ⟨by rw [own_nar2 (own_mem hbc (i := i) (by omega))], e2, rfl⟩
theorem pn_java_lang_StringLatin1 : plainName "java/lang/StringLatin1" = true := by first | (simp [plainName, overriddenIn]; done) | decide +kernel
theorem d19_0 : decode jdk_43_method_2_code 0 = .ok (.iload_n 1, 1) := by decide +kernel
theorem d19_1 : decode jdk_43_method_2_code 1 = .ok (.aload_n 0, 1) := by decide +kernel
theorem d19_2 : decode jdk_43_method_2_code 2 = .ok (.arraylength, 1) := by decide +kernel
theorem d19_3 : decode jdk_43_method_2_code 3 = .ok (.invokestatic 9, 3) := by decide +kernel
theorem d19_6 : decode jdk_43_method_2_code 6 = .ok (.aload_n 0, 1) := by decide +kernel
theorem d19_7 : decode jdk_43_method_2_code 7 = .ok (.iload_n 1, 1) := by decide +kernel
theorem d19_8 : decode jdk_43_method_2_code 8 = .ok (.baload, 1) := by decide +kernel
theorem d19_9 : decode jdk_43_method_2_code 9 = .ok (.sipush 255, 3) := by decide +kernel
theorem d19_12 : decode jdk_43_method_2_code 12 = .ok (.iand, 1) := by decide +kernel
theorem d19_13 : decode jdk_43_method_2_code 13 = .ok (.i2c, 1) := by decide +kernel
theorem d19_14 : decode jdk_43_method_2_code 14 = .ok (.ireturn, 1) := by decide +kernel
set_option maxRecDepth 65536 in
set_option maxHeartbeats 40000000 in
theorem rA0 (l : Launch) (Z : State) (a0 : Array Value) (hw : ∀ d ∈ tables_1, d.before a0 Z = true) (ws : List Jvm.Cond) (t1 : Addr) (kb1 : ClassId) (cs : List Int32) (i : Nat) (z : Int32) (fm : Value) (h0 : Heap) (n0 : Nat) (Z0 : n0 ≤ h0.size) (O0 : Old Z n0 h0) (SC : Sta Z Z.heap "java/lang/String" "COMPACT_STRINGS" "Z" (.int z)) (hz : ¬ z = 0) (SF : Sta Z Z.heap "jdk/internal/util/Preconditions" "SIOOBE_FORMATTER" "Ljava/util/function/BiFunction;" fm) (rF : fm.isRef = true) (SA : Sta Z Z.heap "java/lang/StringUTF16" "$assertionsDisabled" "Z" (.int (1 : Int32))) (SH : Sta Z Z.heap "java/lang/StringUTF16" "HI_BYTE_SHIFT" "I" (.int (0 : Int32))) (SL : Sta Z Z.heap "java/lang/StringUTF16" "LO_BYTE_SHIFT" "I" (.int (8 : Int32))) (gK1 : Arv Z h0 t1 kb1 .byte (Int32.ofNat cs.length) (own_ll cs) (.int (0 : Int32))) (hn : cs.length ≤ 4) (hi : i < cs.length) (hbc : ∀ c ∈ cs, ¬ c < 0 ∧ ¬ (65535 : Int32) < c) (hs : ∀ c ∈ cs, ¬ (255 : Int32) < c) :
    Ctr FrameEnd l Z (⟨"java/lang/StringLatin1", "charAt", "([BI)C"⟩ : MethodName) jdk_43_method_2_code 2 (some .char) ws ({ frames := 2, cells := 0, slots := 0, locals := 29 } : Room) #[(.ref t1), (.int (Int32.ofNat i))] h0 TrueV (PureQ (some (.int (cs.getD i 0))) h0) := by
  refine Ctr.intro (plainFor_of_name pn_java_lang_StringLatin1) (Ls := #[.val (.ref t1), .val (.int (Int32.ofNat i))]) (fun m => by first | (simp [entryFrame, mkF, argsToLocals, Value.category]; done) | rfl) ?_
  intro p e s m below meth c T0 hx hby hml hown hnm hret hlk hZ hV hsh e0 X0
  have N0 := Fr.nil n0
  show Done _ p e below s _ _ (T0.setTop (mkF m 0 #[oR t1, oI (Int32.ofNat i)] []))
  refine Done.step (fun _ => XS.iloadN X0.here hx rfl (hb hby d19_0) rfl) ?_
  show Done _ p e below s _ _ (T0.setTop (mkF m 1 #[oR t1, oI (Int32.ofNat i)] [(.int (Int32.ofNat i))]))
  refine Done.step (fun _ => XS.aloadN X0.here hx rfl (hb hby d19_1) rfl rfl) ?_
  show Done _ p e below s _ _ (T0.setTop (mkF m 2 #[oR t1, oI (Int32.ofNat i)] [(.ref t1), (.int (Int32.ofNat i))]))
  obtain ⟨cl1, Ar1, q1, S1, Nn1, H1, G1⟩ := id gK1
  refine Done.step (X0.arraylength hx (by first | exact Ar1.1 | (rw [e0]; exact Ar1.1)) (State.isArrayOf_alike hZ.alike Ar1.2.1) (g := (mkF m 2 #[oR t1, oI (Int32.ofNat i)] [(.ref t1), (.int (Int32.ofNat i))])) rfl rfl (hb hby d19_2)) ?_
  rw [len_of S1 Nn1]
  show Done _ p e below s _ _ (T0.setTop (mkF m 3 #[oR t1, oI (Int32.ofNat i)] [(.int (Int32.ofNat cs.length)), (.int (Int32.ofNat i))]))
  refine Done.callSP X0 hx hZ hown (wAt hw 92 rfl) (wAt hw 93 rfl) (wAt hw 11 rfl) (wAt hw 94 rfl) (by decide) (rmCI l Z a0 hw [] (Int32.ofNat i) (Int32.ofNat cs.length) z fm h0 n0 Z0 O0 SC hz SF rF SA SH SL (own_ix hi (by omega)).1 (own_ix hi (by omega)).2) e0 (g := (mkF m 3 #[oR t1, oI (Int32.ofNat i)] [(.int (Int32.ofNat cs.length)), (.int (Int32.ofNat i))])) rfl (by rw [hml]; rfl) [(.int (Int32.ofNat i)), (.int (Int32.ofNat cs.length))] [] 0 (lenOf pd_3 rfl) rfl rfl (by show 2 * 0 + _ ≤ _; exact Nat.le_of_eq rfl) (hb hby d19_3) (by decide) (by decide) (by decide) (by decide) rfl rfl ?_
  intro T2 X2 e2
  show Done _ p e below s _ _ (T2.setTop (mkF m 6 #[oR t1, oI (Int32.ofNat i)] []))
  refine Done.step (fun _ => XS.aloadN X2.here hx rfl (hb hby d19_6) rfl rfl) ?_
  show Done _ p e below s _ _ (T2.setTop (mkF m 7 #[oR t1, oI (Int32.ofNat i)] [(.ref t1)]))
  refine Done.step (fun _ => XS.iloadN X2.here hx rfl (hb hby d19_7) rfl) ?_
  show Done _ p e below s _ _ (T2.setTop (mkF m 8 #[oR t1, oI (Int32.ofNat i)] [(.int (Int32.ofNat i)), (.ref t1)]))
  obtain ⟨cl3, Ar3, q3, S3, Nn3, H3, G3⟩ := id gK1
  have hin3 : ¬ ((Int32.ofNat i) < 0 ∨ cl3.slots.size ≤ ((Int32.ofNat i)).toNatClampNeg) := inb_of S3 (own_ix hi (by omega))
  have hat3 := Has.at H3 hin3 (v := .int (own_by (cs.getD i 0))) (by rw [own_tn (by omega)]; exact own_llG hi _)
  refine Done.step (X2.baloadBytes hx (j := (Int32.ofNat i)) (v := .int (own_by (cs.getD i 0))) (by first | exact Ar3.1 | (rw [e2]; exact Ar3.1)) (State.isArrayOf_alike hZ.alike Ar3.2.1) Ar3.2.2 hin3 hat3 (g := (mkF m 8 #[oR t1, oI (Int32.ofNat i)] [(.int (Int32.ofNat i)), (.ref t1)])) rfl rfl (hb hby d19_8)) ?_
  show Done _ p e below s _ _ (T2.setTop (mkF m 9 #[oR t1, oI (Int32.ofNat i)] [(.int (own_by (cs.getD i 0)))]))
  refine Done.step (fun _ => XT.sipushV X2.here hx rfl (255 : Int32) (hb hby d19_9) (by decide)) ?_
  show Done _ p e below s _ _ (T2.setTop (mkF m 12 #[oR t1, oI (Int32.ofNat i)] [(.int (255 : Int32)), (.int (own_by (cs.getD i 0)))]))
  refine Done.step (fun _ => XS.iand X2.here hx rfl (hb hby d19_12) rfl) ?_
  show Done _ p e below s _ _ (T2.setTop (mkF m 13 #[oR t1, oI (Int32.ofNat i)] [(.int ((own_by (cs.getD i 0)) &&& (255 : Int32)))]))
  refine Done.step (fun _ => XT.i2c X2.here hx rfl (hb hby d19_13) rfl) ?_
  show Done _ p e below s _ _ (T2.setTop (mkF m 14 #[oR t1, oI (Int32.ofNat i)] [(.int (((own_by (cs.getD i 0)) &&& (255 : Int32)).toUInt32.toUInt16.toUInt32.toInt32))]))
  exact Done.retN (leavesF X2 hlk (by decide) (by decide)) X2 hx (t := .char) hret (by simp) (hb hby d19_14) ⟨by rw [own_narI, own_jb ⟨(own_mem hbc (i := i) (by omega)).1, own_mem hs hi⟩, own_c255 ⟨(own_mem hbc (i := i) (by omega)).1, own_mem hs hi⟩], e2, rfl⟩
theorem d8_0 : decode jdk_42_method_54_code 0 = .ok (.aload_n 0, 1) := by decide +kernel
theorem d8_1 : decode jdk_42_method_54_code 1 = .ok (.getfield 9, 3) := by decide +kernel
theorem d8_4 : decode jdk_42_method_54_code 4 = .ok (.arraylength, 1) := by decide +kernel
theorem d8_5 : decode jdk_42_method_54_code 5 = .ok (.aload_n 0, 1) := by decide +kernel
theorem d8_6 : decode jdk_42_method_54_code 6 = .ok (.invokevirtual 335, 3) := by decide +kernel
theorem pd_9 : parseMethodDescriptor "()B" = some ⟨[], some .byte⟩ := by decide +kernel
theorem d8_9 : decode jdk_42_method_54_code 9 = .ok (.ishr, 1) := by decide +kernel
theorem d8_10 : decode jdk_42_method_54_code 10 = .ok (.ireturn, 1) := by decide +kernel
set_option maxRecDepth 65536 in
set_option maxHeartbeats 40000000 in
theorem rL0 (l : Launch) (Z : State) (a0 : Array Value) (hw : ∀ d ∈ tables_1, d.before a0 Z = true) (ws : List Jvm.Cond) (x1 : Addr) (t1 : Addr) (kb1 : ClassId) (cs : List Int32) (z : Int32) (fm : Value) (h0 : Heap) (n0 : Nat) (Z0 : n0 ≤ h0.size) (O0 : Old Z n0 h0) (SC : Sta Z Z.heap "java/lang/String" "COMPACT_STRINGS" "Z" (.int z)) (hz : ¬ z = 0) (SF : Sta Z Z.heap "jdk/internal/util/Preconditions" "SIOOBE_FORMATTER" "Ljava/util/function/BiFunction;" fm) (rF : fm.isRef = true) (SA : Sta Z Z.heap "java/lang/StringUTF16" "$assertionsDisabled" "Z" (.int (1 : Int32))) (SH : Sta Z Z.heap "java/lang/StringUTF16" "HI_BYTE_SHIFT" "I" (.int (0 : Int32))) (SL : Sta Z Z.heap "java/lang/StringUTF16" "LO_BYTE_SHIFT" "I" (.int (8 : Int32))) (E1 : Exa Z h0 x1 "java/lang/String") (V1 : Fld Z h0 x1 "java/lang/String" "value" "[B" (.ref t1)) (C1 : Fld Z h0 x1 "java/lang/String" "coder" "B" (.int (0 : Int32))) (gK1 : Arv Z h0 t1 kb1 .byte (Int32.ofNat cs.length) (own_ll cs) (.int (0 : Int32))) (hn : cs.length ≤ 4) :
    Ctr FrameEnd l Z (⟨"java/lang/String", "length", "()I"⟩ : MethodName) jdk_42_method_54_code 1 (some .int) ws ({ frames := 1, cells := 0, slots := 0, locals := 13 } : Room) #[(.ref x1)] h0 TrueV (PureQ (some (.int (Int32.ofNat cs.length))) h0) := by
  refine Ctr.intro (plainFor_of_name pn_java_lang_String) (Ls := #[.val (.ref x1)]) (fun m => by first | (simp [entryFrame, mkF, argsToLocals, Value.category]; done) | rfl) ?_
  intro p e s m below meth c T0 hx hby hml hown hnm hret hlk hZ hV hsh e0 X0
  have N0 := Fr.nil n0
  show Done _ p e below s _ _ (T0.setTop (mkF m 0 #[oR x1] []))
  refine Done.step (fun _ => XS.aloadN X0.here hx rfl (hb hby d8_0) rfl rfl) ?_
  show Done _ p e below s _ _ (T0.setTop (mkF m 1 #[oR x1] [(.ref x1)]))
  obtain ⟨T1, X1, e1, st1⟩ := getF X0 hx hZ hown (host := "") (Or.inl (wAt hw 29 rfl)) Via.refl e0 V1 (g := (mkF m 1 #[oR x1] [(.ref x1)])) rfl rfl (hb hby d8_1)
  refine Done.step st1 ?_
  show Done _ p e below s _ _ (T1.setTop (mkF m 4 #[oR x1] [(.ref t1)]))
  obtain ⟨cl2, Ar2, q2, S2, Nn2, H2, G2⟩ := id gK1
  refine Done.step (X1.arraylength hx (by first | exact Ar2.1 | (rw [e1]; exact Ar2.1)) (State.isArrayOf_alike hZ.alike Ar2.2.1) (g := (mkF m 4 #[oR x1] [(.ref t1)])) rfl rfl (hb hby d8_4)) ?_
  rw [len_of S2 Nn2]
  show Done _ p e below s _ _ (T1.setTop (mkF m 5 #[oR x1] [(.int (Int32.ofNat cs.length))]))
  refine Done.step (fun _ => XS.aloadN X1.here hx rfl (hb hby d8_5) rfl rfl) ?_
  show Done _ p e below s _ _ (T1.setTop (mkF m 6 #[oR x1] [(.ref x1), (.int (Int32.ofNat cs.length))]))
  refine Done.callVP X1 hx hZ (C := "java/lang/String") hown (wAt hw 44 rfl) (wAt hw 45 rfl) (notFace_of_selects (args := #[]) (mvT hZ (wAt hw 47 rfl))) (wAt hw 47 rfl) (wAt hw 46 rfl) (wAt hw 11 rfl) (wAt hw 48 rfl) (by decide) (rmCo0 l Z a0 hw [] x1 z fm h0 n0 Z0 O0 SC hz SF rF SA SH SL C1) e1 E1 (g := (mkF m 6 #[oR x1] [(.ref x1), (.int (Int32.ofNat cs.length))])) rfl (by rw [hml]; rfl) [] [(.int (Int32.ofNat cs.length))] 1 (lenOf pd_9 rfl) rfl rfl (by show 2 * 0 + _ ≤ _; exact Nat.le_of_eq rfl) (hb hby d8_6) (by decide) (by decide) (by decide) (by decide) rfl rfl ?_
  intro T3 X3 e3
  show Done _ p e below s _ _ (T3.setTop (mkF m 9 #[oR x1] [(.int (0 : Int32)), (.int (Int32.ofNat cs.length))]))
  refine Done.step (fun _ => XT.ishr X3.here hx rfl (hb hby d8_9) rfl) ?_
  show Done _ p e below s _ _ (T3.setTop (mkF m 10 #[oR x1] [(.int ((Int32.ofNat cs.length) >>> ((0 : Int32) &&& 31)))]))
  exact Done.retI (leavesF X3 hlk (by decide) (by decide)) X3 hx hret (hb hby d8_10) ⟨by rw [own_shr0 (by omega)], e3, rfl⟩
theorem d17_0 : decode jdk_42_method_56_code 0 = .ok (.aload_n 0, 1) := by decide +kernel
theorem d17_1 : decode jdk_42_method_56_code 1 = .ok (.invokevirtual 492, 3) := by decide +kernel
theorem pd_10 : parseMethodDescriptor "()Z" = some ⟨[], some .boolean⟩ := by decide +kernel
theorem d17_4 : decode jdk_42_method_56_code 4 = .ok (.ifCond .eq 12, 3) := by decide +kernel
theorem d17_7 : decode jdk_42_method_56_code 7 = .ok (.aload_n 0, 1) := by decide +kernel
theorem d17_8 : decode jdk_42_method_56_code 8 = .ok (.getfield 9, 3) := by decide +kernel
theorem d17_11 : decode jdk_42_method_56_code 11 = .ok (.iload_n 1, 1) := by decide +kernel
theorem d17_12 : decode jdk_42_method_56_code 12 = .ok (.invokestatic 495, 3) := by decide +kernel
theorem d17_15 : decode jdk_42_method_56_code 15 = .ok (.ireturn, 1) := by decide +kernel
set_option maxRecDepth 65536 in
set_option maxHeartbeats 40000000 in
theorem rC0 (l : Launch) (Z : State) (a0 : Array Value) (hw : ∀ d ∈ tables_1, d.before a0 Z = true) (ws : List Jvm.Cond) (x1 : Addr) (t1 : Addr) (kb1 : ClassId) (cs : List Int32) (i : Nat) (z : Int32) (fm : Value) (h0 : Heap) (n0 : Nat) (Z0 : n0 ≤ h0.size) (O0 : Old Z n0 h0) (SC : Sta Z Z.heap "java/lang/String" "COMPACT_STRINGS" "Z" (.int z)) (hz : ¬ z = 0) (SF : Sta Z Z.heap "jdk/internal/util/Preconditions" "SIOOBE_FORMATTER" "Ljava/util/function/BiFunction;" fm) (rF : fm.isRef = true) (SA : Sta Z Z.heap "java/lang/StringUTF16" "$assertionsDisabled" "Z" (.int (1 : Int32))) (SH : Sta Z Z.heap "java/lang/StringUTF16" "HI_BYTE_SHIFT" "I" (.int (0 : Int32))) (SL : Sta Z Z.heap "java/lang/StringUTF16" "LO_BYTE_SHIFT" "I" (.int (8 : Int32))) (E1 : Exa Z h0 x1 "java/lang/String") (V1 : Fld Z h0 x1 "java/lang/String" "value" "[B" (.ref t1)) (C1 : Fld Z h0 x1 "java/lang/String" "coder" "B" (.int (0 : Int32))) (gK1 : Arv Z h0 t1 kb1 .byte (Int32.ofNat cs.length) (own_ll cs) (.int (0 : Int32))) (hn : cs.length ≤ 4) (hi : i < cs.length) (hbc : ∀ c ∈ cs, ¬ c < 0 ∧ ¬ (65535 : Int32) < c) (hs : ∀ c ∈ cs, ¬ (255 : Int32) < c) :
    Ctr FrameEnd l Z (⟨"java/lang/String", "charAt", "(I)C"⟩ : MethodName) jdk_42_method_56_code 2 (some .char) ws ({ frames := 4, cells := 0, slots := 0, locals := 60 } : Room) #[(.ref x1), (.int (Int32.ofNat i))] h0 TrueV (PureQ (some (.int (cs.getD i 0))) h0) := by
  refine Ctr.intro (plainFor_of_name pn_java_lang_String) (Ls := #[.val (.ref x1), .val (.int (Int32.ofNat i))]) (fun m => by first | (simp [entryFrame, mkF, argsToLocals, Value.category]; done) | rfl) ?_
  intro p e s m below meth c T0 hx hby hml hown hnm hret hlk hZ hV hsh e0 X0
  have N0 := Fr.nil n0
  show Done _ p e below s _ _ (T0.setTop (mkF m 0 #[oR x1, oI (Int32.ofNat i)] []))
  refine Done.step (fun _ => XS.aloadN X0.here hx rfl (hb hby d17_0) rfl rfl) ?_
  show Done _ p e below s _ _ (T0.setTop (mkF m 1 #[oR x1, oI (Int32.ofNat i)] [(.ref x1)]))
  refine Done.callVP X0 hx hZ (C := "java/lang/String") hown (wAt hw 83 rfl) (wAt hw 84 rfl) (notFace_of_selects (args := #[]) (mvT hZ (wAt hw 86 rfl))) (wAt hw 86 rfl) (wAt hw 85 rfl) (wAt hw 11 rfl) (wAt hw 87 rfl) (by decide) (rmIL0 l Z a0 hw [] x1 z fm h0 n0 Z0 O0 SC hz SF rF SA SH SL C1) e0 E1 (g := (mkF m 1 #[oR x1, oI (Int32.ofNat i)] [(.ref x1)])) rfl (by rw [hml]; rfl) [] [] 0 (lenOf pd_10 rfl) rfl rfl (by show 2 * 0 + _ ≤ _; exact Nat.le_of_eq rfl) (hb hby d17_1) (by decide) (by decide) (by decide) (by decide) rfl rfl ?_
  intro T1 X1 e1
  show Done _ p e below s _ _ (T1.setTop (mkF m 4 #[oR x1, oI (Int32.ofNat i)] [(.int (1 : Int32))]))
  refine Done.step (fun _ => XS.ifNo X1.here hx rfl (hb hby d17_4) rfl (XT.i0_eq_f (by decide))) ?_
  show Done _ p e below s _ _ (T1.setTop (mkF m 7 #[oR x1, oI (Int32.ofNat i)] []))
  refine Done.step (fun _ => XS.aloadN X1.here hx rfl (hb hby d17_7) rfl rfl) ?_
  show Done _ p e below s _ _ (T1.setTop (mkF m 8 #[oR x1, oI (Int32.ofNat i)] [(.ref x1)]))
  obtain ⟨T2, X2, e2, st2⟩ := getF X1 hx hZ hown (host := "") (Or.inl (wAt hw 29 rfl)) Via.refl e1 V1 (g := (mkF m 8 #[oR x1, oI (Int32.ofNat i)] [(.ref x1)])) rfl rfl (hb hby d17_8)
  refine Done.step st2 ?_
  show Done _ p e below s _ _ (T2.setTop (mkF m 11 #[oR x1, oI (Int32.ofNat i)] [(.ref t1)]))
  refine Done.step (fun _ => XS.iloadN X2.here hx rfl (hb hby d17_11) rfl) ?_
  show Done _ p e below s _ _ (T2.setTop (mkF m 12 #[oR x1, oI (Int32.ofNat i)] [(.int (Int32.ofNat i)), (.ref t1)]))
  refine Done.callSP X2 hx hZ hown (wAt hw 88 rfl) (wAt hw 89 rfl) (wAt hw 90 rfl) (wAt hw 91 rfl) (by decide) (rA0 l Z a0 hw [] t1 kb1 cs i z fm h0 n0 Z0 O0 SC hz SF rF SA SH SL gK1 hn hi hbc hs) e2 (g := (mkF m 12 #[oR x1, oI (Int32.ofNat i)] [(.int (Int32.ofNat i)), (.ref t1)])) rfl (by rw [hml]; rfl) [(.ref t1), (.int (Int32.ofNat i))] [] 0 (lenOf pd_8 rfl) rfl rfl (by show 2 * 0 + _ ≤ _; exact Nat.le_of_eq rfl) (hb hby d17_12) (by decide) (by decide) (by decide) (by decide) rfl rfl ?_
  intro T3 X3 e3
  show Done _ p e below s _ _ (T3.setTop (mkF m 15 #[oR x1, oI (Int32.ofNat i)] [(.int (cs.getD i 0))]))
  exact Done.retN (leavesF X3 hlk (by decide) (by decide)) X3 hx (t := .char) hret (by simp) (hb hby d17_15) ⟨by rw [own_nar2 (own_mem hbc (i := i) (by omega))], e3, rfl⟩
set_option maxRecDepth 65536 in
set_option maxHeartbeats 40000000 in
theorem rL1 (l : Launch) (Z : State) (a0 : Array Value) (hw : ∀ d ∈ tables_1, d.before a0 Z = true) (ws : List Jvm.Cond) (x1 : Addr) (t1 : Addr) (kb1 : ClassId) (cs : List Int32) (z : Int32) (fm : Value) (h0 : Heap) (n0 : Nat) (Z0 : n0 ≤ h0.size) (O0 : Old Z n0 h0) (SC : Sta Z Z.heap "java/lang/String" "COMPACT_STRINGS" "Z" (.int z)) (hz : ¬ z = 0) (SF : Sta Z Z.heap "jdk/internal/util/Preconditions" "SIOOBE_FORMATTER" "Ljava/util/function/BiFunction;" fm) (rF : fm.isRef = true) (SA : Sta Z Z.heap "java/lang/StringUTF16" "$assertionsDisabled" "Z" (.int (1 : Int32))) (SH : Sta Z Z.heap "java/lang/StringUTF16" "HI_BYTE_SHIFT" "I" (.int (0 : Int32))) (SL : Sta Z Z.heap "java/lang/StringUTF16" "LO_BYTE_SHIFT" "I" (.int (8 : Int32))) (E1 : Exa Z h0 x1 "java/lang/String") (V1 : Fld Z h0 x1 "java/lang/String" "value" "[B" (.ref t1)) (C1 : Fld Z h0 x1 "java/lang/String" "coder" "B" (.int (1 : Int32))) (gK1 : Arv Z h0 t1 kb1 .byte (Int32.ofNat (2 * cs.length)) (own_hl cs) (.int (0 : Int32))) (hn : cs.length ≤ 4) :
    Ctr FrameEnd l Z (⟨"java/lang/String", "length", "()I"⟩ : MethodName) jdk_42_method_54_code 1 (some .int) ws ({ frames := 1, cells := 0, slots := 0, locals := 13 } : Room) #[(.ref x1)] h0 TrueV (PureQ (some (.int (Int32.ofNat cs.length))) h0) := by
  refine Ctr.intro (plainFor_of_name pn_java_lang_String) (Ls := #[.val (.ref x1)]) (fun m => by first | (simp [entryFrame, mkF, argsToLocals, Value.category]; done) | rfl) ?_
  intro p e s m below meth c T0 hx hby hml hown hnm hret hlk hZ hV hsh e0 X0
  have N0 := Fr.nil n0
  show Done _ p e below s _ _ (T0.setTop (mkF m 0 #[oR x1] []))
  refine Done.step (fun _ => XS.aloadN X0.here hx rfl (hb hby d8_0) rfl rfl) ?_
  show Done _ p e below s _ _ (T0.setTop (mkF m 1 #[oR x1] [(.ref x1)]))
  obtain ⟨T1, X1, e1, st1⟩ := getF X0 hx hZ hown (host := "") (Or.inl (wAt hw 29 rfl)) Via.refl e0 V1 (g := (mkF m 1 #[oR x1] [(.ref x1)])) rfl rfl (hb hby d8_1)
  refine Done.step st1 ?_
  show Done _ p e below s _ _ (T1.setTop (mkF m 4 #[oR x1] [(.ref t1)]))
  obtain ⟨cl2, Ar2, q2, S2, Nn2, H2, G2⟩ := id gK1
  refine Done.step (X1.arraylength hx (by first | exact Ar2.1 | (rw [e1]; exact Ar2.1)) (State.isArrayOf_alike hZ.alike Ar2.2.1) (g := (mkF m 4 #[oR x1] [(.ref t1)])) rfl rfl (hb hby d8_4)) ?_
  rw [len_of S2 Nn2]
  show Done _ p e below s _ _ (T1.setTop (mkF m 5 #[oR x1] [(.int (Int32.ofNat (2 * cs.length)))]))
  refine Done.step (fun _ => XS.aloadN X1.here hx rfl (hb hby d8_5) rfl rfl) ?_
  show Done _ p e below s _ _ (T1.setTop (mkF m 6 #[oR x1] [(.ref x1), (.int (Int32.ofNat (2 * cs.length)))]))
  refine Done.callVP X1 hx hZ (C := "java/lang/String") hown (wAt hw 44 rfl) (wAt hw 45 rfl) (notFace_of_selects (args := #[]) (mvT hZ (wAt hw 47 rfl))) (wAt hw 47 rfl) (wAt hw 46 rfl) (wAt hw 11 rfl) (wAt hw 48 rfl) (by decide) (rmCo1 l Z a0 hw [] x1 z fm h0 n0 Z0 O0 SC hz SF rF SA SH SL C1) e1 E1 (g := (mkF m 6 #[oR x1] [(.ref x1), (.int (Int32.ofNat (2 * cs.length)))])) rfl (by rw [hml]; rfl) [] [(.int (Int32.ofNat (2 * cs.length)))] 1 (lenOf pd_9 rfl) rfl rfl (by show 2 * 0 + _ ≤ _; exact Nat.le_of_eq rfl) (hb hby d8_6) (by decide) (by decide) (by decide) (by decide) rfl rfl ?_
  intro T3 X3 e3
  show Done _ p e below s _ _ (T3.setTop (mkF m 9 #[oR x1] [(.int (1 : Int32)), (.int (Int32.ofNat (2 * cs.length)))]))
  refine Done.step (fun _ => XT.ishr X3.here hx rfl (hb hby d8_9) rfl) ?_
  show Done _ p e below s _ _ (T3.setTop (mkF m 10 #[oR x1] [(.int ((Int32.ofNat (2 * cs.length)) >>> ((1 : Int32) &&& 31)))]))
  exact Done.retI (leavesF X3 hlk (by decide) (by decide)) X3 hx hret (hb hby d8_10) ⟨by rw [own_shr1 (by omega)], e3, rfl⟩
theorem d17_16 : decode jdk_42_method_56_code 16 = .ok (.aload_n 0, 1) := by decide +kernel
theorem d17_17 : decode jdk_42_method_56_code 17 = .ok (.getfield 9, 3) := by decide +kernel
theorem d17_20 : decode jdk_42_method_56_code 20 = .ok (.iload_n 1, 1) := by decide +kernel
theorem d17_21 : decode jdk_42_method_56_code 21 = .ok (.invokestatic 498, 3) := by decide +kernel
theorem d17_24 : decode jdk_42_method_56_code 24 = .ok (.ireturn, 1) := by decide +kernel
set_option maxRecDepth 65536 in
set_option maxHeartbeats 40000000 in
theorem rC1 (l : Launch) (Z : State) (a0 : Array Value) (hw : ∀ d ∈ tables_1, d.before a0 Z = true) (ws : List Jvm.Cond) (x1 : Addr) (t1 : Addr) (kb1 : ClassId) (cs : List Int32) (i : Nat) (z : Int32) (fm : Value) (h0 : Heap) (n0 : Nat) (Z0 : n0 ≤ h0.size) (O0 : Old Z n0 h0) (SC : Sta Z Z.heap "java/lang/String" "COMPACT_STRINGS" "Z" (.int z)) (hz : ¬ z = 0) (SF : Sta Z Z.heap "jdk/internal/util/Preconditions" "SIOOBE_FORMATTER" "Ljava/util/function/BiFunction;" fm) (rF : fm.isRef = true) (SA : Sta Z Z.heap "java/lang/StringUTF16" "$assertionsDisabled" "Z" (.int (1 : Int32))) (SH : Sta Z Z.heap "java/lang/StringUTF16" "HI_BYTE_SHIFT" "I" (.int (0 : Int32))) (SL : Sta Z Z.heap "java/lang/StringUTF16" "LO_BYTE_SHIFT" "I" (.int (8 : Int32))) (E1 : Exa Z h0 x1 "java/lang/String") (V1 : Fld Z h0 x1 "java/lang/String" "value" "[B" (.ref t1)) (C1 : Fld Z h0 x1 "java/lang/String" "coder" "B" (.int (1 : Int32))) (gK1 : Arv Z h0 t1 kb1 .byte (Int32.ofNat (2 * cs.length)) (own_hl cs) (.int (0 : Int32))) (hn : cs.length ≤ 4) (hi : i < cs.length) (hbc : ∀ c ∈ cs, ¬ c < 0 ∧ ¬ (65535 : Int32) < c) :
    Ctr FrameEnd l Z (⟨"java/lang/String", "charAt", "(I)C"⟩ : MethodName) jdk_42_method_56_code 2 (some .char) ws ({ frames := 4, cells := 0, slots := 0, locals := 60 } : Room) #[(.ref x1), (.int (Int32.ofNat i))] h0 TrueV (PureQ (some (.int (cs.getD i 0))) h0) := by
  refine Ctr.intro (plainFor_of_name pn_java_lang_String) (Ls := #[.val (.ref x1), .val (.int (Int32.ofNat i))]) (fun m => by first | (simp [entryFrame, mkF, argsToLocals, Value.category]; done) | rfl) ?_
  intro p e s m below meth c T0 hx hby hml hown hnm hret hlk hZ hV hsh e0 X0
  have N0 := Fr.nil n0
  show Done _ p e below s _ _ (T0.setTop (mkF m 0 #[oR x1, oI (Int32.ofNat i)] []))
  refine Done.step (fun _ => XS.aloadN X0.here hx rfl (hb hby d17_0) rfl rfl) ?_
  show Done _ p e below s _ _ (T0.setTop (mkF m 1 #[oR x1, oI (Int32.ofNat i)] [(.ref x1)]))
  refine Done.callVP X0 hx hZ (C := "java/lang/String") hown (wAt hw 83 rfl) (wAt hw 84 rfl) (notFace_of_selects (args := #[]) (mvT hZ (wAt hw 86 rfl))) (wAt hw 86 rfl) (wAt hw 85 rfl) (wAt hw 11 rfl) (wAt hw 87 rfl) (by decide) (rmIL1 l Z a0 hw [] x1 z fm h0 n0 Z0 O0 SC hz SF rF SA SH SL C1) e0 E1 (g := (mkF m 1 #[oR x1, oI (Int32.ofNat i)] [(.ref x1)])) rfl (by rw [hml]; rfl) [] [] 0 (lenOf pd_10 rfl) rfl rfl (by show 2 * 0 + _ ≤ _; exact Nat.le_of_eq rfl) (hb hby d17_1) (by decide) (by decide) (by decide) (by decide) rfl rfl ?_
  intro T1 X1 e1
  show Done _ p e below s _ _ (T1.setTop (mkF m 4 #[oR x1, oI (Int32.ofNat i)] [(.int (0 : Int32))]))
  refine Done.step (fun _ => XS.ifYes X1.here hx rfl (pc0 := 4) (pc' := 16) rfl (hb hby d17_4) rfl (XT.i0_eq_t rfl) (by decide) (by decide)) ?_
  show Done _ p e below s _ _ (T1.setTop (mkF m 16 #[oR x1, oI (Int32.ofNat i)] []))
  refine Done.step (fun _ => XS.aloadN X1.here hx rfl (hb hby d17_16) rfl rfl) ?_
  show Done _ p e below s _ _ (T1.setTop (mkF m 17 #[oR x1, oI (Int32.ofNat i)] [(.ref x1)]))
  obtain ⟨T2, X2, e2, st2⟩ := getF X1 hx hZ hown (host := "") (Or.inl (wAt hw 29 rfl)) Via.refl e1 V1 (g := (mkF m 17 #[oR x1, oI (Int32.ofNat i)] [(.ref x1)])) rfl rfl (hb hby d17_17)
  refine Done.step st2 ?_
  show Done _ p e below s _ _ (T2.setTop (mkF m 20 #[oR x1, oI (Int32.ofNat i)] [(.ref t1)]))
  refine Done.step (fun _ => XS.iloadN X2.here hx rfl (hb hby d17_20) rfl) ?_
  show Done _ p e below s _ _ (T2.setTop (mkF m 21 #[oR x1, oI (Int32.ofNat i)] [(.int (Int32.ofNat i)), (.ref t1)]))
  refine Done.callSP X2 hx hZ hown (wAt hw 146 rfl) (wAt hw 147 rfl) (wAt hw 67 rfl) (wAt hw 148 rfl) (by decide) (rA1 l Z a0 hw [] t1 kb1 cs i z fm h0 n0 Z0 O0 SC hz SF rF SA SH SL gK1 hn hi hbc) e2 (g := (mkF m 21 #[oR x1, oI (Int32.ofNat i)] [(.int (Int32.ofNat i)), (.ref t1)])) rfl (by rw [hml]; rfl) [(.ref t1), (.int (Int32.ofNat i))] [] 0 (lenOf pd_8 rfl) rfl rfl (by show 2 * 0 + _ ≤ _; exact Nat.le_of_eq rfl) (hb hby d17_21) (by decide) (by decide) (by decide) (by decide) rfl rfl ?_
  intro T3 X3 e3
  show Done _ p e below s _ _ (T3.setTop (mkF m 24 #[oR x1, oI (Int32.ofNat i)] [(.int (cs.getD i 0))]))
  exact Done.retN (leavesF X3 hlk (by decide) (by decide)) X3 hx (t := .char) hret (by simp) (hb hby d17_24) ⟨by rw [own_nar2 (own_mem hbc (i := i) (by omega))], e3, rfl⟩
theorem rL (l : Launch) (Z : State) (a0 : Array Value) (hw : ∀ d ∈ tables_1, d.before a0 Z = true) (ws : List Jvm.Cond) (x1 : Addr) (t1 : Addr) (kb1 : ClassId) (cs : List Int32) (z : Int32) (fm : Value) (h0 : Heap) (n0 : Nat) (Z0 : n0 ≤ h0.size) (O0 : Old Z n0 h0) (SC : Sta Z Z.heap "java/lang/String" "COMPACT_STRINGS" "Z" (.int z)) (hz : ¬ z = 0) (SF : Sta Z Z.heap "jdk/internal/util/Preconditions" "SIOOBE_FORMATTER" "Ljava/util/function/BiFunction;" fm) (rF : fm.isRef = true) (SA : Sta Z Z.heap "java/lang/StringUTF16" "$assertionsDisabled" "Z" (.int (1 : Int32))) (SH : Sta Z Z.heap "java/lang/StringUTF16" "HI_BYTE_SHIFT" "I" (.int (0 : Int32))) (SL : Sta Z Z.heap "java/lang/StringUTF16" "LO_BYTE_SHIFT" "I" (.int (8 : Int32))) (E1 : Exa Z h0 x1 "java/lang/String") (V1 : Fld Z h0 x1 "java/lang/String" "value" "[B" (.ref t1)) (D1 : SD Z h0 x1 t1 kb1 cs) (hn : cs.length ≤ 4) : Ctr FrameEnd l Z (⟨"java/lang/String", "length", "()I"⟩ : MethodName) jdk_42_method_54_code 1 (some .int) ws ({ frames := 1, cells := 0, slots := 0, locals := 13 } : Room) #[(.ref x1)] h0 TrueV (PureQ (some (.int (Int32.ofNat cs.length))) h0) := by
  rcases D1 with ⟨hs, C1, gK1⟩ | ⟨hs, C1, gK1⟩
  · exact rL0 l Z a0 hw ws x1 t1 kb1 cs z fm h0 n0 Z0 O0 SC hz SF rF SA SH SL E1 V1 C1 gK1 hn
  · exact rL1 l Z a0 hw ws x1 t1 kb1 cs z fm h0 n0 Z0 O0 SC hz SF rF SA SH SL E1 V1 C1 gK1 hn
theorem rC (l : Launch) (Z : State) (a0 : Array Value) (hw : ∀ d ∈ tables_1, d.before a0 Z = true) (ws : List Jvm.Cond) (x1 : Addr) (t1 : Addr) (kb1 : ClassId) (cs : List Int32) (i : Nat) (z : Int32) (fm : Value) (h0 : Heap) (n0 : Nat) (Z0 : n0 ≤ h0.size) (O0 : Old Z n0 h0) (SC : Sta Z Z.heap "java/lang/String" "COMPACT_STRINGS" "Z" (.int z)) (hz : ¬ z = 0) (SF : Sta Z Z.heap "jdk/internal/util/Preconditions" "SIOOBE_FORMATTER" "Ljava/util/function/BiFunction;" fm) (rF : fm.isRef = true) (SA : Sta Z Z.heap "java/lang/StringUTF16" "$assertionsDisabled" "Z" (.int (1 : Int32))) (SH : Sta Z Z.heap "java/lang/StringUTF16" "HI_BYTE_SHIFT" "I" (.int (0 : Int32))) (SL : Sta Z Z.heap "java/lang/StringUTF16" "LO_BYTE_SHIFT" "I" (.int (8 : Int32))) (E1 : Exa Z h0 x1 "java/lang/String") (V1 : Fld Z h0 x1 "java/lang/String" "value" "[B" (.ref t1)) (D1 : SD Z h0 x1 t1 kb1 cs) (hn : cs.length ≤ 4) (hi : i < cs.length) (hbc : ∀ c ∈ cs, ¬ c < 0 ∧ ¬ (65535 : Int32) < c) : Ctr FrameEnd l Z (⟨"java/lang/String", "charAt", "(I)C"⟩ : MethodName) jdk_42_method_56_code 2 (some .char) ws ({ frames := 4, cells := 0, slots := 0, locals := 60 } : Room) #[(.ref x1), (.int (Int32.ofNat i))] h0 TrueV (PureQ (some (.int (cs.getD i 0))) h0) := by
  rcases D1 with ⟨hs, C1, gK1⟩ | ⟨hs, C1, gK1⟩
  · exact rC0 l Z a0 hw ws x1 t1 kb1 cs i z fm h0 n0 Z0 O0 SC hz SF rF SA SH SL E1 V1 C1 gK1 hn hi hbc hs
  · exact rC1 l Z a0 hw ws x1 t1 kb1 cs i z fm h0 n0 Z0 O0 SC hz SF rF SA SH SL E1 V1 C1 gK1 hn hi hbc
theorem own_ltm {i : Nat} (hi : i < 1000) : Int32.ofNat i < (1073741823 : Int32) := by
  rw [Int32.lt_iff_toInt_lt, own_oi hi]; have e : (1073741823 : Int32).toInt = 1073741823 := rfl; omega
theorem own_cmG {cs : List Int32} {i : Nat} (h : i < cs.length) (d : Value) : (cs.map Value.int).getD i d = .int (cs.getD i 0) := by
  simp [List.getD_eq_getElem?_getD, h]
theorem own_setG {D : List Value} {d v : Value} {i x : Nat} (h : i < D.length) : (D.set i v).getD x d = if x = i then v else D.getD x d := by
  simp only [List.getD_eq_getElem?_getD, List.getElem?_set]
  by_cases q : i = x
  · subst q; simp [h]
  · simp [q, Ne.symm q]
theorem own_Dll {D : List Value} {cs : List Int32} (hD : D.length = cs.length) (h : ∀ x, x < cs.length → D.getD x (.int (0 : Int32)) = .int (own_by (cs.getD x 0))) : D = own_ll cs := by
  apply List.ext_getElem?
  intro x
  by_cases q : x < cs.length
  · have e1 := h x q
    have e2 := own_llG q (.int (0 : Int32))
    simp only [List.getD_eq_getElem?_getD] at e1 e2
    rw [List.getElem?_eq_getElem (by omega)] at e1 ⊢
    rw [List.getElem?_eq_getElem (by rw [own_llL]; omega)] at e2 ⊢
    simp only [Option.getD_some] at e1 e2
    rw [e1, e2]
  · rw [List.getElem?_eq_none (by omega), List.getElem?_eq_none (by rw [own_llL]; omega)]
theorem own_Dhl {D : List Value} {cs : List Int32} (hD : D.length = 2 * cs.length) (h : ∀ x, x < cs.length → D.getD (2 * x) (.int (0 : Int32)) = .int (own_hi (cs.getD x 0)) ∧ D.getD (2 * x + 1) (.int (0 : Int32)) = .int (own_lo (cs.getD x 0))) : D = own_hl cs := by
  apply List.ext_getElem?
  intro y
  by_cases q : y < 2 * cs.length
  · have e1 : D.getD y (.int (0 : Int32)) = (own_hl cs).getD y (.int (0 : Int32)) := by
      rcases Nat.mod_two_eq_zero_or_one y with r | r
      · have e : y = 2 * (y / 2) := by omega
        rw [e, (h (y / 2) (by omega)).1, (own_hlG cs (y / 2) (by omega) _).1]
      · have e : y = 2 * (y / 2) + 1 := by omega
        rw [e, (h (y / 2) (by omega)).2, (own_hlG cs (y / 2) (by omega) _).2]
    simp only [List.getD_eq_getElem?_getD] at e1
    rw [List.getElem?_eq_getElem (by omega), List.getElem?_eq_getElem (by rw [own_hlL]; omega)] at e1 ⊢
    simp only [Option.getD_some] at e1
    rw [e1]
  · rw [List.getElem?_eq_none (by omega), List.getElem?_eq_none (by rw [own_hlL]; omega)]
theorem own_dv1 {D : List Value} {cs : List Int32} {i : Nat} (hi : i < D.length) (h : ∀ x, x < i → D.getD x (.int (0 : Int32)) = .int (own_by (cs.getD x 0))) : ∀ x, x < i + 1 → (D.set i (.int (own_by (cs.getD i 0)))).getD x (.int (0 : Int32)) = .int (own_by (cs.getD x 0)) := fun x hx => by
  rw [own_setG hi]
  by_cases q : x = i
  · rw [if_pos q, q]
  · rw [if_neg q]; exact h x (by omega)
theorem own_dv2 {D : List Value} {cs : List Int32} {i : Nat} (hi : 2 * i + 1 < D.length) (h : ∀ x, x < i → D.getD (2 * x) (.int (0 : Int32)) = .int (own_hi (cs.getD x 0)) ∧ D.getD (2 * x + 1) (.int (0 : Int32)) = .int (own_lo (cs.getD x 0))) : ∀ x, x < i + 1 → ((D.set (2 * i) (.int (own_hi (cs.getD i 0)))).set (2 * i + 1) (.int (own_lo (cs.getD i 0)))).getD (2 * x) (.int (0 : Int32)) = .int (own_hi (cs.getD x 0)) ∧ ((D.set (2 * i) (.int (own_hi (cs.getD i 0)))).set (2 * i + 1) (.int (own_lo (cs.getD i 0)))).getD (2 * x + 1) (.int (0 : Int32)) = .int (own_lo (cs.getD x 0)) := fun x hx => by
  have a : ∀ y, ((D.set (2 * i) (.int (own_hi (cs.getD i 0)))).set (2 * i + 1) (.int (own_lo (cs.getD i 0)))).getD y (.int (0 : Int32)) = if y = 2 * i + 1 then .int (own_lo (cs.getD i 0)) else if y = 2 * i then .int (own_hi (cs.getD i 0)) else D.getD y (.int (0 : Int32)) := fun y => by
    rw [own_setG (by rw [List.length_set]; omega), own_setG (by omega)]
  rw [a, a]
  by_cases q : x = i
  · subst q; rw [if_neg (by omega), if_pos rfl, if_pos rfl]; exact ⟨rfl, rfl⟩
  · rw [if_neg (by omega), if_neg (by omega), if_neg (by omega), if_neg (by omega)]; exact h x (by omega)
theorem own_smA {cs : List Int32} (h : ∀ x, x < cs.length → ¬ (255 : Int32) < cs.getD x 0) : SM cs := fun c hc => by
  obtain ⟨x, hx, rfl⟩ := List.mem_iff_getElem.mp hc
  have e : cs.getD x 0 = cs[x] := by simp [List.getD_eq_getElem?_getD, hx]
  rw [← e]; exact h x hx
theorem own_smS {cs : List Int32} {i : Nat} (h : ∀ x, x < i → ¬ (255 : Int32) < cs.getD x 0) (g : ¬ (255 : Int32) < cs.getD i 0) : ∀ x, x < i + 1 → ¬ (255 : Int32) < cs.getD x 0 := fun x hx => by
  by_cases q : x = i
  · rw [q]; exact g
  · exact h x (by omega)
theorem d14_0 : decode jdk_52_method_21_code 0 = .ok (.iconst 0, 1) := by decide +kernel
theorem d14_1 : decode jdk_52_method_21_code 1 = .ok (.istore 5, 2) := by decide +kernel
theorem d14_3 : decode jdk_52_method_21_code 3 = .ok (.iload 5, 2) := by decide +kernel
theorem d14_5 : decode jdk_52_method_21_code 5 = .ok (.iload 4, 2) := by decide +kernel
theorem d14_7 : decode jdk_52_method_21_code 7 = .ok (.if_icmp .ge 37, 3) := by decide +kernel
theorem d14_44 : decode jdk_52_method_21_code 44 = .ok (.iload 4, 2) := by decide +kernel
theorem d14_46 : decode jdk_52_method_21_code 46 = .ok (.ireturn, 1) := by decide +kernel
theorem d14_10 : decode jdk_52_method_21_code 10 = .ok (.aload_n 0, 1) := by decide +kernel
theorem d14_11 : decode jdk_52_method_21_code 11 = .ok (.iload_n 1, 1) := by decide +kernel
theorem d14_12 : decode jdk_52_method_21_code 12 = .ok (.caload, 1) := by decide +kernel
theorem d14_13 : decode jdk_52_method_21_code 13 = .ok (.istore 6, 2) := by decide +kernel
theorem d14_15 : decode jdk_52_method_21_code 15 = .ok (.iload 6, 2) := by decide +kernel
theorem d14_17 : decode jdk_52_method_21_code 17 = .ok (.sipush 255, 3) := by decide +kernel
theorem d14_20 : decode jdk_52_method_21_code 20 = .ok (.if_icmp .le 6, 3) := by decide +kernel
theorem d14_23 : decode jdk_52_method_21_code 23 = .ok (.iload 5, 2) := by decide +kernel
theorem d14_25 : decode jdk_52_method_21_code 25 = .ok (.ireturn, 1) := by decide +kernel
theorem d14_26 : decode jdk_52_method_21_code 26 = .ok (.aload_n 2, 1) := by decide +kernel
theorem d14_27 : decode jdk_52_method_21_code 27 = .ok (.iload_n 3, 1) := by decide +kernel
theorem d14_28 : decode jdk_52_method_21_code 28 = .ok (.iload 6, 2) := by decide +kernel
theorem d14_30 : decode jdk_52_method_21_code 30 = .ok (.i2b, 1) := by decide +kernel
theorem d14_31 : decode jdk_52_method_21_code 31 = .ok (.bastore, 1) := by decide +kernel
theorem d14_32 : decode jdk_52_method_21_code 32 = .ok (.iinc 1 1, 3) := by decide +kernel
theorem d14_35 : decode jdk_52_method_21_code 35 = .ok (.iinc 3 1, 3) := by decide +kernel
theorem d14_38 : decode jdk_52_method_21_code 38 = .ok (.iinc 5 1, 3) := by decide +kernel
theorem d14_41 : decode jdk_52_method_21_code 41 = .ok (.goto (-38), 3) := by decide +kernel
set_option maxRecDepth 65536 in
set_option maxHeartbeats 40000000 in
theorem u5 (l : Launch) (Z : State) (a0 : Array Value) (hw : ∀ d ∈ tables_1, d.before a0 Z = true) (ws : List Jvm.Cond) (cA bA : Addr) (kc kb : ClassId) (cs : List Int32) (D0 : List Value) (h0 : Heap) (n0 : Nat) (Z0 : n0 ≤ h0.size) (VA : Arv Z h0 cA kc .char (Int32.ofNat cs.length) (cs.map Value.int) (.int (0 : Int32))) (VB : Arv Z h0 bA kb .byte (Int32.ofNat cs.length) D0 (.int (0 : Int32))) (hD : D0.length = cs.length) (gb : n0 ≤ bA) (nab : cA ≠ bA) (hn : cs.length ≤ 4) :
    Ctr FrameEnd l Z (⟨"java/lang/StringUTF16", "compress", "([CI[BII)I"⟩ : MethodName) jdk_52_method_21_code 7 (some .int) ws ({ frames := 0, cells := 0, slots := 0, locals := 0 } : Room) #[(.ref cA), (.int (0 : Int32)), (.ref bA), (.int (0 : Int32)), (.int (Int32.ofNat cs.length))] h0 TrueV (fun v h _ L => Fr n0 L ∧ Keep h0 h [bA] ∧ ((v = some (.int (Int32.ofNat cs.length)) ∧ SM cs ∧ Arv Z h bA kb .byte (Int32.ofNat cs.length) (own_ll cs) (.int (0 : Int32))) ∨ ∃ k, k < cs.length ∧ v = some (.int (Int32.ofNat k)) ∧ (255 : Int32) < cs.getD k 0)) := by
  refine Ctr.intro (plainFor_of_name pn_java_lang_StringUTF16) (Ls := #[.val (.ref cA), .val (.int (0 : Int32)), .val (.ref bA), .val (.int (0 : Int32)), .val (.int (Int32.ofNat cs.length)), .unset, .unset]) (fun m => by first | (simp [entryFrame, mkF, argsToLocals, Value.category]; done) | rfl) ?_
  intro p e s m below meth c T0 hx hby hml hown hnm hret hlk hZ hV hsh e0 X0
  have N0 := Fr.nil n0
  show Done _ p e below s _ _ (T0.setTop (mkF m 0 #[oR cA, oI (0 : Int32), oR bA, oI (0 : Int32), oI (Int32.ofNat cs.length), .unset, .unset] []))
  refine Done.step (fun _ => XT.iconstV X0.here hx rfl (0 : Int32) (hb hby d14_0) (by decide)) ?_
  show Done _ p e below s _ _ (T0.setTop (mkF m 1 #[oR cA, oI (0 : Int32), oR bA, oI (0 : Int32), oI (Int32.ofNat cs.length), .unset, .unset] [(.int (0 : Int32))]))
  refine Done.step (fun _ => XS.istore X0.here hx rfl (hb hby d14_1) rfl (l' := #[oR cA, oI (0 : Int32), oR bA, oI (0 : Int32), oI (Int32.ofNat cs.length), oI (0 : Int32), .unset]) rfl) ?_
  show Done _ p e below s _ _ (T0.setTop (mkF m 3 #[oR cA, oI (0 : Int32), oR bA, oI (0 : Int32), oI (Int32.ofNat cs.length), oI (0 : Int32), .unset] []))
  have KI : ∀ (kk : Nat) (i : Nat) (hik : i + kk = cs.length) (hsm : ∀ x, x < i → ¬ (255 : Int32) < cs.getD x 0) (sl : Slot) (hsl : sl = .unset ∨ ∃ y, sl = .val (.int y)) (hL : Heap) (D : List Value) (hD : D.length = cs.length) (hDv : ∀ x, x < i → D.getD x (.int (0 : Int32)) = .int (own_by (cs.getD x 0))) (KL : Keep h0 hL [bA]) (VAL : Arv Z hL cA kc .char (Int32.ofNat cs.length) (cs.map Value.int) (.int (0 : Int32))) (VBL : Arv Z hL bA kb .byte (Int32.ofNat cs.length) D (.int (0 : Int32))) (locL : List Loc) (NL : Fr n0 locL) (ZL : n0 ≤ hL.size) (TL : State) (eL : TL.heap = hL) (XL : Stand p l e ({ frames := 0, cells := 0, slots := 0, locals := 0 } : Room) s m #[(.ref cA), (.int (0 : Int32)), (.ref bA), (.int (0 : Int32)), (.int (Int32.ofNat cs.length))] below meth c TL locL 0 0), Done FrameEnd p e below s ({ frames := 0, cells := 0, slots := 0, locals := 0 } : Room) (fun v h _ L => Fr n0 L ∧ Keep h0 h [bA] ∧ ((v = some (.int (Int32.ofNat cs.length)) ∧ SM cs ∧ Arv Z h bA kb .byte (Int32.ofNat cs.length) (own_ll cs) (.int (0 : Int32))) ∨ ∃ k, k < cs.length ∧ v = some (.int (Int32.ofNat k)) ∧ (255 : Int32) < cs.getD k 0)) (TL.setTop (mkF m 3 #[oR cA, oI (Int32.ofNat i), oR bA, oI (Int32.ofNat i), oI (Int32.ofNat cs.length), oI (Int32.ofNat i), sl] [])) := by
    intro kk
    induction kk with
    | zero =>
      intro i hik hsm sl hsl hL D hD hDv KL VAL VBL locL NL ZL TL eL XL
      show Done _ p e below s _ _ (TL.setTop (mkF m 3 #[oR cA, oI (Int32.ofNat i), oR bA, oI (Int32.ofNat i), oI (Int32.ofNat cs.length), oI (Int32.ofNat i), sl] []))
      refine Done.step (fun _ => XS.iload XL.here hx rfl (hb hby d14_3) rfl) ?_
      show Done _ p e below s _ _ (TL.setTop (mkF m 5 #[oR cA, oI (Int32.ofNat i), oR bA, oI (Int32.ofNat i), oI (Int32.ofNat cs.length), oI (Int32.ofNat i), sl] [(.int (Int32.ofNat i))]))
      refine Done.step (fun _ => XS.iload XL.here hx rfl (hb hby d14_5) rfl) ?_
      show Done _ p e below s _ _ (TL.setTop (mkF m 7 #[oR cA, oI (Int32.ofNat i), oR bA, oI (Int32.ofNat i), oI (Int32.ofNat cs.length), oI (Int32.ofNat i), sl] [(.int (Int32.ofNat cs.length)), (.int (Int32.ofNat i))]))
      refine Done.step (fun _ => XS.icmpYes XL.here hx rfl (pc0 := 7) (pc' := 44) rfl (hb hby d14_7) rfl (XT.ii_ge_t (by rw [own_lt (by omega) (by omega)]; omega)) (by decide) (by decide)) ?_
      show Done _ p e below s _ _ (TL.setTop (mkF m 44 #[oR cA, oI (Int32.ofNat i), oR bA, oI (Int32.ofNat i), oI (Int32.ofNat cs.length), oI (Int32.ofNat i), sl] []))
      refine Done.step (fun _ => XS.iload XL.here hx rfl (hb hby d14_44) rfl) ?_
      show Done _ p e below s _ _ (TL.setTop (mkF m 46 #[oR cA, oI (Int32.ofNat i), oR bA, oI (Int32.ofNat i), oI (Int32.ofNat cs.length), oI (Int32.ofNat i), sl] [(.int (Int32.ofNat cs.length))]))
      have hi : i = cs.length := by omega
      subst hi
      refine Done.retI (leavesF XL hlk (by decide) (by decide)) XL hx hret (hb hby d14_46) ?_
      rw [eL]
      exact ⟨NL, KL, Or.inl ⟨rfl, own_smA hsm, own_Dll hD hDv ▸ VBL⟩⟩
    | succ kk ih =>
      intro i hik hsm sl hsl hL D hD hDv KL VAL VBL locL NL ZL TL eL XL
      show Done _ p e below s _ _ (TL.setTop (mkF m 3 #[oR cA, oI (Int32.ofNat i), oR bA, oI (Int32.ofNat i), oI (Int32.ofNat cs.length), oI (Int32.ofNat i), sl] []))
      refine Done.step (fun _ => XS.iload XL.here hx rfl (hb hby d14_3) rfl) ?_
      show Done _ p e below s _ _ (TL.setTop (mkF m 5 #[oR cA, oI (Int32.ofNat i), oR bA, oI (Int32.ofNat i), oI (Int32.ofNat cs.length), oI (Int32.ofNat i), sl] [(.int (Int32.ofNat i))]))
      refine Done.step (fun _ => XS.iload XL.here hx rfl (hb hby d14_5) rfl) ?_
      show Done _ p e below s _ _ (TL.setTop (mkF m 7 #[oR cA, oI (Int32.ofNat i), oR bA, oI (Int32.ofNat i), oI (Int32.ofNat cs.length), oI (Int32.ofNat i), sl] [(.int (Int32.ofNat cs.length)), (.int (Int32.ofNat i))]))
      refine Done.step (fun _ => XS.icmpNo XL.here hx rfl (hb hby d14_7) rfl (XT.ii_ge_f (by rw [own_lt (by omega) (by omega)]; omega))) ?_
      show Done _ p e below s _ _ (TL.setTop (mkF m 10 #[oR cA, oI (Int32.ofNat i), oR bA, oI (Int32.ofNat i), oI (Int32.ofNat cs.length), oI (Int32.ofNat i), sl] []))
      refine Done.step (fun _ => XS.aloadN XL.here hx rfl (hb hby d14_10) rfl rfl) ?_
      show Done _ p e below s _ _ (TL.setTop (mkF m 11 #[oR cA, oI (Int32.ofNat i), oR bA, oI (Int32.ofNat i), oI (Int32.ofNat cs.length), oI (Int32.ofNat i), sl] [(.ref cA)]))
      refine Done.step (fun _ => XS.iloadN XL.here hx rfl (hb hby d14_11) rfl) ?_
      show Done _ p e below s _ _ (TL.setTop (mkF m 12 #[oR cA, oI (Int32.ofNat i), oR bA, oI (Int32.ofNat i), oI (Int32.ofNat cs.length), oI (Int32.ofNat i), sl] [(.int (Int32.ofNat i)), (.ref cA)]))
      obtain ⟨cl1, Ar1, q1, S1, Nn1, H1, G1⟩ := id VAL
      have hin1 : ¬ ((Int32.ofNat i) < 0 ∨ cl1.slots.size ≤ ((Int32.ofNat i)).toNatClampNeg) := inb_of S1 (own_ix (by omega) (by omega))
      have hat1 := Has.at H1 hin1 (v := .int (cs.getD i 0)) (by rw [own_tn (by omega)]; exact own_cmG (by omega) _)
      refine Done.step (XL.caload hx (j := (Int32.ofNat i)) (v := .int (cs.getD i 0)) (by first | exact Ar1.1 | (rw [eL]; exact Ar1.1)) (State.isArrayOf_alike hZ.alike Ar1.2.1) Ar1.2.2 hin1 hat1 (g := (mkF m 12 #[oR cA, oI (Int32.ofNat i), oR bA, oI (Int32.ofNat i), oI (Int32.ofNat cs.length), oI (Int32.ofNat i), sl] [(.int (Int32.ofNat i)), (.ref cA)])) rfl rfl (hb hby d14_12)) ?_
      show Done _ p e below s _ _ (TL.setTop (mkF m 13 #[oR cA, oI (Int32.ofNat i), oR bA, oI (Int32.ofNat i), oI (Int32.ofNat cs.length), oI (Int32.ofNat i), sl] [(.int (cs.getD i 0))]))
      rcases hsl with rfl | ⟨yv, rfl⟩
      · show Done _ p e below s _ _ (TL.setTop (mkF m 13 #[oR cA, oI (Int32.ofNat i), oR bA, oI (Int32.ofNat i), oI (Int32.ofNat cs.length), oI (Int32.ofNat i), .unset] [(.int (cs.getD i 0))]))
        refine Done.step (fun _ => XS.istore XL.here hx rfl (hb hby d14_13) rfl (l' := #[oR cA, oI (Int32.ofNat i), oR bA, oI (Int32.ofNat i), oI (Int32.ofNat cs.length), oI (Int32.ofNat i), oI (cs.getD i 0)]) rfl) ?_
        show Done _ p e below s _ _ (TL.setTop (mkF m 15 #[oR cA, oI (Int32.ofNat i), oR bA, oI (Int32.ofNat i), oI (Int32.ofNat cs.length), oI (Int32.ofNat i), oI (cs.getD i 0)] []))
        refine Done.step (fun _ => XS.iload XL.here hx rfl (hb hby d14_15) rfl) ?_
        show Done _ p e below s _ _ (TL.setTop (mkF m 17 #[oR cA, oI (Int32.ofNat i), oR bA, oI (Int32.ofNat i), oI (Int32.ofNat cs.length), oI (Int32.ofNat i), oI (cs.getD i 0)] [(.int (cs.getD i 0))]))
        refine Done.step (fun _ => XT.sipushV XL.here hx rfl (255 : Int32) (hb hby d14_17) (by decide)) ?_
        show Done _ p e below s _ _ (TL.setTop (mkF m 20 #[oR cA, oI (Int32.ofNat i), oR bA, oI (Int32.ofNat i), oI (Int32.ofNat cs.length), oI (Int32.ofNat i), oI (cs.getD i 0)] [(.int (255 : Int32)), (.int (cs.getD i 0))]))
        by_cases hc2 : (255 : Int32) < (cs.getD i 0)
        · refine Done.step (fun _ => XS.icmpNo XL.here hx rfl (hb hby d14_20) rfl (XT.ii_le_f hc2)) ?_
          show Done _ p e below s _ _ (TL.setTop (mkF m 23 #[oR cA, oI (Int32.ofNat i), oR bA, oI (Int32.ofNat i), oI (Int32.ofNat cs.length), oI (Int32.ofNat i), oI (cs.getD i 0)] []))
          refine Done.step (fun _ => XS.iload XL.here hx rfl (hb hby d14_23) rfl) ?_
          show Done _ p e below s _ _ (TL.setTop (mkF m 25 #[oR cA, oI (Int32.ofNat i), oR bA, oI (Int32.ofNat i), oI (Int32.ofNat cs.length), oI (Int32.ofNat i), oI (cs.getD i 0)] [(.int (Int32.ofNat i))]))
          refine Done.retI (leavesF XL hlk (by decide) (by decide)) XL hx hret (hb hby d14_25) ?_
          rw [eL]
          exact ⟨NL, KL, Or.inr ⟨i, by omega, rfl, hc2⟩⟩
        · refine Done.step (fun _ => XS.icmpYes XL.here hx rfl (pc0 := 20) (pc' := 26) rfl (hb hby d14_20) rfl (XT.ii_le_t hc2) (by decide) (by decide)) ?_
          show Done _ p e below s _ _ (TL.setTop (mkF m 26 #[oR cA, oI (Int32.ofNat i), oR bA, oI (Int32.ofNat i), oI (Int32.ofNat cs.length), oI (Int32.ofNat i), oI (cs.getD i 0)] []))
          refine Done.step (fun _ => XS.aloadN XL.here hx rfl (hb hby d14_26) rfl rfl) ?_
          show Done _ p e below s _ _ (TL.setTop (mkF m 27 #[oR cA, oI (Int32.ofNat i), oR bA, oI (Int32.ofNat i), oI (Int32.ofNat cs.length), oI (Int32.ofNat i), oI (cs.getD i 0)] [(.ref bA)]))
          refine Done.step (fun _ => XS.iloadN XL.here hx rfl (hb hby d14_27) rfl) ?_
          show Done _ p e below s _ _ (TL.setTop (mkF m 28 #[oR cA, oI (Int32.ofNat i), oR bA, oI (Int32.ofNat i), oI (Int32.ofNat cs.length), oI (Int32.ofNat i), oI (cs.getD i 0)] [(.int (Int32.ofNat i)), (.ref bA)]))
          refine Done.step (fun _ => XS.iload XL.here hx rfl (hb hby d14_28) rfl) ?_
          show Done _ p e below s _ _ (TL.setTop (mkF m 30 #[oR cA, oI (Int32.ofNat i), oR bA, oI (Int32.ofNat i), oI (Int32.ofNat cs.length), oI (Int32.ofNat i), oI (cs.getD i 0)] [(.int (cs.getD i 0)), (.int (Int32.ofNat i)), (.ref bA)]))
          refine Done.step (fun _ => XT.i2b XL.here hx rfl (hb hby d14_30) rfl) ?_
          show Done _ p e below s _ _ (TL.setTop (mkF m 31 #[oR cA, oI (Int32.ofNat i), oR bA, oI (Int32.ofNat i), oI (Int32.ofNat cs.length), oI (Int32.ofNat i), oI (cs.getD i 0)] [(.int ((cs.getD i 0).toInt8.toInt32)), (.int (Int32.ofNat i)), (.ref bA)]))
          obtain ⟨cl3, Ar3, q3, S3, Nn3, H3, G3⟩ := id VBL
          have hin3 : ¬ ((Int32.ofNat i) < 0 ∨ cl3.slots.size ≤ ((Int32.ofNat i)).toNatClampNeg) := inb_of S3 (own_ix (by omega) (by omega))
          obtain ⟨T3, h3, X3, e3, W3, st3⟩ := stB XL hx hZ eL Ar3 (j := (Int32.ofNat i)) hin3 (g := (mkF m 31 #[oR cA, oI (Int32.ofNat i), oR bA, oI (Int32.ofNat i), oI (Int32.ofNat cs.length), oI (Int32.ofNat i), oI (cs.getD i 0)] [(.int ((cs.getD i 0).toInt8.toInt32)), (.int (Int32.ofNat i)), (.ref bA)])) rfl rfl (hb hby d14_31)
          have V3 := Arv.set Ar3 q3 S3 Nn3 H3 G3 (fits_nar_byte _) W3 i (own_tn (by omega)) (by omega)
          have N3 := Fr.snoc X3 NL gb
          have Zs3 := Nat.le_trans ZL (Keep.of_wr W3).1
          have K3 := KL.wr W3 (Or.inl (List.mem_of_getElem? (i := 0) rfl))
          refine Done.step st3 ?_
          show Done _ p e below s _ _ (T3.setTop (mkF m 32 #[oR cA, oI (Int32.ofNat i), oR bA, oI (Int32.ofNat i), oI (Int32.ofNat cs.length), oI (Int32.ofNat i), oI (cs.getD i 0)] []))
          refine Done.step (fun _ => XS.iinc X3.here hx rfl (hb hby d14_32) rfl (l' := #[oR cA, oI ((Int32.ofNat i) + (1 : Int32)), oR bA, oI (Int32.ofNat i), oI (Int32.ofNat cs.length), oI (Int32.ofNat i), oI (cs.getD i 0)]) rfl) ?_
          show Done _ p e below s _ _ (T3.setTop (mkF m 35 #[oR cA, oI ((Int32.ofNat i) + (1 : Int32)), oR bA, oI (Int32.ofNat i), oI (Int32.ofNat cs.length), oI (Int32.ofNat i), oI (cs.getD i 0)] []))
          refine Done.step (fun _ => XS.iinc X3.here hx rfl (hb hby d14_35) rfl (l' := #[oR cA, oI ((Int32.ofNat i) + (1 : Int32)), oR bA, oI ((Int32.ofNat i) + (1 : Int32)), oI (Int32.ofNat cs.length), oI (Int32.ofNat i), oI (cs.getD i 0)]) rfl) ?_
          show Done _ p e below s _ _ (T3.setTop (mkF m 38 #[oR cA, oI ((Int32.ofNat i) + (1 : Int32)), oR bA, oI ((Int32.ofNat i) + (1 : Int32)), oI (Int32.ofNat cs.length), oI (Int32.ofNat i), oI (cs.getD i 0)] []))
          refine Done.step (fun _ => XS.iinc X3.here hx rfl (hb hby d14_38) rfl (l' := #[oR cA, oI ((Int32.ofNat i) + (1 : Int32)), oR bA, oI ((Int32.ofNat i) + (1 : Int32)), oI (Int32.ofNat cs.length), oI ((Int32.ofNat i) + (1 : Int32)), oI (cs.getD i 0)]) rfl) ?_
          show Done _ p e below s _ _ (T3.setTop (mkF m 41 #[oR cA, oI ((Int32.ofNat i) + (1 : Int32)), oR bA, oI ((Int32.ofNat i) + (1 : Int32)), oI (Int32.ofNat cs.length), oI ((Int32.ofNat i) + (1 : Int32)), oI (cs.getD i 0)] []))
          refine Done.step (fun _ => XS.goto X3.here hx rfl (pc0 := 41) (pc' := 3) rfl (hb hby d14_41) (by decide) (by decide)) ?_
          show Done _ p e below s _ _ (T3.setTop (mkF m 3 #[oR cA, oI ((Int32.ofNat i) + (1 : Int32)), oR bA, oI ((Int32.ofNat i) + (1 : Int32)), oI (Int32.ofNat cs.length), oI ((Int32.ofNat i) + (1 : Int32)), oI (cs.getD i 0)] []))
          rw [own_inc i]
          have f4 := (VAL.other W3 nab)
          exact ih (i + 1) (by omega) (own_smS hsm hc2) _ (Or.inr ⟨_, rfl⟩) _ _ (by rw [List.length_set]; exact hD) (own_dv1 (by omega) hDv) K3 f4 V3 _ N3 Zs3 T3 e3 X3
      · show Done _ p e below s _ _ (TL.setTop (mkF m 13 #[oR cA, oI (Int32.ofNat i), oR bA, oI (Int32.ofNat i), oI (Int32.ofNat cs.length), oI (Int32.ofNat i), oI yv] [(.int (cs.getD i 0))]))
        refine Done.step (fun _ => XS.istore XL.here hx rfl (hb hby d14_13) rfl (l' := #[oR cA, oI (Int32.ofNat i), oR bA, oI (Int32.ofNat i), oI (Int32.ofNat cs.length), oI (Int32.ofNat i), oI (cs.getD i 0)]) rfl) ?_
        show Done _ p e below s _ _ (TL.setTop (mkF m 15 #[oR cA, oI (Int32.ofNat i), oR bA, oI (Int32.ofNat i), oI (Int32.ofNat cs.length), oI (Int32.ofNat i), oI (cs.getD i 0)] []))
        refine Done.step (fun _ => XS.iload XL.here hx rfl (hb hby d14_15) rfl) ?_
        show Done _ p e below s _ _ (TL.setTop (mkF m 17 #[oR cA, oI (Int32.ofNat i), oR bA, oI (Int32.ofNat i), oI (Int32.ofNat cs.length), oI (Int32.ofNat i), oI (cs.getD i 0)] [(.int (cs.getD i 0))]))
        refine Done.step (fun _ => XT.sipushV XL.here hx rfl (255 : Int32) (hb hby d14_17) (by decide)) ?_
        show Done _ p e below s _ _ (TL.setTop (mkF m 20 #[oR cA, oI (Int32.ofNat i), oR bA, oI (Int32.ofNat i), oI (Int32.ofNat cs.length), oI (Int32.ofNat i), oI (cs.getD i 0)] [(.int (255 : Int32)), (.int (cs.getD i 0))]))
        by_cases hc5 : (255 : Int32) < (cs.getD i 0)
        · refine Done.step (fun _ => XS.icmpNo XL.here hx rfl (hb hby d14_20) rfl (XT.ii_le_f hc5)) ?_
          show Done _ p e below s _ _ (TL.setTop (mkF m 23 #[oR cA, oI (Int32.ofNat i), oR bA, oI (Int32.ofNat i), oI (Int32.ofNat cs.length), oI (Int32.ofNat i), oI (cs.getD i 0)] []))
          refine Done.step (fun _ => XS.iload XL.here hx rfl (hb hby d14_23) rfl) ?_
          show Done _ p e below s _ _ (TL.setTop (mkF m 25 #[oR cA, oI (Int32.ofNat i), oR bA, oI (Int32.ofNat i), oI (Int32.ofNat cs.length), oI (Int32.ofNat i), oI (cs.getD i 0)] [(.int (Int32.ofNat i))]))
          refine Done.retI (leavesF XL hlk (by decide) (by decide)) XL hx hret (hb hby d14_25) ?_
          rw [eL]
          exact ⟨NL, KL, Or.inr ⟨i, by omega, rfl, hc5⟩⟩
        · refine Done.step (fun _ => XS.icmpYes XL.here hx rfl (pc0 := 20) (pc' := 26) rfl (hb hby d14_20) rfl (XT.ii_le_t hc5) (by decide) (by decide)) ?_
          show Done _ p e below s _ _ (TL.setTop (mkF m 26 #[oR cA, oI (Int32.ofNat i), oR bA, oI (Int32.ofNat i), oI (Int32.ofNat cs.length), oI (Int32.ofNat i), oI (cs.getD i 0)] []))
          refine Done.step (fun _ => XS.aloadN XL.here hx rfl (hb hby d14_26) rfl rfl) ?_
          show Done _ p e below s _ _ (TL.setTop (mkF m 27 #[oR cA, oI (Int32.ofNat i), oR bA, oI (Int32.ofNat i), oI (Int32.ofNat cs.length), oI (Int32.ofNat i), oI (cs.getD i 0)] [(.ref bA)]))
          refine Done.step (fun _ => XS.iloadN XL.here hx rfl (hb hby d14_27) rfl) ?_
          show Done _ p e below s _ _ (TL.setTop (mkF m 28 #[oR cA, oI (Int32.ofNat i), oR bA, oI (Int32.ofNat i), oI (Int32.ofNat cs.length), oI (Int32.ofNat i), oI (cs.getD i 0)] [(.int (Int32.ofNat i)), (.ref bA)]))
          refine Done.step (fun _ => XS.iload XL.here hx rfl (hb hby d14_28) rfl) ?_
          show Done _ p e below s _ _ (TL.setTop (mkF m 30 #[oR cA, oI (Int32.ofNat i), oR bA, oI (Int32.ofNat i), oI (Int32.ofNat cs.length), oI (Int32.ofNat i), oI (cs.getD i 0)] [(.int (cs.getD i 0)), (.int (Int32.ofNat i)), (.ref bA)]))
          refine Done.step (fun _ => XT.i2b XL.here hx rfl (hb hby d14_30) rfl) ?_
          show Done _ p e below s _ _ (TL.setTop (mkF m 31 #[oR cA, oI (Int32.ofNat i), oR bA, oI (Int32.ofNat i), oI (Int32.ofNat cs.length), oI (Int32.ofNat i), oI (cs.getD i 0)] [(.int ((cs.getD i 0).toInt8.toInt32)), (.int (Int32.ofNat i)), (.ref bA)]))
          obtain ⟨cl6, Ar6, q6, S6, Nn6, H6, G6⟩ := id VBL
          have hin6 : ¬ ((Int32.ofNat i) < 0 ∨ cl6.slots.size ≤ ((Int32.ofNat i)).toNatClampNeg) := inb_of S6 (own_ix (by omega) (by omega))
          obtain ⟨T6, h6, X6, e6, W6, st6⟩ := stB XL hx hZ eL Ar6 (j := (Int32.ofNat i)) hin6 (g := (mkF m 31 #[oR cA, oI (Int32.ofNat i), oR bA, oI (Int32.ofNat i), oI (Int32.ofNat cs.length), oI (Int32.ofNat i), oI (cs.getD i 0)] [(.int ((cs.getD i 0).toInt8.toInt32)), (.int (Int32.ofNat i)), (.ref bA)])) rfl rfl (hb hby d14_31)
          have V6 := Arv.set Ar6 q6 S6 Nn6 H6 G6 (fits_nar_byte _) W6 i (own_tn (by omega)) (by omega)
          have N6 := Fr.snoc X6 NL gb
          have Zs6 := Nat.le_trans ZL (Keep.of_wr W6).1
          have K6 := KL.wr W6 (Or.inl (List.mem_of_getElem? (i := 0) rfl))
          refine Done.step st6 ?_
          show Done _ p e below s _ _ (T6.setTop (mkF m 32 #[oR cA, oI (Int32.ofNat i), oR bA, oI (Int32.ofNat i), oI (Int32.ofNat cs.length), oI (Int32.ofNat i), oI (cs.getD i 0)] []))
          refine Done.step (fun _ => XS.iinc X6.here hx rfl (hb hby d14_32) rfl (l' := #[oR cA, oI ((Int32.ofNat i) + (1 : Int32)), oR bA, oI (Int32.ofNat i), oI (Int32.ofNat cs.length), oI (Int32.ofNat i), oI (cs.getD i 0)]) rfl) ?_
          show Done _ p e below s _ _ (T6.setTop (mkF m 35 #[oR cA, oI ((Int32.ofNat i) + (1 : Int32)), oR bA, oI (Int32.ofNat i), oI (Int32.ofNat cs.length), oI (Int32.ofNat i), oI (cs.getD i 0)] []))
          refine Done.step (fun _ => XS.iinc X6.here hx rfl (hb hby d14_35) rfl (l' := #[oR cA, oI ((Int32.ofNat i) + (1 : Int32)), oR bA, oI ((Int32.ofNat i) + (1 : Int32)), oI (Int32.ofNat cs.length), oI (Int32.ofNat i), oI (cs.getD i 0)]) rfl) ?_
          show Done _ p e below s _ _ (T6.setTop (mkF m 38 #[oR cA, oI ((Int32.ofNat i) + (1 : Int32)), oR bA, oI ((Int32.ofNat i) + (1 : Int32)), oI (Int32.ofNat cs.length), oI (Int32.ofNat i), oI (cs.getD i 0)] []))
          refine Done.step (fun _ => XS.iinc X6.here hx rfl (hb hby d14_38) rfl (l' := #[oR cA, oI ((Int32.ofNat i) + (1 : Int32)), oR bA, oI ((Int32.ofNat i) + (1 : Int32)), oI (Int32.ofNat cs.length), oI ((Int32.ofNat i) + (1 : Int32)), oI (cs.getD i 0)]) rfl) ?_
          show Done _ p e below s _ _ (T6.setTop (mkF m 41 #[oR cA, oI ((Int32.ofNat i) + (1 : Int32)), oR bA, oI ((Int32.ofNat i) + (1 : Int32)), oI (Int32.ofNat cs.length), oI ((Int32.ofNat i) + (1 : Int32)), oI (cs.getD i 0)] []))
          refine Done.step (fun _ => XS.goto X6.here hx rfl (pc0 := 41) (pc' := 3) rfl (hb hby d14_41) (by decide) (by decide)) ?_
          show Done _ p e below s _ _ (T6.setTop (mkF m 3 #[oR cA, oI ((Int32.ofNat i) + (1 : Int32)), oR bA, oI ((Int32.ofNat i) + (1 : Int32)), oI (Int32.ofNat cs.length), oI ((Int32.ofNat i) + (1 : Int32)), oI (cs.getD i 0)] []))
          rw [own_inc i]
          have f7 := (VAL.other W6 nab)
          exact ih (i + 1) (by omega) (own_smS hsm hc5) _ (Or.inr ⟨_, rfl⟩) _ _ (by rw [List.length_set]; exact hD) (own_dv1 (by omega) hDv) K6 f7 V6 _ N6 Zs6 T6 e6 X6
  exact KI cs.length 0 (Nat.zero_add _) (fun x hx => absurd hx (Nat.not_lt_zero _)) _ (Or.inl rfl) _ _ hD (fun x hx => absurd hx (Nat.not_lt_zero _)) (Keep.refl h0 [bA]) VA VB _ N0 Z0 T0 e0 X0
theorem d31_0 : decode jdk_52_method_3_code 0 = .ok (.iload_n 0, 1) := by decide +kernel
theorem d31_1 : decode jdk_52_method_3_code 1 = .ok (.ifCond .ge 11, 3) := by decide +kernel
theorem d31_12 : decode jdk_52_method_3_code 12 = .ok (.iload_n 0, 1) := by decide +kernel
theorem d31_13 : decode jdk_52_method_3_code 13 = .ok (.ldc 20, 2) := by decide +kernel
theorem d31_15 : decode jdk_52_method_3_code 15 = .ok (.if_icmp .lt 40, 3) := by decide +kernel
theorem d31_55 : decode jdk_52_method_3_code 55 = .ok (.iload_n 0, 1) := by decide +kernel
theorem d31_56 : decode jdk_52_method_3_code 56 = .ok (.iconst 1, 1) := by decide +kernel
theorem d31_57 : decode jdk_52_method_3_code 57 = .ok (.ishl, 1) := by decide +kernel
theorem d31_58 : decode jdk_52_method_3_code 58 = .ok (.ireturn, 1) := by decide +kernel
set_option maxRecDepth 65536 in
set_option maxHeartbeats 40000000 in
theorem rNB (l : Launch) (Z : State) (a0 : Array Value) (hw : ∀ d ∈ tables_1, d.before a0 Z = true) (ws : List Jvm.Cond) (qn : Nat) (h0 : Heap) (n0 : Nat) (Z0 : n0 ≤ h0.size) (g : qn ≤ 4) :
    Ctr FrameEnd l Z (⟨"java/lang/StringUTF16", "newBytesLength", "(I)I"⟩ : MethodName) jdk_52_method_3_code 1 (some .int) ws ({ frames := 0, cells := 0, slots := 0, locals := 0 } : Room) #[(.int (Int32.ofNat qn))] h0 TrueV (PureQ (some (.int (Int32.ofNat (2 * qn)))) h0) := by
  refine Ctr.intro (plainFor_of_name pn_java_lang_StringUTF16) (Ls := #[.val (.int (Int32.ofNat qn))]) (fun m => by first | (simp [entryFrame, mkF, argsToLocals, Value.category]; done) | rfl) ?_
  intro p e s m below meth c T0 hx hby hml hown hnm hret hlk hZ hV hsh e0 X0
  have N0 := Fr.nil n0
  show Done _ p e below s _ _ (T0.setTop (mkF m 0 #[oI (Int32.ofNat qn)] []))
  refine Done.step (fun _ => XS.iloadN X0.here hx rfl (hb hby d31_0) rfl) ?_
  show Done _ p e below s _ _ (T0.setTop (mkF m 1 #[oI (Int32.ofNat qn)] [(.int (Int32.ofNat qn))]))
  refine Done.step (fun _ => XS.ifYes X0.here hx rfl (pc0 := 1) (pc' := 12) rfl (hb hby d31_1) rfl (XT.i0_ge_t (own_nn0 (by omega))) (by decide) (by decide)) ?_
  show Done _ p e below s _ _ (T0.setTop (mkF m 12 #[oI (Int32.ofNat qn)] []))
  refine Done.step (fun _ => XS.iloadN X0.here hx rfl (hb hby d31_12) rfl) ?_
  show Done _ p e below s _ _ (T0.setTop (mkF m 13 #[oI (Int32.ofNat qn)] [(.int (Int32.ofNat qn))]))
  refine Done.step (fun _ => Stand.ldcI X0 hx hown (mvT hZ (wAt hw 136 rfl)) (g := (mkF m 13 #[oI (Int32.ofNat qn)] [(.int (Int32.ofNat qn))])) rfl (hb hby d31_13)) ?_
  show Done _ p e below s _ _ (T0.setTop (mkF m 15 #[oI (Int32.ofNat qn)] [(.int (1073741823 : Int32)), (.int (Int32.ofNat qn))]))
  refine Done.step (fun _ => XS.icmpYes X0.here hx rfl (pc0 := 15) (pc' := 55) rfl (hb hby d31_15) rfl (XT.ii_lt_t (own_ltm (by omega))) (by decide) (by decide)) ?_
  show Done _ p e below s _ _ (T0.setTop (mkF m 55 #[oI (Int32.ofNat qn)] []))
  refine Done.step (fun _ => XS.iloadN X0.here hx rfl (hb hby d31_55) rfl) ?_
  show Done _ p e below s _ _ (T0.setTop (mkF m 56 #[oI (Int32.ofNat qn)] [(.int (Int32.ofNat qn))]))
  refine Done.step (fun _ => XT.iconstV X0.here hx rfl (1 : Int32) (hb hby d31_56) (by decide)) ?_
  show Done _ p e below s _ _ (T0.setTop (mkF m 57 #[oI (Int32.ofNat qn)] [(.int (1 : Int32)), (.int (Int32.ofNat qn))]))
  refine Done.step (fun _ => XT.ishl X0.here hx rfl (hb hby d31_57) rfl) ?_
  show Done _ p e below s _ _ (T0.setTop (mkF m 58 #[oI (Int32.ofNat qn)] [(.int ((Int32.ofNat qn) <<< ((1 : Int32) &&& 31)))]))
  exact Done.retI (leavesF X0 hlk (by decide) (by decide)) X0 hx hret (hb hby d31_58) ⟨by rw [own_shl (by omega)], e0, rfl⟩
theorem d30_0 : decode jdk_52_method_2_code 0 = .ok (.iload_n 0, 1) := by decide +kernel
theorem d30_1 : decode jdk_52_method_2_code 1 = .ok (.invokestatic 11, 3) := by decide +kernel
theorem pd_11 : parseMethodDescriptor "(I)I" = some ⟨[.int], some .int⟩ := by decide +kernel
theorem d30_4 : decode jdk_52_method_2_code 4 = .ok (.newarray .byte, 2) := by decide +kernel
theorem d30_6 : decode jdk_52_method_2_code 6 = .ok (.areturn, 1) := by decide +kernel
set_option maxRecDepth 65536 in
set_option maxHeartbeats 40000000 in
theorem rNF (l : Launch) (Z : State) (a0 : Array Value) (hw : ∀ d ∈ tables_1, d.before a0 Z = true) (ws : List Jvm.Cond) (qn : Nat) (h0 : Heap) (n0 : Nat) (Z0 : n0 ≤ h0.size) (O0 : Old Z n0 h0) (g : qn ≤ 4) :
    Ctr FrameEnd l Z (⟨"java/lang/StringUTF16", "newBytesFor", "(I)[B"⟩ : MethodName) jdk_52_method_2_code 1 (some (.array .byte)) ws ({ frames := 1, cells := 1, slots := 8, locals := 12 } : Room) #[(.int (Int32.ofNat qn))] h0 TrueV (fun v h _ L => ∃ (b : Addr) (kb : ClassId), v = some (.ref b) ∧ Fr n0 L ∧ Keep h0 h [] ∧ h0.size ≤ b ∧ Arv Z h b kb .byte (Int32.ofNat (2 * qn)) (List.replicate (2 * qn) (.int (0 : Int32))) (.int (0 : Int32))) := by
  refine Ctr.intro (plainFor_of_name pn_java_lang_StringUTF16) (Ls := #[.val (.int (Int32.ofNat qn))]) (fun m => by first | (simp [entryFrame, mkF, argsToLocals, Value.category]; done) | rfl) ?_
  intro p e s m below meth c T0 hx hby hml hown hnm hret hlk hZ hV hsh e0 X0
  have N0 := Fr.nil n0
  show Done _ p e below s _ _ (T0.setTop (mkF m 0 #[oI (Int32.ofNat qn)] []))
  refine Done.step (fun _ => XS.iloadN X0.here hx rfl (hb hby d30_0) rfl) ?_
  show Done _ p e below s _ _ (T0.setTop (mkF m 1 #[oI (Int32.ofNat qn)] [(.int (Int32.ofNat qn))]))
  refine Done.callSP X0 hx hZ hown (wAt hw 133 rfl) (wAt hw 134 rfl) (wAt hw 67 rfl) (wAt hw 135 rfl) (by decide) (rNB l Z a0 hw [] qn h0 n0 Z0 g) e0 (g := (mkF m 1 #[oI (Int32.ofNat qn)] [(.int (Int32.ofNat qn))])) rfl (by rw [hml]; rfl) [(.int (Int32.ofNat qn))] [] 0 (lenOf pd_11 rfl) rfl rfl (by show 2 * 0 + _ ≤ _; exact Nat.le_of_eq rfl) (hb hby d30_1) (by decide) (by decide) (by decide) (by decide) rfl rfl ?_
  intro T1 X1 e1
  show Done _ p e below s _ _ (T1.setTop (mkF m 4 #[oI (Int32.ofNat qn)] [(.int (Int32.ofNat (2 * qn)))]))
  obtain ⟨T2, h2, k2, X2, e2, E2, A2, st2⟩ := newP X1 hx hZ (wAt hw 24 rfl) e1 (g := (mkF m 4 #[oI (Int32.ofNat qn)] [(.int (Int32.ofNat (2 * qn)))])) rfl (hb hby d30_4) rfl (own_nn0 (by omega)) (cap := 8) (by rw [own_tn (by omega)]; omega) (by decide) (by decide) (by decide)
  obtain ⟨b2, g2⟩ : ∃ z, z = h0.size := ⟨_, rfl⟩
  rw [← g2] at A2 st2
  have n0_b2 : n0 ≤ b2 := by rw [g2]; exact Z0
  have sz_b2 : h0.size ≤ b2 := by rw [g2]; exact (Keep.refl h0 []).1
  have K2 := (Keep.refl h0 []).ext E2
  have Zs2 := Nat.le_trans Z0 E2.1
  have V_b2 : Arv Z h2 b2 k2 .byte (Int32.ofNat (2 * qn)) (List.replicate (2 * qn) (.int (0 : Int32))) (.int (0 : Int32)) := (Arv.new A2 (own_nn0 (by omega))).pad (pad_rep [] (.int (0 : Int32)) (2 * qn))
  refine Done.step st2 ?_
  show Done _ p e below s _ _ (T2.setTop (mkF m 6 #[oI (Int32.ofNat qn)] [(.ref b2)]))
  refine Done.retA (leavesF X2 hlk (by decide) (by decide)) X2 hx hret rfl rfl (hb hby d30_6) ?_
  rw [e2]
  exact ⟨b2, k2, rfl, N0, K2, sz_b2, V_b2⟩
theorem d32_0 : decode jdk_52_method_4_code 0 = .ok (.getstatic 44, 3) := by decide +kernel
theorem d32_3 : decode jdk_52_method_4_code 3 = .ok (.ifCond .ne 25, 3) := by decide +kernel
theorem d32_28 : decode jdk_52_method_4_code 28 = .ok (.iload_n 1, 1) := by decide +kernel
theorem d32_29 : decode jdk_52_method_4_code 29 = .ok (.iconst 1, 1) := by decide +kernel
theorem d32_30 : decode jdk_52_method_4_code 30 = .ok (.ishl, 1) := by decide +kernel
theorem d32_31 : decode jdk_52_method_4_code 31 = .ok (.istore_n 1, 1) := by decide +kernel
theorem d32_32 : decode jdk_52_method_4_code 32 = .ok (.aload_n 0, 1) := by decide +kernel
theorem d32_33 : decode jdk_52_method_4_code 33 = .ok (.iload_n 1, 1) := by decide +kernel
theorem d32_34 : decode jdk_52_method_4_code 34 = .ok (.iinc 1 1, 3) := by decide +kernel
theorem d32_37 : decode jdk_52_method_4_code 37 = .ok (.iload_n 2, 1) := by decide +kernel
theorem d32_38 : decode jdk_52_method_4_code 38 = .ok (.getstatic 59, 3) := by decide +kernel
theorem d32_41 : decode jdk_52_method_4_code 41 = .ok (.ishr, 1) := by decide +kernel
theorem d32_42 : decode jdk_52_method_4_code 42 = .ok (.i2b, 1) := by decide +kernel
theorem d32_43 : decode jdk_52_method_4_code 43 = .ok (.bastore, 1) := by decide +kernel
theorem d32_44 : decode jdk_52_method_4_code 44 = .ok (.aload_n 0, 1) := by decide +kernel
theorem d32_45 : decode jdk_52_method_4_code 45 = .ok (.iload_n 1, 1) := by decide +kernel
theorem d32_46 : decode jdk_52_method_4_code 46 = .ok (.iload_n 2, 1) := by decide +kernel
theorem d32_47 : decode jdk_52_method_4_code 47 = .ok (.getstatic 63, 3) := by decide +kernel
theorem d32_50 : decode jdk_52_method_4_code 50 = .ok (.ishr, 1) := by decide +kernel
theorem d32_51 : decode jdk_52_method_4_code 51 = .ok (.i2b, 1) := by decide +kernel
theorem d32_52 : decode jdk_52_method_4_code 52 = .ok (.bastore, 1) := by decide +kernel
theorem d32_53 : decode jdk_52_method_4_code 53 = .ok (.return_, 1) := by decide +kernel
set_option maxRecDepth 65536 in
set_option maxHeartbeats 40000000 in
theorem rPut (l : Launch) (Z : State) (a0 : Array Value) (hw : ∀ d ∈ tables_1, d.before a0 Z = true) (ws : List Jvm.Cond) (bA : Addr) (kb : ClassId) (i qn : Nat) (cv : Int32) (D : List Value) (h0 : Heap) (n0 : Nat) (Z0 : n0 ≤ h0.size) (O0 : Old Z n0 h0) (SA : Sta Z Z.heap "java/lang/StringUTF16" "$assertionsDisabled" "Z" (.int (1 : Int32))) (SH : Sta Z Z.heap "java/lang/StringUTF16" "HI_BYTE_SHIFT" "I" (.int (0 : Int32))) (SL : Sta Z Z.heap "java/lang/StringUTF16" "LO_BYTE_SHIFT" "I" (.int (8 : Int32))) (VB : Arv Z h0 bA kb .byte (Int32.ofNat (2 * qn)) D (.int (0 : Int32))) (gb : n0 ≤ bA) (hi : i < qn) (hq : qn ≤ 4) (hD : D.length = 2 * qn) :
    Ctr FrameEnd l Z (⟨"java/lang/StringUTF16", "putChar", "([BII)V"⟩ : MethodName) jdk_52_method_4_code 3 none ws ({ frames := 0, cells := 0, slots := 0, locals := 0 } : Room) #[(.ref bA), (.int (Int32.ofNat i)), (.int cv)] h0 TrueV (fun v h _ L => v = none ∧ Fr n0 L ∧ Keep h0 h [bA] ∧ Arv Z h bA kb .byte (Int32.ofNat (2 * qn)) ((D.set (2 * i) (.int (own_hi cv))).set (2 * i + 1) (.int (own_lo cv))) (.int (0 : Int32))) := by
  refine Ctr.intro (plainFor_of_name pn_java_lang_StringUTF16) (Ls := #[.val (.ref bA), .val (.int (Int32.ofNat i)), .val (.int cv)]) (fun m => by first | (simp [entryFrame, mkF, argsToLocals, Value.category]; done) | rfl) ?_
  intro p e s m below meth c T0 hx hby hml hown hnm hret hlk hZ hV hsh e0 X0
  have N0 := Fr.nil n0
  show Done _ p e below s _ _ (T0.setTop (mkF m 0 #[oR bA, oI (Int32.ofNat i), oI cv] []))
  obtain ⟨T1, X1, e1, st1⟩ := getS2 X0 hx hZ hown (host := "") (Or.inl (wAt hw 140 rfl)) Via.refl e0 (SA.ext O0.2) (g := (mkF m 0 #[oR bA, oI (Int32.ofNat i), oI cv] [])) rfl (hb hby d32_0)
  refine Done.step st1 ?_
  show Done _ p e below s _ _ (T1.setTop (mkF m 3 #[oR bA, oI (Int32.ofNat i), oI cv] [(.int (1 : Int32))]))
  refine Done.step (fun _ => XS.ifYes X1.here hx rfl (pc0 := 3) (pc' := 28) rfl (hb hby d32_3) rfl (XT.i0_ne_t (by decide)) (by decide) (by decide)) ?_
  show Done _ p e below s _ _ (T1.setTop (mkF m 28 #[oR bA, oI (Int32.ofNat i), oI cv] []))
  refine Done.step (fun _ => XS.iloadN X1.here hx rfl (hb hby d32_28) rfl) ?_
  show Done _ p e below s _ _ (T1.setTop (mkF m 29 #[oR bA, oI (Int32.ofNat i), oI cv] [(.int (Int32.ofNat i))]))
  refine Done.step (fun _ => XT.iconstV X1.here hx rfl (1 : Int32) (hb hby d32_29) (by decide)) ?_
  show Done _ p e below s _ _ (T1.setTop (mkF m 30 #[oR bA, oI (Int32.ofNat i), oI cv] [(.int (1 : Int32)), (.int (Int32.ofNat i))]))
  refine Done.step (fun _ => XT.ishl X1.here hx rfl (hb hby d32_30) rfl) ?_
  show Done _ p e below s _ _ (T1.setTop (mkF m 31 #[oR bA, oI (Int32.ofNat i), oI cv] [(.int ((Int32.ofNat i) <<< ((1 : Int32) &&& 31)))]))
  rw [own_shl (by omega)]
  show Done _ p e below s _ _ (T1.setTop (mkF m 31 #[oR bA, oI (Int32.ofNat i), oI cv] [(.int (Int32.ofNat (2 * i)))]))
  refine Done.step (fun _ => XS.istoreN X1.here hx rfl (hb hby d32_31) rfl (l' := #[oR bA, oI (Int32.ofNat (2 * i)), oI cv]) rfl) ?_
  show Done _ p e below s _ _ (T1.setTop (mkF m 32 #[oR bA, oI (Int32.ofNat (2 * i)), oI cv] []))
  refine Done.step (fun _ => XS.aloadN X1.here hx rfl (hb hby d32_32) rfl rfl) ?_
  show Done _ p e below s _ _ (T1.setTop (mkF m 33 #[oR bA, oI (Int32.ofNat (2 * i)), oI cv] [(.ref bA)]))
  refine Done.step (fun _ => XS.iloadN X1.here hx rfl (hb hby d32_33) rfl) ?_
  show Done _ p e below s _ _ (T1.setTop (mkF m 34 #[oR bA, oI (Int32.ofNat (2 * i)), oI cv] [(.int (Int32.ofNat (2 * i))), (.ref bA)]))
  refine Done.step (fun _ => XS.iinc X1.here hx rfl (hb hby d32_34) rfl (l' := #[oR bA, oI ((Int32.ofNat (2 * i)) + (1 : Int32)), oI cv]) rfl) ?_
  show Done _ p e below s _ _ (T1.setTop (mkF m 37 #[oR bA, oI ((Int32.ofNat (2 * i)) + (1 : Int32)), oI cv] [(.int (Int32.ofNat (2 * i))), (.ref bA)]))
  rw [own_inc (2 * i)]
  show Done _ p e below s _ _ (T1.setTop (mkF m 37 #[oR bA, oI (Int32.ofNat (2 * i + 1)), oI cv] [(.int (Int32.ofNat (2 * i))), (.ref bA)]))
  refine Done.step (fun _ => XS.iloadN X1.here hx rfl (hb hby d32_37) rfl) ?_
  show Done _ p e below s _ _ (T1.setTop (mkF m 38 #[oR bA, oI (Int32.ofNat (2 * i + 1)), oI cv] [(.int cv), (.int (Int32.ofNat (2 * i))), (.ref bA)]))
  obtain ⟨T2, X2, e2, st2⟩ := getS2 X1 hx hZ hown (host := "") (Or.inl (wAt hw 141 rfl)) Via.refl e1 (SH.ext O0.2) (g := (mkF m 38 #[oR bA, oI (Int32.ofNat (2 * i + 1)), oI cv] [(.int cv), (.int (Int32.ofNat (2 * i))), (.ref bA)])) rfl (hb hby d32_38)
  refine Done.step st2 ?_
  show Done _ p e below s _ _ (T2.setTop (mkF m 41 #[oR bA, oI (Int32.ofNat (2 * i + 1)), oI cv] [(.int (0 : Int32)), (.int cv), (.int (Int32.ofNat (2 * i))), (.ref bA)]))
  refine Done.step (fun _ => XT.ishr X2.here hx rfl (hb hby d32_41) rfl) ?_
  show Done _ p e below s _ _ (T2.setTop (mkF m 42 #[oR bA, oI (Int32.ofNat (2 * i + 1)), oI cv] [(.int (cv >>> ((0 : Int32) &&& 31))), (.int (Int32.ofNat (2 * i))), (.ref bA)]))
  refine Done.step (fun _ => XT.i2b X2.here hx rfl (hb hby d32_42) rfl) ?_
  show Done _ p e below s _ _ (T2.setTop (mkF m 43 #[oR bA, oI (Int32.ofNat (2 * i + 1)), oI cv] [(.int ((cv >>> ((0 : Int32) &&& 31)).toInt8.toInt32)), (.int (Int32.ofNat (2 * i))), (.ref bA)]))
  obtain ⟨cl3, Ar3, q3, S3, Nn3, H3, G3⟩ := id VB
  have hin3 : ¬ ((Int32.ofNat (2 * i)) < 0 ∨ cl3.slots.size ≤ ((Int32.ofNat (2 * i))).toNatClampNeg) := inb_of S3 (own_ix (by omega) (by omega))
  obtain ⟨T3, h3, X3, e3, W3, st3⟩ := stB X2 hx hZ e2 Ar3 (j := (Int32.ofNat (2 * i))) hin3 (g := (mkF m 43 #[oR bA, oI (Int32.ofNat (2 * i + 1)), oI cv] [(.int ((cv >>> ((0 : Int32) &&& 31)).toInt8.toInt32)), (.int (Int32.ofNat (2 * i))), (.ref bA)])) rfl rfl (hb hby d32_43)
  have V3 := Arv.set Ar3 q3 S3 Nn3 H3 G3 (fits_nar_byte _) W3 (2 * i) (own_tn (by omega)) (by omega)
  have N3 := Fr.snoc X3 N0 gb
  have Zs3 := Nat.le_trans Z0 (Keep.of_wr W3).1
  have K3 := (Keep.refl h0 [bA]).wr W3 (Or.inl (List.mem_of_getElem? (i := 0) rfl))
  refine Done.step st3 ?_
  show Done _ p e below s _ _ (T3.setTop (mkF m 44 #[oR bA, oI (Int32.ofNat (2 * i + 1)), oI cv] []))
  refine Done.step (fun _ => XS.aloadN X3.here hx rfl (hb hby d32_44) rfl rfl) ?_
  show Done _ p e below s _ _ (T3.setTop (mkF m 45 #[oR bA, oI (Int32.ofNat (2 * i + 1)), oI cv] [(.ref bA)]))
  refine Done.step (fun _ => XS.iloadN X3.here hx rfl (hb hby d32_45) rfl) ?_
  show Done _ p e below s _ _ (T3.setTop (mkF m 46 #[oR bA, oI (Int32.ofNat (2 * i + 1)), oI cv] [(.int (Int32.ofNat (2 * i + 1))), (.ref bA)]))
  refine Done.step (fun _ => XS.iloadN X3.here hx rfl (hb hby d32_46) rfl) ?_
  show Done _ p e below s _ _ (T3.setTop (mkF m 47 #[oR bA, oI (Int32.ofNat (2 * i + 1)), oI cv] [(.int cv), (.int (Int32.ofNat (2 * i + 1))), (.ref bA)]))
  have f5 := (O0.wr W3 gb)
  obtain ⟨T4, X4, e4, st4⟩ := getS2 X3 hx hZ hown (host := "") (Or.inl (wAt hw 142 rfl)) Via.refl e3 (SL.ext f5.2) (g := (mkF m 47 #[oR bA, oI (Int32.ofNat (2 * i + 1)), oI cv] [(.int cv), (.int (Int32.ofNat (2 * i + 1))), (.ref bA)])) rfl (hb hby d32_47)
  refine Done.step st4 ?_
  show Done _ p e below s _ _ (T4.setTop (mkF m 50 #[oR bA, oI (Int32.ofNat (2 * i + 1)), oI cv] [(.int (8 : Int32)), (.int cv), (.int (Int32.ofNat (2 * i + 1))), (.ref bA)]))
  refine Done.step (fun _ => XT.ishr X4.here hx rfl (hb hby d32_50) rfl) ?_
  show Done _ p e below s _ _ (T4.setTop (mkF m 51 #[oR bA, oI (Int32.ofNat (2 * i + 1)), oI cv] [(.int (cv >>> ((8 : Int32) &&& 31))), (.int (Int32.ofNat (2 * i + 1))), (.ref bA)]))
  refine Done.step (fun _ => XT.i2b X4.here hx rfl (hb hby d32_51) rfl) ?_
  show Done _ p e below s _ _ (T4.setTop (mkF m 52 #[oR bA, oI (Int32.ofNat (2 * i + 1)), oI cv] [(.int ((cv >>> ((8 : Int32) &&& 31)).toInt8.toInt32)), (.int (Int32.ofNat (2 * i + 1))), (.ref bA)]))
  obtain ⟨cl6, Ar6, q6, S6, Nn6, H6, G6⟩ := id V3
  have hin6 : ¬ ((Int32.ofNat (2 * i + 1)) < 0 ∨ cl6.slots.size ≤ ((Int32.ofNat (2 * i + 1))).toNatClampNeg) := inb_of S6 (own_ix (by omega) (by omega))
  obtain ⟨T6, h6, X6, e6, W6, st6⟩ := stB X4 hx hZ e4 Ar6 (j := (Int32.ofNat (2 * i + 1))) hin6 (g := (mkF m 52 #[oR bA, oI (Int32.ofNat (2 * i + 1)), oI cv] [(.int ((cv >>> ((8 : Int32) &&& 31)).toInt8.toInt32)), (.int (Int32.ofNat (2 * i + 1))), (.ref bA)])) rfl rfl (hb hby d32_52)
  have V6 := Arv.set Ar6 q6 S6 Nn6 H6 G6 (fits_nar_byte _) W6 (2 * i + 1) (own_tn (by omega)) (by rw [List.length_set]; omega)
  have N6 := Fr.snoc X6 N3 gb
  have Zs6 := Nat.le_trans Zs3 (Keep.of_wr W6).1
  have K6 := K3.wr W6 (Or.inl (List.mem_of_getElem? (i := 0) rfl))
  refine Done.step st6 ?_
  show Done _ p e below s _ _ (T6.setTop (mkF m 53 #[oR bA, oI (Int32.ofNat (2 * i + 1)), oI cv] []))
  refine Done.retV (leavesF X6 hlk (by decide) (by decide)) X6 hx hret (hb hby d32_53) ?_
  rw [e6]
  exact ⟨rfl, N6, K6, V6⟩
theorem d29_0 : decode jdk_52_method_14_code 0 = .ok (.iload_n 2, 1) := by decide +kernel
theorem d29_1 : decode jdk_52_method_14_code 1 = .ok (.invokestatic 107, 3) := by decide +kernel
theorem pd_12 : parseMethodDescriptor "(I)[B" = some ⟨[.int], some (.array .byte)⟩ := by decide +kernel
theorem d29_4 : decode jdk_52_method_14_code 4 = .ok (.astore_n 3, 1) := by decide +kernel
theorem d29_5 : decode jdk_52_method_14_code 5 = .ok (.iconst 0, 1) := by decide +kernel
theorem d29_6 : decode jdk_52_method_14_code 6 = .ok (.istore 4, 2) := by decide +kernel
theorem d29_8 : decode jdk_52_method_14_code 8 = .ok (.iload 4, 2) := by decide +kernel
theorem d29_10 : decode jdk_52_method_14_code 10 = .ok (.iload_n 2, 1) := by decide +kernel
theorem d29_11 : decode jdk_52_method_14_code 11 = .ok (.if_icmp .ge 21, 3) := by decide +kernel
theorem d29_32 : decode jdk_52_method_14_code 32 = .ok (.aload_n 3, 1) := by decide +kernel
theorem d29_33 : decode jdk_52_method_14_code 33 = .ok (.areturn, 1) := by decide +kernel
theorem d29_14 : decode jdk_52_method_14_code 14 = .ok (.aload_n 3, 1) := by decide +kernel
theorem d29_15 : decode jdk_52_method_14_code 15 = .ok (.iload 4, 2) := by decide +kernel
theorem d29_17 : decode jdk_52_method_14_code 17 = .ok (.aload_n 0, 1) := by decide +kernel
theorem d29_18 : decode jdk_52_method_14_code 18 = .ok (.iload_n 1, 1) := by decide +kernel
theorem d29_19 : decode jdk_52_method_14_code 19 = .ok (.caload, 1) := by decide +kernel
theorem d29_20 : decode jdk_52_method_14_code 20 = .ok (.invokestatic 111, 3) := by decide +kernel
theorem pd_13 : parseMethodDescriptor "([BII)V" = some ⟨[(.array .byte), .int, .int], none⟩ := by decide +kernel
theorem d29_23 : decode jdk_52_method_14_code 23 = .ok (.iinc 1 1, 3) := by decide +kernel
theorem d29_26 : decode jdk_52_method_14_code 26 = .ok (.iinc 4 1, 3) := by decide +kernel
theorem d29_29 : decode jdk_52_method_14_code 29 = .ok (.goto (-21), 3) := by decide +kernel
set_option maxRecDepth 65536 in
set_option maxHeartbeats 40000000 in
theorem rTB (l : Launch) (Z : State) (a0 : Array Value) (hw : ∀ d ∈ tables_1, d.before a0 Z = true) (ws : List Jvm.Cond) (cA : Addr) (kc : ClassId) (cs : List Int32) (h0 : Heap) (n0 : Nat) (Z0 : n0 ≤ h0.size) (O0 : Old Z n0 h0) (SA : Sta Z Z.heap "java/lang/StringUTF16" "$assertionsDisabled" "Z" (.int (1 : Int32))) (SH : Sta Z Z.heap "java/lang/StringUTF16" "HI_BYTE_SHIFT" "I" (.int (0 : Int32))) (SL : Sta Z Z.heap "java/lang/StringUTF16" "LO_BYTE_SHIFT" "I" (.int (8 : Int32))) (VA : Arv Z h0 cA kc .char (Int32.ofNat cs.length) (cs.map Value.int) (.int (0 : Int32))) (hn : cs.length ≤ 4) :
    Ctr FrameEnd l Z (⟨"java/lang/StringUTF16", "toBytes", "([CII)[B"⟩ : MethodName) jdk_52_method_14_code 5 (some (.array .byte)) ws ({ frames := 2, cells := 1, slots := 8, locals := 27 } : Room) #[(.ref cA), (.int (0 : Int32)), (.int (Int32.ofNat cs.length))] h0 TrueV (fun v h _ L => ∃ (b : Addr) (kb : ClassId), v = some (.ref b) ∧ Fr n0 L ∧ Keep h0 h [] ∧ h0.size ≤ b ∧ Arv Z h b kb .byte (Int32.ofNat (2 * cs.length)) (own_hl cs) (.int (0 : Int32))) := by
  refine Ctr.intro (plainFor_of_name pn_java_lang_StringUTF16) (Ls := #[.val (.ref cA), .val (.int (0 : Int32)), .val (.int (Int32.ofNat cs.length)), .unset, .unset]) (fun m => by first | (simp [entryFrame, mkF, argsToLocals, Value.category]; done) | rfl) ?_
  intro p e s m below meth c T0 hx hby hml hown hnm hret hlk hZ hV hsh e0 X0
  have N0 := Fr.nil n0
  show Done _ p e below s _ _ (T0.setTop (mkF m 0 #[oR cA, oI (0 : Int32), oI (Int32.ofNat cs.length), .unset, .unset] []))
  refine Done.step (fun _ => XS.iloadN X0.here hx rfl (hb hby d29_0) rfl) ?_
  show Done _ p e below s _ _ (T0.setTop (mkF m 1 #[oR cA, oI (0 : Int32), oI (Int32.ofNat cs.length), .unset, .unset] [(.int (Int32.ofNat cs.length))]))
  refine Done.callS X0 hx hZ hown (wAt hw 130 rfl) (wAt hw 131 rfl) (wAt hw 67 rfl) (wAt hw 132 rfl) (by decide) (rNF l Z a0 hw [] cs.length h0 n0 Z0 O0 hn) (fun _ _ => trivial) e0 (g := (mkF m 1 #[oR cA, oI (0 : Int32), oI (Int32.ofNat cs.length), .unset, .unset] [(.int (Int32.ofNat cs.length))])) rfl (by rw [hml]; rfl) [(.int (Int32.ofNat cs.length))] [] 0 (lenOf pd_12 rfl) rfl rfl (by show 2 * 0 + _ ≤ _; exact Nat.le_of_eq rfl) (hb hby d29_1) (by decide) (by decide) (by decide) (by decide) ?_
  intro T1 v1 L1 X1 q1
  obtain ⟨bA, kb, rfl, Nq1, K1q, szb, VBn⟩ := q1
  have N1 := Fr.app N0 Nq1
  have Zs1 := Nat.le_trans Z0 K1q.1
  have K1 := (Keep.refl h0 []).trans K1q all0
  show Done _ p e below s _ _ (T1.setTop (mkF m 4 #[oR cA, oI (0 : Int32), oI (Int32.ofNat cs.length), .unset, .unset] [(.ref bA)]))
  have sz_bA : h0.size ≤ bA := szb
  have n0_bA : n0 ≤ bA := Nat.le_trans Z0 szb
  have nab : cA ≠ bA := Nat.ne_of_lt (Nat.lt_of_lt_of_le VA.lt szb)
  refine Done.step (fun _ => XS.astoreN X1.here hx rfl (hb hby d29_4) rfl rfl (l' := #[oR cA, oI (0 : Int32), oI (Int32.ofNat cs.length), oR bA, .unset]) rfl) ?_
  show Done _ p e below s _ _ (T1.setTop (mkF m 5 #[oR cA, oI (0 : Int32), oI (Int32.ofNat cs.length), oR bA, .unset] []))
  refine Done.step (fun _ => XT.iconstV X1.here hx rfl (0 : Int32) (hb hby d29_5) (by decide)) ?_
  show Done _ p e below s _ _ (T1.setTop (mkF m 6 #[oR cA, oI (0 : Int32), oI (Int32.ofNat cs.length), oR bA, .unset] [(.int (0 : Int32))]))
  refine Done.step (fun _ => XS.istore X1.here hx rfl (hb hby d29_6) rfl (l' := #[oR cA, oI (0 : Int32), oI (Int32.ofNat cs.length), oR bA, oI (0 : Int32)]) rfl) ?_
  show Done _ p e below s _ _ (T1.setTop (mkF m 8 #[oR cA, oI (0 : Int32), oI (Int32.ofNat cs.length), oR bA, oI (0 : Int32)] []))
  have KI : ∀ (kk : Nat) (i : Nat) (hik : i + kk = cs.length) (hL : Heap) (D : List Value) (hD : D.length = 2 * cs.length) (hDv : ∀ x, x < i → D.getD (2 * x) (.int (0 : Int32)) = .int (own_hi (cs.getD x 0)) ∧ D.getD (2 * x + 1) (.int (0 : Int32)) = .int (own_lo (cs.getD x 0))) (KL : Keep h0 hL []) (VAL : Arv Z hL cA kc .char (Int32.ofNat cs.length) (cs.map Value.int) (.int (0 : Int32))) (VBL : Arv Z hL bA kb .byte (Int32.ofNat (2 * cs.length)) D (.int (0 : Int32))) (locL : List Loc) (NL : Fr n0 locL) (ZL : n0 ≤ hL.size) (OL : Old Z n0 hL) (TL : State) (eL : TL.heap = hL) (XL : Stand p l e ({ frames := 2, cells := 1, slots := 8, locals := 27 } : Room) s m #[(.ref cA), (.int (0 : Int32)), (.int (Int32.ofNat cs.length))] below meth c TL locL 1 8), Done FrameEnd p e below s ({ frames := 2, cells := 1, slots := 8, locals := 27 } : Room) (fun v h _ L => ∃ (b : Addr) (kb : ClassId), v = some (.ref b) ∧ Fr n0 L ∧ Keep h0 h [] ∧ h0.size ≤ b ∧ Arv Z h b kb .byte (Int32.ofNat (2 * cs.length)) (own_hl cs) (.int (0 : Int32))) (TL.setTop (mkF m 8 #[oR cA, oI (Int32.ofNat i), oI (Int32.ofNat cs.length), oR bA, oI (Int32.ofNat i)] [])) := by
    intro kk
    induction kk with
    | zero =>
      intro i hik hL D hD hDv KL VAL VBL locL NL ZL OL TL eL XL
      show Done _ p e below s _ _ (TL.setTop (mkF m 8 #[oR cA, oI (Int32.ofNat i), oI (Int32.ofNat cs.length), oR bA, oI (Int32.ofNat i)] []))
      refine Done.step (fun _ => XS.iload XL.here hx rfl (hb hby d29_8) rfl) ?_
      show Done _ p e below s _ _ (TL.setTop (mkF m 10 #[oR cA, oI (Int32.ofNat i), oI (Int32.ofNat cs.length), oR bA, oI (Int32.ofNat i)] [(.int (Int32.ofNat i))]))
      refine Done.step (fun _ => XS.iloadN XL.here hx rfl (hb hby d29_10) rfl) ?_
      show Done _ p e below s _ _ (TL.setTop (mkF m 11 #[oR cA, oI (Int32.ofNat i), oI (Int32.ofNat cs.length), oR bA, oI (Int32.ofNat i)] [(.int (Int32.ofNat cs.length)), (.int (Int32.ofNat i))]))
      refine Done.step (fun _ => XS.icmpYes XL.here hx rfl (pc0 := 11) (pc' := 32) rfl (hb hby d29_11) rfl (XT.ii_ge_t (by rw [own_lt (by omega) (by omega)]; omega)) (by decide) (by decide)) ?_
      show Done _ p e below s _ _ (TL.setTop (mkF m 32 #[oR cA, oI (Int32.ofNat i), oI (Int32.ofNat cs.length), oR bA, oI (Int32.ofNat i)] []))
      refine Done.step (fun _ => XS.aloadN XL.here hx rfl (hb hby d29_32) rfl rfl) ?_
      show Done _ p e below s _ _ (TL.setTop (mkF m 33 #[oR cA, oI (Int32.ofNat i), oI (Int32.ofNat cs.length), oR bA, oI (Int32.ofNat i)] [(.ref bA)]))
      have hi : i = cs.length := by omega
      subst hi
      refine Done.retA (leavesF XL hlk (by decide) (by decide)) XL hx hret rfl rfl (hb hby d29_33) ?_
      rw [eL]
      exact ⟨bA, kb, rfl, NL, KL, sz_bA, own_Dhl hD hDv ▸ VBL⟩
    | succ kk ih =>
      intro i hik hL D hD hDv KL VAL VBL locL NL ZL OL TL eL XL
      show Done _ p e below s _ _ (TL.setTop (mkF m 8 #[oR cA, oI (Int32.ofNat i), oI (Int32.ofNat cs.length), oR bA, oI (Int32.ofNat i)] []))
      refine Done.step (fun _ => XS.iload XL.here hx rfl (hb hby d29_8) rfl) ?_
      show Done _ p e below s _ _ (TL.setTop (mkF m 10 #[oR cA, oI (Int32.ofNat i), oI (Int32.ofNat cs.length), oR bA, oI (Int32.ofNat i)] [(.int (Int32.ofNat i))]))
      refine Done.step (fun _ => XS.iloadN XL.here hx rfl (hb hby d29_10) rfl) ?_
      show Done _ p e below s _ _ (TL.setTop (mkF m 11 #[oR cA, oI (Int32.ofNat i), oI (Int32.ofNat cs.length), oR bA, oI (Int32.ofNat i)] [(.int (Int32.ofNat cs.length)), (.int (Int32.ofNat i))]))
      refine Done.step (fun _ => XS.icmpNo XL.here hx rfl (hb hby d29_11) rfl (XT.ii_ge_f (by rw [own_lt (by omega) (by omega)]; omega))) ?_
      show Done _ p e below s _ _ (TL.setTop (mkF m 14 #[oR cA, oI (Int32.ofNat i), oI (Int32.ofNat cs.length), oR bA, oI (Int32.ofNat i)] []))
      refine Done.step (fun _ => XS.aloadN XL.here hx rfl (hb hby d29_14) rfl rfl) ?_
      show Done _ p e below s _ _ (TL.setTop (mkF m 15 #[oR cA, oI (Int32.ofNat i), oI (Int32.ofNat cs.length), oR bA, oI (Int32.ofNat i)] [(.ref bA)]))
      refine Done.step (fun _ => XS.iload XL.here hx rfl (hb hby d29_15) rfl) ?_
      show Done _ p e below s _ _ (TL.setTop (mkF m 17 #[oR cA, oI (Int32.ofNat i), oI (Int32.ofNat cs.length), oR bA, oI (Int32.ofNat i)] [(.int (Int32.ofNat i)), (.ref bA)]))
      refine Done.step (fun _ => XS.aloadN XL.here hx rfl (hb hby d29_17) rfl rfl) ?_
      show Done _ p e below s _ _ (TL.setTop (mkF m 18 #[oR cA, oI (Int32.ofNat i), oI (Int32.ofNat cs.length), oR bA, oI (Int32.ofNat i)] [(.ref cA), (.int (Int32.ofNat i)), (.ref bA)]))
      refine Done.step (fun _ => XS.iloadN XL.here hx rfl (hb hby d29_18) rfl) ?_
      show Done _ p e below s _ _ (TL.setTop (mkF m 19 #[oR cA, oI (Int32.ofNat i), oI (Int32.ofNat cs.length), oR bA, oI (Int32.ofNat i)] [(.int (Int32.ofNat i)), (.ref cA), (.int (Int32.ofNat i)), (.ref bA)]))
      obtain ⟨cl2, Ar2, q2, S2, Nn2, H2, G2⟩ := id VAL
      have hin2 : ¬ ((Int32.ofNat i) < 0 ∨ cl2.slots.size ≤ ((Int32.ofNat i)).toNatClampNeg) := inb_of S2 (own_ix (by omega) (by omega))
      have hat2 := Has.at H2 hin2 (v := .int (cs.getD i 0)) (by rw [own_tn (by omega)]; exact own_cmG (by omega) _)
      refine Done.step (XL.caload hx (j := (Int32.ofNat i)) (v := .int (cs.getD i 0)) (by first | exact Ar2.1 | (rw [eL]; exact Ar2.1)) (State.isArrayOf_alike hZ.alike Ar2.2.1) Ar2.2.2 hin2 hat2 (g := (mkF m 19 #[oR cA, oI (Int32.ofNat i), oI (Int32.ofNat cs.length), oR bA, oI (Int32.ofNat i)] [(.int (Int32.ofNat i)), (.ref cA), (.int (Int32.ofNat i)), (.ref bA)])) rfl rfl (hb hby d29_19)) ?_
      show Done _ p e below s _ _ (TL.setTop (mkF m 20 #[oR cA, oI (Int32.ofNat i), oI (Int32.ofNat cs.length), oR bA, oI (Int32.ofNat i)] [(.int (cs.getD i 0)), (.int (Int32.ofNat i)), (.ref bA)]))
      refine Done.callS XL hx hZ hown (wAt hw 137 rfl) (wAt hw 138 rfl) (wAt hw 67 rfl) (wAt hw 139 rfl) (by decide) (rPut l Z a0 hw [] bA kb i cs.length (cs.getD i 0) D hL n0 ZL OL SA SH SL VBL n0_bA (by omega) hn hD) (fun _ _ => trivial) eL (g := (mkF m 20 #[oR cA, oI (Int32.ofNat i), oI (Int32.ofNat cs.length), oR bA, oI (Int32.ofNat i)] [(.int (cs.getD i 0)), (.int (Int32.ofNat i)), (.ref bA)])) rfl (by rw [hml]; rfl) [(.ref bA), (.int (Int32.ofNat i)), (.int (cs.getD i 0))] [] 0 (lenOf pd_13 rfl) rfl rfl (by show 2 * 0 + _ ≤ _; exact Nat.le_of_eq rfl) (hb hby d29_20) (by decide) (by decide) (by decide) (by decide) ?_
      intro T3 v3 L3 X3 q3
      obtain ⟨rfl, Nq3, K3q, VBp⟩ := q3
      have N3 := Fr.app NL Nq3
      have Zs3 := Nat.le_trans ZL K3q.1
      have K3 := KL.trans K3q (allS (Or.inr sz_bA) all0)
      show Done _ p e below s _ _ (T3.setTop (mkF m 23 #[oR cA, oI (Int32.ofNat i), oI (Int32.ofNat cs.length), oR bA, oI (Int32.ofNat i)] []))
      refine Done.step (fun _ => XS.iinc X3.here hx rfl (hb hby d29_23) rfl (l' := #[oR cA, oI ((Int32.ofNat i) + (1 : Int32)), oI (Int32.ofNat cs.length), oR bA, oI (Int32.ofNat i)]) rfl) ?_
      show Done _ p e below s _ _ (T3.setTop (mkF m 26 #[oR cA, oI ((Int32.ofNat i) + (1 : Int32)), oI (Int32.ofNat cs.length), oR bA, oI (Int32.ofNat i)] []))
      refine Done.step (fun _ => XS.iinc X3.here hx rfl (hb hby d29_26) rfl (l' := #[oR cA, oI ((Int32.ofNat i) + (1 : Int32)), oI (Int32.ofNat cs.length), oR bA, oI ((Int32.ofNat i) + (1 : Int32))]) rfl) ?_
      show Done _ p e below s _ _ (T3.setTop (mkF m 29 #[oR cA, oI ((Int32.ofNat i) + (1 : Int32)), oI (Int32.ofNat cs.length), oR bA, oI ((Int32.ofNat i) + (1 : Int32))] []))
      refine Done.step (fun _ => XS.goto X3.here hx rfl (pc0 := 29) (pc' := 8) rfl (hb hby d29_29) (by decide) (by decide)) ?_
      show Done _ p e below s _ _ (T3.setTop (mkF m 8 #[oR cA, oI ((Int32.ofNat i) + (1 : Int32)), oI (Int32.ofNat cs.length), oR bA, oI ((Int32.ofNat i) + (1 : Int32))] []))
      rw [own_inc i]
      have f4 := (VAL.keep K3q (ninS nab nin0))
      have f5 := (OL.keep K3q (allS n0_bA all0))
      exact ih (i + 1) (by omega) _ _ (by rw [List.length_set, List.length_set]; exact hD) (own_dv2 (by omega) hDv) K3 f4 VBp _ N3 Zs3 f5 T3 rfl X3
  have f6 := (VA.keep K1q nin0)
  have f7 := (O0.keep K1q all0)
  exact KI cs.length 0 (Nat.zero_add _) _ _ (List.length_replicate ..) (fun x hx => absurd hx (Nat.not_lt_zero _)) K1 f6 VBn _ N1 Zs1 f7 T1 rfl X1
theorem d13_0 : decode jdk_52_method_16_code 0 = .ok (.iload_n 2, 1) := by decide +kernel
theorem d13_1 : decode jdk_52_method_16_code 1 = .ok (.newarray .byte, 2) := by decide +kernel
theorem d13_3 : decode jdk_52_method_16_code 3 = .ok (.astore_n 3, 1) := by decide +kernel
theorem d13_4 : decode jdk_52_method_16_code 4 = .ok (.aload_n 0, 1) := by decide +kernel
theorem d13_5 : decode jdk_52_method_16_code 5 = .ok (.iload_n 1, 1) := by decide +kernel
theorem d13_6 : decode jdk_52_method_16_code 6 = .ok (.aload_n 3, 1) := by decide +kernel
theorem d13_7 : decode jdk_52_method_16_code 7 = .ok (.iconst 0, 1) := by decide +kernel
theorem d13_8 : decode jdk_52_method_16_code 8 = .ok (.iload_n 2, 1) := by decide +kernel
theorem d13_9 : decode jdk_52_method_16_code 9 = .ok (.invokestatic 115, 3) := by decide +kernel
theorem pd_14 : parseMethodDescriptor "([CI[BII)I" = some ⟨[(.array .char), .int, (.array .byte), .int, .int], some .int⟩ := by decide +kernel
theorem d13_12 : decode jdk_52_method_16_code 12 = .ok (.istore 4, 2) := by decide +kernel
theorem d13_14 : decode jdk_52_method_16_code 14 = .ok (.iload 4, 2) := by decide +kernel
theorem d13_16 : decode jdk_52_method_16_code 16 = .ok (.iload_n 2, 1) := by decide +kernel
theorem d13_17 : decode jdk_52_method_16_code 17 = .ok (.if_icmp .eq 40, 3) := by decide +kernel
theorem d13_57 : decode jdk_52_method_16_code 57 = .ok (.aload_n 3, 1) := by decide +kernel
theorem d13_58 : decode jdk_52_method_16_code 58 = .ok (.areturn, 1) := by decide +kernel
theorem d13_20 : decode jdk_52_method_16_code 20 = .ok (.aload_n 0, 1) := by decide +kernel
theorem d13_21 : decode jdk_52_method_16_code 21 = .ok (.iload_n 1, 1) := by decide +kernel
theorem d13_22 : decode jdk_52_method_16_code 22 = .ok (.iload_n 2, 1) := by decide +kernel
theorem d13_23 : decode jdk_52_method_16_code 23 = .ok (.invokestatic 119, 3) := by decide +kernel
theorem pd_15 : parseMethodDescriptor "([CII)[B" = some ⟨[(.array .char), .int, .int], some (.array .byte)⟩ := by decide +kernel
theorem d13_26 : decode jdk_52_method_16_code 26 = .ok (.astore 5, 2) := by decide +kernel
theorem d13_28 : decode jdk_52_method_16_code 28 = .ok (.aload 5, 2) := by decide +kernel
theorem d13_30 : decode jdk_52_method_16_code 30 = .ok (.iload 4, 2) := by decide +kernel
theorem d13_32 : decode jdk_52_method_16_code 32 = .ok (.invokestatic 71, 3) := by decide +kernel
theorem d13_35 : decode jdk_52_method_16_code 35 = .ok (.sipush 255, 3) := by decide +kernel
theorem d13_38 : decode jdk_52_method_16_code 38 = .ok (.if_icmp .gt 16, 3) := by decide +kernel
theorem d13_54 : decode jdk_52_method_16_code 54 = .ok (.aload 5, 2) := by decide +kernel
theorem d13_56 : decode jdk_52_method_16_code 56 = .ok (.areturn, 1) := by decide +kernel
set_option maxRecDepth 65536 in
set_option maxHeartbeats 40000000 in
theorem rX3 (l : Launch) (Z : State) (a0 : Array Value) (hw : ∀ d ∈ tables_1, d.before a0 Z = true) (ws : List Jvm.Cond) (cA : Addr) (kc : ClassId) (cs : List Int32) (z : Int32) (fm : Value) (h0 : Heap) (n0 : Nat) (Z0 : n0 ≤ h0.size) (O0 : Old Z n0 h0) (SC : Sta Z Z.heap "java/lang/String" "COMPACT_STRINGS" "Z" (.int z)) (hz : ¬ z = 0) (SF : Sta Z Z.heap "jdk/internal/util/Preconditions" "SIOOBE_FORMATTER" "Ljava/util/function/BiFunction;" fm) (rF : fm.isRef = true) (SA : Sta Z Z.heap "java/lang/StringUTF16" "$assertionsDisabled" "Z" (.int (1 : Int32))) (SH : Sta Z Z.heap "java/lang/StringUTF16" "HI_BYTE_SHIFT" "I" (.int (0 : Int32))) (SL : Sta Z Z.heap "java/lang/StringUTF16" "LO_BYTE_SHIFT" "I" (.int (8 : Int32))) (VA : Arv Z h0 cA kc .char (Int32.ofNat cs.length) (cs.map Value.int) (.int (0 : Int32))) (hn : cs.length ≤ 4) (hbc : ∀ c ∈ cs, ¬ c < 0 ∧ ¬ (65535 : Int32) < c) :
    Ctr FrameEnd l Z (⟨"java/lang/StringUTF16", "compress", "([CII)[B"⟩ : MethodName) jdk_52_method_16_code 6 (some (.array .byte)) ws ({ frames := 3, cells := 2, slots := 12, locals := 49 } : Room) #[(.ref cA), (.int (0 : Int32)), (.int (Int32.ofNat cs.length))] h0 TrueV (fun v h _ L => ∃ (b : Addr) (kb : ClassId), v = some (.ref b) ∧ Fr n0 L ∧ Keep h0 h [] ∧ h0.size ≤ b ∧ ((SM cs ∧ Arv Z h b kb .byte (Int32.ofNat cs.length) (own_ll cs) (.int (0 : Int32))) ∨ (¬ SM cs ∧ Arv Z h b kb .byte (Int32.ofNat (2 * cs.length)) (own_hl cs) (.int (0 : Int32))))) := by
  refine Ctr.intro (plainFor_of_name pn_java_lang_StringUTF16) (Ls := #[.val (.ref cA), .val (.int (0 : Int32)), .val (.int (Int32.ofNat cs.length)), .unset, .unset, .unset]) (fun m => by first | (simp [entryFrame, mkF, argsToLocals, Value.category]; done) | rfl) ?_
  intro p e s m below meth c T0 hx hby hml hown hnm hret hlk hZ hV hsh e0 X0
  have N0 := Fr.nil n0
  show Done _ p e below s _ _ (T0.setTop (mkF m 0 #[oR cA, oI (0 : Int32), oI (Int32.ofNat cs.length), .unset, .unset, .unset] []))
  refine Done.step (fun _ => XS.iloadN X0.here hx rfl (hb hby d13_0) rfl) ?_
  show Done _ p e below s _ _ (T0.setTop (mkF m 1 #[oR cA, oI (0 : Int32), oI (Int32.ofNat cs.length), .unset, .unset, .unset] [(.int (Int32.ofNat cs.length))]))
  obtain ⟨T1, h1, k1, X1, e1, E1, A1, st1⟩ := newP X0 hx hZ (wAt hw 24 rfl) e0 (g := (mkF m 1 #[oR cA, oI (0 : Int32), oI (Int32.ofNat cs.length), .unset, .unset, .unset] [(.int (Int32.ofNat cs.length))])) rfl (hb hby d13_1) rfl (own_nn0 (by omega)) (cap := 4) (by rw [own_tn (by omega)]; omega) (by decide) (by decide) (by decide)
  obtain ⟨b1, g1⟩ : ∃ z, z = h0.size := ⟨_, rfl⟩
  rw [← g1] at A1 st1
  have ne_cA_b1 : cA ≠ b1 := by rw [g1]; exact Nat.ne_of_lt VA.lt
  have n0_b1 : n0 ≤ b1 := by rw [g1]; exact Z0
  have sz_b1 : h0.size ≤ b1 := by rw [g1]; exact (Keep.refl h0 []).1
  have K1 := (Keep.refl h0 []).ext E1
  have Zs1 := Nat.le_trans Z0 E1.1
  have V_b1 : Arv Z h1 b1 k1 .byte (Int32.ofNat cs.length) (List.replicate cs.length (.int (0 : Int32))) (.int (0 : Int32)) := (Arv.new A1 (own_nn0 (by omega))).pad (pad_rep [] (.int (0 : Int32)) cs.length)
  refine Done.step st1 ?_
  show Done _ p e below s _ _ (T1.setTop (mkF m 3 #[oR cA, oI (0 : Int32), oI (Int32.ofNat cs.length), .unset, .unset, .unset] [(.ref b1)]))
  refine Done.step (fun _ => XS.astoreN X1.here hx rfl (hb hby d13_3) rfl rfl (l' := #[oR cA, oI (0 : Int32), oI (Int32.ofNat cs.length), oR b1, .unset, .unset]) rfl) ?_
  show Done _ p e below s _ _ (T1.setTop (mkF m 4 #[oR cA, oI (0 : Int32), oI (Int32.ofNat cs.length), oR b1, .unset, .unset] []))
  refine Done.step (fun _ => XS.aloadN X1.here hx rfl (hb hby d13_4) rfl rfl) ?_
  show Done _ p e below s _ _ (T1.setTop (mkF m 5 #[oR cA, oI (0 : Int32), oI (Int32.ofNat cs.length), oR b1, .unset, .unset] [(.ref cA)]))
  refine Done.step (fun _ => XS.iloadN X1.here hx rfl (hb hby d13_5) rfl) ?_
  show Done _ p e below s _ _ (T1.setTop (mkF m 6 #[oR cA, oI (0 : Int32), oI (Int32.ofNat cs.length), oR b1, .unset, .unset] [(.int (0 : Int32)), (.ref cA)]))
  refine Done.step (fun _ => XS.aloadN X1.here hx rfl (hb hby d13_6) rfl rfl) ?_
  show Done _ p e below s _ _ (T1.setTop (mkF m 7 #[oR cA, oI (0 : Int32), oI (Int32.ofNat cs.length), oR b1, .unset, .unset] [(.ref b1), (.int (0 : Int32)), (.ref cA)]))
  refine Done.step (fun _ => XT.iconstV X1.here hx rfl (0 : Int32) (hb hby d13_7) (by decide)) ?_
  show Done _ p e below s _ _ (T1.setTop (mkF m 8 #[oR cA, oI (0 : Int32), oI (Int32.ofNat cs.length), oR b1, .unset, .unset] [(.int (0 : Int32)), (.ref b1), (.int (0 : Int32)), (.ref cA)]))
  refine Done.step (fun _ => XS.iloadN X1.here hx rfl (hb hby d13_8) rfl) ?_
  show Done _ p e below s _ _ (T1.setTop (mkF m 9 #[oR cA, oI (0 : Int32), oI (Int32.ofNat cs.length), oR b1, .unset, .unset] [(.int (Int32.ofNat cs.length)), (.int (0 : Int32)), (.ref b1), (.int (0 : Int32)), (.ref cA)]))
  have f3 := (VA.ext E1)
  refine Done.callS X1 hx hZ hown (wAt hw 69 rfl) (wAt hw 70 rfl) (wAt hw 67 rfl) (wAt hw 71 rfl) (by decide) (u5 l Z a0 hw [] cA b1 kc k1 cs (List.replicate cs.length (.int (0 : Int32))) h1 n0 Zs1 f3 V_b1 (List.length_replicate ..) n0_b1 ne_cA_b1 hn) (fun _ _ => trivial) e1 (g := (mkF m 9 #[oR cA, oI (0 : Int32), oI (Int32.ofNat cs.length), oR b1, .unset, .unset] [(.int (Int32.ofNat cs.length)), (.int (0 : Int32)), (.ref b1), (.int (0 : Int32)), (.ref cA)])) rfl (by rw [hml]; rfl) [(.ref cA), (.int (0 : Int32)), (.ref b1), (.int (0 : Int32)), (.int (Int32.ofNat cs.length))] [] 0 (lenOf pd_14 rfl) rfl rfl (by show 2 * 0 + _ ≤ _; exact Nat.le_of_eq rfl) (hb hby d13_9) (by decide) (by decide) (by decide) (by decide) ?_
  intro T2 v2 L2 X2 q2
  obtain ⟨Nq2, K2q, q2⟩ := q2
  have N2 := Fr.app N0 Nq2
  have Zs2 := Nat.le_trans Zs1 K2q.1
  have K2 := K1.trans K2q (allS (Or.inr sz_b1) all0)
  rcases q2 with ⟨rfl, hsm, VBs⟩ | ⟨k, hkn, rfl, hbg⟩
  · show Done _ p e below s _ _ (T2.setTop (mkF m 12 #[oR cA, oI (0 : Int32), oI (Int32.ofNat cs.length), oR b1, .unset, .unset] [(.int (Int32.ofNat cs.length))]))
    refine Done.step (fun _ => XS.istore X2.here hx rfl (hb hby d13_12) rfl (l' := #[oR cA, oI (0 : Int32), oI (Int32.ofNat cs.length), oR b1, oI (Int32.ofNat cs.length), .unset]) rfl) ?_
    show Done _ p e below s _ _ (T2.setTop (mkF m 14 #[oR cA, oI (0 : Int32), oI (Int32.ofNat cs.length), oR b1, oI (Int32.ofNat cs.length), .unset] []))
    refine Done.step (fun _ => XS.iload X2.here hx rfl (hb hby d13_14) rfl) ?_
    show Done _ p e below s _ _ (T2.setTop (mkF m 16 #[oR cA, oI (0 : Int32), oI (Int32.ofNat cs.length), oR b1, oI (Int32.ofNat cs.length), .unset] [(.int (Int32.ofNat cs.length))]))
    refine Done.step (fun _ => XS.iloadN X2.here hx rfl (hb hby d13_16) rfl) ?_
    show Done _ p e below s _ _ (T2.setTop (mkF m 17 #[oR cA, oI (0 : Int32), oI (Int32.ofNat cs.length), oR b1, oI (Int32.ofNat cs.length), .unset] [(.int (Int32.ofNat cs.length)), (.int (Int32.ofNat cs.length))]))
    refine Done.step (fun _ => XS.icmpYes X2.here hx rfl (pc0 := 17) (pc' := 57) rfl (hb hby d13_17) rfl (XT.ii_eq_t rfl) (by decide) (by decide)) ?_
    show Done _ p e below s _ _ (T2.setTop (mkF m 57 #[oR cA, oI (0 : Int32), oI (Int32.ofNat cs.length), oR b1, oI (Int32.ofNat cs.length), .unset] []))
    refine Done.step (fun _ => XS.aloadN X2.here hx rfl (hb hby d13_57) rfl rfl) ?_
    show Done _ p e below s _ _ (T2.setTop (mkF m 58 #[oR cA, oI (0 : Int32), oI (Int32.ofNat cs.length), oR b1, oI (Int32.ofNat cs.length), .unset] [(.ref b1)]))
    exact Done.retA (leavesF X2 hlk (by decide) (by decide)) X2 hx hret rfl rfl (hb hby d13_58) ⟨b1, k1, rfl, N2, K2, sz_b1, Or.inl ⟨hsm, VBs⟩⟩
  · show Done _ p e below s _ _ (T2.setTop (mkF m 12 #[oR cA, oI (0 : Int32), oI (Int32.ofNat cs.length), oR b1, .unset, .unset] [(.int (Int32.ofNat k))]))
    refine Done.step (fun _ => XS.istore X2.here hx rfl (hb hby d13_12) rfl (l' := #[oR cA, oI (0 : Int32), oI (Int32.ofNat cs.length), oR b1, oI (Int32.ofNat k), .unset]) rfl) ?_
    show Done _ p e below s _ _ (T2.setTop (mkF m 14 #[oR cA, oI (0 : Int32), oI (Int32.ofNat cs.length), oR b1, oI (Int32.ofNat k), .unset] []))
    refine Done.step (fun _ => XS.iload X2.here hx rfl (hb hby d13_14) rfl) ?_
    show Done _ p e below s _ _ (T2.setTop (mkF m 16 #[oR cA, oI (0 : Int32), oI (Int32.ofNat cs.length), oR b1, oI (Int32.ofNat k), .unset] [(.int (Int32.ofNat k))]))
    refine Done.step (fun _ => XS.iloadN X2.here hx rfl (hb hby d13_16) rfl) ?_
    show Done _ p e below s _ _ (T2.setTop (mkF m 17 #[oR cA, oI (0 : Int32), oI (Int32.ofNat cs.length), oR b1, oI (Int32.ofNat k), .unset] [(.int (Int32.ofNat cs.length)), (.int (Int32.ofNat k))]))
    refine Done.step (fun _ => XS.icmpNo X2.here hx rfl (hb hby d13_17) rfl (XT.ii_eq_f (fun q => absurd ((own_eqN (by omega) (by omega)).mp q) (by omega)))) ?_
    show Done _ p e below s _ _ (T2.setTop (mkF m 20 #[oR cA, oI (0 : Int32), oI (Int32.ofNat cs.length), oR b1, oI (Int32.ofNat k), .unset] []))
    refine Done.step (fun _ => XS.aloadN X2.here hx rfl (hb hby d13_20) rfl rfl) ?_
    show Done _ p e below s _ _ (T2.setTop (mkF m 21 #[oR cA, oI (0 : Int32), oI (Int32.ofNat cs.length), oR b1, oI (Int32.ofNat k), .unset] [(.ref cA)]))
    refine Done.step (fun _ => XS.iloadN X2.here hx rfl (hb hby d13_21) rfl) ?_
    show Done _ p e below s _ _ (T2.setTop (mkF m 22 #[oR cA, oI (0 : Int32), oI (Int32.ofNat cs.length), oR b1, oI (Int32.ofNat k), .unset] [(.int (0 : Int32)), (.ref cA)]))
    refine Done.step (fun _ => XS.iloadN X2.here hx rfl (hb hby d13_22) rfl) ?_
    show Done _ p e below s _ _ (T2.setTop (mkF m 23 #[oR cA, oI (0 : Int32), oI (Int32.ofNat cs.length), oR b1, oI (Int32.ofNat k), .unset] [(.int (Int32.ofNat cs.length)), (.int (0 : Int32)), (.ref cA)]))
    have f4 := ((O0.ext E1).keep K2q (allS n0_b1 all0))
    have f5 := (f3.keep K2q (ninS ne_cA_b1 nin0))
    refine Done.callS X2 hx hZ hown (wAt hw 127 rfl) (wAt hw 128 rfl) (wAt hw 67 rfl) (wAt hw 129 rfl) (by decide) (rTB l Z a0 hw [] cA kc cs T2.heap n0 Zs2 f4 SA SH SL f5 hn) (fun _ _ => trivial) rfl (g := (mkF m 23 #[oR cA, oI (0 : Int32), oI (Int32.ofNat cs.length), oR b1, oI (Int32.ofNat k), .unset] [(.int (Int32.ofNat cs.length)), (.int (0 : Int32)), (.ref cA)])) rfl (by rw [hml]; rfl) [(.ref cA), (.int (0 : Int32)), (.int (Int32.ofNat cs.length))] [] 0 (lenOf pd_15 rfl) rfl rfl (by show 2 * 0 + _ ≤ _; exact Nat.le_of_eq rfl) (hb hby d13_23) (by decide) (by decide) (by decide) (by decide) ?_
    intro T6 v6 L6 X6 q6
    obtain ⟨bU, ku, rfl, Nq6, K6q, szu, VU⟩ := q6
    have N6 := Fr.app N2 Nq6
    have Zs6 := Nat.le_trans Zs2 K6q.1
    have K6 := K2.trans K6q all0
    show Done _ p e below s _ _ (T6.setTop (mkF m 26 #[oR cA, oI (0 : Int32), oI (Int32.ofNat cs.length), oR b1, oI (Int32.ofNat k), .unset] [(.ref bU)]))
    have sz_bU : h0.size ≤ bU := Nat.le_trans K2.1 szu
    refine Done.step (fun _ => XS.astore X6.here hx rfl (hb hby d13_26) rfl rfl (l' := #[oR cA, oI (0 : Int32), oI (Int32.ofNat cs.length), oR b1, oI (Int32.ofNat k), oR bU]) rfl) ?_
    show Done _ p e below s _ _ (T6.setTop (mkF m 28 #[oR cA, oI (0 : Int32), oI (Int32.ofNat cs.length), oR b1, oI (Int32.ofNat k), oR bU] []))
    refine Done.step (fun _ => XS.aload X6.here hx rfl (hb hby d13_28) rfl rfl) ?_
    show Done _ p e below s _ _ (T6.setTop (mkF m 30 #[oR cA, oI (0 : Int32), oI (Int32.ofNat cs.length), oR b1, oI (Int32.ofNat k), oR bU] [(.ref bU)]))
    refine Done.step (fun _ => XS.iload X6.here hx rfl (hb hby d13_30) rfl) ?_
    show Done _ p e below s _ _ (T6.setTop (mkF m 32 #[oR cA, oI (0 : Int32), oI (Int32.ofNat cs.length), oR b1, oI (Int32.ofNat k), oR bU] [(.int (Int32.ofNat k)), (.ref bU)]))
    have f7 := (f4.keep K6q all0)
    refine Done.callSP X6 hx hZ hown (wAt hw 143 rfl) (wAt hw 144 rfl) (wAt hw 67 rfl) (wAt hw 145 rfl) (by decide) (rG l Z a0 hw [] bU ku cs k z fm T6.heap n0 Zs6 f7 SC hz SF rF SA SH SL VU hn hkn hbc) rfl (g := (mkF m 32 #[oR cA, oI (0 : Int32), oI (Int32.ofNat cs.length), oR b1, oI (Int32.ofNat k), oR bU] [(.int (Int32.ofNat k)), (.ref bU)])) rfl (by rw [hml]; rfl) [(.ref bU), (.int (Int32.ofNat k))] [] 0 (lenOf pd_8 rfl) rfl rfl (by show 2 * 0 + _ ≤ _; exact Nat.le_of_eq rfl) (hb hby d13_32) (by decide) (by decide) (by decide) (by decide) rfl rfl ?_
    intro T8 X8 e8
    show Done _ p e below s _ _ (T8.setTop (mkF m 35 #[oR cA, oI (0 : Int32), oI (Int32.ofNat cs.length), oR b1, oI (Int32.ofNat k), oR bU] [(.int (cs.getD k 0))]))
    refine Done.step (fun _ => XT.sipushV X8.here hx rfl (255 : Int32) (hb hby d13_35) (by decide)) ?_
    show Done _ p e below s _ _ (T8.setTop (mkF m 38 #[oR cA, oI (0 : Int32), oI (Int32.ofNat cs.length), oR b1, oI (Int32.ofNat k), oR bU] [(.int (255 : Int32)), (.int (cs.getD k 0))]))
    refine Done.step (fun _ => XS.icmpYes X8.here hx rfl (pc0 := 38) (pc' := 54) rfl (hb hby d13_38) rfl (XT.ii_gt_t hbg) (by decide) (by decide)) ?_
    show Done _ p e below s _ _ (T8.setTop (mkF m 54 #[oR cA, oI (0 : Int32), oI (Int32.ofNat cs.length), oR b1, oI (Int32.ofNat k), oR bU] []))
    refine Done.step (fun _ => XS.aload X8.here hx rfl (hb hby d13_54) rfl rfl) ?_
    show Done _ p e below s _ _ (T8.setTop (mkF m 56 #[oR cA, oI (0 : Int32), oI (Int32.ofNat cs.length), oR b1, oI (Int32.ofNat k), oR bU] [(.ref bU)]))
    refine Done.retA (leavesF X8 hlk (by decide) (by decide)) X8 hx hret rfl rfl (hb hby d13_56) ?_
    rw [e8]
    exact ⟨bU, ku, rfl, N6, K6, sz_bU, Or.inr ⟨(fun q => own_mem q hkn hbg), VU⟩⟩
theorem own_cfl {m : Nat} (h : 0 < m) (h4 : m ≤ 4) : nar .byte ((((Int32.ofNat m) - (Int32.ofNat (2 * m))).toUInt32 >>> ((31 : Int32) &&& 31).toUInt32).toInt32.toInt8.toInt32) = (1 : Int32) := (by decide +kernel : ∀ m < 5, 0 < m → nar .byte ((((Int32.ofNat m) - (Int32.ofNat (2 * m))).toUInt32 >>> ((31 : Int32) &&& 31).toUInt32).toInt32.toInt8.toInt32) = (1 : Int32)) m (by omega) h
theorem own_cfl0 {m : Nat} (h4 : m ≤ 4) : nar .byte ((((Int32.ofNat m) - (Int32.ofNat m)).toUInt32 >>> ((31 : Int32) &&& 31).toUInt32).toInt32.toInt8.toInt32) = (0 : Int32) := (by decide +kernel : ∀ m < 5, nar .byte ((((Int32.ofNat m) - (Int32.ofNat m)).toUInt32 >>> ((31 : Int32) &&& 31).toUInt32).toInt32.toInt8.toInt32) = (0 : Int32)) m (by omega)
theorem d15_0 : decode jdk_52_method_15_code 0 = .ok (.iload_n 1, 1) := by decide +kernel
theorem d15_1 : decode jdk_52_method_15_code 1 = .ok (.aload_n 0, 1) := by decide +kernel
theorem d15_2 : decode jdk_52_method_15_code 2 = .ok (.arraylength, 1) := by decide +kernel
theorem d15_3 : decode jdk_52_method_15_code 3 = .ok (.isub, 1) := by decide +kernel
theorem d15_4 : decode jdk_52_method_15_code 4 = .ok (.bipush 31, 2) := by decide +kernel
theorem d15_6 : decode jdk_52_method_15_code 6 = .ok (.iushr, 1) := by decide +kernel
theorem d15_7 : decode jdk_52_method_15_code 7 = .ok (.i2b, 1) := by decide +kernel
theorem d15_8 : decode jdk_52_method_15_code 8 = .ok (.ireturn, 1) := by decide +kernel
set_option maxRecDepth 65536 in
set_option maxHeartbeats 40000000 in
theorem rCo (l : Launch) (Z : State) (a0 : Array Value) (hw : ∀ d ∈ tables_1, d.before a0 Z = true) (ws : List Jvm.Cond) (bA : Addr) (kb : ClassId) (mm : Nat) (vs : List Value) (h0 : Heap) (n0 : Nat) (Z0 : n0 ≤ h0.size) (VB : Arv Z h0 bA kb .byte (Int32.ofNat (2 * mm)) vs (.int (0 : Int32))) (h0m : 0 < mm) (h4 : mm ≤ 4) :
    Ctr FrameEnd l Z (⟨"java/lang/StringUTF16", "coderFromArrayLen", "([BI)B"⟩ : MethodName) jdk_52_method_15_code 2 (some .byte) ws ({ frames := 0, cells := 0, slots := 0, locals := 0 } : Room) #[(.ref bA), (.int (Int32.ofNat mm))] h0 TrueV (PureQ (some (.int (1 : Int32))) h0) := by
  refine Ctr.intro (plainFor_of_name pn_java_lang_StringUTF16) (Ls := #[.val (.ref bA), .val (.int (Int32.ofNat mm))]) (fun m => by first | (simp [entryFrame, mkF, argsToLocals, Value.category]; done) | rfl) ?_
  intro p e s m below meth c T0 hx hby hml hown hnm hret hlk hZ hV hsh e0 X0
  have N0 := Fr.nil n0
  show Done _ p e below s _ _ (T0.setTop (mkF m 0 #[oR bA, oI (Int32.ofNat mm)] []))
  refine Done.step (fun _ => XS.iloadN X0.here hx rfl (hb hby d15_0) rfl) ?_
  show Done _ p e below s _ _ (T0.setTop (mkF m 1 #[oR bA, oI (Int32.ofNat mm)] [(.int (Int32.ofNat mm))]))
  refine Done.step (fun _ => XS.aloadN X0.here hx rfl (hb hby d15_1) rfl rfl) ?_
  show Done _ p e below s _ _ (T0.setTop (mkF m 2 #[oR bA, oI (Int32.ofNat mm)] [(.ref bA), (.int (Int32.ofNat mm))]))
  obtain ⟨cl1, Ar1, q1, S1, Nn1, H1, G1⟩ := id VB
  refine Done.step (X0.arraylength hx (by first | exact Ar1.1 | (rw [e0]; exact Ar1.1)) (State.isArrayOf_alike hZ.alike Ar1.2.1) (g := (mkF m 2 #[oR bA, oI (Int32.ofNat mm)] [(.ref bA), (.int (Int32.ofNat mm))])) rfl rfl (hb hby d15_2)) ?_
  rw [len_of S1 Nn1]
  show Done _ p e below s _ _ (T0.setTop (mkF m 3 #[oR bA, oI (Int32.ofNat mm)] [(.int (Int32.ofNat (2 * mm))), (.int (Int32.ofNat mm))]))
  refine Done.step (fun _ => XS.isub X0.here hx rfl (hb hby d15_3) rfl) ?_
  show Done _ p e below s _ _ (T0.setTop (mkF m 4 #[oR bA, oI (Int32.ofNat mm)] [(.int ((Int32.ofNat mm) - (Int32.ofNat (2 * mm))))]))
  refine Done.step (fun _ => XT.bipushV X0.here hx rfl (31 : Int32) (hb hby d15_4) (by decide)) ?_
  show Done _ p e below s _ _ (T0.setTop (mkF m 6 #[oR bA, oI (Int32.ofNat mm)] [(.int (31 : Int32)), (.int ((Int32.ofNat mm) - (Int32.ofNat (2 * mm))))]))
  refine Done.step (fun _ => XT.iushr X0.here hx rfl (hb hby d15_6) rfl) ?_
  show Done _ p e below s _ _ (T0.setTop (mkF m 7 #[oR bA, oI (Int32.ofNat mm)] [(.int ((((Int32.ofNat mm) - (Int32.ofNat (2 * mm))).toUInt32 >>> ((31 : Int32) &&& 31).toUInt32).toInt32))]))
  refine Done.step (fun _ => XT.i2b X0.here hx rfl (hb hby d15_7) rfl) ?_
  show Done _ p e below s _ _ (T0.setTop (mkF m 8 #[oR bA, oI (Int32.ofNat mm)] [(.int (((((Int32.ofNat mm) - (Int32.ofNat (2 * mm))).toUInt32 >>> ((31 : Int32) &&& 31).toUInt32).toInt32).toInt8.toInt32))]))
  exact Done.retN (leavesF X0 hlk (by decide) (by decide)) X0 hx (t := .byte) hret (by simp) (hb hby d15_8) ⟨(congrArg (fun q => some (Value.int q)) (own_cfl h0m h4)), e0, rfl⟩
set_option maxRecDepth 65536 in
set_option maxHeartbeats 40000000 in
theorem rCo0 (l : Launch) (Z : State) (a0 : Array Value) (hw : ∀ d ∈ tables_1, d.before a0 Z = true) (ws : List Jvm.Cond) (bA : Addr) (kb : ClassId) (mm : Nat) (vs : List Value) (h0 : Heap) (n0 : Nat) (Z0 : n0 ≤ h0.size) (VB : Arv Z h0 bA kb .byte (Int32.ofNat mm) vs (.int (0 : Int32))) (h4 : mm ≤ 4) :
    Ctr FrameEnd l Z (⟨"java/lang/StringUTF16", "coderFromArrayLen", "([BI)B"⟩ : MethodName) jdk_52_method_15_code 2 (some .byte) ws ({ frames := 0, cells := 0, slots := 0, locals := 0 } : Room) #[(.ref bA), (.int (Int32.ofNat mm))] h0 TrueV (PureQ (some (.int (0 : Int32))) h0) := by
  refine Ctr.intro (plainFor_of_name pn_java_lang_StringUTF16) (Ls := #[.val (.ref bA), .val (.int (Int32.ofNat mm))]) (fun m => by first | (simp [entryFrame, mkF, argsToLocals, Value.category]; done) | rfl) ?_
  intro p e s m below meth c T0 hx hby hml hown hnm hret hlk hZ hV hsh e0 X0
  have N0 := Fr.nil n0
  show Done _ p e below s _ _ (T0.setTop (mkF m 0 #[oR bA, oI (Int32.ofNat mm)] []))
  refine Done.step (fun _ => XS.iloadN X0.here hx rfl (hb hby d15_0) rfl) ?_
  show Done _ p e below s _ _ (T0.setTop (mkF m 1 #[oR bA, oI (Int32.ofNat mm)] [(.int (Int32.ofNat mm))]))
  refine Done.step (fun _ => XS.aloadN X0.here hx rfl (hb hby d15_1) rfl rfl) ?_
  show Done _ p e below s _ _ (T0.setTop (mkF m 2 #[oR bA, oI (Int32.ofNat mm)] [(.ref bA), (.int (Int32.ofNat mm))]))
  obtain ⟨cl1, Ar1, q1, S1, Nn1, H1, G1⟩ := id VB
  refine Done.step (X0.arraylength hx (by first | exact Ar1.1 | (rw [e0]; exact Ar1.1)) (State.isArrayOf_alike hZ.alike Ar1.2.1) (g := (mkF m 2 #[oR bA, oI (Int32.ofNat mm)] [(.ref bA), (.int (Int32.ofNat mm))])) rfl rfl (hb hby d15_2)) ?_
  rw [len_of S1 Nn1]
  show Done _ p e below s _ _ (T0.setTop (mkF m 3 #[oR bA, oI (Int32.ofNat mm)] [(.int (Int32.ofNat mm)), (.int (Int32.ofNat mm))]))
  refine Done.step (fun _ => XS.isub X0.here hx rfl (hb hby d15_3) rfl) ?_
  show Done _ p e below s _ _ (T0.setTop (mkF m 4 #[oR bA, oI (Int32.ofNat mm)] [(.int ((Int32.ofNat mm) - (Int32.ofNat mm)))]))
  refine Done.step (fun _ => XT.bipushV X0.here hx rfl (31 : Int32) (hb hby d15_4) (by decide)) ?_
  show Done _ p e below s _ _ (T0.setTop (mkF m 6 #[oR bA, oI (Int32.ofNat mm)] [(.int (31 : Int32)), (.int ((Int32.ofNat mm) - (Int32.ofNat mm)))]))
  refine Done.step (fun _ => XT.iushr X0.here hx rfl (hb hby d15_6) rfl) ?_
  show Done _ p e below s _ _ (T0.setTop (mkF m 7 #[oR bA, oI (Int32.ofNat mm)] [(.int ((((Int32.ofNat mm) - (Int32.ofNat mm)).toUInt32 >>> ((31 : Int32) &&& 31).toUInt32).toInt32))]))
  refine Done.step (fun _ => XT.i2b X0.here hx rfl (hb hby d15_7) rfl) ?_
  show Done _ p e below s _ _ (T0.setTop (mkF m 8 #[oR bA, oI (Int32.ofNat mm)] [(.int (((((Int32.ofNat mm) - (Int32.ofNat mm)).toUInt32 >>> ((31 : Int32) &&& 31).toUInt32).toInt32).toInt8.toInt32))]))
  exact Done.retN (leavesF X0 hlk (by decide) (by decide)) X0 hx (t := .byte) hret (by simp) (hb hby d15_8) ⟨(congrArg (fun q => some (Value.int q)) (own_cfl0 h4)), e0, rfl⟩
theorem d4_27 : decode jdk_42_method_149_code 27 = .ok (.getstatic 38, 3) := by decide +kernel
theorem d4_30 : decode jdk_42_method_149_code 30 = .ok (.ifCond .eq 28, 3) := by decide +kernel
theorem d4_33 : decode jdk_42_method_149_code 33 = .ok (.aload_n 1, 1) := by decide +kernel
theorem d4_34 : decode jdk_42_method_149_code 34 = .ok (.iload_n 2, 1) := by decide +kernel
theorem d4_35 : decode jdk_42_method_149_code 35 = .ok (.iload_n 3, 1) := by decide +kernel
theorem d4_36 : decode jdk_42_method_149_code 36 = .ok (.invokestatic 177, 3) := by decide +kernel
theorem d4_39 : decode jdk_42_method_149_code 39 = .ok (.astore 5, 2) := by decide +kernel
theorem d4_41 : decode jdk_42_method_149_code 41 = .ok (.aload_n 0, 1) := by decide +kernel
theorem d4_42 : decode jdk_42_method_149_code 42 = .ok (.aload 5, 2) := by decide +kernel
theorem d4_44 : decode jdk_42_method_149_code 44 = .ok (.iload_n 3, 1) := by decide +kernel
theorem d4_45 : decode jdk_42_method_149_code 45 = .ok (.invokestatic 47, 3) := by decide +kernel
theorem pd_16 : parseMethodDescriptor "([BI)B" = some ⟨[(.array .byte), .int], some .byte⟩ := by decide +kernel
theorem d4_48 : decode jdk_42_method_149_code 48 = .ok (.putfield 15, 3) := by decide +kernel
theorem d4_51 : decode jdk_42_method_149_code 51 = .ok (.aload_n 0, 1) := by decide +kernel
theorem d4_52 : decode jdk_42_method_149_code 52 = .ok (.aload 5, 2) := by decide +kernel
theorem d4_54 : decode jdk_42_method_149_code 54 = .ok (.putfield 9, 3) := by decide +kernel
theorem d4_57 : decode jdk_42_method_149_code 57 = .ok (.return_, 1) := by decide +kernel
set_option maxRecDepth 65536 in
set_option maxHeartbeats 40000000 in
theorem rX4 (l : Launch) (Z : State) (a0 : Array Value) (hw : ∀ d ∈ tables_1, d.before a0 Z = true) (ws : List Jvm.Cond) (xx cA : Addr) (kc : ClassId) (cs : List Int32) (z : Int32) (fm : Value) (h0 : Heap) (n0 : Nat) (Z0 : n0 ≤ h0.size) (Ex : Exa Z h0 xx "java/lang/String") (Fv : Fld Z h0 xx "java/lang/String" "value" "[B" .null) (Fc : Fld Z h0 xx "java/lang/String" "coder" "B" (.int (0 : Int32))) (gx : n0 ≤ xx) (O0 : Old Z n0 h0) (SC : Sta Z Z.heap "java/lang/String" "COMPACT_STRINGS" "Z" (.int z)) (hz : ¬ z = 0) (SF : Sta Z Z.heap "jdk/internal/util/Preconditions" "SIOOBE_FORMATTER" "Ljava/util/function/BiFunction;" fm) (rF : fm.isRef = true) (SA : Sta Z Z.heap "java/lang/StringUTF16" "$assertionsDisabled" "Z" (.int (1 : Int32))) (SH : Sta Z Z.heap "java/lang/StringUTF16" "HI_BYTE_SHIFT" "I" (.int (0 : Int32))) (SL : Sta Z Z.heap "java/lang/StringUTF16" "LO_BYTE_SHIFT" "I" (.int (8 : Int32))) (VA : Arv Z h0 cA kc .char (Int32.ofNat cs.length) (cs.map Value.int) (.int (0 : Int32))) (ncx : cA ≠ xx) (hn : cs.length ≤ 4) (hbc : ∀ c ∈ cs, ¬ c < 0 ∧ ¬ (65535 : Int32) < c) (h0m : 0 < cs.length) :
    Ctr FrameEnd l Z (⟨"java/lang/String", "<init>", "([CIILjava/lang/Void;)V"⟩ : MethodName) jdk_42_method_149_code 6 none ws ({ frames := 4, cells := 2, slots := 12, locals := 68 } : Room) #[(.ref xx), (.ref cA), (.int (0 : Int32)), (.int (Int32.ofNat cs.length)), .null] h0 TrueV (fun v h _ L => v = none ∧ Fr n0 L ∧ Keep h0 h [xx] ∧ ∃ (b : Addr) (kb : ClassId), Exa Z h xx "java/lang/String" ∧ Fld Z h xx "java/lang/String" "value" "[B" (.ref b) ∧ SD Z h xx b kb cs) := by
  refine Ctr.intro (plainFor_of_name pn_java_lang_String) (Ls := #[.val (.ref xx), .val (.ref cA), .val (.int (0 : Int32)), .val (.int (Int32.ofNat cs.length)), .val .null, .unset]) (fun m => by first | (simp [entryFrame, mkF, argsToLocals, Value.category]; done) | rfl) ?_
  intro p e s m below meth c T0 hx hby hml hown hnm hret hlk hZ hV hsh e0 X0
  have N0 := Fr.nil n0
  show Done _ p e below s _ _ (T0.setTop (mkF m 0 #[oR xx, oR cA, oI (0 : Int32), oI (Int32.ofNat cs.length), .val .null, .unset] []))
  refine Done.step (fun _ => XS.aloadN X0.here hx rfl (hb hby d4_0) rfl rfl) ?_
  show Done _ p e below s _ _ (T0.setTop (mkF m 1 #[oR xx, oR cA, oI (0 : Int32), oI (Int32.ofNat cs.length), .val .null, .unset] [(.ref xx)]))
  obtain ⟨T1, X1, e1, st1⟩ := initO X0 hx hZ hown (wAt hw 20 rfl) (wAt hw 21 rfl) (wAt hw 22 rfl) e0 (g := (mkF m 1 #[oR xx, oR cA, oI (0 : Int32), oI (Int32.ofNat cs.length), .val .null, .unset] [(.ref xx)])) rfl (by rw [hml]; rfl) rfl (hb hby d4_1) (by decide) (W := 0) (by show 2 * 0 + _ ≤ _; exact Nat.le_of_eq rfl) (by decide)
  refine Done.step st1 ?_
  show Done _ p e below s _ _ (T1.setTop (mkF m 4 #[oR xx, oR cA, oI (0 : Int32), oI (Int32.ofNat cs.length), .val .null, .unset] []))
  refine Done.step (fun _ => XS.iloadN X1.here hx rfl (hb hby d4_4) rfl) ?_
  show Done _ p e below s _ _ (T1.setTop (mkF m 5 #[oR xx, oR cA, oI (0 : Int32), oI (Int32.ofNat cs.length), .val .null, .unset] [(.int (Int32.ofNat cs.length))]))
  refine Done.step (fun _ => XS.ifYes X1.here hx rfl (pc0 := 5) (pc' := 27) rfl (hb hby d4_5) rfl (XT.i0_ne_t (fun q => absurd ((own_eq0 (by omega)).mp q) (by omega))) (by decide) (by decide)) ?_
  show Done _ p e below s _ _ (T1.setTop (mkF m 27 #[oR xx, oR cA, oI (0 : Int32), oI (Int32.ofNat cs.length), .val .null, .unset] []))
  obtain ⟨T2, X2, e2, st2⟩ := getS2 X1 hx hZ hown (host := "") (Or.inl (wAt hw 49 rfl)) Via.refl e1 (SC.ext O0.2) (g := (mkF m 27 #[oR xx, oR cA, oI (0 : Int32), oI (Int32.ofNat cs.length), .val .null, .unset] [])) rfl (hb hby d4_27)
  refine Done.step st2 ?_
  show Done _ p e below s _ _ (T2.setTop (mkF m 30 #[oR xx, oR cA, oI (0 : Int32), oI (Int32.ofNat cs.length), .val .null, .unset] [(.int z)]))
  refine Done.step (fun _ => XS.ifNo X2.here hx rfl (hb hby d4_30) rfl (XT.i0_eq_f hz)) ?_
  show Done _ p e below s _ _ (T2.setTop (mkF m 33 #[oR xx, oR cA, oI (0 : Int32), oI (Int32.ofNat cs.length), .val .null, .unset] []))
  refine Done.step (fun _ => XS.aloadN X2.here hx rfl (hb hby d4_33) rfl rfl) ?_
  show Done _ p e below s _ _ (T2.setTop (mkF m 34 #[oR xx, oR cA, oI (0 : Int32), oI (Int32.ofNat cs.length), .val .null, .unset] [(.ref cA)]))
  refine Done.step (fun _ => XS.iloadN X2.here hx rfl (hb hby d4_34) rfl) ?_
  show Done _ p e below s _ _ (T2.setTop (mkF m 35 #[oR xx, oR cA, oI (0 : Int32), oI (Int32.ofNat cs.length), .val .null, .unset] [(.int (0 : Int32)), (.ref cA)]))
  refine Done.step (fun _ => XS.iloadN X2.here hx rfl (hb hby d4_35) rfl) ?_
  show Done _ p e below s _ _ (T2.setTop (mkF m 36 #[oR xx, oR cA, oI (0 : Int32), oI (Int32.ofNat cs.length), .val .null, .unset] [(.int (Int32.ofNat cs.length)), (.int (0 : Int32)), (.ref cA)]))
  refine Done.callS X2 hx hZ hown (wAt hw 65 rfl) (wAt hw 66 rfl) (wAt hw 67 rfl) (wAt hw 68 rfl) (by decide) (rX3 l Z a0 hw [] cA kc cs z fm h0 n0 Z0 O0 SC hz SF rF SA SH SL VA hn hbc) (fun _ _ => trivial) e2 (g := (mkF m 36 #[oR xx, oR cA, oI (0 : Int32), oI (Int32.ofNat cs.length), .val .null, .unset] [(.int (Int32.ofNat cs.length)), (.int (0 : Int32)), (.ref cA)])) rfl (by rw [hml]; rfl) [(.ref cA), (.int (0 : Int32)), (.int (Int32.ofNat cs.length))] [] 0 (lenOf pd_15 rfl) rfl rfl (by show 2 * 0 + _ ≤ _; exact Nat.le_of_eq rfl) (hb hby d4_36) (by decide) (by decide) (by decide) (by decide) ?_
  intro T3 v3 L3 X3 q3
  obtain ⟨bU, ku, rfl, Nq3, K3q, szu, q3⟩ := q3
  have szu : h0.size ≤ bU := Nat.le_trans (Keep.refl h0 [xx]).1 szu
  have N3 := Fr.app N0 Nq3
  have Zs3 := Nat.le_trans Z0 K3q.1
  have K3 := (Keep.refl h0 [xx]).trans K3q all0
  have nbx : bU ≠ xx := Nat.ne_of_gt (Nat.lt_of_lt_of_le Ex.lt szu)
  rcases q3 with ⟨hsm, VU⟩ | ⟨hsm, VU⟩
  · show Done _ p e below s _ _ (T3.setTop (mkF m 39 #[oR xx, oR cA, oI (0 : Int32), oI (Int32.ofNat cs.length), .val .null, .unset] [(.ref bU)]))
    refine Done.step (fun _ => XS.astore X3.here hx rfl (hb hby d4_39) rfl rfl (l' := #[oR xx, oR cA, oI (0 : Int32), oI (Int32.ofNat cs.length), .val .null, oR bU]) rfl) ?_
    show Done _ p e below s _ _ (T3.setTop (mkF m 41 #[oR xx, oR cA, oI (0 : Int32), oI (Int32.ofNat cs.length), .val .null, oR bU] []))
    refine Done.step (fun _ => XS.aloadN X3.here hx rfl (hb hby d4_41) rfl rfl) ?_
    show Done _ p e below s _ _ (T3.setTop (mkF m 42 #[oR xx, oR cA, oI (0 : Int32), oI (Int32.ofNat cs.length), .val .null, oR bU] [(.ref xx)]))
    refine Done.step (fun _ => XS.aload X3.here hx rfl (hb hby d4_42) rfl rfl) ?_
    show Done _ p e below s _ _ (T3.setTop (mkF m 44 #[oR xx, oR cA, oI (0 : Int32), oI (Int32.ofNat cs.length), .val .null, oR bU] [(.ref bU), (.ref xx)]))
    refine Done.step (fun _ => XS.iloadN X3.here hx rfl (hb hby d4_44) rfl) ?_
    show Done _ p e below s _ _ (T3.setTop (mkF m 45 #[oR xx, oR cA, oI (0 : Int32), oI (Int32.ofNat cs.length), .val .null, oR bU] [(.int (Int32.ofNat cs.length)), (.ref bU), (.ref xx)]))
    refine Done.callSP X3 hx hZ hown (wAt hw 72 rfl) (wAt hw 73 rfl) (wAt hw 67 rfl) (wAt hw 74 rfl) (by decide) (rCo0 l Z a0 hw [] bU ku cs.length (own_ll cs) T3.heap n0 Zs3 VU hn) rfl (g := (mkF m 45 #[oR xx, oR cA, oI (0 : Int32), oI (Int32.ofNat cs.length), .val .null, oR bU] [(.int (Int32.ofNat cs.length)), (.ref bU), (.ref xx)])) rfl (by rw [hml]; rfl) [(.ref bU), (.int (Int32.ofNat cs.length))] [(.ref xx)] 1 (lenOf pd_16 rfl) rfl rfl (by show 2 * 0 + _ ≤ _; exact Nat.le_of_eq rfl) (hb hby d4_45) (by decide) (by decide) (by decide) (by decide) rfl rfl ?_
    intro T4 X4 e4
    show Done _ p e below s _ _ (T4.setTop (mkF m 48 #[oR xx, oR cA, oI (0 : Int32), oI (Int32.ofNat cs.length), .val .null, oR bU] [(.int (0 : Int32)), (.ref xx)]))
    have f6 := (Fc.keep K3q nin0)
    have f7 := (Ex.keep K3q)
    obtain ⟨T5, h5, X5, e5, W5, st5⟩ := putFN X4 hx hZ hown (wAt hw 30 rfl) Via.refl e4 f6 f7 (Or.inr ⟨(wAt hw 26 rfl), rfl, hnm⟩) (wAt hw 10 rfl) (ty := .byte) (v' := (.int (nar .byte (0 : Int32)))) (by decide) rfl (fits_nar_byte _) (g := (mkF m 48 #[oR xx, oR cA, oI (0 : Int32), oI (Int32.ofNat cs.length), .val .null, oR bU] [(.int (0 : Int32)), (.ref xx)])) rfl rfl (hb hby d4_48)
    have F5 := f6.same W5
    have N5 := Fr.snoc X5 N3 gx
    have Zs5 := Nat.le_trans Zs3 (Keep.of_wr W5).1
    have K5 := K3.wr W5 (Or.inl (List.mem_of_getElem? (i := 0) rfl))
    refine Done.step st5 ?_
    show Done _ p e below s _ _ (T5.setTop (mkF m 51 #[oR xx, oR cA, oI (0 : Int32), oI (Int32.ofNat cs.length), .val .null, oR bU] []))
    refine Done.step (fun _ => XS.aloadN X5.here hx rfl (hb hby d4_51) rfl rfl) ?_
    show Done _ p e below s _ _ (T5.setTop (mkF m 52 #[oR xx, oR cA, oI (0 : Int32), oI (Int32.ofNat cs.length), .val .null, oR bU] [(.ref xx)]))
    refine Done.step (fun _ => XS.aload X5.here hx rfl (hb hby d4_52) rfl rfl) ?_
    show Done _ p e below s _ _ (T5.setTop (mkF m 54 #[oR xx, oR cA, oI (0 : Int32), oI (Int32.ofNat cs.length), .val .null, oR bU] [(.ref bU), (.ref xx)]))
    have f9 := ((Fv.keep K3q nin0).other W5 (Or.inr (slot_ne (Or.inr (wAt hw 25 rfl)) (Or.inr (wAt hw 26 rfl)) (by decide) (t := (.array .byte)) (t' := .byte) (by decide) (by decide))))
    have f10 := (f7.wr W5)
    obtain ⟨T8, h8, X8, e8, W8, st8⟩ := putF X5 hx hZ hown (host := "") (Or.inl (wAt hw 29 rfl)) Via.refl e5 f9 f10 (Or.inr ⟨(wAt hw 25 rfl), rfl, hnm⟩) (wAt hw 10 rfl) (ty := (.array .byte)) (by decide) rfl rfl (g := (mkF m 54 #[oR xx, oR cA, oI (0 : Int32), oI (Int32.ofNat cs.length), .val .null, oR bU] [(.ref bU), (.ref xx)])) rfl rfl (hb hby d4_54)
    have F8 := f9.same W8
    have N8 := Fr.snoc X8 N5 gx
    have Zs8 := Nat.le_trans Zs5 (Keep.of_wr W8).1
    have K8 := K5.wr W8 (Or.inl (List.mem_of_getElem? (i := 0) rfl))
    refine Done.step st8 ?_
    show Done _ p e below s _ _ (T8.setTop (mkF m 57 #[oR xx, oR cA, oI (0 : Int32), oI (Int32.ofNat cs.length), .val .null, oR bU] []))
    have f11 := (f10.wr W8)
    have f12 := (F5.other W8 (Or.inr (slot_ne (Or.inr (wAt hw 26 rfl)) (Or.inr (wAt hw 25 rfl)) (by decide) (t := .byte) (t' := (.array .byte)) (by decide) (by decide))))
    have f13 := ((VU.other W5 nbx).other W8 nbx)
    refine Done.retV (leavesF X8 hlk (by decide) (by decide)) X8 hx hret (hb hby d4_57) ?_
    rw [e8]
    exact ⟨rfl, N8, K8, bU, ku, f11, F8, Or.inl ⟨hsm, f12, f13⟩⟩
  · show Done _ p e below s _ _ (T3.setTop (mkF m 39 #[oR xx, oR cA, oI (0 : Int32), oI (Int32.ofNat cs.length), .val .null, .unset] [(.ref bU)]))
    refine Done.step (fun _ => XS.astore X3.here hx rfl (hb hby d4_39) rfl rfl (l' := #[oR xx, oR cA, oI (0 : Int32), oI (Int32.ofNat cs.length), .val .null, oR bU]) rfl) ?_
    show Done _ p e below s _ _ (T3.setTop (mkF m 41 #[oR xx, oR cA, oI (0 : Int32), oI (Int32.ofNat cs.length), .val .null, oR bU] []))
    refine Done.step (fun _ => XS.aloadN X3.here hx rfl (hb hby d4_41) rfl rfl) ?_
    show Done _ p e below s _ _ (T3.setTop (mkF m 42 #[oR xx, oR cA, oI (0 : Int32), oI (Int32.ofNat cs.length), .val .null, oR bU] [(.ref xx)]))
    refine Done.step (fun _ => XS.aload X3.here hx rfl (hb hby d4_42) rfl rfl) ?_
    show Done _ p e below s _ _ (T3.setTop (mkF m 44 #[oR xx, oR cA, oI (0 : Int32), oI (Int32.ofNat cs.length), .val .null, oR bU] [(.ref bU), (.ref xx)]))
    refine Done.step (fun _ => XS.iloadN X3.here hx rfl (hb hby d4_44) rfl) ?_
    show Done _ p e below s _ _ (T3.setTop (mkF m 45 #[oR xx, oR cA, oI (0 : Int32), oI (Int32.ofNat cs.length), .val .null, oR bU] [(.int (Int32.ofNat cs.length)), (.ref bU), (.ref xx)]))
    refine Done.callSP X3 hx hZ hown (wAt hw 72 rfl) (wAt hw 73 rfl) (wAt hw 67 rfl) (wAt hw 74 rfl) (by decide) (rCo l Z a0 hw [] bU ku cs.length (own_hl cs) T3.heap n0 Zs3 VU h0m hn) rfl (g := (mkF m 45 #[oR xx, oR cA, oI (0 : Int32), oI (Int32.ofNat cs.length), .val .null, oR bU] [(.int (Int32.ofNat cs.length)), (.ref bU), (.ref xx)])) rfl (by rw [hml]; rfl) [(.ref bU), (.int (Int32.ofNat cs.length))] [(.ref xx)] 1 (lenOf pd_16 rfl) rfl rfl (by show 2 * 0 + _ ≤ _; exact Nat.le_of_eq rfl) (hb hby d4_45) (by decide) (by decide) (by decide) (by decide) rfl rfl ?_
    intro T14 X14 e14
    show Done _ p e below s _ _ (T14.setTop (mkF m 48 #[oR xx, oR cA, oI (0 : Int32), oI (Int32.ofNat cs.length), .val .null, oR bU] [(.int (1 : Int32)), (.ref xx)]))
    have f16 := (Fc.keep K3q nin0)
    have f17 := (Ex.keep K3q)
    obtain ⟨T15, h15, X15, e15, W15, st15⟩ := putFN X14 hx hZ hown (wAt hw 30 rfl) Via.refl e14 f16 f17 (Or.inr ⟨(wAt hw 26 rfl), rfl, hnm⟩) (wAt hw 10 rfl) (ty := .byte) (v' := (.int (nar .byte (1 : Int32)))) (by decide) rfl (fits_nar_byte _) (g := (mkF m 48 #[oR xx, oR cA, oI (0 : Int32), oI (Int32.ofNat cs.length), .val .null, oR bU] [(.int (1 : Int32)), (.ref xx)])) rfl rfl (hb hby d4_48)
    have F15 := f16.same W15
    have N15 := Fr.snoc X15 N3 gx
    have Zs15 := Nat.le_trans Zs3 (Keep.of_wr W15).1
    have K15 := K3.wr W15 (Or.inl (List.mem_of_getElem? (i := 0) rfl))
    refine Done.step st15 ?_
    show Done _ p e below s _ _ (T15.setTop (mkF m 51 #[oR xx, oR cA, oI (0 : Int32), oI (Int32.ofNat cs.length), .val .null, oR bU] []))
    refine Done.step (fun _ => XS.aloadN X15.here hx rfl (hb hby d4_51) rfl rfl) ?_
    show Done _ p e below s _ _ (T15.setTop (mkF m 52 #[oR xx, oR cA, oI (0 : Int32), oI (Int32.ofNat cs.length), .val .null, oR bU] [(.ref xx)]))
    refine Done.step (fun _ => XS.aload X15.here hx rfl (hb hby d4_52) rfl rfl) ?_
    show Done _ p e below s _ _ (T15.setTop (mkF m 54 #[oR xx, oR cA, oI (0 : Int32), oI (Int32.ofNat cs.length), .val .null, oR bU] [(.ref bU), (.ref xx)]))
    have f19 := ((Fv.keep K3q nin0).other W15 (Or.inr (slot_ne (Or.inr (wAt hw 25 rfl)) (Or.inr (wAt hw 26 rfl)) (by decide) (t := (.array .byte)) (t' := .byte) (by decide) (by decide))))
    have f20 := (f17.wr W15)
    obtain ⟨T18, h18, X18, e18, W18, st18⟩ := putF X15 hx hZ hown (host := "") (Or.inl (wAt hw 29 rfl)) Via.refl e15 f19 f20 (Or.inr ⟨(wAt hw 25 rfl), rfl, hnm⟩) (wAt hw 10 rfl) (ty := (.array .byte)) (by decide) rfl rfl (g := (mkF m 54 #[oR xx, oR cA, oI (0 : Int32), oI (Int32.ofNat cs.length), .val .null, oR bU] [(.ref bU), (.ref xx)])) rfl rfl (hb hby d4_54)
    have F18 := f19.same W18
    have N18 := Fr.snoc X18 N15 gx
    have Zs18 := Nat.le_trans Zs15 (Keep.of_wr W18).1
    have K18 := K15.wr W18 (Or.inl (List.mem_of_getElem? (i := 0) rfl))
    refine Done.step st18 ?_
    show Done _ p e below s _ _ (T18.setTop (mkF m 57 #[oR xx, oR cA, oI (0 : Int32), oI (Int32.ofNat cs.length), .val .null, oR bU] []))
    have f21 := (f20.wr W18)
    have f22 := (F15.other W18 (Or.inr (slot_ne (Or.inr (wAt hw 26 rfl)) (Or.inr (wAt hw 25 rfl)) (by decide) (t := .byte) (t' := (.array .byte)) (by decide) (by decide))))
    have f23 := ((VU.other W15 nbx).other W18 nbx)
    refine Done.retV (leavesF X18 hlk (by decide) (by decide)) X18 hx hret (hb hby d4_57) ?_
    rw [e18]
    exact ⟨rfl, N18, K18, bU, ku, f21, F18, Or.inr ⟨hsm, f22, f23⟩⟩
set_option maxRecDepth 65536 in
set_option maxHeartbeats 40000000 in
theorem rX1 (l : Launch) (Z : State) (a0 : Array Value) (hw : ∀ d ∈ tables_1, d.before a0 Z = true) (ws : List Jvm.Cond) (xx cA : Addr) (kc : ClassId) (cs : List Int32) (z : Int32) (fm : Value) (h0 : Heap) (n0 : Nat) (Z0 : n0 ≤ h0.size) (Ex : Exa Z h0 xx "java/lang/String") (Fv : Fld Z h0 xx "java/lang/String" "value" "[B" .null) (Fc : Fld Z h0 xx "java/lang/String" "coder" "B" (.int (0 : Int32))) (gx : n0 ≤ xx) (O0 : Old Z n0 h0) (SC : Sta Z Z.heap "java/lang/String" "COMPACT_STRINGS" "Z" (.int z)) (hz : ¬ z = 0) (SF : Sta Z Z.heap "jdk/internal/util/Preconditions" "SIOOBE_FORMATTER" "Ljava/util/function/BiFunction;" fm) (rF : fm.isRef = true) (SA : Sta Z Z.heap "java/lang/StringUTF16" "$assertionsDisabled" "Z" (.int (1 : Int32))) (SH : Sta Z Z.heap "java/lang/StringUTF16" "HI_BYTE_SHIFT" "I" (.int (0 : Int32))) (SL : Sta Z Z.heap "java/lang/StringUTF16" "LO_BYTE_SHIFT" "I" (.int (8 : Int32))) (VA : Arv Z h0 cA kc .char (Int32.ofNat cs.length) (cs.map Value.int) (.int (0 : Int32))) (ncx : cA ≠ xx) (hn : cs.length ≤ 4) (hbc : ∀ c ∈ cs, ¬ c < 0 ∧ ¬ (65535 : Int32) < c) (h0m : 0 < cs.length) :
    Ctr FrameEnd l Z (⟨"java/lang/String", "<init>", "([C)V"⟩ : MethodName) jdk_42_method_3_code 2 none ws ({ frames := 5, cells := 2, slots := 12, locals := 87 } : Room) #[(.ref xx), (.ref cA)] h0 TrueV (fun v h _ L => v = none ∧ Fr n0 L ∧ Keep h0 h [xx] ∧ ∃ (b : Addr) (kb : ClassId), Exa Z h xx "java/lang/String" ∧ Fld Z h xx "java/lang/String" "value" "[B" (.ref b) ∧ SD Z h xx b kb cs) := by
  refine Ctr.intro (plainFor_of_name pn_java_lang_String) (Ls := #[.val (.ref xx), .val (.ref cA)]) (fun m => by first | (simp [entryFrame, mkF, argsToLocals, Value.category]; done) | rfl) ?_
  intro p e s m below meth c T0 hx hby hml hown hnm hret hlk hZ hV hsh e0 X0
  have N0 := Fr.nil n0
  show Done _ p e below s _ _ (T0.setTop (mkF m 0 #[oR xx, oR cA] []))
  refine Done.step (fun _ => XS.aloadN X0.here hx rfl (hb hby d3_0) rfl rfl) ?_
  show Done _ p e below s _ _ (T0.setTop (mkF m 1 #[oR xx, oR cA] [(.ref xx)]))
  refine Done.step (fun _ => XS.aloadN X0.here hx rfl (hb hby d3_1) rfl rfl) ?_
  show Done _ p e below s _ _ (T0.setTop (mkF m 2 #[oR xx, oR cA] [(.ref cA), (.ref xx)]))
  refine Done.step (fun _ => XT.iconstV X0.here hx rfl (0 : Int32) (hb hby d3_2) (by decide)) ?_
  show Done _ p e below s _ _ (T0.setTop (mkF m 3 #[oR xx, oR cA] [(.int (0 : Int32)), (.ref cA), (.ref xx)]))
  refine Done.step (fun _ => XS.aloadN X0.here hx rfl (hb hby d3_3) rfl rfl) ?_
  show Done _ p e below s _ _ (T0.setTop (mkF m 4 #[oR xx, oR cA] [(.ref cA), (.int (0 : Int32)), (.ref cA), (.ref xx)]))
  obtain ⟨cl1, Ar1, q1, S1, Nn1, H1, G1⟩ := id VA
  refine Done.step (X0.arraylength hx (by first | exact Ar1.1 | (rw [e0]; exact Ar1.1)) (State.isArrayOf_alike hZ.alike Ar1.2.1) (g := (mkF m 4 #[oR xx, oR cA] [(.ref cA), (.int (0 : Int32)), (.ref cA), (.ref xx)])) rfl rfl (hb hby d3_4)) ?_
  rw [len_of S1 Nn1]
  show Done _ p e below s _ _ (T0.setTop (mkF m 5 #[oR xx, oR cA] [(.int (Int32.ofNat cs.length)), (.int (0 : Int32)), (.ref cA), (.ref xx)]))
  refine Done.step (fun _ => XS.aconstNull X0.here hx rfl (hb hby d3_5)) ?_
  show Done _ p e below s _ _ (T0.setTop (mkF m 6 #[oR xx, oR cA] [.null, (.int (Int32.ofNat cs.length)), (.int (0 : Int32)), (.ref cA), (.ref xx)]))
  refine Done.callI X0 hx hZ rfl hown (wAt hw 16 rfl) (wAt hw 17 rfl) (wAt hw 11 rfl) (wAt hw 19 rfl) (by decide) (rX4 l Z a0 hw [] xx cA kc cs z fm h0 n0 Z0 Ex Fv Fc gx O0 SC hz SF rF SA SH SL VA ncx hn hbc h0m) (fun _ _ => trivial) e0 (g := (mkF m 6 #[oR xx, oR cA] [.null, (.int (Int32.ofNat cs.length)), (.int (0 : Int32)), (.ref cA), (.ref xx)])) rfl (by rw [hml]; rfl) xx [(.ref cA), (.int (0 : Int32)), (.int (Int32.ofNat cs.length)), .null] [] 0 (lenOf pd_0 rfl) rfl rfl (by show 2 * 0 + _ ≤ _; exact Nat.le_of_eq rfl) (hb hby d3_6) (by decide) (by decide) (by decide) (by decide) ?_
  intro T2 v2 L2 X2 q2
  obtain ⟨rfl, Nq2, K2q, bU, ku, EqX, VqX, DqX⟩ := q2
  have N2 := Fr.app N0 Nq2
  have Zs2 := Nat.le_trans Z0 K2q.1
  have K2 := (Keep.refl h0 [xx]).trans K2q (allS (Or.inl (List.mem_of_getElem? (i := 0) rfl)) all0)
  show Done _ p e below s _ _ (T2.setTop (mkF m 9 #[oR xx, oR cA] []))
  exact Done.retV (leavesF X2 hlk (by decide) (by decide)) X2 hx hret (hb hby d3_9) ⟨rfl, N2, K2, bU, ku, EqX, VqX, DqX⟩
theorem d22_0 : decode jdk_43_method_47_code 0 = .ok (.iload_n 2, 1) := by decide +kernel
theorem d22_1 : decode jdk_43_method_47_code 1 = .ok (.ifCond .ne 6, 3) := by decide +kernel
theorem d22_4 : decode jdk_43_method_47_code 4 = .ok (.ldc 151, 2) := by decide +kernel
theorem d22_6 : decode jdk_43_method_47_code 6 = .ok (.areturn, 1) := by decide +kernel
theorem d22_7 : decode jdk_43_method_47_code 7 = .ok (.new 1, 3) := by decide +kernel
theorem d22_10 : decode jdk_43_method_47_code 10 = .ok (.dup, 1) := by decide +kernel
theorem d22_11 : decode jdk_43_method_47_code 11 = .ok (.aload_n 0, 1) := by decide +kernel
theorem d22_12 : decode jdk_43_method_47_code 12 = .ok (.iload_n 1, 1) := by decide +kernel
theorem d22_13 : decode jdk_43_method_47_code 13 = .ok (.iload_n 1, 1) := by decide +kernel
theorem d22_14 : decode jdk_43_method_47_code 14 = .ok (.iload_n 2, 1) := by decide +kernel
theorem d22_15 : decode jdk_43_method_47_code 15 = .ok (.iadd, 1) := by decide +kernel
theorem d22_16 : decode jdk_43_method_47_code 16 = .ok (.invokestatic 232, 3) := by decide +kernel
theorem d22_19 : decode jdk_43_method_47_code 19 = .ok (.iconst 0, 1) := by decide +kernel
theorem d22_20 : decode jdk_43_method_47_code 20 = .ok (.invokespecial 112, 3) := by decide +kernel
theorem pd_17 : parseMethodDescriptor "([BB)V" = some ⟨[(.array .byte), .byte], none⟩ := by decide +kernel
theorem d22_23 : decode jdk_43_method_47_code 23 = .ok (.areturn, 1) := by decide +kernel
set_option maxRecDepth 65536 in
set_option maxHeartbeats 40000000 in
theorem rN0 (l : Launch) (Z : State) (a0 : Array Value) (hw : ∀ d ∈ tables_1, d.before a0 Z = true) (ws : List Jvm.Cond) (t1 : Addr) (kb1 : ClassId) (cs : List Int32) (f mm : Nat) (Ts : List String) (z : Int32) (fm : Value) (h0 : Heap) (n0 : Nat) (Z0 : n0 ≤ h0.size) (O0 : Old Z n0 h0) (SC : Sta Z Z.heap "java/lang/String" "COMPACT_STRINGS" "Z" (.int z)) (hz : ¬ z = 0) (SF : Sta Z Z.heap "jdk/internal/util/Preconditions" "SIOOBE_FORMATTER" "Ljava/util/function/BiFunction;" fm) (rF : fm.isRef = true) (SA : Sta Z Z.heap "java/lang/StringUTF16" "$assertionsDisabled" "Z" (.int (1 : Int32))) (SH : Sta Z Z.heap "java/lang/StringUTF16" "HI_BYTE_SHIFT" "I" (.int (0 : Int32))) (SL : Sta Z Z.heap "java/lang/StringUTF16" "LO_BYTE_SHIFT" "I" (.int (8 : Int32))) (gK1 : Arv Z h0 t1 kb1 .byte (Int32.ofNat cs.length) (own_ll cs) (.int (0 : Int32))) (hn : cs.length ≤ 4) (hfm : f + mm ≤ cs.length) (hne : ¬ (f = 0 ∧ mm = cs.length)) (hTs : mm = 0 → "" ∉ Ts) (hh : Jvm.Lit.constHeld Z "java/lang/StringLatin1" 151) (hcw : Jvm.Lit.compactW.before a0 Z = true) :
    Ctr ReturnedEndW l Z (⟨"java/lang/StringLatin1", "newString", "([BII)Ljava/lang/String;"⟩ : MethodName) jdk_43_method_47_code 3 (some (.object "java/lang/String")) ws ({ frames := 3, cells := 3, slots := 16, locals := 74 } : Room) #[(.ref t1), (.int (Int32.ofNat f)), (.int (Int32.ofNat mm))] h0 (fun vm => IB Z vm Ts) (fun v h _ L => ∃ (x t : Addr) (kb : ClassId), v = some (.ref x) ∧ Fr n0 L ∧ Keep h0 h [] ∧ Exa Z h x "java/lang/String" ∧ Fld Z h x "java/lang/String" "value" "[B" (.ref t) ∧ Fld Z h x "java/lang/String" "coder" "B" (.int (0 : Int32)) ∧ Arv Z h t kb .byte (Int32.ofNat mm) (own_ll ((cs.drop f).take mm)) (.int (0 : Int32))) := by
  refine Ctr.intro (plainFor_of_name pn_java_lang_StringLatin1) (Ls := #[.val (.ref t1), .val (.int (Int32.ofNat f)), .val (.int (Int32.ofNat mm))]) (fun m => by first | (simp [entryFrame, mkF, argsToLocals, Value.category]; done) | rfl) ?_
  intro p e s m below meth c T0 hx hby hml hown hnm hret hlk hZ hV hsh e0 X0
  have N0 := Fr.nil n0
  have hS : s.Since s.vm 0 := (State.WarmedH.refl s).since 0
  have hk : 0 ≤ h0.size := Nat.zero_le _
  have X0 : Stand p l e ({ frames := 3, cells := 3, slots := 16, locals := 74 } : Room) (s.setVm s.vm) m #[(.ref t1), (.int (Int32.ofNat f)), (.int (Int32.ofNat mm))] below meth c T0 [] 0 0 := X0
  have hZ : Z.Warmed39 (s.setVm s.vm).vm := hZ
  have hown : (s.setVm s.vm).vm.findClass "java/lang/StringLatin1" = some m.cls := hown
  have own_wS := own_wS0 hw
  show Done _ p e below s _ _ (T0.setTop (mkF m 0 #[oR t1, oI (Int32.ofNat f), oI (Int32.ofNat mm)] []))
  refine Done.step (fun _ => XS.iloadN X0.here hx rfl (hb hby d22_0) rfl) ?_
  show Done _ p e below s _ _ (T0.setTop (mkF m 1 #[oR t1, oI (Int32.ofNat f), oI (Int32.ofNat mm)] [(.int (Int32.ofNat mm))]))
  by_cases hc1 : (Int32.ofNat mm) = (0 : Int32)
  · refine Done.step (fun _ => XS.ifNo X0.here hx rfl (hb hby d22_1) rfl (XT.i0_ne_f hc1)) ?_
    show Done _ p e below s _ _ (T0.setTop (mkF m 4 #[oR t1, oI (Int32.ofNat f), oI (Int32.ofNat mm)] []))
    obtain ⟨aa, T2, h2, k2, bb, kk, X2, e2, E2, hS, hk, hZ, hown, EA, FA2, FA1, FB, -, -, st2⟩ := own_ldcI X0 hx hZ hown (wAt hw 126 rfl) own_wS e0 hS hk O0.2.2 hV (hTs ((own_eq0 (by omega)).mp hc1)) hh hcw own_emp (z := (0 : Int32)) (by decide) (by decide) (g := (mkF m 4 #[oR t1, oI (Int32.ofNat f), oI (Int32.ofNat mm)] [])) rfl (hb hby d22_4) (n := 0) (by decide) (by decide) (by decide) (by decide)
    have K2 := (Keep.refl h0 []).ext E2
    have Zs2 := Nat.le_trans Z0 E2.1
    refine Done.step st2 ?_
    show Done _ p e below s _ _ (T2.setTop (mkF m 6 #[oR t1, oI (Int32.ofNat f), oI (Int32.ofNat mm)] [(.ref aa)]))
    refine Done.retA (leavesW X2 hS (by first | exact hk | (rw [e2]; exact hk)) hlk (by decide) (by decide)) X2 hx hret rfl rfl (hb hby d22_6) ?_
    rw [e2]
    refine ⟨aa, bb, kk, rfl, N0, K2, EA, FA1, FA2, ?_⟩
    obtain rfl := (own_eq0 (by omega)).mp hc1
    exact FB
  · refine Done.step (fun _ => XS.ifYes X0.here hx rfl (pc0 := 1) (pc' := 7) rfl (hb hby d22_1) rfl (XT.i0_ne_t hc1) (by decide) (by decide)) ?_
    show Done _ p e below s _ _ (T0.setTop (mkF m 7 #[oR t1, oI (Int32.ofNat f), oI (Int32.ofNat mm)] []))
    obtain ⟨T3, h3, X3, e3, E3, A3, D3, -, st3⟩ := newO X0 hx hZ hown (wAt hw 101 rfl) (wAt hw 10 rfl) (wAt hw 11 rfl) e0 (g := (mkF m 7 #[oR t1, oI (Int32.ofNat f), oI (Int32.ofNat mm)] [])) rfl (hb hby d22_7) (by decide) (by decide)
    obtain ⟨b3, g3⟩ : ∃ z, z = h0.size := ⟨_, rfl⟩
    rw [← g3] at A3 D3 st3
    have ne_t1_b3 : t1 ≠ b3 := by rw [g3]; exact Nat.ne_of_lt gK1.lt
    have n0_b3 : n0 ≤ b3 := by rw [g3]; exact Z0
    have sz_b3 : h0.size ≤ b3 := by rw [g3]; exact (Keep.refl h0 []).1
    have K3 := (Keep.refl h0 []).ext E3
    have Zs3 := Nat.le_trans Z0 E3.1
    have hk := Nat.le_trans hk E3.1
    have F_value_b3 : Fld Z h3 b3 "java/lang/String" "value" "[B" .null := D3 (Or.inr (wAt hw 25 rfl)) (ty := (.array .byte)) (by decide)
    have F_coder_b3 : Fld Z h3 b3 "java/lang/String" "coder" "B" (.int (0 : Int32)) := D3 (Or.inr (wAt hw 26 rfl)) (ty := .byte) (by decide)
    refine Done.step st3 ?_
    show Done _ p e below s _ _ (T3.setTop (mkF m 10 #[oR t1, oI (Int32.ofNat f), oI (Int32.ofNat mm)] [(.ref b3)]))
    refine Done.step (fun _ => XS.dup X3.here hx rfl (hb hby d22_10) rfl rfl) ?_
    show Done _ p e below s _ _ (T3.setTop (mkF m 11 #[oR t1, oI (Int32.ofNat f), oI (Int32.ofNat mm)] [(.ref b3), (.ref b3)]))
    refine Done.step (fun _ => XS.aloadN X3.here hx rfl (hb hby d22_11) rfl rfl) ?_
    show Done _ p e below s _ _ (T3.setTop (mkF m 12 #[oR t1, oI (Int32.ofNat f), oI (Int32.ofNat mm)] [(.ref t1), (.ref b3), (.ref b3)]))
    refine Done.step (fun _ => XS.iloadN X3.here hx rfl (hb hby d22_12) rfl) ?_
    show Done _ p e below s _ _ (T3.setTop (mkF m 13 #[oR t1, oI (Int32.ofNat f), oI (Int32.ofNat mm)] [(.int (Int32.ofNat f)), (.ref t1), (.ref b3), (.ref b3)]))
    refine Done.step (fun _ => XS.iloadN X3.here hx rfl (hb hby d22_13) rfl) ?_
    show Done _ p e below s _ _ (T3.setTop (mkF m 14 #[oR t1, oI (Int32.ofNat f), oI (Int32.ofNat mm)] [(.int (Int32.ofNat f)), (.int (Int32.ofNat f)), (.ref t1), (.ref b3), (.ref b3)]))
    refine Done.step (fun _ => XS.iloadN X3.here hx rfl (hb hby d22_14) rfl) ?_
    show Done _ p e below s _ _ (T3.setTop (mkF m 15 #[oR t1, oI (Int32.ofNat f), oI (Int32.ofNat mm)] [(.int (Int32.ofNat mm)), (.int (Int32.ofNat f)), (.int (Int32.ofNat f)), (.ref t1), (.ref b3), (.ref b3)]))
    refine Done.step (fun _ => XS.iadd X3.here hx rfl (hb hby d22_15) rfl) ?_
    show Done _ p e below s _ _ (T3.setTop (mkF m 16 #[oR t1, oI (Int32.ofNat f), oI (Int32.ofNat mm)] [(.int ((Int32.ofNat f) + (Int32.ofNat mm))), (.int (Int32.ofNat f)), (.ref t1), (.ref b3), (.ref b3)]))
    rw [own_addN f mm]
    show Done _ p e below s _ _ (T3.setTop (mkF m 16 #[oR t1, oI (Int32.ofNat f), oI (Int32.ofNat mm)] [(.int (Int32.ofNat (f + mm))), (.int (Int32.ofNat f)), (.ref t1), (.ref b3), (.ref b3)]))
    have f4 := (O0.ext E3)
    have f5 := (gK1.ext E3)
    refine Done.callS X3 hx hZ hown (wAt hw 102 rfl) (wAt hw 103 rfl) (wAt hw 104 rfl) (wAt hw 105 rfl) (by decide) (rCR l Z a0 hw [] t1 kb1 (own_ll cs) f (f + mm) cs.length h3 n0 Zs3 f4 f5 (by omega) (by omega) hfm (own_llL cs) (fun q => hne ⟨q.1, by omega⟩)) (fun _ _ => trivial) e3 (g := (mkF m 16 #[oR t1, oI (Int32.ofNat f), oI (Int32.ofNat mm)] [(.int (Int32.ofNat (f + mm))), (.int (Int32.ofNat f)), (.ref t1), (.ref b3), (.ref b3)])) rfl (by rw [hml]; rfl) [(.ref t1), (.int (Int32.ofNat f)), (.int (Int32.ofNat (f + mm)))] [(.ref b3), (.ref b3)] 2 (lenOf pd_5 rfl) rfl rfl (by show 2 * 0 + _ ≤ _; exact Nat.le_of_eq rfl) (hb hby d22_16) (by decide) (by decide) (by decide) (by decide) ?_
    intro T6 v6 L6 X6 q6
    obtain ⟨bV, kV, rfl, Nq6, K6q, szb, VBv⟩ := q6
    have N6 := Fr.app N0 Nq6
    have Zs6 := Nat.le_trans Zs3 K6q.1
    have hk := Nat.le_trans hk K6q.1
    have K6 := K3.trans K6q all0
    show Done _ p e below s _ _ (T6.setTop (mkF m 19 #[oR t1, oI (Int32.ofNat f), oI (Int32.ofNat mm)] [(.ref bV), (.ref b3), (.ref b3)]))
    rw [Nat.add_sub_cancel_left, own_llS] at VBv
    have nbx : bV ≠ b3 := Nat.ne_of_gt (Nat.lt_of_lt_of_le A3.lt szb)
    refine Done.step (fun _ => XT.iconstV X6.here hx rfl (0 : Int32) (hb hby d22_19) (by decide)) ?_
    show Done _ p e below s _ _ (T6.setTop (mkF m 20 #[oR t1, oI (Int32.ofNat f), oI (Int32.ofNat mm)] [(.int (0 : Int32)), (.ref bV), (.ref b3), (.ref b3)]))
    have f7 := (A3.keep K6q)
    have f8 := (F_value_b3.keep K6q nin0)
    have f9 := (F_coder_b3.keep K6q nin0)
    have f10 := (f4.keep K6q all0)
    refine Done.callI X6 hx hZ rfl hown (wAt hw 119 rfl) (wAt hw 120 rfl) (wAt hw 11 rfl) (wAt hw 121 rfl) (by decide) (vI0 l Z a0 hw [] b3 bV T6.heap n0 Zs6 f7 f8 f9 n0_b3 f10) (fun _ _ => trivial) rfl (g := (mkF m 20 #[oR t1, oI (Int32.ofNat f), oI (Int32.ofNat mm)] [(.int (0 : Int32)), (.ref bV), (.ref b3), (.ref b3)])) rfl (by rw [hml]; rfl) b3 [(.ref bV), (.int (0 : Int32))] [(.ref b3)] 1 (lenOf pd_17 rfl) rfl rfl (by show 2 * 0 + _ ≤ _; exact Nat.le_of_eq rfl) (hb hby d22_20) (by decide) (by decide) (by decide) (by decide) ?_
    intro T11 v11 L11 X11 q11
    obtain ⟨rfl, Nq11, K11q, f11_0, f11_1, f11_2⟩ := q11
    have N11 := Fr.app N6 Nq11
    have Zs11 := Nat.le_trans Zs6 K11q.1
    have hk := Nat.le_trans hk K11q.1
    have K11 := K6.trans K11q (allS (Or.inr sz_b3) all0)
    show Done _ p e below s _ _ (T11.setTop (mkF m 23 #[oR t1, oI (Int32.ofNat f), oI (Int32.ofNat mm)] [(.ref b3)]))
    have f12 := (VBv.keep K11q (ninS nbx nin0))
    exact Done.retA (leavesW X11 hS (by first | exact hk | (rw [rfl]; exact hk)) hlk (by decide) (by decide)) X11 hx hret rfl rfl (hb hby d22_23) ⟨b3, bV, kV, rfl, N11, K11, f11_0, f11_1, f11_2, f12⟩
theorem d40_0 : decode jdk_52_method_94_code 0 = .ok (.iload_n 0, 1) := by decide +kernel
theorem d40_1 : decode jdk_52_method_94_code 1 = .ok (.iload_n 1, 1) := by decide +kernel
theorem d40_2 : decode jdk_52_method_94_code 2 = .ok (.aload_n 2, 1) := by decide +kernel
theorem d40_3 : decode jdk_52_method_94_code 3 = .ok (.invokestatic 48, 3) := by decide +kernel
theorem d40_6 : decode jdk_52_method_94_code 6 = .ok (.invokestatic 419, 3) := by decide +kernel
theorem pd_18 : parseMethodDescriptor "(III)I" = some ⟨[.int, .int, .int], some .int⟩ := by decide +kernel
theorem d40_9 : decode jdk_52_method_94_code 9 = .ok (.pop, 1) := by decide +kernel
theorem d40_10 : decode jdk_52_method_94_code 10 = .ok (.return_, 1) := by decide +kernel
set_option maxRecDepth 65536 in
set_option maxHeartbeats 40000000 in
theorem rUB (l : Launch) (Z : State) (a0 : Array Value) (hw : ∀ d ∈ tables_1, d.before a0 Z = true) (ws : List Jvm.Cond) (t1 : Addr) (kb1 : ClassId) (cs : List Int32) (f mm : Nat) (z : Int32) (fm : Value) (h0 : Heap) (n0 : Nat) (Z0 : n0 ≤ h0.size) (O0 : Old Z n0 h0) (SC : Sta Z Z.heap "java/lang/String" "COMPACT_STRINGS" "Z" (.int z)) (hz : ¬ z = 0) (SF : Sta Z Z.heap "jdk/internal/util/Preconditions" "SIOOBE_FORMATTER" "Ljava/util/function/BiFunction;" fm) (rF : fm.isRef = true) (SA : Sta Z Z.heap "java/lang/StringUTF16" "$assertionsDisabled" "Z" (.int (1 : Int32))) (SH : Sta Z Z.heap "java/lang/StringUTF16" "HI_BYTE_SHIFT" "I" (.int (0 : Int32))) (SL : Sta Z Z.heap "java/lang/StringUTF16" "LO_BYTE_SHIFT" "I" (.int (8 : Int32))) (gK1 : Arv Z h0 t1 kb1 .byte (Int32.ofNat (2 * cs.length)) (own_hl cs) (.int (0 : Int32))) (hn : cs.length ≤ 4) (hfm : f + mm ≤ cs.length) :
    Ctr FrameEnd l Z (⟨"java/lang/StringUTF16", "checkBoundsOffCount", "(II[B)V"⟩ : MethodName) jdk_52_method_94_code 3 none ws ({ frames := 2, cells := 0, slots := 0, locals := 34 } : Room) #[(.int (Int32.ofNat f)), (.int (Int32.ofNat mm)), (.ref t1)] h0 TrueV (PureQ none h0) := by
  refine Ctr.intro (plainFor_of_name pn_java_lang_StringUTF16) (Ls := #[.val (.int (Int32.ofNat f)), .val (.int (Int32.ofNat mm)), .val (.ref t1)]) (fun m => by first | (simp [entryFrame, mkF, argsToLocals, Value.category]; done) | rfl) ?_
  intro p e s m below meth c T0 hx hby hml hown hnm hret hlk hZ hV hsh e0 X0
  have N0 := Fr.nil n0
  show Done _ p e below s _ _ (T0.setTop (mkF m 0 #[oI (Int32.ofNat f), oI (Int32.ofNat mm), oR t1] []))
  refine Done.step (fun _ => XS.iloadN X0.here hx rfl (hb hby d40_0) rfl) ?_
  show Done _ p e below s _ _ (T0.setTop (mkF m 1 #[oI (Int32.ofNat f), oI (Int32.ofNat mm), oR t1] [(.int (Int32.ofNat f))]))
  refine Done.step (fun _ => XS.iloadN X0.here hx rfl (hb hby d40_1) rfl) ?_
  show Done _ p e below s _ _ (T0.setTop (mkF m 2 #[oI (Int32.ofNat f), oI (Int32.ofNat mm), oR t1] [(.int (Int32.ofNat mm)), (.int (Int32.ofNat f))]))
  refine Done.step (fun _ => XS.aloadN X0.here hx rfl (hb hby d40_2) rfl rfl) ?_
  show Done _ p e below s _ _ (T0.setTop (mkF m 3 #[oI (Int32.ofNat f), oI (Int32.ofNat mm), oR t1] [(.ref t1), (.int (Int32.ofNat mm)), (.int (Int32.ofNat f))]))
  refine Done.callSP X0 hx hZ hown (wAt hw 152 rfl) (wAt hw 153 rfl) (wAt hw 67 rfl) (wAt hw 154 rfl) (by decide) (rU l Z a0 hw [] t1 kb1 cs z fm h0 n0 Z0 O0 SC hz SF rF SA SH SL gK1 hn) e0 (g := (mkF m 3 #[oI (Int32.ofNat f), oI (Int32.ofNat mm), oR t1] [(.ref t1), (.int (Int32.ofNat mm)), (.int (Int32.ofNat f))])) rfl (by rw [hml]; rfl) [(.ref t1)] [(.int (Int32.ofNat mm)), (.int (Int32.ofNat f))] 2 (lenOf pd_6 rfl) rfl rfl (by show 2 * 0 + _ ≤ _; exact Nat.le_of_eq rfl) (hb hby d40_3) (by decide) (by decide) (by decide) (by decide) rfl rfl ?_
  intro T1 X1 e1
  show Done _ p e below s _ _ (T1.setTop (mkF m 6 #[oI (Int32.ofNat f), oI (Int32.ofNat mm), oR t1] [(.int (Int32.ofNat cs.length)), (.int (Int32.ofNat mm)), (.int (Int32.ofNat f))]))
  refine Done.callSP X1 hx hZ hown (wAt hw 169 rfl) (wAt hw 170 rfl) (wAt hw 11 rfl) (wAt hw 171 rfl) (by decide) (rBO l Z a0 hw [] f mm cs.length z fm h0 n0 Z0 O0 SC hz SF rF SA SH SL hfm (by omega)) e1 (g := (mkF m 6 #[oI (Int32.ofNat f), oI (Int32.ofNat mm), oR t1] [(.int (Int32.ofNat cs.length)), (.int (Int32.ofNat mm)), (.int (Int32.ofNat f))])) rfl (by rw [hml]; rfl) [(.int (Int32.ofNat f)), (.int (Int32.ofNat mm)), (.int (Int32.ofNat cs.length))] [] 0 (lenOf pd_18 rfl) rfl rfl (by show 2 * 0 + _ ≤ _; exact Nat.le_of_eq rfl) (hb hby d40_6) (by decide) (by decide) (by decide) (by decide) rfl rfl ?_
  intro T2 X2 e2
  show Done _ p e below s _ _ (T2.setTop (mkF m 9 #[oI (Int32.ofNat f), oI (Int32.ofNat mm), oR t1] [(.int (Int32.ofNat f))]))
  refine Done.step (fun _ => XT.pop X2.here hx rfl (hb hby d40_9) rfl rfl) ?_
  show Done _ p e below s _ _ (T2.setTop (mkF m 10 #[oI (Int32.ofNat f), oI (Int32.ofNat mm), oR t1] []))
  exact Done.retV (leavesF X2 hlk (by decide) (by decide)) X2 hx hret (hb hby d40_10) ⟨rfl, e2, rfl⟩
theorem own_nx {cs : List Int32} {f i mm : Nat} (h : ∃ q, i ≤ q ∧ q < mm ∧ (255 : Int32) < cs.getD (f + q) 0) (g : ¬ (255 : Int32) < cs.getD (f + i) 0) : ∃ q, i + 1 ≤ q ∧ q < mm ∧ (255 : Int32) < cs.getD (f + q) 0 := by
  obtain ⟨q, h1, h2, h3⟩ := h
  refine ⟨q, ?_, h2, h3⟩
  rcases Nat.lt_or_ge i q with h | h
  · exact h
  · have e : q = i := by omega
    subst e; exact absurd h3 g
theorem d39_0 : decode jdk_52_method_22_code 0 = .ok (.iload_n 1, 1) := by decide +kernel
theorem d39_1 : decode jdk_52_method_22_code 1 = .ok (.iload 4, 2) := by decide +kernel
theorem d39_3 : decode jdk_52_method_22_code 3 = .ok (.aload_n 0, 1) := by decide +kernel
theorem d39_4 : decode jdk_52_method_22_code 4 = .ok (.invokestatic 173, 3) := by decide +kernel
theorem pd_19 : parseMethodDescriptor "(II[B)V" = some ⟨[.int, .int, (.array .byte)], none⟩ := by decide +kernel
theorem d39_7 : decode jdk_52_method_22_code 7 = .ok (.iconst 0, 1) := by decide +kernel
theorem d39_8 : decode jdk_52_method_22_code 8 = .ok (.istore 5, 2) := by decide +kernel
theorem d39_10 : decode jdk_52_method_22_code 10 = .ok (.iload 5, 2) := by decide +kernel
theorem d39_12 : decode jdk_52_method_22_code 12 = .ok (.iload 4, 2) := by decide +kernel
theorem d39_14 : decode jdk_52_method_22_code 14 = .ok (.if_icmp .ge 39, 3) := by decide +kernel
theorem d39_17 : decode jdk_52_method_22_code 17 = .ok (.aload_n 0, 1) := by decide +kernel
theorem d39_18 : decode jdk_52_method_22_code 18 = .ok (.iload_n 1, 1) := by decide +kernel
theorem d39_19 : decode jdk_52_method_22_code 19 = .ok (.invokestatic 71, 3) := by decide +kernel
theorem d39_22 : decode jdk_52_method_22_code 22 = .ok (.istore 6, 2) := by decide +kernel
theorem d39_24 : decode jdk_52_method_22_code 24 = .ok (.iload 6, 2) := by decide +kernel
theorem d39_26 : decode jdk_52_method_22_code 26 = .ok (.sipush 255, 3) := by decide +kernel
theorem d39_29 : decode jdk_52_method_22_code 29 = .ok (.if_icmp .le 6, 3) := by decide +kernel
theorem d39_32 : decode jdk_52_method_22_code 32 = .ok (.iload 5, 2) := by decide +kernel
theorem d39_34 : decode jdk_52_method_22_code 34 = .ok (.ireturn, 1) := by decide +kernel
theorem d39_35 : decode jdk_52_method_22_code 35 = .ok (.aload_n 2, 1) := by decide +kernel
theorem d39_36 : decode jdk_52_method_22_code 36 = .ok (.iload_n 3, 1) := by decide +kernel
theorem d39_37 : decode jdk_52_method_22_code 37 = .ok (.iload 6, 2) := by decide +kernel
theorem d39_39 : decode jdk_52_method_22_code 39 = .ok (.i2b, 1) := by decide +kernel
theorem d39_40 : decode jdk_52_method_22_code 40 = .ok (.bastore, 1) := by decide +kernel
theorem d39_41 : decode jdk_52_method_22_code 41 = .ok (.iinc 1 1, 3) := by decide +kernel
theorem d39_44 : decode jdk_52_method_22_code 44 = .ok (.iinc 3 1, 3) := by decide +kernel
theorem d39_47 : decode jdk_52_method_22_code 47 = .ok (.iinc 5 1, 3) := by decide +kernel
theorem d39_50 : decode jdk_52_method_22_code 50 = .ok (.goto (-40), 3) := by decide +kernel
set_option maxRecDepth 65536 in
set_option maxHeartbeats 40000000 in
theorem rC5 (l : Launch) (Z : State) (a0 : Array Value) (hw : ∀ d ∈ tables_1, d.before a0 Z = true) (ws : List Jvm.Cond) (t1 : Addr) (kb1 : ClassId) (cs : List Int32) (f mm : Nat) (dA : Addr) (kd : ClassId) (D0 : List Value) (z : Int32) (fm : Value) (h0 : Heap) (n0 : Nat) (Z0 : n0 ≤ h0.size) (O0 : Old Z n0 h0) (SC : Sta Z Z.heap "java/lang/String" "COMPACT_STRINGS" "Z" (.int z)) (hz : ¬ z = 0) (SF : Sta Z Z.heap "jdk/internal/util/Preconditions" "SIOOBE_FORMATTER" "Ljava/util/function/BiFunction;" fm) (rF : fm.isRef = true) (SA : Sta Z Z.heap "java/lang/StringUTF16" "$assertionsDisabled" "Z" (.int (1 : Int32))) (SH : Sta Z Z.heap "java/lang/StringUTF16" "HI_BYTE_SHIFT" "I" (.int (0 : Int32))) (SL : Sta Z Z.heap "java/lang/StringUTF16" "LO_BYTE_SHIFT" "I" (.int (8 : Int32))) (gK1 : Arv Z h0 t1 kb1 .byte (Int32.ofNat (2 * cs.length)) (own_hl cs) (.int (0 : Int32))) (hn : cs.length ≤ 4) (hfm : f + mm ≤ cs.length) (hbc : ∀ c ∈ cs, ¬ c < 0 ∧ ¬ (65535 : Int32) < c) (VD : Arv Z h0 dA kd .byte (Int32.ofNat mm) D0 (.int (0 : Int32))) (hD : D0.length = mm) (gd : n0 ≤ dA) (nd : t1 ≠ dA) (hex : ∃ q, q < mm ∧ (255 : Int32) < cs.getD (f + q) 0) :
    Ctr FrameEnd l Z (⟨"java/lang/StringUTF16", "compress", "([BI[BII)I"⟩ : MethodName) jdk_52_method_22_code 7 (some .int) ws ({ frames := 3, cells := 0, slots := 0, locals := 56 } : Room) #[(.ref t1), (.int (Int32.ofNat f)), (.ref dA), (.int (0 : Int32)), (.int (Int32.ofNat mm))] h0 TrueV (fun v h _ L => Fr n0 L ∧ Keep h0 h [dA] ∧ ∃ k, k < mm ∧ v = some (.int (Int32.ofNat k)) ∧ (255 : Int32) < cs.getD (f + k) 0) := by
  refine Ctr.intro (plainFor_of_name pn_java_lang_StringUTF16) (Ls := #[.val (.ref t1), .val (.int (Int32.ofNat f)), .val (.ref dA), .val (.int (0 : Int32)), .val (.int (Int32.ofNat mm)), .unset, .unset]) (fun m => by first | (simp [entryFrame, mkF, argsToLocals, Value.category]; done) | rfl) ?_
  intro p e s m below meth c T0 hx hby hml hown hnm hret hlk hZ hV hsh e0 X0
  have N0 := Fr.nil n0
  show Done _ p e below s _ _ (T0.setTop (mkF m 0 #[oR t1, oI (Int32.ofNat f), oR dA, oI (0 : Int32), oI (Int32.ofNat mm), .unset, .unset] []))
  refine Done.step (fun _ => XS.iloadN X0.here hx rfl (hb hby d39_0) rfl) ?_
  show Done _ p e below s _ _ (T0.setTop (mkF m 1 #[oR t1, oI (Int32.ofNat f), oR dA, oI (0 : Int32), oI (Int32.ofNat mm), .unset, .unset] [(.int (Int32.ofNat f))]))
  refine Done.step (fun _ => XS.iload X0.here hx rfl (hb hby d39_1) rfl) ?_
  show Done _ p e below s _ _ (T0.setTop (mkF m 3 #[oR t1, oI (Int32.ofNat f), oR dA, oI (0 : Int32), oI (Int32.ofNat mm), .unset, .unset] [(.int (Int32.ofNat mm)), (.int (Int32.ofNat f))]))
  refine Done.step (fun _ => XS.aloadN X0.here hx rfl (hb hby d39_3) rfl rfl) ?_
  show Done _ p e below s _ _ (T0.setTop (mkF m 4 #[oR t1, oI (Int32.ofNat f), oR dA, oI (0 : Int32), oI (Int32.ofNat mm), .unset, .unset] [(.ref t1), (.int (Int32.ofNat mm)), (.int (Int32.ofNat f))]))
  refine Done.callSP X0 hx hZ hown (wAt hw 166 rfl) (wAt hw 167 rfl) (wAt hw 67 rfl) (wAt hw 168 rfl) (by decide) (rUB l Z a0 hw [] t1 kb1 cs f mm z fm h0 n0 Z0 O0 SC hz SF rF SA SH SL gK1 hn hfm) e0 (g := (mkF m 4 #[oR t1, oI (Int32.ofNat f), oR dA, oI (0 : Int32), oI (Int32.ofNat mm), .unset, .unset] [(.ref t1), (.int (Int32.ofNat mm)), (.int (Int32.ofNat f))])) rfl (by rw [hml]; rfl) [(.int (Int32.ofNat f)), (.int (Int32.ofNat mm)), (.ref t1)] [] 0 (lenOf pd_19 rfl) rfl rfl (by show 2 * 0 + _ ≤ _; exact Nat.le_of_eq rfl) (hb hby d39_4) (by decide) (by decide) (by decide) (by decide) rfl rfl ?_
  intro T1 X1 e1
  show Done _ p e below s _ _ (T1.setTop (mkF m 7 #[oR t1, oI (Int32.ofNat f), oR dA, oI (0 : Int32), oI (Int32.ofNat mm), .unset, .unset] []))
  refine Done.step (fun _ => XT.iconstV X1.here hx rfl (0 : Int32) (hb hby d39_7) (by decide)) ?_
  show Done _ p e below s _ _ (T1.setTop (mkF m 8 #[oR t1, oI (Int32.ofNat f), oR dA, oI (0 : Int32), oI (Int32.ofNat mm), .unset, .unset] [(.int (0 : Int32))]))
  refine Done.step (fun _ => XS.istore X1.here hx rfl (hb hby d39_8) rfl (l' := #[oR t1, oI (Int32.ofNat f), oR dA, oI (0 : Int32), oI (Int32.ofNat mm), oI (0 : Int32), .unset]) rfl) ?_
  show Done _ p e below s _ _ (T1.setTop (mkF m 10 #[oR t1, oI (Int32.ofNat f), oR dA, oI (0 : Int32), oI (Int32.ofNat mm), oI (0 : Int32), .unset] []))
  have KI : ∀ (kk : Nat) (i : Nat) (hik : i + kk = mm) (hex : ∃ q, i ≤ q ∧ q < mm ∧ (255 : Int32) < cs.getD (f + q) 0) (sl : Slot) (hsl : sl = .unset ∨ ∃ y, sl = .val (.int y)) (hL : Heap) (D : List Value) (hD : D.length = mm) (KL : Keep h0 hL [dA]) (K1L : Arv Z hL t1 kb1 .byte (Int32.ofNat (2 * cs.length)) (own_hl cs) (.int (0 : Int32))) (VDL : Arv Z hL dA kd .byte (Int32.ofNat mm) D (.int (0 : Int32))) (locL : List Loc) (NL : Fr n0 locL) (ZL : n0 ≤ hL.size) (OL : Old Z n0 hL) (TL : State) (eL : TL.heap = hL) (XL : Stand p l e ({ frames := 3, cells := 0, slots := 0, locals := 56 } : Room) s m #[(.ref t1), (.int (Int32.ofNat f)), (.ref dA), (.int (0 : Int32)), (.int (Int32.ofNat mm))] below meth c TL locL 0 0), Done FrameEnd p e below s ({ frames := 3, cells := 0, slots := 0, locals := 56 } : Room) (fun v h _ L => Fr n0 L ∧ Keep h0 h [dA] ∧ ∃ k, k < mm ∧ v = some (.int (Int32.ofNat k)) ∧ (255 : Int32) < cs.getD (f + k) 0) (TL.setTop (mkF m 10 #[oR t1, oI (Int32.ofNat (f + i)), oR dA, oI (Int32.ofNat i), oI (Int32.ofNat mm), oI (Int32.ofNat i), sl] [])) := by
    intro kk
    induction kk with
    | zero =>
      intro i hik hex sl hsl hL D hD KL K1L VDL locL NL ZL OL TL eL XL
      obtain ⟨q, h1, h2, -⟩ := hex; omega
    | succ kk ih =>
      intro i hik hex sl hsl hL D hD KL K1L VDL locL NL ZL OL TL eL XL
      show Done _ p e below s _ _ (TL.setTop (mkF m 10 #[oR t1, oI (Int32.ofNat (f + i)), oR dA, oI (Int32.ofNat i), oI (Int32.ofNat mm), oI (Int32.ofNat i), sl] []))
      refine Done.step (fun _ => XS.iload XL.here hx rfl (hb hby d39_10) rfl) ?_
      show Done _ p e below s _ _ (TL.setTop (mkF m 12 #[oR t1, oI (Int32.ofNat (f + i)), oR dA, oI (Int32.ofNat i), oI (Int32.ofNat mm), oI (Int32.ofNat i), sl] [(.int (Int32.ofNat i))]))
      refine Done.step (fun _ => XS.iload XL.here hx rfl (hb hby d39_12) rfl) ?_
      show Done _ p e below s _ _ (TL.setTop (mkF m 14 #[oR t1, oI (Int32.ofNat (f + i)), oR dA, oI (Int32.ofNat i), oI (Int32.ofNat mm), oI (Int32.ofNat i), sl] [(.int (Int32.ofNat mm)), (.int (Int32.ofNat i))]))
      refine Done.step (fun _ => XS.icmpNo XL.here hx rfl (hb hby d39_14) rfl (XT.ii_ge_f ((own_lt (by omega) (by omega)).mpr (by omega)))) ?_
      show Done _ p e below s _ _ (TL.setTop (mkF m 17 #[oR t1, oI (Int32.ofNat (f + i)), oR dA, oI (Int32.ofNat i), oI (Int32.ofNat mm), oI (Int32.ofNat i), sl] []))
      refine Done.step (fun _ => XS.aloadN XL.here hx rfl (hb hby d39_17) rfl rfl) ?_
      show Done _ p e below s _ _ (TL.setTop (mkF m 18 #[oR t1, oI (Int32.ofNat (f + i)), oR dA, oI (Int32.ofNat i), oI (Int32.ofNat mm), oI (Int32.ofNat i), sl] [(.ref t1)]))
      refine Done.step (fun _ => XS.iloadN XL.here hx rfl (hb hby d39_18) rfl) ?_
      show Done _ p e below s _ _ (TL.setTop (mkF m 19 #[oR t1, oI (Int32.ofNat (f + i)), oR dA, oI (Int32.ofNat i), oI (Int32.ofNat mm), oI (Int32.ofNat i), sl] [(.int (Int32.ofNat (f + i))), (.ref t1)]))
      refine Done.callSP XL hx hZ hown (wAt hw 143 rfl) (wAt hw 144 rfl) (wAt hw 67 rfl) (wAt hw 145 rfl) (by decide) (rG l Z a0 hw [] t1 kb1 cs (f + i) z fm hL n0 ZL OL SC hz SF rF SA SH SL K1L hn (by omega) hbc) eL (g := (mkF m 19 #[oR t1, oI (Int32.ofNat (f + i)), oR dA, oI (Int32.ofNat i), oI (Int32.ofNat mm), oI (Int32.ofNat i), sl] [(.int (Int32.ofNat (f + i))), (.ref t1)])) rfl (by rw [hml]; rfl) [(.ref t1), (.int (Int32.ofNat (f + i)))] [] 0 (lenOf pd_8 rfl) rfl rfl (by show 2 * 0 + _ ≤ _; exact Nat.le_of_eq rfl) (hb hby d39_19) (by decide) (by decide) (by decide) (by decide) rfl rfl ?_
      intro T2 X2 e2
      show Done _ p e below s _ _ (T2.setTop (mkF m 22 #[oR t1, oI (Int32.ofNat (f + i)), oR dA, oI (Int32.ofNat i), oI (Int32.ofNat mm), oI (Int32.ofNat i), sl] [(.int (cs.getD (f + i) 0))]))
      rcases hsl with rfl | ⟨yv, rfl⟩
      · show Done _ p e below s _ _ (T2.setTop (mkF m 22 #[oR t1, oI (Int32.ofNat (f + i)), oR dA, oI (Int32.ofNat i), oI (Int32.ofNat mm), oI (Int32.ofNat i), .unset] [(.int (cs.getD (f + i) 0))]))
        refine Done.step (fun _ => XS.istore X2.here hx rfl (hb hby d39_22) rfl (l' := #[oR t1, oI (Int32.ofNat (f + i)), oR dA, oI (Int32.ofNat i), oI (Int32.ofNat mm), oI (Int32.ofNat i), oI (cs.getD (f + i) 0)]) rfl) ?_
        show Done _ p e below s _ _ (T2.setTop (mkF m 24 #[oR t1, oI (Int32.ofNat (f + i)), oR dA, oI (Int32.ofNat i), oI (Int32.ofNat mm), oI (Int32.ofNat i), oI (cs.getD (f + i) 0)] []))
        refine Done.step (fun _ => XS.iload X2.here hx rfl (hb hby d39_24) rfl) ?_
        show Done _ p e below s _ _ (T2.setTop (mkF m 26 #[oR t1, oI (Int32.ofNat (f + i)), oR dA, oI (Int32.ofNat i), oI (Int32.ofNat mm), oI (Int32.ofNat i), oI (cs.getD (f + i) 0)] [(.int (cs.getD (f + i) 0))]))
        refine Done.step (fun _ => XT.sipushV X2.here hx rfl (255 : Int32) (hb hby d39_26) (by decide)) ?_
        show Done _ p e below s _ _ (T2.setTop (mkF m 29 #[oR t1, oI (Int32.ofNat (f + i)), oR dA, oI (Int32.ofNat i), oI (Int32.ofNat mm), oI (Int32.ofNat i), oI (cs.getD (f + i) 0)] [(.int (255 : Int32)), (.int (cs.getD (f + i) 0))]))
        by_cases hc3 : (255 : Int32) < (cs.getD (f + i) 0)
        · refine Done.step (fun _ => XS.icmpNo X2.here hx rfl (hb hby d39_29) rfl (XT.ii_le_f hc3)) ?_
          show Done _ p e below s _ _ (T2.setTop (mkF m 32 #[oR t1, oI (Int32.ofNat (f + i)), oR dA, oI (Int32.ofNat i), oI (Int32.ofNat mm), oI (Int32.ofNat i), oI (cs.getD (f + i) 0)] []))
          refine Done.step (fun _ => XS.iload X2.here hx rfl (hb hby d39_32) rfl) ?_
          show Done _ p e below s _ _ (T2.setTop (mkF m 34 #[oR t1, oI (Int32.ofNat (f + i)), oR dA, oI (Int32.ofNat i), oI (Int32.ofNat mm), oI (Int32.ofNat i), oI (cs.getD (f + i) 0)] [(.int (Int32.ofNat i))]))
          refine Done.retI (leavesF X2 hlk (by decide) (by decide)) X2 hx hret (hb hby d39_34) ?_
          rw [e2]
          exact ⟨NL, KL, i, by omega, rfl, hc3⟩
        · refine Done.step (fun _ => XS.icmpYes X2.here hx rfl (pc0 := 29) (pc' := 35) rfl (hb hby d39_29) rfl (XT.ii_le_t hc3) (by decide) (by decide)) ?_
          show Done _ p e below s _ _ (T2.setTop (mkF m 35 #[oR t1, oI (Int32.ofNat (f + i)), oR dA, oI (Int32.ofNat i), oI (Int32.ofNat mm), oI (Int32.ofNat i), oI (cs.getD (f + i) 0)] []))
          refine Done.step (fun _ => XS.aloadN X2.here hx rfl (hb hby d39_35) rfl rfl) ?_
          show Done _ p e below s _ _ (T2.setTop (mkF m 36 #[oR t1, oI (Int32.ofNat (f + i)), oR dA, oI (Int32.ofNat i), oI (Int32.ofNat mm), oI (Int32.ofNat i), oI (cs.getD (f + i) 0)] [(.ref dA)]))
          refine Done.step (fun _ => XS.iloadN X2.here hx rfl (hb hby d39_36) rfl) ?_
          show Done _ p e below s _ _ (T2.setTop (mkF m 37 #[oR t1, oI (Int32.ofNat (f + i)), oR dA, oI (Int32.ofNat i), oI (Int32.ofNat mm), oI (Int32.ofNat i), oI (cs.getD (f + i) 0)] [(.int (Int32.ofNat i)), (.ref dA)]))
          refine Done.step (fun _ => XS.iload X2.here hx rfl (hb hby d39_37) rfl) ?_
          show Done _ p e below s _ _ (T2.setTop (mkF m 39 #[oR t1, oI (Int32.ofNat (f + i)), oR dA, oI (Int32.ofNat i), oI (Int32.ofNat mm), oI (Int32.ofNat i), oI (cs.getD (f + i) 0)] [(.int (cs.getD (f + i) 0)), (.int (Int32.ofNat i)), (.ref dA)]))
          refine Done.step (fun _ => XT.i2b X2.here hx rfl (hb hby d39_39) rfl) ?_
          show Done _ p e below s _ _ (T2.setTop (mkF m 40 #[oR t1, oI (Int32.ofNat (f + i)), oR dA, oI (Int32.ofNat i), oI (Int32.ofNat mm), oI (Int32.ofNat i), oI (cs.getD (f + i) 0)] [(.int ((cs.getD (f + i) 0).toInt8.toInt32)), (.int (Int32.ofNat i)), (.ref dA)]))
          obtain ⟨cl4, Ar4, q4, S4, Nn4, H4, G4⟩ := id VDL
          have hin4 : ¬ ((Int32.ofNat i) < 0 ∨ cl4.slots.size ≤ ((Int32.ofNat i)).toNatClampNeg) := inb_of S4 (own_ix (by omega) (by omega))
          obtain ⟨T4, h4, X4, e4, W4, st4⟩ := stB X2 hx hZ e2 Ar4 (j := (Int32.ofNat i)) hin4 (g := (mkF m 40 #[oR t1, oI (Int32.ofNat (f + i)), oR dA, oI (Int32.ofNat i), oI (Int32.ofNat mm), oI (Int32.ofNat i), oI (cs.getD (f + i) 0)] [(.int ((cs.getD (f + i) 0).toInt8.toInt32)), (.int (Int32.ofNat i)), (.ref dA)])) rfl rfl (hb hby d39_40)
          have V4 := Arv.set Ar4 q4 S4 Nn4 H4 G4 (fits_nar_byte _) W4 i (own_tn (by omega)) (by omega)
          have N4 := Fr.snoc X4 NL gd
          have Zs4 := Nat.le_trans ZL (Keep.of_wr W4).1
          have K4 := KL.wr W4 (Or.inl (List.mem_of_getElem? (i := 0) rfl))
          refine Done.step st4 ?_
          show Done _ p e below s _ _ (T4.setTop (mkF m 41 #[oR t1, oI (Int32.ofNat (f + i)), oR dA, oI (Int32.ofNat i), oI (Int32.ofNat mm), oI (Int32.ofNat i), oI (cs.getD (f + i) 0)] []))
          refine Done.step (fun _ => XS.iinc X4.here hx rfl (hb hby d39_41) rfl (l' := #[oR t1, oI ((Int32.ofNat (f + i)) + (1 : Int32)), oR dA, oI (Int32.ofNat i), oI (Int32.ofNat mm), oI (Int32.ofNat i), oI (cs.getD (f + i) 0)]) rfl) ?_
          show Done _ p e below s _ _ (T4.setTop (mkF m 44 #[oR t1, oI ((Int32.ofNat (f + i)) + (1 : Int32)), oR dA, oI (Int32.ofNat i), oI (Int32.ofNat mm), oI (Int32.ofNat i), oI (cs.getD (f + i) 0)] []))
          refine Done.step (fun _ => XS.iinc X4.here hx rfl (hb hby d39_44) rfl (l' := #[oR t1, oI ((Int32.ofNat (f + i)) + (1 : Int32)), oR dA, oI ((Int32.ofNat i) + (1 : Int32)), oI (Int32.ofNat mm), oI (Int32.ofNat i), oI (cs.getD (f + i) 0)]) rfl) ?_
          show Done _ p e below s _ _ (T4.setTop (mkF m 47 #[oR t1, oI ((Int32.ofNat (f + i)) + (1 : Int32)), oR dA, oI ((Int32.ofNat i) + (1 : Int32)), oI (Int32.ofNat mm), oI (Int32.ofNat i), oI (cs.getD (f + i) 0)] []))
          refine Done.step (fun _ => XS.iinc X4.here hx rfl (hb hby d39_47) rfl (l' := #[oR t1, oI ((Int32.ofNat (f + i)) + (1 : Int32)), oR dA, oI ((Int32.ofNat i) + (1 : Int32)), oI (Int32.ofNat mm), oI ((Int32.ofNat i) + (1 : Int32)), oI (cs.getD (f + i) 0)]) rfl) ?_
          show Done _ p e below s _ _ (T4.setTop (mkF m 50 #[oR t1, oI ((Int32.ofNat (f + i)) + (1 : Int32)), oR dA, oI ((Int32.ofNat i) + (1 : Int32)), oI (Int32.ofNat mm), oI ((Int32.ofNat i) + (1 : Int32)), oI (cs.getD (f + i) 0)] []))
          refine Done.step (fun _ => XS.goto X4.here hx rfl (pc0 := 50) (pc' := 10) rfl (hb hby d39_50) (by decide) (by decide)) ?_
          show Done _ p e below s _ _ (T4.setTop (mkF m 10 #[oR t1, oI ((Int32.ofNat (f + i)) + (1 : Int32)), oR dA, oI ((Int32.ofNat i) + (1 : Int32)), oI (Int32.ofNat mm), oI ((Int32.ofNat i) + (1 : Int32)), oI (cs.getD (f + i) 0)] []))
          rw [own_inc (f + i), own_inc i]
          have f5 := (K1L.other W4 nd)
          have f6 := (OL.wr W4 gd)
          exact ih (i + 1) (by omega) (own_nx hex hc3) _ (Or.inr ⟨_, rfl⟩) _ _ (by rw [List.length_set]; exact hD) K4 f5 V4 _ N4 Zs4 f6 T4 e4 X4
      · show Done _ p e below s _ _ (T2.setTop (mkF m 22 #[oR t1, oI (Int32.ofNat (f + i)), oR dA, oI (Int32.ofNat i), oI (Int32.ofNat mm), oI (Int32.ofNat i), oI yv] [(.int (cs.getD (f + i) 0))]))
        refine Done.step (fun _ => XS.istore X2.here hx rfl (hb hby d39_22) rfl (l' := #[oR t1, oI (Int32.ofNat (f + i)), oR dA, oI (Int32.ofNat i), oI (Int32.ofNat mm), oI (Int32.ofNat i), oI (cs.getD (f + i) 0)]) rfl) ?_
        show Done _ p e below s _ _ (T2.setTop (mkF m 24 #[oR t1, oI (Int32.ofNat (f + i)), oR dA, oI (Int32.ofNat i), oI (Int32.ofNat mm), oI (Int32.ofNat i), oI (cs.getD (f + i) 0)] []))
        refine Done.step (fun _ => XS.iload X2.here hx rfl (hb hby d39_24) rfl) ?_
        show Done _ p e below s _ _ (T2.setTop (mkF m 26 #[oR t1, oI (Int32.ofNat (f + i)), oR dA, oI (Int32.ofNat i), oI (Int32.ofNat mm), oI (Int32.ofNat i), oI (cs.getD (f + i) 0)] [(.int (cs.getD (f + i) 0))]))
        refine Done.step (fun _ => XT.sipushV X2.here hx rfl (255 : Int32) (hb hby d39_26) (by decide)) ?_
        show Done _ p e below s _ _ (T2.setTop (mkF m 29 #[oR t1, oI (Int32.ofNat (f + i)), oR dA, oI (Int32.ofNat i), oI (Int32.ofNat mm), oI (Int32.ofNat i), oI (cs.getD (f + i) 0)] [(.int (255 : Int32)), (.int (cs.getD (f + i) 0))]))
        by_cases hc7 : (255 : Int32) < (cs.getD (f + i) 0)
        · refine Done.step (fun _ => XS.icmpNo X2.here hx rfl (hb hby d39_29) rfl (XT.ii_le_f hc7)) ?_
          show Done _ p e below s _ _ (T2.setTop (mkF m 32 #[oR t1, oI (Int32.ofNat (f + i)), oR dA, oI (Int32.ofNat i), oI (Int32.ofNat mm), oI (Int32.ofNat i), oI (cs.getD (f + i) 0)] []))
          refine Done.step (fun _ => XS.iload X2.here hx rfl (hb hby d39_32) rfl) ?_
          show Done _ p e below s _ _ (T2.setTop (mkF m 34 #[oR t1, oI (Int32.ofNat (f + i)), oR dA, oI (Int32.ofNat i), oI (Int32.ofNat mm), oI (Int32.ofNat i), oI (cs.getD (f + i) 0)] [(.int (Int32.ofNat i))]))
          refine Done.retI (leavesF X2 hlk (by decide) (by decide)) X2 hx hret (hb hby d39_34) ?_
          rw [e2]
          exact ⟨NL, KL, i, by omega, rfl, hc7⟩
        · refine Done.step (fun _ => XS.icmpYes X2.here hx rfl (pc0 := 29) (pc' := 35) rfl (hb hby d39_29) rfl (XT.ii_le_t hc7) (by decide) (by decide)) ?_
          show Done _ p e below s _ _ (T2.setTop (mkF m 35 #[oR t1, oI (Int32.ofNat (f + i)), oR dA, oI (Int32.ofNat i), oI (Int32.ofNat mm), oI (Int32.ofNat i), oI (cs.getD (f + i) 0)] []))
          refine Done.step (fun _ => XS.aloadN X2.here hx rfl (hb hby d39_35) rfl rfl) ?_
          show Done _ p e below s _ _ (T2.setTop (mkF m 36 #[oR t1, oI (Int32.ofNat (f + i)), oR dA, oI (Int32.ofNat i), oI (Int32.ofNat mm), oI (Int32.ofNat i), oI (cs.getD (f + i) 0)] [(.ref dA)]))
          refine Done.step (fun _ => XS.iloadN X2.here hx rfl (hb hby d39_36) rfl) ?_
          show Done _ p e below s _ _ (T2.setTop (mkF m 37 #[oR t1, oI (Int32.ofNat (f + i)), oR dA, oI (Int32.ofNat i), oI (Int32.ofNat mm), oI (Int32.ofNat i), oI (cs.getD (f + i) 0)] [(.int (Int32.ofNat i)), (.ref dA)]))
          refine Done.step (fun _ => XS.iload X2.here hx rfl (hb hby d39_37) rfl) ?_
          show Done _ p e below s _ _ (T2.setTop (mkF m 39 #[oR t1, oI (Int32.ofNat (f + i)), oR dA, oI (Int32.ofNat i), oI (Int32.ofNat mm), oI (Int32.ofNat i), oI (cs.getD (f + i) 0)] [(.int (cs.getD (f + i) 0)), (.int (Int32.ofNat i)), (.ref dA)]))
          refine Done.step (fun _ => XT.i2b X2.here hx rfl (hb hby d39_39) rfl) ?_
          show Done _ p e below s _ _ (T2.setTop (mkF m 40 #[oR t1, oI (Int32.ofNat (f + i)), oR dA, oI (Int32.ofNat i), oI (Int32.ofNat mm), oI (Int32.ofNat i), oI (cs.getD (f + i) 0)] [(.int ((cs.getD (f + i) 0).toInt8.toInt32)), (.int (Int32.ofNat i)), (.ref dA)]))
          obtain ⟨cl8, Ar8, q8, S8, Nn8, H8, G8⟩ := id VDL
          have hin8 : ¬ ((Int32.ofNat i) < 0 ∨ cl8.slots.size ≤ ((Int32.ofNat i)).toNatClampNeg) := inb_of S8 (own_ix (by omega) (by omega))
          obtain ⟨T8, h8, X8, e8, W8, st8⟩ := stB X2 hx hZ e2 Ar8 (j := (Int32.ofNat i)) hin8 (g := (mkF m 40 #[oR t1, oI (Int32.ofNat (f + i)), oR dA, oI (Int32.ofNat i), oI (Int32.ofNat mm), oI (Int32.ofNat i), oI (cs.getD (f + i) 0)] [(.int ((cs.getD (f + i) 0).toInt8.toInt32)), (.int (Int32.ofNat i)), (.ref dA)])) rfl rfl (hb hby d39_40)
          have V8 := Arv.set Ar8 q8 S8 Nn8 H8 G8 (fits_nar_byte _) W8 i (own_tn (by omega)) (by omega)
          have N8 := Fr.snoc X8 NL gd
          have Zs8 := Nat.le_trans ZL (Keep.of_wr W8).1
          have K8 := KL.wr W8 (Or.inl (List.mem_of_getElem? (i := 0) rfl))
          refine Done.step st8 ?_
          show Done _ p e below s _ _ (T8.setTop (mkF m 41 #[oR t1, oI (Int32.ofNat (f + i)), oR dA, oI (Int32.ofNat i), oI (Int32.ofNat mm), oI (Int32.ofNat i), oI (cs.getD (f + i) 0)] []))
          refine Done.step (fun _ => XS.iinc X8.here hx rfl (hb hby d39_41) rfl (l' := #[oR t1, oI ((Int32.ofNat (f + i)) + (1 : Int32)), oR dA, oI (Int32.ofNat i), oI (Int32.ofNat mm), oI (Int32.ofNat i), oI (cs.getD (f + i) 0)]) rfl) ?_
          show Done _ p e below s _ _ (T8.setTop (mkF m 44 #[oR t1, oI ((Int32.ofNat (f + i)) + (1 : Int32)), oR dA, oI (Int32.ofNat i), oI (Int32.ofNat mm), oI (Int32.ofNat i), oI (cs.getD (f + i) 0)] []))
          refine Done.step (fun _ => XS.iinc X8.here hx rfl (hb hby d39_44) rfl (l' := #[oR t1, oI ((Int32.ofNat (f + i)) + (1 : Int32)), oR dA, oI ((Int32.ofNat i) + (1 : Int32)), oI (Int32.ofNat mm), oI (Int32.ofNat i), oI (cs.getD (f + i) 0)]) rfl) ?_
          show Done _ p e below s _ _ (T8.setTop (mkF m 47 #[oR t1, oI ((Int32.ofNat (f + i)) + (1 : Int32)), oR dA, oI ((Int32.ofNat i) + (1 : Int32)), oI (Int32.ofNat mm), oI (Int32.ofNat i), oI (cs.getD (f + i) 0)] []))
          refine Done.step (fun _ => XS.iinc X8.here hx rfl (hb hby d39_47) rfl (l' := #[oR t1, oI ((Int32.ofNat (f + i)) + (1 : Int32)), oR dA, oI ((Int32.ofNat i) + (1 : Int32)), oI (Int32.ofNat mm), oI ((Int32.ofNat i) + (1 : Int32)), oI (cs.getD (f + i) 0)]) rfl) ?_
          show Done _ p e below s _ _ (T8.setTop (mkF m 50 #[oR t1, oI ((Int32.ofNat (f + i)) + (1 : Int32)), oR dA, oI ((Int32.ofNat i) + (1 : Int32)), oI (Int32.ofNat mm), oI ((Int32.ofNat i) + (1 : Int32)), oI (cs.getD (f + i) 0)] []))
          refine Done.step (fun _ => XS.goto X8.here hx rfl (pc0 := 50) (pc' := 10) rfl (hb hby d39_50) (by decide) (by decide)) ?_
          show Done _ p e below s _ _ (T8.setTop (mkF m 10 #[oR t1, oI ((Int32.ofNat (f + i)) + (1 : Int32)), oR dA, oI ((Int32.ofNat i) + (1 : Int32)), oI (Int32.ofNat mm), oI ((Int32.ofNat i) + (1 : Int32)), oI (cs.getD (f + i) 0)] []))
          rw [own_inc (f + i), own_inc i]
          have f9 := (K1L.other W8 nd)
          have f10 := (OL.wr W8 gd)
          exact ih (i + 1) (by omega) (own_nx hex hc7) _ (Or.inr ⟨_, rfl⟩) _ _ (by rw [List.length_set]; exact hD) K8 f9 V8 _ N8 Zs8 f10 T8 e8 X8
  exact KI mm 0 (by omega) (by obtain ⟨q, h1, h2⟩ := hex; exact ⟨q, Nat.zero_le _, h1, h2⟩) _ (Or.inl rfl) _ _ hD (Keep.refl h0 [dA]) gK1 VD _ N0 Z0 O0 T1 e1 X1
theorem own_2sub (f m : Nat) : 2 * (f + m) - 2 * f = 2 * m := by omega
theorem d38_0 : decode jdk_52_method_17_code 0 = .ok (.iload_n 2, 1) := by decide +kernel
theorem d38_1 : decode jdk_52_method_17_code 1 = .ok (.newarray .byte, 2) := by decide +kernel
theorem d38_3 : decode jdk_52_method_17_code 3 = .ok (.astore_n 3, 1) := by decide +kernel
theorem d38_4 : decode jdk_52_method_17_code 4 = .ok (.aload_n 0, 1) := by decide +kernel
theorem d38_5 : decode jdk_52_method_17_code 5 = .ok (.iload_n 1, 1) := by decide +kernel
theorem d38_6 : decode jdk_52_method_17_code 6 = .ok (.aload_n 3, 1) := by decide +kernel
theorem d38_7 : decode jdk_52_method_17_code 7 = .ok (.iconst 0, 1) := by decide +kernel
theorem d38_8 : decode jdk_52_method_17_code 8 = .ok (.iload_n 2, 1) := by decide +kernel
theorem d38_9 : decode jdk_52_method_17_code 9 = .ok (.invokestatic 123, 3) := by decide +kernel
theorem pd_20 : parseMethodDescriptor "([BI[BII)I" = some ⟨[(.array .byte), .int, (.array .byte), .int, .int], some .int⟩ := by decide +kernel
theorem d38_12 : decode jdk_52_method_17_code 12 = .ok (.istore 4, 2) := by decide +kernel
theorem d38_14 : decode jdk_52_method_17_code 14 = .ok (.iload 4, 2) := by decide +kernel
theorem d38_16 : decode jdk_52_method_17_code 16 = .ok (.iload_n 2, 1) := by decide +kernel
theorem d38_17 : decode jdk_52_method_17_code 17 = .ok (.if_icmp .eq 47, 3) := by decide +kernel
theorem d38_20 : decode jdk_52_method_17_code 20 = .ok (.aload_n 0, 1) := by decide +kernel
theorem d38_21 : decode jdk_52_method_17_code 21 = .ok (.iload_n 1, 1) := by decide +kernel
theorem d38_22 : decode jdk_52_method_17_code 22 = .ok (.iconst 1, 1) := by decide +kernel
theorem d38_23 : decode jdk_52_method_17_code 23 = .ok (.ishl, 1) := by decide +kernel
theorem d38_24 : decode jdk_52_method_17_code 24 = .ok (.iload_n 1, 1) := by decide +kernel
theorem d38_25 : decode jdk_52_method_17_code 25 = .ok (.iload_n 2, 1) := by decide +kernel
theorem d38_26 : decode jdk_52_method_17_code 26 = .ok (.iadd, 1) := by decide +kernel
theorem d38_27 : decode jdk_52_method_17_code 27 = .ok (.invokestatic 11, 3) := by decide +kernel
theorem d38_30 : decode jdk_52_method_17_code 30 = .ok (.invokestatic 126, 3) := by decide +kernel
theorem d38_33 : decode jdk_52_method_17_code 33 = .ok (.astore 5, 2) := by decide +kernel
theorem d38_35 : decode jdk_52_method_17_code 35 = .ok (.aload 5, 2) := by decide +kernel
theorem d38_37 : decode jdk_52_method_17_code 37 = .ok (.iload 4, 2) := by decide +kernel
theorem d38_39 : decode jdk_52_method_17_code 39 = .ok (.invokestatic 71, 3) := by decide +kernel
theorem d38_42 : decode jdk_52_method_17_code 42 = .ok (.sipush 255, 3) := by decide +kernel
theorem d38_45 : decode jdk_52_method_17_code 45 = .ok (.if_icmp .gt 16, 3) := by decide +kernel
theorem d38_61 : decode jdk_52_method_17_code 61 = .ok (.aload 5, 2) := by decide +kernel
theorem d38_63 : decode jdk_52_method_17_code 63 = .ok (.areturn, 1) := by decide +kernel
set_option maxRecDepth 65536 in
set_option maxHeartbeats 40000000 in
theorem rC3 (l : Launch) (Z : State) (a0 : Array Value) (hw : ∀ d ∈ tables_1, d.before a0 Z = true) (ws : List Jvm.Cond) (t1 : Addr) (kb1 : ClassId) (cs : List Int32) (f mm : Nat) (z : Int32) (fm : Value) (h0 : Heap) (n0 : Nat) (Z0 : n0 ≤ h0.size) (O0 : Old Z n0 h0) (SC : Sta Z Z.heap "java/lang/String" "COMPACT_STRINGS" "Z" (.int z)) (hz : ¬ z = 0) (SF : Sta Z Z.heap "jdk/internal/util/Preconditions" "SIOOBE_FORMATTER" "Ljava/util/function/BiFunction;" fm) (rF : fm.isRef = true) (SA : Sta Z Z.heap "java/lang/StringUTF16" "$assertionsDisabled" "Z" (.int (1 : Int32))) (SH : Sta Z Z.heap "java/lang/StringUTF16" "HI_BYTE_SHIFT" "I" (.int (0 : Int32))) (SL : Sta Z Z.heap "java/lang/StringUTF16" "LO_BYTE_SHIFT" "I" (.int (8 : Int32))) (gK1 : Arv Z h0 t1 kb1 .byte (Int32.ofNat (2 * cs.length)) (own_hl cs) (.int (0 : Int32))) (hn : cs.length ≤ 4) (hfm : f + mm ≤ cs.length) (hne : ¬ (f = 0 ∧ mm = cs.length)) (hbc : ∀ c ∈ cs, ¬ c < 0 ∧ ¬ (65535 : Int32) < c) (hex : ∃ q, q < mm ∧ (255 : Int32) < cs.getD (f + q) 0) :
    Ctr FrameEnd l Z (⟨"java/lang/StringUTF16", "compress", "([BII)[B"⟩ : MethodName) jdk_52_method_17_code 6 (some (.array .byte)) ws ({ frames := 4, cells := 2, slots := 12, locals := 78 } : Room) #[(.ref t1), (.int (Int32.ofNat f)), (.int (Int32.ofNat mm))] h0 TrueV (fun v h _ L => ∃ (b : Addr) (kb : ClassId), v = some (.ref b) ∧ Fr n0 L ∧ Keep h0 h [] ∧ h0.size ≤ b ∧ Arv Z h b kb .byte (Int32.ofNat (2 * mm)) (own_hl ((cs.drop f).take mm)) (.int (0 : Int32))) := by
  refine Ctr.intro (plainFor_of_name pn_java_lang_StringUTF16) (Ls := #[.val (.ref t1), .val (.int (Int32.ofNat f)), .val (.int (Int32.ofNat mm)), .unset, .unset, .unset]) (fun m => by first | (simp [entryFrame, mkF, argsToLocals, Value.category]; done) | rfl) ?_
  intro p e s m below meth c T0 hx hby hml hown hnm hret hlk hZ hV hsh e0 X0
  have N0 := Fr.nil n0
  show Done _ p e below s _ _ (T0.setTop (mkF m 0 #[oR t1, oI (Int32.ofNat f), oI (Int32.ofNat mm), .unset, .unset, .unset] []))
  refine Done.step (fun _ => XS.iloadN X0.here hx rfl (hb hby d38_0) rfl) ?_
  show Done _ p e below s _ _ (T0.setTop (mkF m 1 #[oR t1, oI (Int32.ofNat f), oI (Int32.ofNat mm), .unset, .unset, .unset] [(.int (Int32.ofNat mm))]))
  obtain ⟨T1, h1, k1, X1, e1, E1, A1, st1⟩ := newP X0 hx hZ (wAt hw 24 rfl) e0 (g := (mkF m 1 #[oR t1, oI (Int32.ofNat f), oI (Int32.ofNat mm), .unset, .unset, .unset] [(.int (Int32.ofNat mm))])) rfl (hb hby d38_1) rfl (own_nn0 (by omega)) (cap := 4) (by rw [own_tn (by omega)]; omega) (by decide) (by decide) (by decide)
  obtain ⟨b1, g1⟩ : ∃ z, z = h0.size := ⟨_, rfl⟩
  rw [← g1] at A1 st1
  have ne_t1_b1 : t1 ≠ b1 := by rw [g1]; exact Nat.ne_of_lt gK1.lt
  have n0_b1 : n0 ≤ b1 := by rw [g1]; exact Z0
  have sz_b1 : h0.size ≤ b1 := by rw [g1]; exact (Keep.refl h0 []).1
  have K1 := (Keep.refl h0 []).ext E1
  have Zs1 := Nat.le_trans Z0 E1.1
  have V_b1 : Arv Z h1 b1 k1 .byte (Int32.ofNat mm) (List.replicate mm (.int (0 : Int32))) (.int (0 : Int32)) := (Arv.new A1 (own_nn0 (by omega))).pad (pad_rep [] (.int (0 : Int32)) mm)
  refine Done.step st1 ?_
  show Done _ p e below s _ _ (T1.setTop (mkF m 3 #[oR t1, oI (Int32.ofNat f), oI (Int32.ofNat mm), .unset, .unset, .unset] [(.ref b1)]))
  refine Done.step (fun _ => XS.astoreN X1.here hx rfl (hb hby d38_3) rfl rfl (l' := #[oR t1, oI (Int32.ofNat f), oI (Int32.ofNat mm), oR b1, .unset, .unset]) rfl) ?_
  show Done _ p e below s _ _ (T1.setTop (mkF m 4 #[oR t1, oI (Int32.ofNat f), oI (Int32.ofNat mm), oR b1, .unset, .unset] []))
  refine Done.step (fun _ => XS.aloadN X1.here hx rfl (hb hby d38_4) rfl rfl) ?_
  show Done _ p e below s _ _ (T1.setTop (mkF m 5 #[oR t1, oI (Int32.ofNat f), oI (Int32.ofNat mm), oR b1, .unset, .unset] [(.ref t1)]))
  refine Done.step (fun _ => XS.iloadN X1.here hx rfl (hb hby d38_5) rfl) ?_
  show Done _ p e below s _ _ (T1.setTop (mkF m 6 #[oR t1, oI (Int32.ofNat f), oI (Int32.ofNat mm), oR b1, .unset, .unset] [(.int (Int32.ofNat f)), (.ref t1)]))
  refine Done.step (fun _ => XS.aloadN X1.here hx rfl (hb hby d38_6) rfl rfl) ?_
  show Done _ p e below s _ _ (T1.setTop (mkF m 7 #[oR t1, oI (Int32.ofNat f), oI (Int32.ofNat mm), oR b1, .unset, .unset] [(.ref b1), (.int (Int32.ofNat f)), (.ref t1)]))
  refine Done.step (fun _ => XT.iconstV X1.here hx rfl (0 : Int32) (hb hby d38_7) (by decide)) ?_
  show Done _ p e below s _ _ (T1.setTop (mkF m 8 #[oR t1, oI (Int32.ofNat f), oI (Int32.ofNat mm), oR b1, .unset, .unset] [(.int (0 : Int32)), (.ref b1), (.int (Int32.ofNat f)), (.ref t1)]))
  refine Done.step (fun _ => XS.iloadN X1.here hx rfl (hb hby d38_8) rfl) ?_
  show Done _ p e below s _ _ (T1.setTop (mkF m 9 #[oR t1, oI (Int32.ofNat f), oI (Int32.ofNat mm), oR b1, .unset, .unset] [(.int (Int32.ofNat mm)), (.int (0 : Int32)), (.ref b1), (.int (Int32.ofNat f)), (.ref t1)]))
  have f3 := (O0.ext E1)
  have f4 := (gK1.ext E1)
  refine Done.callS X1 hx hZ hown (wAt hw 163 rfl) (wAt hw 164 rfl) (wAt hw 67 rfl) (wAt hw 165 rfl) (by decide) (rC5 l Z a0 hw [] t1 kb1 cs f mm b1 k1 (List.replicate mm (.int (0 : Int32))) z fm h1 n0 Zs1 f3 SC hz SF rF SA SH SL f4 hn hfm hbc V_b1 (List.length_replicate ..) n0_b1 ne_t1_b1 hex) (fun _ _ => trivial) e1 (g := (mkF m 9 #[oR t1, oI (Int32.ofNat f), oI (Int32.ofNat mm), oR b1, .unset, .unset] [(.int (Int32.ofNat mm)), (.int (0 : Int32)), (.ref b1), (.int (Int32.ofNat f)), (.ref t1)])) rfl (by rw [hml]; rfl) [(.ref t1), (.int (Int32.ofNat f)), (.ref b1), (.int (0 : Int32)), (.int (Int32.ofNat mm))] [] 0 (lenOf pd_20 rfl) rfl rfl (by show 2 * 0 + _ ≤ _; exact Nat.le_of_eq rfl) (hb hby d38_9) (by decide) (by decide) (by decide) (by decide) ?_
  intro T2 v2 L2 X2 q2
  obtain ⟨Nq2, K2q, k, hkm, rfl, hbig⟩ := q2
  have N2 := Fr.app N0 Nq2
  have Zs2 := Nat.le_trans Zs1 K2q.1
  have K2 := K1.trans K2q (allS (Or.inr sz_b1) all0)
  show Done _ p e below s _ _ (T2.setTop (mkF m 12 #[oR t1, oI (Int32.ofNat f), oI (Int32.ofNat mm), oR b1, .unset, .unset] [(.int (Int32.ofNat k))]))
  refine Done.step (fun _ => XS.istore X2.here hx rfl (hb hby d38_12) rfl (l' := #[oR t1, oI (Int32.ofNat f), oI (Int32.ofNat mm), oR b1, oI (Int32.ofNat k), .unset]) rfl) ?_
  show Done _ p e below s _ _ (T2.setTop (mkF m 14 #[oR t1, oI (Int32.ofNat f), oI (Int32.ofNat mm), oR b1, oI (Int32.ofNat k), .unset] []))
  refine Done.step (fun _ => XS.iload X2.here hx rfl (hb hby d38_14) rfl) ?_
  show Done _ p e below s _ _ (T2.setTop (mkF m 16 #[oR t1, oI (Int32.ofNat f), oI (Int32.ofNat mm), oR b1, oI (Int32.ofNat k), .unset] [(.int (Int32.ofNat k))]))
  refine Done.step (fun _ => XS.iloadN X2.here hx rfl (hb hby d38_16) rfl) ?_
  show Done _ p e below s _ _ (T2.setTop (mkF m 17 #[oR t1, oI (Int32.ofNat f), oI (Int32.ofNat mm), oR b1, oI (Int32.ofNat k), .unset] [(.int (Int32.ofNat mm)), (.int (Int32.ofNat k))]))
  refine Done.step (fun _ => XS.icmpNo X2.here hx rfl (hb hby d38_17) rfl (XT.ii_eq_f (fun q => absurd ((own_eqN (by omega) (by omega)).mp q) (by omega)))) ?_
  show Done _ p e below s _ _ (T2.setTop (mkF m 20 #[oR t1, oI (Int32.ofNat f), oI (Int32.ofNat mm), oR b1, oI (Int32.ofNat k), .unset] []))
  refine Done.step (fun _ => XS.aloadN X2.here hx rfl (hb hby d38_20) rfl rfl) ?_
  show Done _ p e below s _ _ (T2.setTop (mkF m 21 #[oR t1, oI (Int32.ofNat f), oI (Int32.ofNat mm), oR b1, oI (Int32.ofNat k), .unset] [(.ref t1)]))
  refine Done.step (fun _ => XS.iloadN X2.here hx rfl (hb hby d38_21) rfl) ?_
  show Done _ p e below s _ _ (T2.setTop (mkF m 22 #[oR t1, oI (Int32.ofNat f), oI (Int32.ofNat mm), oR b1, oI (Int32.ofNat k), .unset] [(.int (Int32.ofNat f)), (.ref t1)]))
  refine Done.step (fun _ => XT.iconstV X2.here hx rfl (1 : Int32) (hb hby d38_22) (by decide)) ?_
  show Done _ p e below s _ _ (T2.setTop (mkF m 23 #[oR t1, oI (Int32.ofNat f), oI (Int32.ofNat mm), oR b1, oI (Int32.ofNat k), .unset] [(.int (1 : Int32)), (.int (Int32.ofNat f)), (.ref t1)]))
  refine Done.step (fun _ => XT.ishl X2.here hx rfl (hb hby d38_23) rfl) ?_
  show Done _ p e below s _ _ (T2.setTop (mkF m 24 #[oR t1, oI (Int32.ofNat f), oI (Int32.ofNat mm), oR b1, oI (Int32.ofNat k), .unset] [(.int ((Int32.ofNat f) <<< ((1 : Int32) &&& 31))), (.ref t1)]))
  rw [own_shl (by omega)]
  show Done _ p e below s _ _ (T2.setTop (mkF m 24 #[oR t1, oI (Int32.ofNat f), oI (Int32.ofNat mm), oR b1, oI (Int32.ofNat k), .unset] [(.int (Int32.ofNat (2 * f))), (.ref t1)]))
  refine Done.step (fun _ => XS.iloadN X2.here hx rfl (hb hby d38_24) rfl) ?_
  show Done _ p e below s _ _ (T2.setTop (mkF m 25 #[oR t1, oI (Int32.ofNat f), oI (Int32.ofNat mm), oR b1, oI (Int32.ofNat k), .unset] [(.int (Int32.ofNat f)), (.int (Int32.ofNat (2 * f))), (.ref t1)]))
  refine Done.step (fun _ => XS.iloadN X2.here hx rfl (hb hby d38_25) rfl) ?_
  show Done _ p e below s _ _ (T2.setTop (mkF m 26 #[oR t1, oI (Int32.ofNat f), oI (Int32.ofNat mm), oR b1, oI (Int32.ofNat k), .unset] [(.int (Int32.ofNat mm)), (.int (Int32.ofNat f)), (.int (Int32.ofNat (2 * f))), (.ref t1)]))
  refine Done.step (fun _ => XS.iadd X2.here hx rfl (hb hby d38_26) rfl) ?_
  show Done _ p e below s _ _ (T2.setTop (mkF m 27 #[oR t1, oI (Int32.ofNat f), oI (Int32.ofNat mm), oR b1, oI (Int32.ofNat k), .unset] [(.int ((Int32.ofNat f) + (Int32.ofNat mm))), (.int (Int32.ofNat (2 * f))), (.ref t1)]))
  rw [own_addN f mm]
  show Done _ p e below s _ _ (T2.setTop (mkF m 27 #[oR t1, oI (Int32.ofNat f), oI (Int32.ofNat mm), oR b1, oI (Int32.ofNat k), .unset] [(.int (Int32.ofNat (f + mm))), (.int (Int32.ofNat (2 * f))), (.ref t1)]))
  refine Done.callSP X2 hx hZ hown (wAt hw 133 rfl) (wAt hw 134 rfl) (wAt hw 67 rfl) (wAt hw 135 rfl) (by decide) (rNB l Z a0 hw [] (f + mm) T2.heap n0 Zs2 (by omega)) rfl (g := (mkF m 27 #[oR t1, oI (Int32.ofNat f), oI (Int32.ofNat mm), oR b1, oI (Int32.ofNat k), .unset] [(.int (Int32.ofNat (f + mm))), (.int (Int32.ofNat (2 * f))), (.ref t1)])) rfl (by rw [hml]; rfl) [(.int (Int32.ofNat (f + mm)))] [(.int (Int32.ofNat (2 * f))), (.ref t1)] 2 (lenOf pd_11 rfl) rfl rfl (by show 2 * 0 + _ ≤ _; exact Nat.le_of_eq rfl) (hb hby d38_27) (by decide) (by decide) (by decide) (by decide) rfl rfl ?_
  intro T5 X5 e5
  show Done _ p e below s _ _ (T5.setTop (mkF m 30 #[oR t1, oI (Int32.ofNat f), oI (Int32.ofNat mm), oR b1, oI (Int32.ofNat k), .unset] [(.int (Int32.ofNat (2 * (f + mm)))), (.int (Int32.ofNat (2 * f))), (.ref t1)]))
  have f6 := (f3.keep K2q (allS n0_b1 all0))
  have f7 := (f4.keep K2q (ninS ne_t1_b1 nin0))
  refine Done.callS X5 hx hZ hown (wAt hw 175 rfl) (wAt hw 103 rfl) (wAt hw 104 rfl) (wAt hw 105 rfl) (by decide) (rCR l Z a0 hw [] t1 kb1 (own_hl cs) (2 * f) (2 * (f + mm)) (2 * cs.length) T2.heap n0 Zs2 f6 f7 (by omega) (by omega) (by omega) (own_hlL cs) (fun q => hne ⟨by omega, by omega⟩)) (fun _ _ => trivial) e5 (g := (mkF m 30 #[oR t1, oI (Int32.ofNat f), oI (Int32.ofNat mm), oR b1, oI (Int32.ofNat k), .unset] [(.int (Int32.ofNat (2 * (f + mm)))), (.int (Int32.ofNat (2 * f))), (.ref t1)])) rfl (by rw [hml]; rfl) [(.ref t1), (.int (Int32.ofNat (2 * f))), (.int (Int32.ofNat (2 * (f + mm))))] [] 0 (lenOf pd_5 rfl) rfl rfl (by show 2 * 0 + _ ≤ _; exact Nat.le_of_eq rfl) (hb hby d38_30) (by decide) (by decide) (by decide) (by decide) ?_
  intro T8 v8 L8 X8 q8
  obtain ⟨bV, kV, rfl, Nq8, K8q, szb, VBv⟩ := q8
  have N8 := Fr.app N2 Nq8
  have Zs8 := Nat.le_trans Zs2 K8q.1
  have K8 := K2.trans K8q all0
  show Done _ p e below s _ _ (T8.setTop (mkF m 33 #[oR t1, oI (Int32.ofNat f), oI (Int32.ofNat mm), oR b1, oI (Int32.ofNat k), .unset] [(.ref bV)]))
  rw [own_2sub, own_hlS] at VBv
  have sz_bV : h0.size ≤ bV := Nat.le_trans K2.1 szb
  have VBs : Arv Z T8.heap bV kV .byte (Int32.ofNat (2 * ((cs.drop f).take mm).length)) (own_hl ((cs.drop f).take mm)) (.int (0 : Int32)) := by rw [own_subL hfm]; exact VBv
  refine Done.step (fun _ => XS.astore X8.here hx rfl (hb hby d38_33) rfl rfl (l' := #[oR t1, oI (Int32.ofNat f), oI (Int32.ofNat mm), oR b1, oI (Int32.ofNat k), oR bV]) rfl) ?_
  show Done _ p e below s _ _ (T8.setTop (mkF m 35 #[oR t1, oI (Int32.ofNat f), oI (Int32.ofNat mm), oR b1, oI (Int32.ofNat k), oR bV] []))
  refine Done.step (fun _ => XS.aload X8.here hx rfl (hb hby d38_35) rfl rfl) ?_
  show Done _ p e below s _ _ (T8.setTop (mkF m 37 #[oR t1, oI (Int32.ofNat f), oI (Int32.ofNat mm), oR b1, oI (Int32.ofNat k), oR bV] [(.ref bV)]))
  refine Done.step (fun _ => XS.iload X8.here hx rfl (hb hby d38_37) rfl) ?_
  show Done _ p e below s _ _ (T8.setTop (mkF m 39 #[oR t1, oI (Int32.ofNat f), oI (Int32.ofNat mm), oR b1, oI (Int32.ofNat k), oR bV] [(.int (Int32.ofNat k)), (.ref bV)]))
  have f9 := (f6.keep K8q all0)
  refine Done.callSP X8 hx hZ hown (wAt hw 143 rfl) (wAt hw 144 rfl) (wAt hw 67 rfl) (wAt hw 145 rfl) (by decide) (rG l Z a0 hw [] bV kV ((cs.drop f).take mm) k z fm T8.heap n0 Zs8 f9 SC hz SF rF SA SH SL VBs (by rw [own_subL hfm]; omega) (by rw [own_subL hfm]; exact hkm) (own_subB hbc f mm)) rfl (g := (mkF m 39 #[oR t1, oI (Int32.ofNat f), oI (Int32.ofNat mm), oR b1, oI (Int32.ofNat k), oR bV] [(.int (Int32.ofNat k)), (.ref bV)])) rfl (by rw [hml]; rfl) [(.ref bV), (.int (Int32.ofNat k))] [] 0 (lenOf pd_8 rfl) rfl rfl (by show 2 * 0 + _ ≤ _; exact Nat.le_of_eq rfl) (hb hby d38_39) (by decide) (by decide) (by decide) (by decide) rfl rfl ?_
  intro T10 X10 e10
  show Done _ p e below s _ _ (T10.setTop (mkF m 42 #[oR t1, oI (Int32.ofNat f), oI (Int32.ofNat mm), oR b1, oI (Int32.ofNat k), oR bV] [(.int (((cs.drop f).take mm).getD k 0))]))
  refine Done.step (fun _ => XT.sipushV X10.here hx rfl (255 : Int32) (hb hby d38_42) (by decide)) ?_
  show Done _ p e below s _ _ (T10.setTop (mkF m 45 #[oR t1, oI (Int32.ofNat f), oI (Int32.ofNat mm), oR b1, oI (Int32.ofNat k), oR bV] [(.int (255 : Int32)), (.int (((cs.drop f).take mm).getD k 0))]))
  refine Done.step (fun _ => XS.icmpYes X10.here hx rfl (pc0 := 45) (pc' := 61) rfl (hb hby d38_45) rfl (XT.ii_gt_t (by rw [own_subG hkm]; exact hbig)) (by decide) (by decide)) ?_
  show Done _ p e below s _ _ (T10.setTop (mkF m 61 #[oR t1, oI (Int32.ofNat f), oI (Int32.ofNat mm), oR b1, oI (Int32.ofNat k), oR bV] []))
  refine Done.step (fun _ => XS.aload X10.here hx rfl (hb hby d38_61) rfl rfl) ?_
  show Done _ p e below s _ _ (T10.setTop (mkF m 63 #[oR t1, oI (Int32.ofNat f), oI (Int32.ofNat mm), oR b1, oI (Int32.ofNat k), oR bV] [(.ref bV)]))
  refine Done.retA (leavesF X10 hlk (by decide) (by decide)) X10 hx hret rfl rfl (hb hby d38_63) ?_
  rw [e10]
  exact ⟨bV, kV, rfl, N8, K8, sz_bV, VBv⟩
theorem d37_0 : decode jdk_52_method_69_code 0 = .ok (.iload_n 2, 1) := by decide +kernel
theorem d37_1 : decode jdk_52_method_69_code 1 = .ok (.ifCond .ne 7, 3) := by decide +kernel
theorem d37_8 : decode jdk_52_method_69_code 8 = .ok (.getstatic 251, 3) := by decide +kernel
theorem d37_11 : decode jdk_52_method_69_code 11 = .ok (.ifCond .eq 28, 3) := by decide +kernel
theorem d37_14 : decode jdk_52_method_69_code 14 = .ok (.aload_n 0, 1) := by decide +kernel
theorem d37_15 : decode jdk_52_method_69_code 15 = .ok (.iload_n 1, 1) := by decide +kernel
theorem d37_16 : decode jdk_52_method_69_code 16 = .ok (.iload_n 2, 1) := by decide +kernel
theorem d37_17 : decode jdk_52_method_69_code 17 = .ok (.invokestatic 257, 3) := by decide +kernel
theorem d37_20 : decode jdk_52_method_69_code 20 = .ok (.astore_n 3, 1) := by decide +kernel
theorem d37_21 : decode jdk_52_method_69_code 21 = .ok (.aload_n 3, 1) := by decide +kernel
theorem d37_22 : decode jdk_52_method_69_code 22 = .ok (.iload_n 2, 1) := by decide +kernel
theorem d37_23 : decode jdk_52_method_69_code 23 = .ok (.invokestatic 259, 3) := by decide +kernel
theorem d37_26 : decode jdk_52_method_69_code 26 = .ok (.istore 4, 2) := by decide +kernel
theorem d37_28 : decode jdk_52_method_69_code 28 = .ok (.new 3, 3) := by decide +kernel
theorem d37_31 : decode jdk_52_method_69_code 31 = .ok (.dup, 1) := by decide +kernel
theorem d37_32 : decode jdk_52_method_69_code 32 = .ok (.aload_n 3, 1) := by decide +kernel
theorem d37_33 : decode jdk_52_method_69_code 33 = .ok (.iload 4, 2) := by decide +kernel
theorem d37_35 : decode jdk_52_method_69_code 35 = .ok (.invokespecial 263, 3) := by decide +kernel
theorem d37_38 : decode jdk_52_method_69_code 38 = .ok (.areturn, 1) := by decide +kernel
set_option maxRecDepth 65536 in
set_option maxHeartbeats 40000000 in
theorem rN1 (l : Launch) (Z : State) (a0 : Array Value) (hw : ∀ d ∈ tables_1, d.before a0 Z = true) (ws : List Jvm.Cond) (t1 : Addr) (kb1 : ClassId) (cs : List Int32) (f mm : Nat) (z : Int32) (fm : Value) (h0 : Heap) (n0 : Nat) (Z0 : n0 ≤ h0.size) (O0 : Old Z n0 h0) (SC : Sta Z Z.heap "java/lang/String" "COMPACT_STRINGS" "Z" (.int z)) (hz : ¬ z = 0) (SF : Sta Z Z.heap "jdk/internal/util/Preconditions" "SIOOBE_FORMATTER" "Ljava/util/function/BiFunction;" fm) (rF : fm.isRef = true) (SA : Sta Z Z.heap "java/lang/StringUTF16" "$assertionsDisabled" "Z" (.int (1 : Int32))) (SH : Sta Z Z.heap "java/lang/StringUTF16" "HI_BYTE_SHIFT" "I" (.int (0 : Int32))) (SL : Sta Z Z.heap "java/lang/StringUTF16" "LO_BYTE_SHIFT" "I" (.int (8 : Int32))) (gK1 : Arv Z h0 t1 kb1 .byte (Int32.ofNat (2 * cs.length)) (own_hl cs) (.int (0 : Int32))) (hn : cs.length ≤ 4) (hfm : f + mm ≤ cs.length) (hne : ¬ (f = 0 ∧ mm = cs.length)) (hbc : ∀ c ∈ cs, ¬ c < 0 ∧ ¬ (65535 : Int32) < c) (hex : ∃ q, q < mm ∧ (255 : Int32) < cs.getD (f + q) 0) (h0m : 0 < mm) :
    Ctr FrameEnd l Z (⟨"java/lang/StringUTF16", "newString", "([BII)Ljava/lang/String;"⟩ : MethodName) jdk_52_method_69_code 5 (some (.object "java/lang/String")) ws ({ frames := 5, cells := 3, slots := 16, locals := 98 } : Room) #[(.ref t1), (.int (Int32.ofNat f)), (.int (Int32.ofNat mm))] h0 TrueV (fun v h _ L => ∃ (x t : Addr) (kb : ClassId), v = some (.ref x) ∧ Fr n0 L ∧ Keep h0 h [] ∧ Exa Z h x "java/lang/String" ∧ Fld Z h x "java/lang/String" "value" "[B" (.ref t) ∧ Fld Z h x "java/lang/String" "coder" "B" (.int (1 : Int32)) ∧ Arv Z h t kb .byte (Int32.ofNat (2 * mm)) (own_hl ((cs.drop f).take mm)) (.int (0 : Int32))) := by
  refine Ctr.intro (plainFor_of_name pn_java_lang_StringUTF16) (Ls := #[.val (.ref t1), .val (.int (Int32.ofNat f)), .val (.int (Int32.ofNat mm)), .unset, .unset]) (fun m => by first | (simp [entryFrame, mkF, argsToLocals, Value.category]; done) | rfl) ?_
  intro p e s m below meth c T0 hx hby hml hown hnm hret hlk hZ hV hsh e0 X0
  have N0 := Fr.nil n0
  show Done _ p e below s _ _ (T0.setTop (mkF m 0 #[oR t1, oI (Int32.ofNat f), oI (Int32.ofNat mm), .unset, .unset] []))
  refine Done.step (fun _ => XS.iloadN X0.here hx rfl (hb hby d37_0) rfl) ?_
  show Done _ p e below s _ _ (T0.setTop (mkF m 1 #[oR t1, oI (Int32.ofNat f), oI (Int32.ofNat mm), .unset, .unset] [(.int (Int32.ofNat mm))]))
  refine Done.step (fun _ => XS.ifYes X0.here hx rfl (pc0 := 1) (pc' := 8) rfl (hb hby d37_1) rfl (XT.i0_ne_t (fun q => absurd ((own_eq0 (by omega)).mp q) (by omega))) (by decide) (by decide)) ?_
  show Done _ p e below s _ _ (T0.setTop (mkF m 8 #[oR t1, oI (Int32.ofNat f), oI (Int32.ofNat mm), .unset, .unset] []))
  obtain ⟨T1, X1, e1, st1⟩ := getS2 X0 hx hZ hown (host := "") (Or.inl (wAt hw 159 rfl)) Via.refl e0 (SC.ext O0.2) (g := (mkF m 8 #[oR t1, oI (Int32.ofNat f), oI (Int32.ofNat mm), .unset, .unset] [])) rfl (hb hby d37_8)
  refine Done.step st1 ?_
  show Done _ p e below s _ _ (T1.setTop (mkF m 11 #[oR t1, oI (Int32.ofNat f), oI (Int32.ofNat mm), .unset, .unset] [(.int z)]))
  refine Done.step (fun _ => XS.ifNo X1.here hx rfl (hb hby d37_11) rfl (XT.i0_eq_f hz)) ?_
  show Done _ p e below s _ _ (T1.setTop (mkF m 14 #[oR t1, oI (Int32.ofNat f), oI (Int32.ofNat mm), .unset, .unset] []))
  refine Done.step (fun _ => XS.aloadN X1.here hx rfl (hb hby d37_14) rfl rfl) ?_
  show Done _ p e below s _ _ (T1.setTop (mkF m 15 #[oR t1, oI (Int32.ofNat f), oI (Int32.ofNat mm), .unset, .unset] [(.ref t1)]))
  refine Done.step (fun _ => XS.iloadN X1.here hx rfl (hb hby d37_15) rfl) ?_
  show Done _ p e below s _ _ (T1.setTop (mkF m 16 #[oR t1, oI (Int32.ofNat f), oI (Int32.ofNat mm), .unset, .unset] [(.int (Int32.ofNat f)), (.ref t1)]))
  refine Done.step (fun _ => XS.iloadN X1.here hx rfl (hb hby d37_16) rfl) ?_
  show Done _ p e below s _ _ (T1.setTop (mkF m 17 #[oR t1, oI (Int32.ofNat f), oI (Int32.ofNat mm), .unset, .unset] [(.int (Int32.ofNat mm)), (.int (Int32.ofNat f)), (.ref t1)]))
  refine Done.callS X1 hx hZ hown (wAt hw 160 rfl) (wAt hw 161 rfl) (wAt hw 67 rfl) (wAt hw 162 rfl) (by decide) (rC3 l Z a0 hw [] t1 kb1 cs f mm z fm h0 n0 Z0 O0 SC hz SF rF SA SH SL gK1 hn hfm hne hbc hex) (fun _ _ => trivial) e1 (g := (mkF m 17 #[oR t1, oI (Int32.ofNat f), oI (Int32.ofNat mm), .unset, .unset] [(.int (Int32.ofNat mm)), (.int (Int32.ofNat f)), (.ref t1)])) rfl (by rw [hml]; rfl) [(.ref t1), (.int (Int32.ofNat f)), (.int (Int32.ofNat mm))] [] 0 (lenOf pd_5 rfl) rfl rfl (by show 2 * 0 + _ ≤ _; exact Nat.le_of_eq rfl) (hb hby d37_17) (by decide) (by decide) (by decide) (by decide) ?_
  intro T2 v2 L2 X2 q2
  obtain ⟨bV, kV, rfl, Nq2, K2q, szb, VBv⟩ := q2
  have N2 := Fr.app N0 Nq2
  have Zs2 := Nat.le_trans Z0 K2q.1
  have K2 := (Keep.refl h0 []).trans K2q all0
  show Done _ p e below s _ _ (T2.setTop (mkF m 20 #[oR t1, oI (Int32.ofNat f), oI (Int32.ofNat mm), .unset, .unset] [(.ref bV)]))
  refine Done.step (fun _ => XS.astoreN X2.here hx rfl (hb hby d37_20) rfl rfl (l' := #[oR t1, oI (Int32.ofNat f), oI (Int32.ofNat mm), oR bV, .unset]) rfl) ?_
  show Done _ p e below s _ _ (T2.setTop (mkF m 21 #[oR t1, oI (Int32.ofNat f), oI (Int32.ofNat mm), oR bV, .unset] []))
  refine Done.step (fun _ => XS.aloadN X2.here hx rfl (hb hby d37_21) rfl rfl) ?_
  show Done _ p e below s _ _ (T2.setTop (mkF m 22 #[oR t1, oI (Int32.ofNat f), oI (Int32.ofNat mm), oR bV, .unset] [(.ref bV)]))
  refine Done.step (fun _ => XS.iloadN X2.here hx rfl (hb hby d37_22) rfl) ?_
  show Done _ p e below s _ _ (T2.setTop (mkF m 23 #[oR t1, oI (Int32.ofNat f), oI (Int32.ofNat mm), oR bV, .unset] [(.int (Int32.ofNat mm)), (.ref bV)]))
  refine Done.callSP X2 hx hZ hown (wAt hw 176 rfl) (wAt hw 73 rfl) (wAt hw 67 rfl) (wAt hw 74 rfl) (by decide) (rCo l Z a0 hw [] bV kV mm (own_hl ((cs.drop f).take mm)) T2.heap n0 Zs2 VBv h0m (by omega)) rfl (g := (mkF m 23 #[oR t1, oI (Int32.ofNat f), oI (Int32.ofNat mm), oR bV, .unset] [(.int (Int32.ofNat mm)), (.ref bV)])) rfl (by rw [hml]; rfl) [(.ref bV), (.int (Int32.ofNat mm))] [] 0 (lenOf pd_16 rfl) rfl rfl (by show 2 * 0 + _ ≤ _; exact Nat.le_of_eq rfl) (hb hby d37_23) (by decide) (by decide) (by decide) (by decide) rfl rfl ?_
  intro T3 X3 e3
  show Done _ p e below s _ _ (T3.setTop (mkF m 26 #[oR t1, oI (Int32.ofNat f), oI (Int32.ofNat mm), oR bV, .unset] [(.int (1 : Int32))]))
  refine Done.step (fun _ => XS.istore X3.here hx rfl (hb hby d37_26) rfl (l' := #[oR t1, oI (Int32.ofNat f), oI (Int32.ofNat mm), oR bV, oI (1 : Int32)]) rfl) ?_
  show Done _ p e below s _ _ (T3.setTop (mkF m 28 #[oR t1, oI (Int32.ofNat f), oI (Int32.ofNat mm), oR bV, oI (1 : Int32)] []))
  obtain ⟨T4, h4, X4, e4, E4, A4, D4, -, st4⟩ := newO X3 hx hZ hown (wAt hw 177 rfl) (wAt hw 10 rfl) (wAt hw 11 rfl) e3 (g := (mkF m 28 #[oR t1, oI (Int32.ofNat f), oI (Int32.ofNat mm), oR bV, oI (1 : Int32)] [])) rfl (hb hby d37_28) (by decide) (by decide)
  obtain ⟨b4, g4⟩ : ∃ z, z = T2.heap.size := ⟨_, rfl⟩
  rw [← g4] at A4 D4 st4
  have f5 := (gK1.keep K2q nin0)
  have ne_t1_b4 : t1 ≠ b4 := by rw [g4]; exact Nat.ne_of_lt f5.lt
  have ne_bV_b4 : bV ≠ b4 := by rw [g4]; exact Nat.ne_of_lt VBv.lt
  have n0_b4 : n0 ≤ b4 := by rw [g4]; exact Zs2
  have sz_b4 : h0.size ≤ b4 := by rw [g4]; exact K2.1
  have K4 := K2.ext E4
  have Zs4 := Nat.le_trans Zs2 E4.1
  have F_value_b4 : Fld Z h4 b4 "java/lang/String" "value" "[B" .null := D4 (Or.inr (wAt hw 25 rfl)) (ty := (.array .byte)) (by decide)
  have F_coder_b4 : Fld Z h4 b4 "java/lang/String" "coder" "B" (.int (0 : Int32)) := D4 (Or.inr (wAt hw 26 rfl)) (ty := .byte) (by decide)
  refine Done.step st4 ?_
  show Done _ p e below s _ _ (T4.setTop (mkF m 31 #[oR t1, oI (Int32.ofNat f), oI (Int32.ofNat mm), oR bV, oI (1 : Int32)] [(.ref b4)]))
  refine Done.step (fun _ => XS.dup X4.here hx rfl (hb hby d37_31) rfl rfl) ?_
  show Done _ p e below s _ _ (T4.setTop (mkF m 32 #[oR t1, oI (Int32.ofNat f), oI (Int32.ofNat mm), oR bV, oI (1 : Int32)] [(.ref b4), (.ref b4)]))
  refine Done.step (fun _ => XS.aloadN X4.here hx rfl (hb hby d37_32) rfl rfl) ?_
  show Done _ p e below s _ _ (T4.setTop (mkF m 33 #[oR t1, oI (Int32.ofNat f), oI (Int32.ofNat mm), oR bV, oI (1 : Int32)] [(.ref bV), (.ref b4), (.ref b4)]))
  refine Done.step (fun _ => XS.iload X4.here hx rfl (hb hby d37_33) rfl) ?_
  show Done _ p e below s _ _ (T4.setTop (mkF m 35 #[oR t1, oI (Int32.ofNat f), oI (Int32.ofNat mm), oR bV, oI (1 : Int32)] [(.int (1 : Int32)), (.ref bV), (.ref b4), (.ref b4)]))
  have f6 := ((O0.keep K2q all0).ext E4)
  refine Done.callI X4 hx hZ rfl hown (wAt hw 178 rfl) (wAt hw 120 rfl) (wAt hw 11 rfl) (wAt hw 121 rfl) (by decide) (vI1 l Z a0 hw [] b4 bV h4 n0 Zs4 A4 F_value_b4 F_coder_b4 n0_b4 f6) (fun _ _ => trivial) e4 (g := (mkF m 35 #[oR t1, oI (Int32.ofNat f), oI (Int32.ofNat mm), oR bV, oI (1 : Int32)] [(.int (1 : Int32)), (.ref bV), (.ref b4), (.ref b4)])) rfl (by rw [hml]; rfl) b4 [(.ref bV), (.int (1 : Int32))] [(.ref b4)] 1 (lenOf pd_17 rfl) rfl rfl (by show 2 * 0 + _ ≤ _; exact Nat.le_of_eq rfl) (hb hby d37_35) (by decide) (by decide) (by decide) (by decide) ?_
  intro T7 v7 L7 X7 q7
  obtain ⟨rfl, Nq7, K7q, f7_0, f7_1, f7_2⟩ := q7
  have N7 := Fr.app N2 Nq7
  have Zs7 := Nat.le_trans Zs4 K7q.1
  have K7 := K4.trans K7q (allS (Or.inr sz_b4) all0)
  show Done _ p e below s _ _ (T7.setTop (mkF m 38 #[oR t1, oI (Int32.ofNat f), oI (Int32.ofNat mm), oR bV, oI (1 : Int32)] [(.ref b4)]))
  have f8 := ((VBv.ext E4).keep K7q (ninS ne_bV_b4 nin0))
  exact Done.retA (leavesF X7 hlk (by decide) (by decide)) X7 hx hret rfl rfl (hb hby d37_38) ⟨b4, bV, kV, rfl, N7, K7, f7_0, f7_1, f7_2, f8⟩
theorem own_all {cs : List Int32} {f t : Nat} (h : f = 0) (g : t = cs.length) : (cs.drop f).take (t - f) = cs := by subst h g; simp
theorem own_subW {cs : List Int32} {f m : Nat} (h : ∃ q, q < m ∧ (255 : Int32) < cs.getD (f + q) 0) : ¬ SM ((cs.drop f).take m) := by
  obtain ⟨q, h1, h2⟩ := h
  intro g
  rw [← own_subG (m := m) h1] at h2
  have hq : q < ((cs.drop f).take m).length := by
    apply Classical.byContradiction; intro hn
    rw [List.getD_eq_getElem?_getD, List.getElem?_eq_none (by omega)] at h2
    exact absurd h2 (by decide)
  exact own_mem g hq h2
theorem d10_0 : decode jdk_42_method_92_code 0 = .ok (.aload_n 0, 1) := by decide +kernel
theorem d10_1 : decode jdk_42_method_92_code 1 = .ok (.invokevirtual 505, 3) := by decide +kernel
theorem pd_21 : parseMethodDescriptor "()I" = some ⟨[], some .int⟩ := by decide +kernel
theorem d10_4 : decode jdk_42_method_92_code 4 = .ok (.istore_n 3, 1) := by decide +kernel
theorem d10_5 : decode jdk_42_method_92_code 5 = .ok (.iload_n 1, 1) := by decide +kernel
theorem d10_6 : decode jdk_42_method_92_code 6 = .ok (.iload_n 2, 1) := by decide +kernel
theorem d10_7 : decode jdk_42_method_92_code 7 = .ok (.iload_n 3, 1) := by decide +kernel
theorem d10_8 : decode jdk_42_method_92_code 8 = .ok (.invokestatic 521, 3) := by decide +kernel
theorem pd_22 : parseMethodDescriptor "(III)V" = some ⟨[.int, .int, .int], none⟩ := by decide +kernel
theorem d10_11 : decode jdk_42_method_92_code 11 = .ok (.iload_n 1, 1) := by decide +kernel
theorem d10_12 : decode jdk_42_method_92_code 12 = .ok (.ifCond .ne 10, 3) := by decide +kernel
theorem d10_15 : decode jdk_42_method_92_code 15 = .ok (.iload_n 2, 1) := by decide +kernel
theorem d10_16 : decode jdk_42_method_92_code 16 = .ok (.iload_n 3, 1) := by decide +kernel
theorem d10_17 : decode jdk_42_method_92_code 17 = .ok (.if_icmp .ne 5, 3) := by decide +kernel
theorem d10_20 : decode jdk_42_method_92_code 20 = .ok (.aload_n 0, 1) := by decide +kernel
theorem d10_21 : decode jdk_42_method_92_code 21 = .ok (.areturn, 1) := by decide +kernel
theorem d10_22 : decode jdk_42_method_92_code 22 = .ok (.iload_n 2, 1) := by decide +kernel
theorem d10_23 : decode jdk_42_method_92_code 23 = .ok (.iload_n 1, 1) := by decide +kernel
theorem d10_24 : decode jdk_42_method_92_code 24 = .ok (.isub, 1) := by decide +kernel
theorem d10_25 : decode jdk_42_method_92_code 25 = .ok (.istore 4, 2) := by decide +kernel
theorem d10_27 : decode jdk_42_method_92_code 27 = .ok (.aload_n 0, 1) := by decide +kernel
theorem d10_28 : decode jdk_42_method_92_code 28 = .ok (.invokevirtual 492, 3) := by decide +kernel
theorem d10_31 : decode jdk_42_method_92_code 31 = .ok (.ifCond .eq 16, 3) := by decide +kernel
theorem d10_34 : decode jdk_42_method_92_code 34 = .ok (.aload_n 0, 1) := by decide +kernel
theorem d10_35 : decode jdk_42_method_92_code 35 = .ok (.getfield 9, 3) := by decide +kernel
theorem d10_38 : decode jdk_42_method_92_code 38 = .ok (.iload_n 1, 1) := by decide +kernel
theorem d10_39 : decode jdk_42_method_92_code 39 = .ok (.iload 4, 2) := by decide +kernel
theorem d10_41 : decode jdk_42_method_92_code 41 = .ok (.invokestatic 685, 3) := by decide +kernel
theorem pd_23 : parseMethodDescriptor "([BII)Ljava/lang/String;" = some ⟨[(.array .byte), .int, .int], some (.object "java/lang/String")⟩ := by decide +kernel
theorem d10_44 : decode jdk_42_method_92_code 44 = .ok (.goto 13, 3) := by decide +kernel
theorem d10_57 : decode jdk_42_method_92_code 57 = .ok (.areturn, 1) := by decide +kernel
theorem d10_47 : decode jdk_42_method_92_code 47 = .ok (.aload_n 0, 1) := by decide +kernel
theorem d10_48 : decode jdk_42_method_92_code 48 = .ok (.getfield 9, 3) := by decide +kernel
theorem d10_51 : decode jdk_42_method_92_code 51 = .ok (.iload_n 1, 1) := by decide +kernel
theorem d10_52 : decode jdk_42_method_92_code 52 = .ok (.iload 4, 2) := by decide +kernel
theorem d10_54 : decode jdk_42_method_92_code 54 = .ok (.invokestatic 689, 3) := by decide +kernel
set_option maxRecDepth 65536 in
set_option maxHeartbeats 40000000 in
theorem rSub (l : Launch) (Z : State) (a0 : Array Value) (hw : ∀ d ∈ tables_1, d.before a0 Z = true) (ws : List Jvm.Cond) (x1 : Addr) (t1 : Addr) (kb1 : ClassId) (cs : List Int32) (f tt : Nat) (Ts : List String) (z : Int32) (fm : Value) (h0 : Heap) (n0 : Nat) (Z0 : n0 ≤ h0.size) (O0 : Old Z n0 h0) (SC : Sta Z Z.heap "java/lang/String" "COMPACT_STRINGS" "Z" (.int z)) (hz : ¬ z = 0) (SF : Sta Z Z.heap "jdk/internal/util/Preconditions" "SIOOBE_FORMATTER" "Ljava/util/function/BiFunction;" fm) (rF : fm.isRef = true) (SA : Sta Z Z.heap "java/lang/StringUTF16" "$assertionsDisabled" "Z" (.int (1 : Int32))) (SH : Sta Z Z.heap "java/lang/StringUTF16" "HI_BYTE_SHIFT" "I" (.int (0 : Int32))) (SL : Sta Z Z.heap "java/lang/StringUTF16" "LO_BYTE_SHIFT" "I" (.int (8 : Int32))) (E1 : Exa Z h0 x1 "java/lang/String") (V1 : Fld Z h0 x1 "java/lang/String" "value" "[B" (.ref t1)) (D1 : SD Z h0 x1 t1 kb1 cs) (hn : cs.length ≤ 4) (hbc : ∀ c ∈ cs, ¬ c < 0 ∧ ¬ (65535 : Int32) < c) (hft : f ≤ tt) (htn : tt ≤ cs.length) (hsub : ¬ SM cs → ∃ q, q < tt - f ∧ (255 : Int32) < cs.getD (f + q) 0) (hTs : cs.length ≠ 0 → "" ∉ Ts) (hh : Jvm.Lit.constHeld Z "java/lang/StringLatin1" 151) (hcw : Jvm.Lit.compactW.before a0 Z = true) :
    Ctr ReturnedEndW l Z (⟨"java/lang/String", "substring", "(II)Ljava/lang/String;"⟩ : MethodName) jdk_42_method_92_code 5 (some (.object "java/lang/String")) ws ({ frames := 6, cells := 3, slots := 16, locals := 118 } : Room) #[(.ref x1), (.int (Int32.ofNat f)), (.int (Int32.ofNat tt))] h0 (fun vm => IB Z vm Ts) (fun v h _ L => ∃ (x t : Addr) (kb : ClassId), v = some (.ref x) ∧ Fr n0 L ∧ Keep h0 h [] ∧ Exa Z h x "java/lang/String" ∧ Fld Z h x "java/lang/String" "value" "[B" (.ref t) ∧ SD Z h x t kb ((cs.drop f).take (tt - f))) := by
  refine Ctr.intro (plainFor_of_name pn_java_lang_String) (Ls := #[.val (.ref x1), .val (.int (Int32.ofNat f)), .val (.int (Int32.ofNat tt)), .unset, .unset]) (fun m => by first | (simp [entryFrame, mkF, argsToLocals, Value.category]; done) | rfl) ?_
  intro p e s m below meth c T0 hx hby hml hown hnm hret hlk hZ hV hsh e0 X0
  have N0 := Fr.nil n0
  have hS : s.Since s.vm 0 := (State.WarmedH.refl s).since 0
  have hk : 0 ≤ h0.size := Nat.zero_le _
  have X0 : Stand p l e ({ frames := 6, cells := 3, slots := 16, locals := 118 } : Room) (s.setVm s.vm) m #[(.ref x1), (.int (Int32.ofNat f)), (.int (Int32.ofNat tt))] below meth c T0 [] 0 0 := X0
  have hZ : Z.Warmed39 (s.setVm s.vm).vm := hZ
  have hown : (s.setVm s.vm).vm.findClass "java/lang/String" = some m.cls := hown
  show Done _ p e below s _ _ (T0.setTop (mkF m 0 #[oR x1, oI (Int32.ofNat f), oI (Int32.ofNat tt), .unset, .unset] []))
  refine Done.step (fun _ => XS.aloadN X0.here hx rfl (hb hby d10_0) rfl rfl) ?_
  show Done _ p e below s _ _ (T0.setTop (mkF m 1 #[oR x1, oI (Int32.ofNat f), oI (Int32.ofNat tt), .unset, .unset] [(.ref x1)]))
  refine Done.callVP X0 hx hZ (C := "java/lang/String") hown (wAt hw 55 rfl) (wAt hw 40 rfl) (notFace_of_selects (args := #[]) (mvT hZ (wAt hw 42 rfl))) (wAt hw 42 rfl) (wAt hw 41 rfl) (wAt hw 11 rfl) (wAt hw 43 rfl) (by decide) (rL l Z a0 hw [] x1 t1 kb1 cs z fm h0 n0 Z0 O0 SC hz SF rF SA SH SL E1 V1 D1 hn) e0 E1 (g := (mkF m 1 #[oR x1, oI (Int32.ofNat f), oI (Int32.ofNat tt), .unset, .unset] [(.ref x1)])) rfl (by rw [hml]; rfl) [] [] 0 (lenOf pd_21 rfl) rfl rfl (by show 2 * 0 + _ ≤ _; exact Nat.le_of_eq rfl) (hb hby d10_1) (by decide) (by decide) (by decide) (by decide) rfl rfl ?_
  intro T1 X1 e1
  show Done _ p e below s _ _ (T1.setTop (mkF m 4 #[oR x1, oI (Int32.ofNat f), oI (Int32.ofNat tt), .unset, .unset] [(.int (Int32.ofNat cs.length))]))
  refine Done.step (fun _ => XS.istoreN X1.here hx rfl (hb hby d10_4) rfl (l' := #[oR x1, oI (Int32.ofNat f), oI (Int32.ofNat tt), oI (Int32.ofNat cs.length), .unset]) rfl) ?_
  show Done _ p e below s _ _ (T1.setTop (mkF m 5 #[oR x1, oI (Int32.ofNat f), oI (Int32.ofNat tt), oI (Int32.ofNat cs.length), .unset] []))
  refine Done.step (fun _ => XS.iloadN X1.here hx rfl (hb hby d10_5) rfl) ?_
  show Done _ p e below s _ _ (T1.setTop (mkF m 6 #[oR x1, oI (Int32.ofNat f), oI (Int32.ofNat tt), oI (Int32.ofNat cs.length), .unset] [(.int (Int32.ofNat f))]))
  refine Done.step (fun _ => XS.iloadN X1.here hx rfl (hb hby d10_6) rfl) ?_
  show Done _ p e below s _ _ (T1.setTop (mkF m 7 #[oR x1, oI (Int32.ofNat f), oI (Int32.ofNat tt), oI (Int32.ofNat cs.length), .unset] [(.int (Int32.ofNat tt)), (.int (Int32.ofNat f))]))
  refine Done.step (fun _ => XS.iloadN X1.here hx rfl (hb hby d10_7) rfl) ?_
  show Done _ p e below s _ _ (T1.setTop (mkF m 8 #[oR x1, oI (Int32.ofNat f), oI (Int32.ofNat tt), oI (Int32.ofNat cs.length), .unset] [(.int (Int32.ofNat cs.length)), (.int (Int32.ofNat tt)), (.int (Int32.ofNat f))]))
  refine Done.callSP X1 hx hZ hown (wAt hw 56 rfl) (wAt hw 57 rfl) (wAt hw 11 rfl) (wAt hw 58 rfl) (by decide) (rBE l Z a0 hw [] (Int32.ofNat f) (Int32.ofNat tt) (Int32.ofNat cs.length) z fm h0 n0 Z0 O0 SC hz SF rF SA SH SL (own_nn0 (by omega)) (by rw [own_lt (by omega) (by omega)]; omega) (by rw [own_lt (by omega) (by omega)]; omega)) e1 (g := (mkF m 8 #[oR x1, oI (Int32.ofNat f), oI (Int32.ofNat tt), oI (Int32.ofNat cs.length), .unset] [(.int (Int32.ofNat cs.length)), (.int (Int32.ofNat tt)), (.int (Int32.ofNat f))])) rfl (by rw [hml]; rfl) [(.int (Int32.ofNat f)), (.int (Int32.ofNat tt)), (.int (Int32.ofNat cs.length))] [] 0 (lenOf pd_22 rfl) rfl rfl (by show 2 * 0 + _ ≤ _; exact Nat.le_of_eq rfl) (hb hby d10_8) (by decide) (by decide) (by decide) (by decide) rfl rfl ?_
  intro T2 X2 e2
  show Done _ p e below s _ _ (T2.setTop (mkF m 11 #[oR x1, oI (Int32.ofNat f), oI (Int32.ofNat tt), oI (Int32.ofNat cs.length), .unset] []))
  refine Done.step (fun _ => XS.iloadN X2.here hx rfl (hb hby d10_11) rfl) ?_
  show Done _ p e below s _ _ (T2.setTop (mkF m 12 #[oR x1, oI (Int32.ofNat f), oI (Int32.ofNat tt), oI (Int32.ofNat cs.length), .unset] [(.int (Int32.ofNat f))]))
  by_cases hc3 : (Int32.ofNat f) = (0 : Int32)
  · refine Done.step (fun _ => XS.ifNo X2.here hx rfl (hb hby d10_12) rfl (XT.i0_ne_f hc3)) ?_
    show Done _ p e below s _ _ (T2.setTop (mkF m 15 #[oR x1, oI (Int32.ofNat f), oI (Int32.ofNat tt), oI (Int32.ofNat cs.length), .unset] []))
    refine Done.step (fun _ => XS.iloadN X2.here hx rfl (hb hby d10_15) rfl) ?_
    show Done _ p e below s _ _ (T2.setTop (mkF m 16 #[oR x1, oI (Int32.ofNat f), oI (Int32.ofNat tt), oI (Int32.ofNat cs.length), .unset] [(.int (Int32.ofNat tt))]))
    refine Done.step (fun _ => XS.iloadN X2.here hx rfl (hb hby d10_16) rfl) ?_
    show Done _ p e below s _ _ (T2.setTop (mkF m 17 #[oR x1, oI (Int32.ofNat f), oI (Int32.ofNat tt), oI (Int32.ofNat cs.length), .unset] [(.int (Int32.ofNat cs.length)), (.int (Int32.ofNat tt))]))
    by_cases hc4 : (Int32.ofNat tt) = (Int32.ofNat cs.length)
    · refine Done.step (fun _ => XS.icmpNo X2.here hx rfl (hb hby d10_17) rfl (XT.ii_ne_f hc4)) ?_
      show Done _ p e below s _ _ (T2.setTop (mkF m 20 #[oR x1, oI (Int32.ofNat f), oI (Int32.ofNat tt), oI (Int32.ofNat cs.length), .unset] []))
      refine Done.step (fun _ => XS.aloadN X2.here hx rfl (hb hby d10_20) rfl rfl) ?_
      show Done _ p e below s _ _ (T2.setTop (mkF m 21 #[oR x1, oI (Int32.ofNat f), oI (Int32.ofNat tt), oI (Int32.ofNat cs.length), .unset] [(.ref x1)]))
      have hx1 : ((cs.drop f).take (tt - f)) = cs := own_all ((own_eq0 (by omega)).mp hc3) ((own_eqN (by omega) (by omega)).mp hc4)
      refine Done.retA (leavesW X2 hS (by first | exact hk | (rw [e2]; exact hk)) hlk (by decide) (by decide)) X2 hx hret rfl rfl (hb hby d10_21) ?_
      rw [hx1, e2]
      exact ⟨x1, t1, kb1, rfl, N0, (Keep.refl h0 []), E1, V1, D1⟩
    · refine Done.step (fun _ => XS.icmpYes X2.here hx rfl (pc0 := 17) (pc' := 22) rfl (hb hby d10_17) rfl (XT.ii_ne_t hc4) (by decide) (by decide)) ?_
      show Done _ p e below s _ _ (T2.setTop (mkF m 22 #[oR x1, oI (Int32.ofNat f), oI (Int32.ofNat tt), oI (Int32.ofNat cs.length), .unset] []))
      refine Done.step (fun _ => XS.iloadN X2.here hx rfl (hb hby d10_22) rfl) ?_
      show Done _ p e below s _ _ (T2.setTop (mkF m 23 #[oR x1, oI (Int32.ofNat f), oI (Int32.ofNat tt), oI (Int32.ofNat cs.length), .unset] [(.int (Int32.ofNat tt))]))
      refine Done.step (fun _ => XS.iloadN X2.here hx rfl (hb hby d10_23) rfl) ?_
      show Done _ p e below s _ _ (T2.setTop (mkF m 24 #[oR x1, oI (Int32.ofNat f), oI (Int32.ofNat tt), oI (Int32.ofNat cs.length), .unset] [(.int (Int32.ofNat f)), (.int (Int32.ofNat tt))]))
      refine Done.step (fun _ => XS.isub X2.here hx rfl (hb hby d10_24) rfl) ?_
      show Done _ p e below s _ _ (T2.setTop (mkF m 25 #[oR x1, oI (Int32.ofNat f), oI (Int32.ofNat tt), oI (Int32.ofNat cs.length), .unset] [(.int ((Int32.ofNat tt) - (Int32.ofNat f)))]))
      rw [own_subN hft]
      show Done _ p e below s _ _ (T2.setTop (mkF m 25 #[oR x1, oI (Int32.ofNat f), oI (Int32.ofNat tt), oI (Int32.ofNat cs.length), .unset] [(.int (Int32.ofNat (tt - f)))]))
      refine Done.step (fun _ => XS.istore X2.here hx rfl (hb hby d10_25) rfl (l' := #[oR x1, oI (Int32.ofNat f), oI (Int32.ofNat tt), oI (Int32.ofNat cs.length), oI (Int32.ofNat (tt - f))]) rfl) ?_
      show Done _ p e below s _ _ (T2.setTop (mkF m 27 #[oR x1, oI (Int32.ofNat f), oI (Int32.ofNat tt), oI (Int32.ofNat cs.length), oI (Int32.ofNat (tt - f))] []))
      have hne : ¬ (f = 0 ∧ tt - f = cs.length) := fun q => hc4 ((own_eqN (by omega) (by omega)).mpr (by omega))
      rcases D1 with ⟨hs, C1, gK1⟩ | ⟨hs, C1, gK1⟩
      · show Done _ p e below s _ _ (T2.setTop (mkF m 27 #[oR x1, oI (Int32.ofNat f), oI (Int32.ofNat tt), oI (Int32.ofNat cs.length), oI (Int32.ofNat (tt - f))] []))
        refine Done.step (fun _ => XS.aloadN X2.here hx rfl (hb hby d10_27) rfl rfl) ?_
        show Done _ p e below s _ _ (T2.setTop (mkF m 28 #[oR x1, oI (Int32.ofNat f), oI (Int32.ofNat tt), oI (Int32.ofNat cs.length), oI (Int32.ofNat (tt - f))] [(.ref x1)]))
        refine Done.callVP X2 hx hZ (C := "java/lang/String") hown (wAt hw 83 rfl) (wAt hw 84 rfl) (notFace_of_selects (args := #[]) (mvT hZ (wAt hw 86 rfl))) (wAt hw 86 rfl) (wAt hw 85 rfl) (wAt hw 11 rfl) (wAt hw 87 rfl) (by decide) (rmIL0 l Z a0 hw [] x1 z fm h0 n0 Z0 O0 SC hz SF rF SA SH SL C1) e2 E1 (g := (mkF m 28 #[oR x1, oI (Int32.ofNat f), oI (Int32.ofNat tt), oI (Int32.ofNat cs.length), oI (Int32.ofNat (tt - f))] [(.ref x1)])) rfl (by rw [hml]; rfl) [] [] 0 (lenOf pd_10 rfl) rfl rfl (by show 2 * 0 + _ ≤ _; exact Nat.le_of_eq rfl) (hb hby d10_28) (by decide) (by decide) (by decide) (by decide) rfl rfl ?_
        intro T5 X5 e5
        show Done _ p e below s _ _ (T5.setTop (mkF m 31 #[oR x1, oI (Int32.ofNat f), oI (Int32.ofNat tt), oI (Int32.ofNat cs.length), oI (Int32.ofNat (tt - f))] [(.int (1 : Int32))]))
        refine Done.step (fun _ => XS.ifNo X5.here hx rfl (hb hby d10_31) rfl (XT.i0_eq_f (by decide))) ?_
        show Done _ p e below s _ _ (T5.setTop (mkF m 34 #[oR x1, oI (Int32.ofNat f), oI (Int32.ofNat tt), oI (Int32.ofNat cs.length), oI (Int32.ofNat (tt - f))] []))
        refine Done.step (fun _ => XS.aloadN X5.here hx rfl (hb hby d10_34) rfl rfl) ?_
        show Done _ p e below s _ _ (T5.setTop (mkF m 35 #[oR x1, oI (Int32.ofNat f), oI (Int32.ofNat tt), oI (Int32.ofNat cs.length), oI (Int32.ofNat (tt - f))] [(.ref x1)]))
        obtain ⟨T6, X6, e6, st6⟩ := getF X5 hx hZ hown (host := "") (Or.inl (wAt hw 29 rfl)) Via.refl e5 V1 (g := (mkF m 35 #[oR x1, oI (Int32.ofNat f), oI (Int32.ofNat tt), oI (Int32.ofNat cs.length), oI (Int32.ofNat (tt - f))] [(.ref x1)])) rfl rfl (hb hby d10_35)
        refine Done.step st6 ?_
        show Done _ p e below s _ _ (T6.setTop (mkF m 38 #[oR x1, oI (Int32.ofNat f), oI (Int32.ofNat tt), oI (Int32.ofNat cs.length), oI (Int32.ofNat (tt - f))] [(.ref t1)]))
        refine Done.step (fun _ => XS.iloadN X6.here hx rfl (hb hby d10_38) rfl) ?_
        show Done _ p e below s _ _ (T6.setTop (mkF m 39 #[oR x1, oI (Int32.ofNat f), oI (Int32.ofNat tt), oI (Int32.ofNat cs.length), oI (Int32.ofNat (tt - f))] [(.int (Int32.ofNat f)), (.ref t1)]))
        refine Done.step (fun _ => XS.iload X6.here hx rfl (hb hby d10_39) rfl) ?_
        show Done _ p e below s _ _ (T6.setTop (mkF m 41 #[oR x1, oI (Int32.ofNat f), oI (Int32.ofNat tt), oI (Int32.ofNat cs.length), oI (Int32.ofNat (tt - f))] [(.int (Int32.ofNat (tt - f))), (.int (Int32.ofNat f)), (.ref t1)]))
        refine Done.callSW X6 hx hZ hown hS hk (wAt hw 98 rfl) (wAt hw 99 rfl) (wAt hw 90 rfl) (wAt hw 100 rfl) (by decide) (rN0 l Z a0 hw [] t1 kb1 cs f (tt - f) Ts z fm h0 n0 Z0 O0 SC hz SF rF SA SH SL gK1 hn (by omega) hne (fun q => hTs (fun z => hne ⟨by omega, by omega⟩)) hh hcw) (fun vm' hW => own_ibV hV hW) e6 (g := (mkF m 41 #[oR x1, oI (Int32.ofNat f), oI (Int32.ofNat tt), oI (Int32.ofNat cs.length), oI (Int32.ofNat (tt - f))] [(.int (Int32.ofNat (tt - f))), (.int (Int32.ofNat f)), (.ref t1)])) rfl (by rw [hml]; rfl) [(.ref t1), (.int (Int32.ofNat f)), (.int (Int32.ofNat (tt - f)))] [] 0 (lenOf pd_23 rfl) rfl rfl (by show 2 * 0 + _ ≤ _; exact Nat.le_of_eq rfl) (hb hby d10_41) (by decide) (by decide) (by decide) (by decide) ?_
        intro T7 v7 L7 X7 hS hZ hown hW7 q7
        have hk := Nat.le_refl T7.heap.size
        obtain ⟨xN, tN, kN, rfl, Nq7, K7q, EN, FN, CN, KN⟩ := q7
        have N7 := Fr.app N0 Nq7
        have Zs7 := Nat.le_trans Z0 K7q.1
        have K7 := (Keep.refl h0 []).trans K7q all0
        show Done _ p e below s _ _ (T7.setTop (mkF m 44 #[oR x1, oI (Int32.ofNat f), oI (Int32.ofNat tt), oI (Int32.ofNat cs.length), oI (Int32.ofNat (tt - f))] [(.ref xN)]))
        refine Done.step (fun _ => XS.goto X7.here hx rfl (pc0 := 44) (pc' := 57) rfl (hb hby d10_44) (by decide) (by decide)) ?_
        show Done _ p e below s _ _ (T7.setTop (mkF m 57 #[oR x1, oI (Int32.ofNat f), oI (Int32.ofNat tt), oI (Int32.ofNat cs.length), oI (Int32.ofNat (tt - f))] [(.ref xN)]))
        have hlN := own_subL (cs := cs) (f := f) (m := tt - f) (by omega)
        exact Done.retA (leavesW X7 hS (by first | exact hk | (rw [rfl]; exact hk)) hlk (by decide) (by decide)) X7 hx hret rfl rfl (hb hby d10_57) ⟨xN, tN, kN, rfl, N7, K7, EN, FN, Or.inl ⟨own_subB hs f (tt - f), CN, by rw [hlN]; exact KN⟩⟩
      · show Done _ p e below s _ _ (T2.setTop (mkF m 27 #[oR x1, oI (Int32.ofNat f), oI (Int32.ofNat tt), oI (Int32.ofNat cs.length), oI (Int32.ofNat (tt - f))] []))
        refine Done.step (fun _ => XS.aloadN X2.here hx rfl (hb hby d10_27) rfl rfl) ?_
        show Done _ p e below s _ _ (T2.setTop (mkF m 28 #[oR x1, oI (Int32.ofNat f), oI (Int32.ofNat tt), oI (Int32.ofNat cs.length), oI (Int32.ofNat (tt - f))] [(.ref x1)]))
        refine Done.callVP X2 hx hZ (C := "java/lang/String") hown (wAt hw 83 rfl) (wAt hw 84 rfl) (notFace_of_selects (args := #[]) (mvT hZ (wAt hw 86 rfl))) (wAt hw 86 rfl) (wAt hw 85 rfl) (wAt hw 11 rfl) (wAt hw 87 rfl) (by decide) (rmIL1 l Z a0 hw [] x1 z fm h0 n0 Z0 O0 SC hz SF rF SA SH SL C1) e2 E1 (g := (mkF m 28 #[oR x1, oI (Int32.ofNat f), oI (Int32.ofNat tt), oI (Int32.ofNat cs.length), oI (Int32.ofNat (tt - f))] [(.ref x1)])) rfl (by rw [hml]; rfl) [] [] 0 (lenOf pd_10 rfl) rfl rfl (by show 2 * 0 + _ ≤ _; exact Nat.le_of_eq rfl) (hb hby d10_28) (by decide) (by decide) (by decide) (by decide) rfl rfl ?_
        intro T8 X8 e8
        show Done _ p e below s _ _ (T8.setTop (mkF m 31 #[oR x1, oI (Int32.ofNat f), oI (Int32.ofNat tt), oI (Int32.ofNat cs.length), oI (Int32.ofNat (tt - f))] [(.int (0 : Int32))]))
        refine Done.step (fun _ => XS.ifYes X8.here hx rfl (pc0 := 31) (pc' := 47) rfl (hb hby d10_31) rfl (XT.i0_eq_t rfl) (by decide) (by decide)) ?_
        show Done _ p e below s _ _ (T8.setTop (mkF m 47 #[oR x1, oI (Int32.ofNat f), oI (Int32.ofNat tt), oI (Int32.ofNat cs.length), oI (Int32.ofNat (tt - f))] []))
        refine Done.step (fun _ => XS.aloadN X8.here hx rfl (hb hby d10_47) rfl rfl) ?_
        show Done _ p e below s _ _ (T8.setTop (mkF m 48 #[oR x1, oI (Int32.ofNat f), oI (Int32.ofNat tt), oI (Int32.ofNat cs.length), oI (Int32.ofNat (tt - f))] [(.ref x1)]))
        obtain ⟨T9, X9, e9, st9⟩ := getF X8 hx hZ hown (host := "") (Or.inl (wAt hw 29 rfl)) Via.refl e8 V1 (g := (mkF m 48 #[oR x1, oI (Int32.ofNat f), oI (Int32.ofNat tt), oI (Int32.ofNat cs.length), oI (Int32.ofNat (tt - f))] [(.ref x1)])) rfl rfl (hb hby d10_48)
        refine Done.step st9 ?_
        show Done _ p e below s _ _ (T9.setTop (mkF m 51 #[oR x1, oI (Int32.ofNat f), oI (Int32.ofNat tt), oI (Int32.ofNat cs.length), oI (Int32.ofNat (tt - f))] [(.ref t1)]))
        refine Done.step (fun _ => XS.iloadN X9.here hx rfl (hb hby d10_51) rfl) ?_
        show Done _ p e below s _ _ (T9.setTop (mkF m 52 #[oR x1, oI (Int32.ofNat f), oI (Int32.ofNat tt), oI (Int32.ofNat cs.length), oI (Int32.ofNat (tt - f))] [(.int (Int32.ofNat f)), (.ref t1)]))
        refine Done.step (fun _ => XS.iload X9.here hx rfl (hb hby d10_52) rfl) ?_
        show Done _ p e below s _ _ (T9.setTop (mkF m 54 #[oR x1, oI (Int32.ofNat f), oI (Int32.ofNat tt), oI (Int32.ofNat cs.length), oI (Int32.ofNat (tt - f))] [(.int (Int32.ofNat (tt - f))), (.int (Int32.ofNat f)), (.ref t1)]))
        refine Done.callS X9 hx hZ hown (wAt hw 156 rfl) (wAt hw 157 rfl) (wAt hw 67 rfl) (wAt hw 158 rfl) (by decide) (rN1 l Z a0 hw [] t1 kb1 cs f (tt - f) z fm h0 n0 Z0 O0 SC hz SF rF SA SH SL gK1 hn (by omega) hne hbc (hsub hs) (by obtain ⟨q, h1, -⟩ := hsub hs; omega)) (fun _ _ => trivial) e9 (g := (mkF m 54 #[oR x1, oI (Int32.ofNat f), oI (Int32.ofNat tt), oI (Int32.ofNat cs.length), oI (Int32.ofNat (tt - f))] [(.int (Int32.ofNat (tt - f))), (.int (Int32.ofNat f)), (.ref t1)])) rfl (by rw [hml]; rfl) [(.ref t1), (.int (Int32.ofNat f)), (.int (Int32.ofNat (tt - f)))] [] 0 (lenOf pd_23 rfl) rfl rfl (by show 2 * 0 + _ ≤ _; exact Nat.le_of_eq rfl) (hb hby d10_54) (by decide) (by decide) (by decide) (by decide) ?_
        intro T10 v10 L10 X10 q10
        obtain ⟨xN, tN, kN, rfl, Nq10, K10q, EN, FN, CN, KN⟩ := q10
        have N10 := Fr.app N0 Nq10
        have Zs10 := Nat.le_trans Z0 K10q.1
        have hk := Nat.le_trans hk K10q.1
        have K10 := (Keep.refl h0 []).trans K10q all0
        show Done _ p e below s _ _ (T10.setTop (mkF m 57 #[oR x1, oI (Int32.ofNat f), oI (Int32.ofNat tt), oI (Int32.ofNat cs.length), oI (Int32.ofNat (tt - f))] [(.ref xN)]))
        have hlN := own_subL (cs := cs) (f := f) (m := tt - f) (by omega)
        exact Done.retA (leavesW X10 hS (by first | exact hk | (rw [rfl]; exact hk)) hlk (by decide) (by decide)) X10 hx hret rfl rfl (hb hby d10_57) ⟨xN, tN, kN, rfl, N10, K10, EN, FN, Or.inr ⟨own_subW (hsub hs), CN, by rw [hlN]; exact KN⟩⟩
  · refine Done.step (fun _ => XS.ifYes X2.here hx rfl (pc0 := 12) (pc' := 22) rfl (hb hby d10_12) rfl (XT.i0_ne_t hc3) (by decide) (by decide)) ?_
    show Done _ p e below s _ _ (T2.setTop (mkF m 22 #[oR x1, oI (Int32.ofNat f), oI (Int32.ofNat tt), oI (Int32.ofNat cs.length), .unset] []))
    refine Done.step (fun _ => XS.iloadN X2.here hx rfl (hb hby d10_22) rfl) ?_
    show Done _ p e below s _ _ (T2.setTop (mkF m 23 #[oR x1, oI (Int32.ofNat f), oI (Int32.ofNat tt), oI (Int32.ofNat cs.length), .unset] [(.int (Int32.ofNat tt))]))
    refine Done.step (fun _ => XS.iloadN X2.here hx rfl (hb hby d10_23) rfl) ?_
    show Done _ p e below s _ _ (T2.setTop (mkF m 24 #[oR x1, oI (Int32.ofNat f), oI (Int32.ofNat tt), oI (Int32.ofNat cs.length), .unset] [(.int (Int32.ofNat f)), (.int (Int32.ofNat tt))]))
    refine Done.step (fun _ => XS.isub X2.here hx rfl (hb hby d10_24) rfl) ?_
    show Done _ p e below s _ _ (T2.setTop (mkF m 25 #[oR x1, oI (Int32.ofNat f), oI (Int32.ofNat tt), oI (Int32.ofNat cs.length), .unset] [(.int ((Int32.ofNat tt) - (Int32.ofNat f)))]))
    rw [own_subN hft]
    show Done _ p e below s _ _ (T2.setTop (mkF m 25 #[oR x1, oI (Int32.ofNat f), oI (Int32.ofNat tt), oI (Int32.ofNat cs.length), .unset] [(.int (Int32.ofNat (tt - f)))]))
    refine Done.step (fun _ => XS.istore X2.here hx rfl (hb hby d10_25) rfl (l' := #[oR x1, oI (Int32.ofNat f), oI (Int32.ofNat tt), oI (Int32.ofNat cs.length), oI (Int32.ofNat (tt - f))]) rfl) ?_
    show Done _ p e below s _ _ (T2.setTop (mkF m 27 #[oR x1, oI (Int32.ofNat f), oI (Int32.ofNat tt), oI (Int32.ofNat cs.length), oI (Int32.ofNat (tt - f))] []))
    have hne : ¬ (f = 0 ∧ tt - f = cs.length) := fun q => hc3 ((own_eq0 (by omega)).mpr q.1)
    rcases D1 with ⟨hs, C1, gK1⟩ | ⟨hs, C1, gK1⟩
    · show Done _ p e below s _ _ (T2.setTop (mkF m 27 #[oR x1, oI (Int32.ofNat f), oI (Int32.ofNat tt), oI (Int32.ofNat cs.length), oI (Int32.ofNat (tt - f))] []))
      refine Done.step (fun _ => XS.aloadN X2.here hx rfl (hb hby d10_27) rfl rfl) ?_
      show Done _ p e below s _ _ (T2.setTop (mkF m 28 #[oR x1, oI (Int32.ofNat f), oI (Int32.ofNat tt), oI (Int32.ofNat cs.length), oI (Int32.ofNat (tt - f))] [(.ref x1)]))
      refine Done.callVP X2 hx hZ (C := "java/lang/String") hown (wAt hw 83 rfl) (wAt hw 84 rfl) (notFace_of_selects (args := #[]) (mvT hZ (wAt hw 86 rfl))) (wAt hw 86 rfl) (wAt hw 85 rfl) (wAt hw 11 rfl) (wAt hw 87 rfl) (by decide) (rmIL0 l Z a0 hw [] x1 z fm h0 n0 Z0 O0 SC hz SF rF SA SH SL C1) e2 E1 (g := (mkF m 28 #[oR x1, oI (Int32.ofNat f), oI (Int32.ofNat tt), oI (Int32.ofNat cs.length), oI (Int32.ofNat (tt - f))] [(.ref x1)])) rfl (by rw [hml]; rfl) [] [] 0 (lenOf pd_10 rfl) rfl rfl (by show 2 * 0 + _ ≤ _; exact Nat.le_of_eq rfl) (hb hby d10_28) (by decide) (by decide) (by decide) (by decide) rfl rfl ?_
      intro T11 X11 e11
      show Done _ p e below s _ _ (T11.setTop (mkF m 31 #[oR x1, oI (Int32.ofNat f), oI (Int32.ofNat tt), oI (Int32.ofNat cs.length), oI (Int32.ofNat (tt - f))] [(.int (1 : Int32))]))
      refine Done.step (fun _ => XS.ifNo X11.here hx rfl (hb hby d10_31) rfl (XT.i0_eq_f (by decide))) ?_
      show Done _ p e below s _ _ (T11.setTop (mkF m 34 #[oR x1, oI (Int32.ofNat f), oI (Int32.ofNat tt), oI (Int32.ofNat cs.length), oI (Int32.ofNat (tt - f))] []))
      refine Done.step (fun _ => XS.aloadN X11.here hx rfl (hb hby d10_34) rfl rfl) ?_
      show Done _ p e below s _ _ (T11.setTop (mkF m 35 #[oR x1, oI (Int32.ofNat f), oI (Int32.ofNat tt), oI (Int32.ofNat cs.length), oI (Int32.ofNat (tt - f))] [(.ref x1)]))
      obtain ⟨T12, X12, e12, st12⟩ := getF X11 hx hZ hown (host := "") (Or.inl (wAt hw 29 rfl)) Via.refl e11 V1 (g := (mkF m 35 #[oR x1, oI (Int32.ofNat f), oI (Int32.ofNat tt), oI (Int32.ofNat cs.length), oI (Int32.ofNat (tt - f))] [(.ref x1)])) rfl rfl (hb hby d10_35)
      refine Done.step st12 ?_
      show Done _ p e below s _ _ (T12.setTop (mkF m 38 #[oR x1, oI (Int32.ofNat f), oI (Int32.ofNat tt), oI (Int32.ofNat cs.length), oI (Int32.ofNat (tt - f))] [(.ref t1)]))
      refine Done.step (fun _ => XS.iloadN X12.here hx rfl (hb hby d10_38) rfl) ?_
      show Done _ p e below s _ _ (T12.setTop (mkF m 39 #[oR x1, oI (Int32.ofNat f), oI (Int32.ofNat tt), oI (Int32.ofNat cs.length), oI (Int32.ofNat (tt - f))] [(.int (Int32.ofNat f)), (.ref t1)]))
      refine Done.step (fun _ => XS.iload X12.here hx rfl (hb hby d10_39) rfl) ?_
      show Done _ p e below s _ _ (T12.setTop (mkF m 41 #[oR x1, oI (Int32.ofNat f), oI (Int32.ofNat tt), oI (Int32.ofNat cs.length), oI (Int32.ofNat (tt - f))] [(.int (Int32.ofNat (tt - f))), (.int (Int32.ofNat f)), (.ref t1)]))
      refine Done.callSW X12 hx hZ hown hS hk (wAt hw 98 rfl) (wAt hw 99 rfl) (wAt hw 90 rfl) (wAt hw 100 rfl) (by decide) (rN0 l Z a0 hw [] t1 kb1 cs f (tt - f) Ts z fm h0 n0 Z0 O0 SC hz SF rF SA SH SL gK1 hn (by omega) hne (fun q => hTs (fun z => hne ⟨by omega, by omega⟩)) hh hcw) (fun vm' hW => own_ibV hV hW) e12 (g := (mkF m 41 #[oR x1, oI (Int32.ofNat f), oI (Int32.ofNat tt), oI (Int32.ofNat cs.length), oI (Int32.ofNat (tt - f))] [(.int (Int32.ofNat (tt - f))), (.int (Int32.ofNat f)), (.ref t1)])) rfl (by rw [hml]; rfl) [(.ref t1), (.int (Int32.ofNat f)), (.int (Int32.ofNat (tt - f)))] [] 0 (lenOf pd_23 rfl) rfl rfl (by show 2 * 0 + _ ≤ _; exact Nat.le_of_eq rfl) (hb hby d10_41) (by decide) (by decide) (by decide) (by decide) ?_
      intro T13 v13 L13 X13 hS hZ hown hW13 q13
      have hk := Nat.le_refl T13.heap.size
      obtain ⟨xN, tN, kN, rfl, Nq13, K13q, EN, FN, CN, KN⟩ := q13
      have N13 := Fr.app N0 Nq13
      have Zs13 := Nat.le_trans Z0 K13q.1
      have K13 := (Keep.refl h0 []).trans K13q all0
      show Done _ p e below s _ _ (T13.setTop (mkF m 44 #[oR x1, oI (Int32.ofNat f), oI (Int32.ofNat tt), oI (Int32.ofNat cs.length), oI (Int32.ofNat (tt - f))] [(.ref xN)]))
      refine Done.step (fun _ => XS.goto X13.here hx rfl (pc0 := 44) (pc' := 57) rfl (hb hby d10_44) (by decide) (by decide)) ?_
      show Done _ p e below s _ _ (T13.setTop (mkF m 57 #[oR x1, oI (Int32.ofNat f), oI (Int32.ofNat tt), oI (Int32.ofNat cs.length), oI (Int32.ofNat (tt - f))] [(.ref xN)]))
      have hlN := own_subL (cs := cs) (f := f) (m := tt - f) (by omega)
      exact Done.retA (leavesW X13 hS (by first | exact hk | (rw [rfl]; exact hk)) hlk (by decide) (by decide)) X13 hx hret rfl rfl (hb hby d10_57) ⟨xN, tN, kN, rfl, N13, K13, EN, FN, Or.inl ⟨own_subB hs f (tt - f), CN, by rw [hlN]; exact KN⟩⟩
    · show Done _ p e below s _ _ (T2.setTop (mkF m 27 #[oR x1, oI (Int32.ofNat f), oI (Int32.ofNat tt), oI (Int32.ofNat cs.length), oI (Int32.ofNat (tt - f))] []))
      refine Done.step (fun _ => XS.aloadN X2.here hx rfl (hb hby d10_27) rfl rfl) ?_
      show Done _ p e below s _ _ (T2.setTop (mkF m 28 #[oR x1, oI (Int32.ofNat f), oI (Int32.ofNat tt), oI (Int32.ofNat cs.length), oI (Int32.ofNat (tt - f))] [(.ref x1)]))
      refine Done.callVP X2 hx hZ (C := "java/lang/String") hown (wAt hw 83 rfl) (wAt hw 84 rfl) (notFace_of_selects (args := #[]) (mvT hZ (wAt hw 86 rfl))) (wAt hw 86 rfl) (wAt hw 85 rfl) (wAt hw 11 rfl) (wAt hw 87 rfl) (by decide) (rmIL1 l Z a0 hw [] x1 z fm h0 n0 Z0 O0 SC hz SF rF SA SH SL C1) e2 E1 (g := (mkF m 28 #[oR x1, oI (Int32.ofNat f), oI (Int32.ofNat tt), oI (Int32.ofNat cs.length), oI (Int32.ofNat (tt - f))] [(.ref x1)])) rfl (by rw [hml]; rfl) [] [] 0 (lenOf pd_10 rfl) rfl rfl (by show 2 * 0 + _ ≤ _; exact Nat.le_of_eq rfl) (hb hby d10_28) (by decide) (by decide) (by decide) (by decide) rfl rfl ?_
      intro T14 X14 e14
      show Done _ p e below s _ _ (T14.setTop (mkF m 31 #[oR x1, oI (Int32.ofNat f), oI (Int32.ofNat tt), oI (Int32.ofNat cs.length), oI (Int32.ofNat (tt - f))] [(.int (0 : Int32))]))
      refine Done.step (fun _ => XS.ifYes X14.here hx rfl (pc0 := 31) (pc' := 47) rfl (hb hby d10_31) rfl (XT.i0_eq_t rfl) (by decide) (by decide)) ?_
      show Done _ p e below s _ _ (T14.setTop (mkF m 47 #[oR x1, oI (Int32.ofNat f), oI (Int32.ofNat tt), oI (Int32.ofNat cs.length), oI (Int32.ofNat (tt - f))] []))
      refine Done.step (fun _ => XS.aloadN X14.here hx rfl (hb hby d10_47) rfl rfl) ?_
      show Done _ p e below s _ _ (T14.setTop (mkF m 48 #[oR x1, oI (Int32.ofNat f), oI (Int32.ofNat tt), oI (Int32.ofNat cs.length), oI (Int32.ofNat (tt - f))] [(.ref x1)]))
      obtain ⟨T15, X15, e15, st15⟩ := getF X14 hx hZ hown (host := "") (Or.inl (wAt hw 29 rfl)) Via.refl e14 V1 (g := (mkF m 48 #[oR x1, oI (Int32.ofNat f), oI (Int32.ofNat tt), oI (Int32.ofNat cs.length), oI (Int32.ofNat (tt - f))] [(.ref x1)])) rfl rfl (hb hby d10_48)
      refine Done.step st15 ?_
      show Done _ p e below s _ _ (T15.setTop (mkF m 51 #[oR x1, oI (Int32.ofNat f), oI (Int32.ofNat tt), oI (Int32.ofNat cs.length), oI (Int32.ofNat (tt - f))] [(.ref t1)]))
      refine Done.step (fun _ => XS.iloadN X15.here hx rfl (hb hby d10_51) rfl) ?_
      show Done _ p e below s _ _ (T15.setTop (mkF m 52 #[oR x1, oI (Int32.ofNat f), oI (Int32.ofNat tt), oI (Int32.ofNat cs.length), oI (Int32.ofNat (tt - f))] [(.int (Int32.ofNat f)), (.ref t1)]))
      refine Done.step (fun _ => XS.iload X15.here hx rfl (hb hby d10_52) rfl) ?_
      show Done _ p e below s _ _ (T15.setTop (mkF m 54 #[oR x1, oI (Int32.ofNat f), oI (Int32.ofNat tt), oI (Int32.ofNat cs.length), oI (Int32.ofNat (tt - f))] [(.int (Int32.ofNat (tt - f))), (.int (Int32.ofNat f)), (.ref t1)]))
      refine Done.callS X15 hx hZ hown (wAt hw 156 rfl) (wAt hw 157 rfl) (wAt hw 67 rfl) (wAt hw 158 rfl) (by decide) (rN1 l Z a0 hw [] t1 kb1 cs f (tt - f) z fm h0 n0 Z0 O0 SC hz SF rF SA SH SL gK1 hn (by omega) hne hbc (hsub hs) (by obtain ⟨q, h1, -⟩ := hsub hs; omega)) (fun _ _ => trivial) e15 (g := (mkF m 54 #[oR x1, oI (Int32.ofNat f), oI (Int32.ofNat tt), oI (Int32.ofNat cs.length), oI (Int32.ofNat (tt - f))] [(.int (Int32.ofNat (tt - f))), (.int (Int32.ofNat f)), (.ref t1)])) rfl (by rw [hml]; rfl) [(.ref t1), (.int (Int32.ofNat f)), (.int (Int32.ofNat (tt - f)))] [] 0 (lenOf pd_23 rfl) rfl rfl (by show 2 * 0 + _ ≤ _; exact Nat.le_of_eq rfl) (hb hby d10_54) (by decide) (by decide) (by decide) (by decide) ?_
      intro T16 v16 L16 X16 q16
      obtain ⟨xN, tN, kN, rfl, Nq16, K16q, EN, FN, CN, KN⟩ := q16
      have N16 := Fr.app N0 Nq16
      have Zs16 := Nat.le_trans Z0 K16q.1
      have hk := Nat.le_trans hk K16q.1
      have K16 := (Keep.refl h0 []).trans K16q all0
      show Done _ p e below s _ _ (T16.setTop (mkF m 57 #[oR x1, oI (Int32.ofNat f), oI (Int32.ofNat tt), oI (Int32.ofNat cs.length), oI (Int32.ofNat (tt - f))] [(.ref xN)]))
      have hlN := own_subL (cs := cs) (f := f) (m := tt - f) (by omega)
      exact Done.retA (leavesW X16 hS (by first | exact hk | (rw [rfl]; exact hk)) hlk (by decide) (by decide)) X16 hx hret rfl rfl (hb hby d10_57) ⟨xN, tN, kN, rfl, N16, K16, EN, FN, Or.inr ⟨own_subW (hsub hs), CN, by rw [hlN]; exact KN⟩⟩
def own_ws (c : Int32) : Prop := c = (32 : Int32) ∨ c = (9 : Int32)
instance own_wsD (c : Int32) : Decidable (own_ws c) := inferInstanceAs (Decidable (_ ∨ _))
def WA (cs : List Int32) (i : Nat) : Prop := ∀ x, x < i → own_ws (cs.getD x 0)
def WB (cs : List Int32) (j : Nat) : Prop := ∀ x, j ≤ x → x < cs.length → own_ws (cs.getD x 0)
def TR (cs : List Int32) (f t : Nat) : Prop := f ≤ t ∧ t ≤ cs.length ∧ WA cs f ∧ (f < cs.length → ¬ own_ws (cs.getD f 0)) ∧ WB cs t ∧ (f < t → ¬ own_ws (cs.getD (t - 1) 0))
theorem own_wa {cs : List Int32} {i : Nat} (h : WA cs i) (g : own_ws (cs.getD i 0)) : WA cs (i + 1) := fun x hx => by
  rcases Nat.lt_or_ge x i with q | q
  · exact h x q
  · have e : x = i := by omega
    rw [e]; exact g
theorem own_wb {cs : List Int32} {j : Nat} (h : WB cs j) (g : own_ws (cs.getD (j - 1) 0)) : WB cs (j - 1) := fun x hx hl => by
  rcases Nat.lt_or_ge x j with q | q
  · have e : x = j - 1 := by omega
    rw [e]; exact g
  · exact h x q hl
theorem own_wsB {c : Int32} (h : own_ws c) : ¬ (255 : Int32) < c := by rcases h with rfl | rfl <;> decide
theorem own_sw {cs : List Int32} {i j : Nat} (hij : i ≤ j) (hj : j ≤ cs.length) (hA : WA cs i) (hB : WB cs j) (h : ¬ SM cs) : ∃ q, q < j - i ∧ (255 : Int32) < cs.getD (i + q) 0 := by
  apply Classical.byContradiction
  intro hn
  apply h
  intro c hc hbig
  obtain ⟨x, hx, rfl⟩ := List.mem_iff_getElem.mp hc
  have e : cs.getD x 0 = cs[x] := by simp [List.getD_eq_getElem?_getD, hx]
  rw [← e] at hbig
  rcases Nat.lt_or_ge x i with q | q
  · exact own_wsB (hA x q) hbig
  · rcases Nat.lt_or_ge x j with q2 | q2
    · exact hn ⟨x - i, by omega, by rw [show i + (x - i) = x by omega]; exact hbig⟩
    · exact own_wsB (hB x q2 hx) hbig
theorem own_decP {j : Nat} (h : 0 < j) : Int32.ofNat j - (1 : Int32) = Int32.ofNat (j - 1) := own_subN (i := j) (j := 1) (by omega)
theorem own_decQ {j : Nat} (h : 0 < j) : Int32.ofNat j + (-1 : Int32) = Int32.ofNat (j - 1) := by rw [← own_decP h, Int32.sub_eq_add_neg]
theorem pn_com_example_wide_weir_wideweir_http_HttpSyntax : plainName "com/example/wide_weir/wideweir/http/HttpSyntax" = true := by first | (simp [plainName, overriddenIn]; done) | decide +kernel
theorem d7_0 : decode prog_33_method_5_code 0 = .ok (.iconst 0, 1) := by decide +kernel
theorem d7_1 : decode prog_33_method_5_code 1 = .ok (.istore_n 1, 1) := by decide +kernel
theorem d7_2 : decode prog_33_method_5_code 2 = .ok (.aload_n 0, 1) := by decide +kernel
theorem d7_3 : decode prog_33_method_5_code 3 = .ok (.invokevirtual 13, 3) := by decide +kernel
theorem d7_6 : decode prog_33_method_5_code 6 = .ok (.istore_n 2, 1) := by decide +kernel
theorem d7_38 : decode prog_33_method_5_code 38 = .ok (.iload_n 2, 1) := by decide +kernel
theorem d7_39 : decode prog_33_method_5_code 39 = .ok (.iload_n 1, 1) := by decide +kernel
theorem d7_40 : decode prog_33_method_5_code 40 = .ok (.if_icmp .le 33, 3) := by decide +kernel
theorem d7_73 : decode prog_33_method_5_code 73 = .ok (.aload_n 0, 1) := by decide +kernel
theorem d7_74 : decode prog_33_method_5_code 74 = .ok (.iload_n 1, 1) := by decide +kernel
theorem d7_75 : decode prog_33_method_5_code 75 = .ok (.iload_n 2, 1) := by decide +kernel
theorem d7_76 : decode prog_33_method_5_code 76 = .ok (.invokevirtual 29, 3) := by decide +kernel
theorem pd_24 : parseMethodDescriptor "(II)Ljava/lang/String;" = some ⟨[.int, .int], some (.object "java/lang/String")⟩ := by decide +kernel
theorem d7_79 : decode prog_33_method_5_code 79 = .ok (.areturn, 1) := by decide +kernel
theorem d7_43 : decode prog_33_method_5_code 43 = .ok (.aload_n 0, 1) := by decide +kernel
theorem d7_44 : decode prog_33_method_5_code 44 = .ok (.iload_n 2, 1) := by decide +kernel
theorem d7_45 : decode prog_33_method_5_code 45 = .ok (.iconst 1, 1) := by decide +kernel
theorem d7_46 : decode prog_33_method_5_code 46 = .ok (.isub, 1) := by decide +kernel
theorem d7_47 : decode prog_33_method_5_code 47 = .ok (.invokevirtual 17, 3) := by decide +kernel
theorem pd_25 : parseMethodDescriptor "(I)C" = some ⟨[.int], some .char⟩ := by decide +kernel
theorem d7_50 : decode prog_33_method_5_code 50 = .ok (.bipush 32, 2) := by decide +kernel
theorem d7_52 : decode prog_33_method_5_code 52 = .ok (.if_icmp .eq 15, 3) := by decide +kernel
theorem d7_67 : decode prog_33_method_5_code 67 = .ok (.iinc 2 (-1), 3) := by decide +kernel
theorem d7_70 : decode prog_33_method_5_code 70 = .ok (.goto (-32), 3) := by decide +kernel
theorem d7_55 : decode prog_33_method_5_code 55 = .ok (.aload_n 0, 1) := by decide +kernel
theorem d7_56 : decode prog_33_method_5_code 56 = .ok (.iload_n 2, 1) := by decide +kernel
theorem d7_57 : decode prog_33_method_5_code 57 = .ok (.iconst 1, 1) := by decide +kernel
theorem d7_58 : decode prog_33_method_5_code 58 = .ok (.isub, 1) := by decide +kernel
theorem d7_59 : decode prog_33_method_5_code 59 = .ok (.invokevirtual 17, 3) := by decide +kernel
theorem d7_62 : decode prog_33_method_5_code 62 = .ok (.bipush 9, 2) := by decide +kernel
theorem d7_64 : decode prog_33_method_5_code 64 = .ok (.if_icmp .ne 9, 3) := by decide +kernel
theorem d7_7 : decode prog_33_method_5_code 7 = .ok (.iload_n 1, 1) := by decide +kernel
theorem d7_8 : decode prog_33_method_5_code 8 = .ok (.iload_n 2, 1) := by decide +kernel
theorem d7_9 : decode prog_33_method_5_code 9 = .ok (.if_icmp .ge 29, 3) := by decide +kernel
theorem d7_12 : decode prog_33_method_5_code 12 = .ok (.aload_n 0, 1) := by decide +kernel
theorem d7_13 : decode prog_33_method_5_code 13 = .ok (.iload_n 1, 1) := by decide +kernel
theorem d7_14 : decode prog_33_method_5_code 14 = .ok (.invokevirtual 17, 3) := by decide +kernel
theorem d7_17 : decode prog_33_method_5_code 17 = .ok (.bipush 32, 2) := by decide +kernel
theorem d7_19 : decode prog_33_method_5_code 19 = .ok (.if_icmp .eq 13, 3) := by decide +kernel
theorem d7_32 : decode prog_33_method_5_code 32 = .ok (.iinc 1 1, 3) := by decide +kernel
theorem d7_35 : decode prog_33_method_5_code 35 = .ok (.goto (-28), 3) := by decide +kernel
theorem d7_22 : decode prog_33_method_5_code 22 = .ok (.aload_n 0, 1) := by decide +kernel
theorem d7_23 : decode prog_33_method_5_code 23 = .ok (.iload_n 1, 1) := by decide +kernel
theorem d7_24 : decode prog_33_method_5_code 24 = .ok (.invokevirtual 17, 3) := by decide +kernel
theorem d7_27 : decode prog_33_method_5_code 27 = .ok (.bipush 9, 2) := by decide +kernel
theorem d7_29 : decode prog_33_method_5_code 29 = .ok (.if_icmp .ne 9, 3) := by decide +kernel
set_option maxRecDepth 65536 in
set_option maxHeartbeats 40000000 in
theorem rT (l : Launch) (Z : State) (a0 : Array Value) (hw : ∀ d ∈ tables_1, d.before a0 Z = true) (ws : List Jvm.Cond) (x1 : Addr) (t1 : Addr) (kb1 : ClassId) (cs : List Int32) (Ts : List String) (z : Int32) (fm : Value) (h0 : Heap) (n0 : Nat) (Z0 : n0 ≤ h0.size) (O0 : Old Z n0 h0) (SC : Sta Z Z.heap "java/lang/String" "COMPACT_STRINGS" "Z" (.int z)) (hz : ¬ z = 0) (SF : Sta Z Z.heap "jdk/internal/util/Preconditions" "SIOOBE_FORMATTER" "Ljava/util/function/BiFunction;" fm) (rF : fm.isRef = true) (SA : Sta Z Z.heap "java/lang/StringUTF16" "$assertionsDisabled" "Z" (.int (1 : Int32))) (SH : Sta Z Z.heap "java/lang/StringUTF16" "HI_BYTE_SHIFT" "I" (.int (0 : Int32))) (SL : Sta Z Z.heap "java/lang/StringUTF16" "LO_BYTE_SHIFT" "I" (.int (8 : Int32))) (E1 : Exa Z h0 x1 "java/lang/String") (V1 : Fld Z h0 x1 "java/lang/String" "value" "[B" (.ref t1)) (D1 : SD Z h0 x1 t1 kb1 cs) (hn : cs.length ≤ 4) (hbc : ∀ c ∈ cs, ¬ c < 0 ∧ ¬ (65535 : Int32) < c) (hTs : cs.length ≠ 0 → "" ∉ Ts) (hh : Jvm.Lit.constHeld Z "java/lang/StringLatin1" 151) (hcw : Jvm.Lit.compactW.before a0 Z = true) :
    Ctr ReturnedEndW l Z (⟨"com/example/wide_weir/wideweir/http/HttpSyntax", "trimWhitespace", "(Ljava/lang/String;)Ljava/lang/String;"⟩ : MethodName) prog_33_method_5_code 3 (some (.object "java/lang/String")) ws ({ frames := 7, cells := 3, slots := 16, locals := 138 } : Room) #[(.ref x1)] h0 (fun vm => IB Z vm Ts) (fun v h _ L => ∃ (f tt : Nat) (x t : Addr) (kb : ClassId), v = some (.ref x) ∧ Fr n0 L ∧ Keep h0 h [] ∧ TR cs f tt ∧ Exa Z h x "java/lang/String" ∧ Fld Z h x "java/lang/String" "value" "[B" (.ref t) ∧ SD Z h x t kb ((cs.drop f).take (tt - f))) := by
  refine Ctr.intro (plainFor_of_name pn_com_example_wide_weir_wideweir_http_HttpSyntax) (Ls := #[.val (.ref x1), .unset, .unset]) (fun m => by first | (simp [entryFrame, mkF, argsToLocals, Value.category]; done) | rfl) ?_
  intro p e s m below meth c T0 hx hby hml hown hnm hret hlk hZ hV hsh e0 X0
  have N0 := Fr.nil n0
  have hS : s.Since s.vm 0 := (State.WarmedH.refl s).since 0
  have hk : 0 ≤ h0.size := Nat.zero_le _
  have X0 : Stand p l e ({ frames := 7, cells := 3, slots := 16, locals := 138 } : Room) (s.setVm s.vm) m #[(.ref x1)] below meth c T0 [] 0 0 := X0
  have hZ : Z.Warmed39 (s.setVm s.vm).vm := hZ
  have hown : (s.setVm s.vm).vm.findClass "com/example/wide_weir/wideweir/http/HttpSyntax" = some m.cls := hown
  show Done _ p e below s _ _ (T0.setTop (mkF m 0 #[oR x1, .unset, .unset] []))
  refine Done.step (fun _ => XT.iconstV X0.here hx rfl (0 : Int32) (hb hby d7_0) (by decide)) ?_
  show Done _ p e below s _ _ (T0.setTop (mkF m 1 #[oR x1, .unset, .unset] [(.int (0 : Int32))]))
  refine Done.step (fun _ => XS.istoreN X0.here hx rfl (hb hby d7_1) rfl (l' := #[oR x1, oI (0 : Int32), .unset]) rfl) ?_
  show Done _ p e below s _ _ (T0.setTop (mkF m 2 #[oR x1, oI (0 : Int32), .unset] []))
  refine Done.step (fun _ => XS.aloadN X0.here hx rfl (hb hby d7_2) rfl rfl) ?_
  show Done _ p e below s _ _ (T0.setTop (mkF m 3 #[oR x1, oI (0 : Int32), .unset] [(.ref x1)]))
  refine Done.callVP X0 hx hZ (C := "java/lang/String") hown (wAt hw 39 rfl) (wAt hw 40 rfl) (notFace_of_selects (args := #[]) (mvT hZ (wAt hw 42 rfl))) (wAt hw 42 rfl) (wAt hw 41 rfl) (wAt hw 11 rfl) (wAt hw 43 rfl) (by decide) (rL l Z a0 hw [] x1 t1 kb1 cs z fm h0 n0 Z0 O0 SC hz SF rF SA SH SL E1 V1 D1 hn) e0 E1 (g := (mkF m 3 #[oR x1, oI (0 : Int32), .unset] [(.ref x1)])) rfl (by rw [hml]; rfl) [] [] 0 (lenOf pd_21 rfl) rfl rfl (by show 2 * 0 + _ ≤ _; exact Nat.le_of_eq rfl) (hb hby d7_3) (by decide) (by decide) (by decide) (by decide) rfl rfl ?_
  intro T1 X1 e1
  show Done _ p e below s _ _ (T1.setTop (mkF m 6 #[oR x1, oI (0 : Int32), .unset] [(.int (Int32.ofNat cs.length))]))
  refine Done.step (fun _ => XS.istoreN X1.here hx rfl (hb hby d7_6) rfl (l' := #[oR x1, oI (0 : Int32), oI (Int32.ofNat cs.length)]) rfl) ?_
  show Done _ p e below s _ _ (T1.setTop (mkF m 7 #[oR x1, oI (0 : Int32), oI (Int32.ofNat cs.length)] []))
  have K38 : ∀ (kk : Nat) (i j : Nat) (hij : i + kk = j) (hj : j ≤ cs.length) (hA : WA cs i) (hA2 : i < cs.length → ¬ own_ws (cs.getD i 0)) (hB : WB cs j) (TL : State) (eL : TL.heap = h0) (XL : Stand p l e ({ frames := 7, cells := 3, slots := 16, locals := 138 } : Room) (s.setVm s.vm) m #[(.ref x1)] below meth c TL [] 0 0), Done ReturnedEndW p e below s ({ frames := 7, cells := 3, slots := 16, locals := 138 } : Room) (fun v h _ L => ∃ (f tt : Nat) (x t : Addr) (kb : ClassId), v = some (.ref x) ∧ Fr n0 L ∧ Keep h0 h [] ∧ TR cs f tt ∧ Exa Z h x "java/lang/String" ∧ Fld Z h x "java/lang/String" "value" "[B" (.ref t) ∧ SD Z h x t kb ((cs.drop f).take (tt - f))) (TL.setTop (mkF m 38 #[oR x1, oI (Int32.ofNat i), oI (Int32.ofNat j)] [])) := by
    intro kk
    induction kk with
    | zero =>
      intro i j hij hj hA hA2 hB TL eL XL
      show Done _ p e below s _ _ (TL.setTop (mkF m 38 #[oR x1, oI (Int32.ofNat i), oI (Int32.ofNat j)] []))
      refine Done.step (fun _ => XS.iloadN XL.here hx rfl (hb hby d7_38) rfl) ?_
      show Done _ p e below s _ _ (TL.setTop (mkF m 39 #[oR x1, oI (Int32.ofNat i), oI (Int32.ofNat j)] [(.int (Int32.ofNat j))]))
      refine Done.step (fun _ => XS.iloadN XL.here hx rfl (hb hby d7_39) rfl) ?_
      show Done _ p e below s _ _ (TL.setTop (mkF m 40 #[oR x1, oI (Int32.ofNat i), oI (Int32.ofNat j)] [(.int (Int32.ofNat i)), (.int (Int32.ofNat j))]))
      refine Done.step (fun _ => XS.icmpYes XL.here hx rfl (pc0 := 40) (pc' := 73) rfl (hb hby d7_40) rfl (XT.ii_le_t (by rw [own_lt (by omega) (by omega)]; omega)) (by decide) (by decide)) ?_
      show Done _ p e below s _ _ (TL.setTop (mkF m 73 #[oR x1, oI (Int32.ofNat i), oI (Int32.ofNat j)] []))
      refine Done.step (fun _ => XS.aloadN XL.here hx rfl (hb hby d7_73) rfl rfl) ?_
      show Done _ p e below s _ _ (TL.setTop (mkF m 74 #[oR x1, oI (Int32.ofNat i), oI (Int32.ofNat j)] [(.ref x1)]))
      refine Done.step (fun _ => XS.iloadN XL.here hx rfl (hb hby d7_74) rfl) ?_
      show Done _ p e below s _ _ (TL.setTop (mkF m 75 #[oR x1, oI (Int32.ofNat i), oI (Int32.ofNat j)] [(.int (Int32.ofNat i)), (.ref x1)]))
      refine Done.step (fun _ => XS.iloadN XL.here hx rfl (hb hby d7_75) rfl) ?_
      show Done _ p e below s _ _ (TL.setTop (mkF m 76 #[oR x1, oI (Int32.ofNat i), oI (Int32.ofNat j)] [(.int (Int32.ofNat j)), (.int (Int32.ofNat i)), (.ref x1)]))
      refine own_callVW XL hx hZ (C := "java/lang/String") hown hS hk (wAt hw 50 rfl) (wAt hw 51 rfl) (notFace_of_selects (args := #[]) (mvT hZ (wAt hw 53 rfl))) (wAt hw 53 rfl) (wAt hw 52 rfl) (wAt hw 11 rfl) (wAt hw 54 rfl) (by decide) (rSub l Z a0 hw [] x1 t1 kb1 cs i j Ts z fm h0 n0 Z0 O0 SC hz SF rF SA SH SL E1 V1 D1 hn hbc (by omega) hj (own_sw (by omega) hj hA hB) hTs hh hcw) (fun vm' hW => own_ibV hV hW) eL E1 (g := (mkF m 76 #[oR x1, oI (Int32.ofNat i), oI (Int32.ofNat j)] [(.int (Int32.ofNat j)), (.int (Int32.ofNat i)), (.ref x1)])) rfl (by rw [hml]; rfl) [(.int (Int32.ofNat i)), (.int (Int32.ofNat j))] [] 0 (lenOf pd_24 rfl) rfl rfl (by show 2 * 0 + _ ≤ _; exact Nat.le_of_eq rfl) (hb hby d7_76) (by decide) (by decide) (by decide) (by decide) ?_
      intro T2 v2 L2 X2 hS hZ hown hW2 q2
      have hk := Nat.le_refl T2.heap.size
      obtain ⟨xR, tR, kR, rfl, Nq2, K2q, ER, FR, DR⟩ := q2
      have N2 := Fr.app N0 Nq2
      have Zs2 := Nat.le_trans Z0 K2q.1
      have K2 := (Keep.refl h0 []).trans K2q all0
      show Done _ p e below s _ _ (T2.setTop (mkF m 79 #[oR x1, oI (Int32.ofNat i), oI (Int32.ofNat j)] [(.ref xR)]))
      exact Done.retA (leavesW X2 hS (by first | exact hk | (rw [rfl]; exact hk)) hlk (by decide) (by decide)) X2 hx hret rfl rfl (hb hby d7_79) ⟨i, j, xR, tR, kR, rfl, N2, K2, ⟨by omega, hj, hA, hA2, hB, fun hlt => absurd hlt (by omega)⟩, ER, FR, DR⟩
    | succ kk ih =>
      intro i j hij hj hA hA2 hB TL eL XL
      show Done _ p e below s _ _ (TL.setTop (mkF m 38 #[oR x1, oI (Int32.ofNat i), oI (Int32.ofNat j)] []))
      refine Done.step (fun _ => XS.iloadN XL.here hx rfl (hb hby d7_38) rfl) ?_
      show Done _ p e below s _ _ (TL.setTop (mkF m 39 #[oR x1, oI (Int32.ofNat i), oI (Int32.ofNat j)] [(.int (Int32.ofNat j))]))
      refine Done.step (fun _ => XS.iloadN XL.here hx rfl (hb hby d7_39) rfl) ?_
      show Done _ p e below s _ _ (TL.setTop (mkF m 40 #[oR x1, oI (Int32.ofNat i), oI (Int32.ofNat j)] [(.int (Int32.ofNat i)), (.int (Int32.ofNat j))]))
      refine Done.step (fun _ => XS.icmpNo XL.here hx rfl (hb hby d7_40) rfl (XT.ii_le_f (by rw [own_lt (by omega) (by omega)]; omega))) ?_
      show Done _ p e below s _ _ (TL.setTop (mkF m 43 #[oR x1, oI (Int32.ofNat i), oI (Int32.ofNat j)] []))
      refine Done.step (fun _ => XS.aloadN XL.here hx rfl (hb hby d7_43) rfl rfl) ?_
      show Done _ p e below s _ _ (TL.setTop (mkF m 44 #[oR x1, oI (Int32.ofNat i), oI (Int32.ofNat j)] [(.ref x1)]))
      refine Done.step (fun _ => XS.iloadN XL.here hx rfl (hb hby d7_44) rfl) ?_
      show Done _ p e below s _ _ (TL.setTop (mkF m 45 #[oR x1, oI (Int32.ofNat i), oI (Int32.ofNat j)] [(.int (Int32.ofNat j)), (.ref x1)]))
      refine Done.step (fun _ => XT.iconstV XL.here hx rfl (1 : Int32) (hb hby d7_45) (by decide)) ?_
      show Done _ p e below s _ _ (TL.setTop (mkF m 46 #[oR x1, oI (Int32.ofNat i), oI (Int32.ofNat j)] [(.int (1 : Int32)), (.int (Int32.ofNat j)), (.ref x1)]))
      refine Done.step (fun _ => XS.isub XL.here hx rfl (hb hby d7_46) rfl) ?_
      show Done _ p e below s _ _ (TL.setTop (mkF m 47 #[oR x1, oI (Int32.ofNat i), oI (Int32.ofNat j)] [(.int ((Int32.ofNat j) - (1 : Int32))), (.ref x1)]))
      rw [own_decP (j := j) (by omega)]
      show Done _ p e below s _ _ (TL.setTop (mkF m 47 #[oR x1, oI (Int32.ofNat i), oI (Int32.ofNat j)] [(.int (Int32.ofNat (j - 1))), (.ref x1)]))
      refine Done.callVP XL hx hZ (C := "java/lang/String") hown (wAt hw 78 rfl) (wAt hw 79 rfl) (notFace_of_selects (args := #[]) (mvT hZ (wAt hw 81 rfl))) (wAt hw 81 rfl) (wAt hw 80 rfl) (wAt hw 11 rfl) (wAt hw 82 rfl) (by decide) (rC l Z a0 hw [] x1 t1 kb1 cs (j - 1) z fm h0 n0 Z0 O0 SC hz SF rF SA SH SL E1 V1 D1 hn (by omega) hbc) eL E1 (g := (mkF m 47 #[oR x1, oI (Int32.ofNat i), oI (Int32.ofNat j)] [(.int (Int32.ofNat (j - 1))), (.ref x1)])) rfl (by rw [hml]; rfl) [(.int (Int32.ofNat (j - 1)))] [] 0 (lenOf pd_25 rfl) rfl rfl (by show 2 * 0 + _ ≤ _; exact Nat.le_of_eq rfl) (hb hby d7_47) (by decide) (by decide) (by decide) (by decide) rfl rfl ?_
      intro T3 X3 e3
      show Done _ p e below s _ _ (T3.setTop (mkF m 50 #[oR x1, oI (Int32.ofNat i), oI (Int32.ofNat j)] [(.int (cs.getD (j - 1) 0))]))
      refine Done.step (fun _ => XT.bipushV X3.here hx rfl (32 : Int32) (hb hby d7_50) (by decide)) ?_
      show Done _ p e below s _ _ (T3.setTop (mkF m 52 #[oR x1, oI (Int32.ofNat i), oI (Int32.ofNat j)] [(.int (32 : Int32)), (.int (cs.getD (j - 1) 0))]))
      by_cases hc4 : (cs.getD (j - 1) 0) = (32 : Int32)
      · refine Done.step (fun _ => XS.icmpYes X3.here hx rfl (pc0 := 52) (pc' := 67) rfl (hb hby d7_52) rfl (XT.ii_eq_t hc4) (by decide) (by decide)) ?_
        show Done _ p e below s _ _ (T3.setTop (mkF m 67 #[oR x1, oI (Int32.ofNat i), oI (Int32.ofNat j)] []))
        refine Done.step (fun _ => XS.iinc X3.here hx rfl (hb hby d7_67) rfl (l' := #[oR x1, oI (Int32.ofNat i), oI ((Int32.ofNat j) + (-1 : Int32))]) rfl) ?_
        show Done _ p e below s _ _ (T3.setTop (mkF m 70 #[oR x1, oI (Int32.ofNat i), oI ((Int32.ofNat j) + (-1 : Int32))] []))
        refine Done.step (fun _ => XS.goto X3.here hx rfl (pc0 := 70) (pc' := 38) rfl (hb hby d7_70) (by decide) (by decide)) ?_
        show Done _ p e below s _ _ (T3.setTop (mkF m 38 #[oR x1, oI (Int32.ofNat i), oI ((Int32.ofNat j) + (-1 : Int32))] []))
        rw [own_decQ (j := j) (by omega)]
        exact ih i (j - 1) (by omega) (by omega) hA hA2 (own_wb hB (Or.inl hc4)) T3 e3 X3
      · refine Done.step (fun _ => XS.icmpNo X3.here hx rfl (hb hby d7_52) rfl (XT.ii_eq_f hc4)) ?_
        show Done _ p e below s _ _ (T3.setTop (mkF m 55 #[oR x1, oI (Int32.ofNat i), oI (Int32.ofNat j)] []))
        refine Done.step (fun _ => XS.aloadN X3.here hx rfl (hb hby d7_55) rfl rfl) ?_
        show Done _ p e below s _ _ (T3.setTop (mkF m 56 #[oR x1, oI (Int32.ofNat i), oI (Int32.ofNat j)] [(.ref x1)]))
        refine Done.step (fun _ => XS.iloadN X3.here hx rfl (hb hby d7_56) rfl) ?_
        show Done _ p e below s _ _ (T3.setTop (mkF m 57 #[oR x1, oI (Int32.ofNat i), oI (Int32.ofNat j)] [(.int (Int32.ofNat j)), (.ref x1)]))
        refine Done.step (fun _ => XT.iconstV X3.here hx rfl (1 : Int32) (hb hby d7_57) (by decide)) ?_
        show Done _ p e below s _ _ (T3.setTop (mkF m 58 #[oR x1, oI (Int32.ofNat i), oI (Int32.ofNat j)] [(.int (1 : Int32)), (.int (Int32.ofNat j)), (.ref x1)]))
        refine Done.step (fun _ => XS.isub X3.here hx rfl (hb hby d7_58) rfl) ?_
        show Done _ p e below s _ _ (T3.setTop (mkF m 59 #[oR x1, oI (Int32.ofNat i), oI (Int32.ofNat j)] [(.int ((Int32.ofNat j) - (1 : Int32))), (.ref x1)]))
        rw [own_decP (j := j) (by omega)]
        show Done _ p e below s _ _ (T3.setTop (mkF m 59 #[oR x1, oI (Int32.ofNat i), oI (Int32.ofNat j)] [(.int (Int32.ofNat (j - 1))), (.ref x1)]))
        refine Done.callVP X3 hx hZ (C := "java/lang/String") hown (wAt hw 78 rfl) (wAt hw 79 rfl) (notFace_of_selects (args := #[]) (mvT hZ (wAt hw 81 rfl))) (wAt hw 81 rfl) (wAt hw 80 rfl) (wAt hw 11 rfl) (wAt hw 82 rfl) (by decide) (rC l Z a0 hw [] x1 t1 kb1 cs (j - 1) z fm h0 n0 Z0 O0 SC hz SF rF SA SH SL E1 V1 D1 hn (by omega) hbc) e3 E1 (g := (mkF m 59 #[oR x1, oI (Int32.ofNat i), oI (Int32.ofNat j)] [(.int (Int32.ofNat (j - 1))), (.ref x1)])) rfl (by rw [hml]; rfl) [(.int (Int32.ofNat (j - 1)))] [] 0 (lenOf pd_25 rfl) rfl rfl (by show 2 * 0 + _ ≤ _; exact Nat.le_of_eq rfl) (hb hby d7_59) (by decide) (by decide) (by decide) (by decide) rfl rfl ?_
        intro T5 X5 e5
        show Done _ p e below s _ _ (T5.setTop (mkF m 62 #[oR x1, oI (Int32.ofNat i), oI (Int32.ofNat j)] [(.int (cs.getD (j - 1) 0))]))
        refine Done.step (fun _ => XT.bipushV X5.here hx rfl (9 : Int32) (hb hby d7_62) (by decide)) ?_
        show Done _ p e below s _ _ (T5.setTop (mkF m 64 #[oR x1, oI (Int32.ofNat i), oI (Int32.ofNat j)] [(.int (9 : Int32)), (.int (cs.getD (j - 1) 0))]))
        by_cases hc6 : (cs.getD (j - 1) 0) = (9 : Int32)
        · refine Done.step (fun _ => XS.icmpNo X5.here hx rfl (hb hby d7_64) rfl (XT.ii_ne_f hc6)) ?_
          show Done _ p e below s _ _ (T5.setTop (mkF m 67 #[oR x1, oI (Int32.ofNat i), oI (Int32.ofNat j)] []))
          refine Done.step (fun _ => XS.iinc X5.here hx rfl (hb hby d7_67) rfl (l' := #[oR x1, oI (Int32.ofNat i), oI ((Int32.ofNat j) + (-1 : Int32))]) rfl) ?_
          show Done _ p e below s _ _ (T5.setTop (mkF m 70 #[oR x1, oI (Int32.ofNat i), oI ((Int32.ofNat j) + (-1 : Int32))] []))
          refine Done.step (fun _ => XS.goto X5.here hx rfl (pc0 := 70) (pc' := 38) rfl (hb hby d7_70) (by decide) (by decide)) ?_
          show Done _ p e below s _ _ (T5.setTop (mkF m 38 #[oR x1, oI (Int32.ofNat i), oI ((Int32.ofNat j) + (-1 : Int32))] []))
          rw [own_decQ (j := j) (by omega)]
          exact ih i (j - 1) (by omega) (by omega) hA hA2 (own_wb hB (Or.inr hc6)) T5 e5 X5
        · refine Done.step (fun _ => XS.icmpYes X5.here hx rfl (pc0 := 64) (pc' := 73) rfl (hb hby d7_64) rfl (XT.ii_ne_t hc6) (by decide) (by decide)) ?_
          show Done _ p e below s _ _ (T5.setTop (mkF m 73 #[oR x1, oI (Int32.ofNat i), oI (Int32.ofNat j)] []))
          refine Done.step (fun _ => XS.aloadN X5.here hx rfl (hb hby d7_73) rfl rfl) ?_
          show Done _ p e below s _ _ (T5.setTop (mkF m 74 #[oR x1, oI (Int32.ofNat i), oI (Int32.ofNat j)] [(.ref x1)]))
          refine Done.step (fun _ => XS.iloadN X5.here hx rfl (hb hby d7_74) rfl) ?_
          show Done _ p e below s _ _ (T5.setTop (mkF m 75 #[oR x1, oI (Int32.ofNat i), oI (Int32.ofNat j)] [(.int (Int32.ofNat i)), (.ref x1)]))
          refine Done.step (fun _ => XS.iloadN X5.here hx rfl (hb hby d7_75) rfl) ?_
          show Done _ p e below s _ _ (T5.setTop (mkF m 76 #[oR x1, oI (Int32.ofNat i), oI (Int32.ofNat j)] [(.int (Int32.ofNat j)), (.int (Int32.ofNat i)), (.ref x1)]))
          refine own_callVW X5 hx hZ (C := "java/lang/String") hown hS hk (wAt hw 50 rfl) (wAt hw 51 rfl) (notFace_of_selects (args := #[]) (mvT hZ (wAt hw 53 rfl))) (wAt hw 53 rfl) (wAt hw 52 rfl) (wAt hw 11 rfl) (wAt hw 54 rfl) (by decide) (rSub l Z a0 hw [] x1 t1 kb1 cs i j Ts z fm h0 n0 Z0 O0 SC hz SF rF SA SH SL E1 V1 D1 hn hbc (by omega) hj (own_sw (by omega) hj hA hB) hTs hh hcw) (fun vm' hW => own_ibV hV hW) e5 E1 (g := (mkF m 76 #[oR x1, oI (Int32.ofNat i), oI (Int32.ofNat j)] [(.int (Int32.ofNat j)), (.int (Int32.ofNat i)), (.ref x1)])) rfl (by rw [hml]; rfl) [(.int (Int32.ofNat i)), (.int (Int32.ofNat j))] [] 0 (lenOf pd_24 rfl) rfl rfl (by show 2 * 0 + _ ≤ _; exact Nat.le_of_eq rfl) (hb hby d7_76) (by decide) (by decide) (by decide) (by decide) ?_
          intro T7 v7 L7 X7 hS hZ hown hW7 q7
          have hk := Nat.le_refl T7.heap.size
          obtain ⟨xR, tR, kR, rfl, Nq7, K7q, ER, FR, DR⟩ := q7
          have N7 := Fr.app N0 Nq7
          have Zs7 := Nat.le_trans Z0 K7q.1
          have K7 := (Keep.refl h0 []).trans K7q all0
          show Done _ p e below s _ _ (T7.setTop (mkF m 79 #[oR x1, oI (Int32.ofNat i), oI (Int32.ofNat j)] [(.ref xR)]))
          exact Done.retA (leavesW X7 hS (by first | exact hk | (rw [rfl]; exact hk)) hlk (by decide) (by decide)) X7 hx hret rfl rfl (hb hby d7_79) ⟨i, j, xR, tR, kR, rfl, N7, K7, ⟨by omega, hj, hA, hA2, hB, fun hlt => (fun q => q.elim hc4 hc6)⟩, ER, FR, DR⟩
  have K7 : ∀ (kk : Nat) (i : Nat) (hik : i + kk = cs.length) (hA : WA cs i) (TL : State) (eL : TL.heap = h0) (XL : Stand p l e ({ frames := 7, cells := 3, slots := 16, locals := 138 } : Room) (s.setVm s.vm) m #[(.ref x1)] below meth c TL [] 0 0), Done ReturnedEndW p e below s ({ frames := 7, cells := 3, slots := 16, locals := 138 } : Room) (fun v h _ L => ∃ (f tt : Nat) (x t : Addr) (kb : ClassId), v = some (.ref x) ∧ Fr n0 L ∧ Keep h0 h [] ∧ TR cs f tt ∧ Exa Z h x "java/lang/String" ∧ Fld Z h x "java/lang/String" "value" "[B" (.ref t) ∧ SD Z h x t kb ((cs.drop f).take (tt - f))) (TL.setTop (mkF m 7 #[oR x1, oI (Int32.ofNat i), oI (Int32.ofNat cs.length)] [])) := by
    intro kk
    induction kk with
    | zero =>
      intro i hik hA TL eL XL
      show Done _ p e below s _ _ (TL.setTop (mkF m 7 #[oR x1, oI (Int32.ofNat i), oI (Int32.ofNat cs.length)] []))
      refine Done.step (fun _ => XS.iloadN XL.here hx rfl (hb hby d7_7) rfl) ?_
      show Done _ p e below s _ _ (TL.setTop (mkF m 8 #[oR x1, oI (Int32.ofNat i), oI (Int32.ofNat cs.length)] [(.int (Int32.ofNat i))]))
      refine Done.step (fun _ => XS.iloadN XL.here hx rfl (hb hby d7_8) rfl) ?_
      show Done _ p e below s _ _ (TL.setTop (mkF m 9 #[oR x1, oI (Int32.ofNat i), oI (Int32.ofNat cs.length)] [(.int (Int32.ofNat cs.length)), (.int (Int32.ofNat i))]))
      refine Done.step (fun _ => XS.icmpYes XL.here hx rfl (pc0 := 9) (pc' := 38) rfl (hb hby d7_9) rfl (XT.ii_ge_t (by rw [own_lt (by omega) (by omega)]; omega)) (by decide) (by decide)) ?_
      show Done _ p e below s _ _ (TL.setTop (mkF m 38 #[oR x1, oI (Int32.ofNat i), oI (Int32.ofNat cs.length)] []))
      exact K38 (cs.length - i) i cs.length (by omega) (Nat.le_refl _) hA (fun hlt => absurd hlt (by omega)) (fun x h1 h2 => absurd h1 (by omega)) TL eL XL
    | succ kk ih =>
      intro i hik hA TL eL XL
      show Done _ p e below s _ _ (TL.setTop (mkF m 7 #[oR x1, oI (Int32.ofNat i), oI (Int32.ofNat cs.length)] []))
      refine Done.step (fun _ => XS.iloadN XL.here hx rfl (hb hby d7_7) rfl) ?_
      show Done _ p e below s _ _ (TL.setTop (mkF m 8 #[oR x1, oI (Int32.ofNat i), oI (Int32.ofNat cs.length)] [(.int (Int32.ofNat i))]))
      refine Done.step (fun _ => XS.iloadN XL.here hx rfl (hb hby d7_8) rfl) ?_
      show Done _ p e below s _ _ (TL.setTop (mkF m 9 #[oR x1, oI (Int32.ofNat i), oI (Int32.ofNat cs.length)] [(.int (Int32.ofNat cs.length)), (.int (Int32.ofNat i))]))
      refine Done.step (fun _ => XS.icmpNo XL.here hx rfl (hb hby d7_9) rfl (XT.ii_ge_f (by rw [own_lt (by omega) (by omega)]; omega))) ?_
      show Done _ p e below s _ _ (TL.setTop (mkF m 12 #[oR x1, oI (Int32.ofNat i), oI (Int32.ofNat cs.length)] []))
      refine Done.step (fun _ => XS.aloadN XL.here hx rfl (hb hby d7_12) rfl rfl) ?_
      show Done _ p e below s _ _ (TL.setTop (mkF m 13 #[oR x1, oI (Int32.ofNat i), oI (Int32.ofNat cs.length)] [(.ref x1)]))
      refine Done.step (fun _ => XS.iloadN XL.here hx rfl (hb hby d7_13) rfl) ?_
      show Done _ p e below s _ _ (TL.setTop (mkF m 14 #[oR x1, oI (Int32.ofNat i), oI (Int32.ofNat cs.length)] [(.int (Int32.ofNat i)), (.ref x1)]))
      refine Done.callVP XL hx hZ (C := "java/lang/String") hown (wAt hw 78 rfl) (wAt hw 79 rfl) (notFace_of_selects (args := #[]) (mvT hZ (wAt hw 81 rfl))) (wAt hw 81 rfl) (wAt hw 80 rfl) (wAt hw 11 rfl) (wAt hw 82 rfl) (by decide) (rC l Z a0 hw [] x1 t1 kb1 cs i z fm h0 n0 Z0 O0 SC hz SF rF SA SH SL E1 V1 D1 hn (by omega) hbc) eL E1 (g := (mkF m 14 #[oR x1, oI (Int32.ofNat i), oI (Int32.ofNat cs.length)] [(.int (Int32.ofNat i)), (.ref x1)])) rfl (by rw [hml]; rfl) [(.int (Int32.ofNat i))] [] 0 (lenOf pd_25 rfl) rfl rfl (by show 2 * 0 + _ ≤ _; exact Nat.le_of_eq rfl) (hb hby d7_14) (by decide) (by decide) (by decide) (by decide) rfl rfl ?_
      intro T8 X8 e8
      show Done _ p e below s _ _ (T8.setTop (mkF m 17 #[oR x1, oI (Int32.ofNat i), oI (Int32.ofNat cs.length)] [(.int (cs.getD i 0))]))
      refine Done.step (fun _ => XT.bipushV X8.here hx rfl (32 : Int32) (hb hby d7_17) (by decide)) ?_
      show Done _ p e below s _ _ (T8.setTop (mkF m 19 #[oR x1, oI (Int32.ofNat i), oI (Int32.ofNat cs.length)] [(.int (32 : Int32)), (.int (cs.getD i 0))]))
      by_cases hc9 : (cs.getD i 0) = (32 : Int32)
      · refine Done.step (fun _ => XS.icmpYes X8.here hx rfl (pc0 := 19) (pc' := 32) rfl (hb hby d7_19) rfl (XT.ii_eq_t hc9) (by decide) (by decide)) ?_
        show Done _ p e below s _ _ (T8.setTop (mkF m 32 #[oR x1, oI (Int32.ofNat i), oI (Int32.ofNat cs.length)] []))
        refine Done.step (fun _ => XS.iinc X8.here hx rfl (hb hby d7_32) rfl (l' := #[oR x1, oI ((Int32.ofNat i) + (1 : Int32)), oI (Int32.ofNat cs.length)]) rfl) ?_
        show Done _ p e below s _ _ (T8.setTop (mkF m 35 #[oR x1, oI ((Int32.ofNat i) + (1 : Int32)), oI (Int32.ofNat cs.length)] []))
        refine Done.step (fun _ => XS.goto X8.here hx rfl (pc0 := 35) (pc' := 7) rfl (hb hby d7_35) (by decide) (by decide)) ?_
        show Done _ p e below s _ _ (T8.setTop (mkF m 7 #[oR x1, oI ((Int32.ofNat i) + (1 : Int32)), oI (Int32.ofNat cs.length)] []))
        rw [own_inc i]
        exact ih (i + 1) (by omega) (own_wa hA (Or.inl hc9)) T8 e8 X8
      · refine Done.step (fun _ => XS.icmpNo X8.here hx rfl (hb hby d7_19) rfl (XT.ii_eq_f hc9)) ?_
        show Done _ p e below s _ _ (T8.setTop (mkF m 22 #[oR x1, oI (Int32.ofNat i), oI (Int32.ofNat cs.length)] []))
        refine Done.step (fun _ => XS.aloadN X8.here hx rfl (hb hby d7_22) rfl rfl) ?_
        show Done _ p e below s _ _ (T8.setTop (mkF m 23 #[oR x1, oI (Int32.ofNat i), oI (Int32.ofNat cs.length)] [(.ref x1)]))
        refine Done.step (fun _ => XS.iloadN X8.here hx rfl (hb hby d7_23) rfl) ?_
        show Done _ p e below s _ _ (T8.setTop (mkF m 24 #[oR x1, oI (Int32.ofNat i), oI (Int32.ofNat cs.length)] [(.int (Int32.ofNat i)), (.ref x1)]))
        refine Done.callVP X8 hx hZ (C := "java/lang/String") hown (wAt hw 78 rfl) (wAt hw 79 rfl) (notFace_of_selects (args := #[]) (mvT hZ (wAt hw 81 rfl))) (wAt hw 81 rfl) (wAt hw 80 rfl) (wAt hw 11 rfl) (wAt hw 82 rfl) (by decide) (rC l Z a0 hw [] x1 t1 kb1 cs i z fm h0 n0 Z0 O0 SC hz SF rF SA SH SL E1 V1 D1 hn (by omega) hbc) e8 E1 (g := (mkF m 24 #[oR x1, oI (Int32.ofNat i), oI (Int32.ofNat cs.length)] [(.int (Int32.ofNat i)), (.ref x1)])) rfl (by rw [hml]; rfl) [(.int (Int32.ofNat i))] [] 0 (lenOf pd_25 rfl) rfl rfl (by show 2 * 0 + _ ≤ _; exact Nat.le_of_eq rfl) (hb hby d7_24) (by decide) (by decide) (by decide) (by decide) rfl rfl ?_
        intro T10 X10 e10
        show Done _ p e below s _ _ (T10.setTop (mkF m 27 #[oR x1, oI (Int32.ofNat i), oI (Int32.ofNat cs.length)] [(.int (cs.getD i 0))]))
        refine Done.step (fun _ => XT.bipushV X10.here hx rfl (9 : Int32) (hb hby d7_27) (by decide)) ?_
        show Done _ p e below s _ _ (T10.setTop (mkF m 29 #[oR x1, oI (Int32.ofNat i), oI (Int32.ofNat cs.length)] [(.int (9 : Int32)), (.int (cs.getD i 0))]))
        by_cases hc11 : (cs.getD i 0) = (9 : Int32)
        · refine Done.step (fun _ => XS.icmpNo X10.here hx rfl (hb hby d7_29) rfl (XT.ii_ne_f hc11)) ?_
          show Done _ p e below s _ _ (T10.setTop (mkF m 32 #[oR x1, oI (Int32.ofNat i), oI (Int32.ofNat cs.length)] []))
          refine Done.step (fun _ => XS.iinc X10.here hx rfl (hb hby d7_32) rfl (l' := #[oR x1, oI ((Int32.ofNat i) + (1 : Int32)), oI (Int32.ofNat cs.length)]) rfl) ?_
          show Done _ p e below s _ _ (T10.setTop (mkF m 35 #[oR x1, oI ((Int32.ofNat i) + (1 : Int32)), oI (Int32.ofNat cs.length)] []))
          refine Done.step (fun _ => XS.goto X10.here hx rfl (pc0 := 35) (pc' := 7) rfl (hb hby d7_35) (by decide) (by decide)) ?_
          show Done _ p e below s _ _ (T10.setTop (mkF m 7 #[oR x1, oI ((Int32.ofNat i) + (1 : Int32)), oI (Int32.ofNat cs.length)] []))
          rw [own_inc i]
          exact ih (i + 1) (by omega) (own_wa hA (Or.inr hc11)) T10 e10 X10
        · refine Done.step (fun _ => XS.icmpYes X10.here hx rfl (pc0 := 29) (pc' := 38) rfl (hb hby d7_29) rfl (XT.ii_ne_t hc11) (by decide) (by decide)) ?_
          show Done _ p e below s _ _ (T10.setTop (mkF m 38 #[oR x1, oI (Int32.ofNat i), oI (Int32.ofNat cs.length)] []))
          exact K38 (cs.length - i) i cs.length (by omega) (Nat.le_refl _) hA (fun hlt => (fun q => q.elim hc9 hc11)) (fun x h1 h2 => absurd h1 (by omega)) T10 e10 X10
  exact K7 cs.length 0 (Nat.zero_add _) (fun x hx => absurd hx (Nat.not_lt_zero _)) T1 e1 X1
def own_pick (x : Int32) : Int32 := if (x &&& (3 : Int32)) = (0 : Int32) then 32 else if (x &&& (3 : Int32)) = (1 : Int32) then 9 else if (x &&& (3 : Int32)) = (2 : Int32) then nar .char ((((x.toUInt32 >>> ((2 : Int32) &&& 31).toUInt32).toInt32) &&& (255 : Int32)).toUInt32.toUInt16.toUInt32.toInt32) else nar .char ((((x.toUInt32 >>> ((2 : Int32) &&& 31).toUInt32).toInt32) &&& (65535 : Int32)).toUInt32.toUInt16.toUInt32.toInt32)
theorem own_c16B (x : Int32) : ¬ nar .char (x.toUInt32.toUInt16.toUInt32.toInt32) < 0 ∧ ¬ (65535 : Int32) < nar .char (x.toUInt32.toUInt16.toUInt32.toInt32) := by
  have e0 : (0 : Int32).toInt = 0 := rfl
  have e1 : (65535 : Int32).toInt = 65535 := rfl
  rw [own_narI, Int32.lt_iff_toInt_lt, Int32.lt_iff_toInt_lt, own_toInt16, e0, e1]; omega
theorem own_pickB (x : Int32) : ¬ own_pick x < 0 ∧ ¬ (65535 : Int32) < own_pick x := by
  unfold own_pick
  split
  · decide
  · split
    · decide
    · split
      · exact own_c16B _
      · exact own_c16B _
def own_at4 (k a b c d : Int32) : Int32 := if k = (0 : Int32) then a else if k = (1 : Int32) then b else if k = (2 : Int32) then c else d
def own_cs (n a b c d : Int32) : List Int32 := if n = (0 : Int32) then [] else if n = (1 : Int32) then [a] else if n = (2 : Int32) then [a, b] else if n = (3 : Int32) then [a, b, c] else [a, b, c, d]
def own_ts (n : Int32) : List String := if n = (0 : Int32) then [""] else []
theorem pn_com_example_wide_weir_wideweir_http_HttpSyntaxTrimWhitespacePinLaw : plainName "com/example/wide_weir/wideweir/http/HttpSyntaxTrimWhitespacePinLaw" = true := by first | (simp [plainName, overriddenIn]; done) | decide +kernel
theorem d1_0 : decode method_2_code 0 = .ok (.iload_n 0, 1) := by decide +kernel
theorem d1_1 : decode method_2_code 1 = .ok (.iconst 3, 1) := by decide +kernel
theorem d1_2 : decode method_2_code 2 = .ok (.iand, 1) := by decide +kernel
theorem d1_3 : decode method_2_code 3 = .ok (.istore_n 1, 1) := by decide +kernel
theorem d1_4 : decode method_2_code 4 = .ok (.iload_n 1, 1) := by decide +kernel
theorem d1_5 : decode method_2_code 5 = .ok (.ifCond .ne 6, 3) := by decide +kernel
theorem d1_8 : decode method_2_code 8 = .ok (.bipush 32, 2) := by decide +kernel
theorem d1_10 : decode method_2_code 10 = .ok (.ireturn, 1) := by decide +kernel
theorem d1_11 : decode method_2_code 11 = .ok (.iload_n 1, 1) := by decide +kernel
theorem d1_12 : decode method_2_code 12 = .ok (.iconst 1, 1) := by decide +kernel
theorem d1_13 : decode method_2_code 13 = .ok (.if_icmp .ne 6, 3) := by decide +kernel
theorem d1_16 : decode method_2_code 16 = .ok (.bipush 9, 2) := by decide +kernel
theorem d1_18 : decode method_2_code 18 = .ok (.ireturn, 1) := by decide +kernel
theorem d1_19 : decode method_2_code 19 = .ok (.iload_n 1, 1) := by decide +kernel
theorem d1_20 : decode method_2_code 20 = .ok (.iconst 2, 1) := by decide +kernel
theorem d1_21 : decode method_2_code 21 = .ok (.if_icmp .ne 12, 3) := by decide +kernel
theorem d1_24 : decode method_2_code 24 = .ok (.iload_n 0, 1) := by decide +kernel
theorem d1_25 : decode method_2_code 25 = .ok (.iconst 2, 1) := by decide +kernel
theorem d1_26 : decode method_2_code 26 = .ok (.iushr, 1) := by decide +kernel
theorem d1_27 : decode method_2_code 27 = .ok (.sipush 255, 3) := by decide +kernel
theorem d1_30 : decode method_2_code 30 = .ok (.iand, 1) := by decide +kernel
theorem d1_31 : decode method_2_code 31 = .ok (.i2c, 1) := by decide +kernel
theorem d1_32 : decode method_2_code 32 = .ok (.ireturn, 1) := by decide +kernel
theorem d1_33 : decode method_2_code 33 = .ok (.iload_n 0, 1) := by decide +kernel
theorem d1_34 : decode method_2_code 34 = .ok (.iconst 2, 1) := by decide +kernel
theorem d1_35 : decode method_2_code 35 = .ok (.iushr, 1) := by decide +kernel
theorem d1_36 : decode method_2_code 36 = .ok (.ldc 7, 2) := by decide +kernel
theorem d1_38 : decode method_2_code 38 = .ok (.iand, 1) := by decide +kernel
theorem d1_39 : decode method_2_code 39 = .ok (.i2c, 1) := by decide +kernel
theorem d1_40 : decode method_2_code 40 = .ok (.ireturn, 1) := by decide +kernel
set_option maxRecDepth 65536 in
set_option maxHeartbeats 40000000 in
theorem rPk (l : Launch) (Z : State) (a0 : Array Value) (hw : ∀ d ∈ tables_1, d.before a0 Z = true) (ws : List Jvm.Cond) (xv : Int32) (h0 : Heap) (n0 : Nat) (Z0 : n0 ≤ h0.size)  :
    Ctr FrameEnd l Z (⟨"com/example/wide_weir/wideweir/http/HttpSyntaxTrimWhitespacePinLaw", "pick", "(I)C"⟩ : MethodName) method_2_code 2 (some .char) ws ({ frames := 0, cells := 0, slots := 0, locals := 0 } : Room) #[(.int xv)] h0 TrueV (PureQ (some (.int (own_pick xv))) h0) := by
  refine Ctr.intro (plainFor_of_name pn_com_example_wide_weir_wideweir_http_HttpSyntaxTrimWhitespacePinLaw) (Ls := #[.val (.int xv), .unset]) (fun m => by first | (simp [entryFrame, mkF, argsToLocals, Value.category]; done) | rfl) ?_
  intro p e s m below meth c T0 hx hby hml hown hnm hret hlk hZ hV hsh e0 X0
  have N0 := Fr.nil n0
  show Done _ p e below s _ _ (T0.setTop (mkF m 0 #[oI xv, .unset] []))
  refine Done.step (fun _ => XS.iloadN X0.here hx rfl (hb hby d1_0) rfl) ?_
  show Done _ p e below s _ _ (T0.setTop (mkF m 1 #[oI xv, .unset] [(.int xv)]))
  refine Done.step (fun _ => XT.iconstV X0.here hx rfl (3 : Int32) (hb hby d1_1) (by decide)) ?_
  show Done _ p e below s _ _ (T0.setTop (mkF m 2 #[oI xv, .unset] [(.int (3 : Int32)), (.int xv)]))
  refine Done.step (fun _ => XS.iand X0.here hx rfl (hb hby d1_2) rfl) ?_
  show Done _ p e below s _ _ (T0.setTop (mkF m 3 #[oI xv, .unset] [(.int (xv &&& (3 : Int32)))]))
  refine Done.step (fun _ => XS.istoreN X0.here hx rfl (hb hby d1_3) rfl (l' := #[oI xv, oI (xv &&& (3 : Int32))]) rfl) ?_
  show Done _ p e below s _ _ (T0.setTop (mkF m 4 #[oI xv, oI (xv &&& (3 : Int32))] []))
  refine Done.step (fun _ => XS.iloadN X0.here hx rfl (hb hby d1_4) rfl) ?_
  show Done _ p e below s _ _ (T0.setTop (mkF m 5 #[oI xv, oI (xv &&& (3 : Int32))] [(.int (xv &&& (3 : Int32)))]))
  by_cases hc1 : (xv &&& (3 : Int32)) = (0 : Int32)
  · refine Done.step (fun _ => XS.ifNo X0.here hx rfl (hb hby d1_5) rfl (XT.i0_ne_f hc1)) ?_
    show Done _ p e below s _ _ (T0.setTop (mkF m 8 #[oI xv, oI (xv &&& (3 : Int32))] []))
    refine Done.step (fun _ => XT.bipushV X0.here hx rfl (32 : Int32) (hb hby d1_8) (by decide)) ?_
    show Done _ p e below s _ _ (T0.setTop (mkF m 10 #[oI xv, oI (xv &&& (3 : Int32))] [(.int (32 : Int32))]))
    exact Done.retN (leavesF X0 hlk (by decide) (by decide)) X0 hx (t := .char) hret (by simp) (hb hby d1_10) ⟨by unfold own_pick; rw [if_pos hc1]; rfl, e0, rfl⟩
  · refine Done.step (fun _ => XS.ifYes X0.here hx rfl (pc0 := 5) (pc' := 11) rfl (hb hby d1_5) rfl (XT.i0_ne_t hc1) (by decide) (by decide)) ?_
    show Done _ p e below s _ _ (T0.setTop (mkF m 11 #[oI xv, oI (xv &&& (3 : Int32))] []))
    refine Done.step (fun _ => XS.iloadN X0.here hx rfl (hb hby d1_11) rfl) ?_
    show Done _ p e below s _ _ (T0.setTop (mkF m 12 #[oI xv, oI (xv &&& (3 : Int32))] [(.int (xv &&& (3 : Int32)))]))
    refine Done.step (fun _ => XT.iconstV X0.here hx rfl (1 : Int32) (hb hby d1_12) (by decide)) ?_
    show Done _ p e below s _ _ (T0.setTop (mkF m 13 #[oI xv, oI (xv &&& (3 : Int32))] [(.int (1 : Int32)), (.int (xv &&& (3 : Int32)))]))
    by_cases hc2 : (xv &&& (3 : Int32)) = (1 : Int32)
    · refine Done.step (fun _ => XS.icmpNo X0.here hx rfl (hb hby d1_13) rfl (XT.ii_ne_f hc2)) ?_
      show Done _ p e below s _ _ (T0.setTop (mkF m 16 #[oI xv, oI (xv &&& (3 : Int32))] []))
      refine Done.step (fun _ => XT.bipushV X0.here hx rfl (9 : Int32) (hb hby d1_16) (by decide)) ?_
      show Done _ p e below s _ _ (T0.setTop (mkF m 18 #[oI xv, oI (xv &&& (3 : Int32))] [(.int (9 : Int32))]))
      exact Done.retN (leavesF X0 hlk (by decide) (by decide)) X0 hx (t := .char) hret (by simp) (hb hby d1_18) ⟨by unfold own_pick; rw [if_neg hc1, if_pos hc2]; rfl, e0, rfl⟩
    · refine Done.step (fun _ => XS.icmpYes X0.here hx rfl (pc0 := 13) (pc' := 19) rfl (hb hby d1_13) rfl (XT.ii_ne_t hc2) (by decide) (by decide)) ?_
      show Done _ p e below s _ _ (T0.setTop (mkF m 19 #[oI xv, oI (xv &&& (3 : Int32))] []))
      refine Done.step (fun _ => XS.iloadN X0.here hx rfl (hb hby d1_19) rfl) ?_
      show Done _ p e below s _ _ (T0.setTop (mkF m 20 #[oI xv, oI (xv &&& (3 : Int32))] [(.int (xv &&& (3 : Int32)))]))
      refine Done.step (fun _ => XT.iconstV X0.here hx rfl (2 : Int32) (hb hby d1_20) (by decide)) ?_
      show Done _ p e below s _ _ (T0.setTop (mkF m 21 #[oI xv, oI (xv &&& (3 : Int32))] [(.int (2 : Int32)), (.int (xv &&& (3 : Int32)))]))
      by_cases hc3 : (xv &&& (3 : Int32)) = (2 : Int32)
      · refine Done.step (fun _ => XS.icmpNo X0.here hx rfl (hb hby d1_21) rfl (XT.ii_ne_f hc3)) ?_
        show Done _ p e below s _ _ (T0.setTop (mkF m 24 #[oI xv, oI (xv &&& (3 : Int32))] []))
        refine Done.step (fun _ => XS.iloadN X0.here hx rfl (hb hby d1_24) rfl) ?_
        show Done _ p e below s _ _ (T0.setTop (mkF m 25 #[oI xv, oI (xv &&& (3 : Int32))] [(.int xv)]))
        refine Done.step (fun _ => XT.iconstV X0.here hx rfl (2 : Int32) (hb hby d1_25) (by decide)) ?_
        show Done _ p e below s _ _ (T0.setTop (mkF m 26 #[oI xv, oI (xv &&& (3 : Int32))] [(.int (2 : Int32)), (.int xv)]))
        refine Done.step (fun _ => XT.iushr X0.here hx rfl (hb hby d1_26) rfl) ?_
        show Done _ p e below s _ _ (T0.setTop (mkF m 27 #[oI xv, oI (xv &&& (3 : Int32))] [(.int ((xv.toUInt32 >>> ((2 : Int32) &&& 31).toUInt32).toInt32))]))
        refine Done.step (fun _ => XT.sipushV X0.here hx rfl (255 : Int32) (hb hby d1_27) (by decide)) ?_
        show Done _ p e below s _ _ (T0.setTop (mkF m 30 #[oI xv, oI (xv &&& (3 : Int32))] [(.int (255 : Int32)), (.int ((xv.toUInt32 >>> ((2 : Int32) &&& 31).toUInt32).toInt32))]))
        refine Done.step (fun _ => XS.iand X0.here hx rfl (hb hby d1_30) rfl) ?_
        show Done _ p e below s _ _ (T0.setTop (mkF m 31 #[oI xv, oI (xv &&& (3 : Int32))] [(.int (((xv.toUInt32 >>> ((2 : Int32) &&& 31).toUInt32).toInt32) &&& (255 : Int32)))]))
        refine Done.step (fun _ => XT.i2c X0.here hx rfl (hb hby d1_31) rfl) ?_
        show Done _ p e below s _ _ (T0.setTop (mkF m 32 #[oI xv, oI (xv &&& (3 : Int32))] [(.int ((((xv.toUInt32 >>> ((2 : Int32) &&& 31).toUInt32).toInt32) &&& (255 : Int32)).toUInt32.toUInt16.toUInt32.toInt32))]))
        exact Done.retN (leavesF X0 hlk (by decide) (by decide)) X0 hx (t := .char) hret (by simp) (hb hby d1_32) ⟨by unfold own_pick; rw [if_neg hc1, if_neg hc2, if_pos hc3], e0, rfl⟩
      · refine Done.step (fun _ => XS.icmpYes X0.here hx rfl (pc0 := 21) (pc' := 33) rfl (hb hby d1_21) rfl (XT.ii_ne_t hc3) (by decide) (by decide)) ?_
        show Done _ p e below s _ _ (T0.setTop (mkF m 33 #[oI xv, oI (xv &&& (3 : Int32))] []))
        refine Done.step (fun _ => XS.iloadN X0.here hx rfl (hb hby d1_33) rfl) ?_
        show Done _ p e below s _ _ (T0.setTop (mkF m 34 #[oI xv, oI (xv &&& (3 : Int32))] [(.int xv)]))
        refine Done.step (fun _ => XT.iconstV X0.here hx rfl (2 : Int32) (hb hby d1_34) (by decide)) ?_
        show Done _ p e below s _ _ (T0.setTop (mkF m 35 #[oI xv, oI (xv &&& (3 : Int32))] [(.int (2 : Int32)), (.int xv)]))
        refine Done.step (fun _ => XT.iushr X0.here hx rfl (hb hby d1_35) rfl) ?_
        show Done _ p e below s _ _ (T0.setTop (mkF m 36 #[oI xv, oI (xv &&& (3 : Int32))] [(.int ((xv.toUInt32 >>> ((2 : Int32) &&& 31).toUInt32).toInt32))]))
        refine Done.step (fun _ => Stand.ldcI X0 hx hown (mvT hZ (wAt hw 5 rfl)) (g := (mkF m 36 #[oI xv, oI (xv &&& (3 : Int32))] [(.int ((xv.toUInt32 >>> ((2 : Int32) &&& 31).toUInt32).toInt32))])) rfl (hb hby d1_36)) ?_
        show Done _ p e below s _ _ (T0.setTop (mkF m 38 #[oI xv, oI (xv &&& (3 : Int32))] [(.int (65535 : Int32)), (.int ((xv.toUInt32 >>> ((2 : Int32) &&& 31).toUInt32).toInt32))]))
        refine Done.step (fun _ => XS.iand X0.here hx rfl (hb hby d1_38) rfl) ?_
        show Done _ p e below s _ _ (T0.setTop (mkF m 39 #[oI xv, oI (xv &&& (3 : Int32))] [(.int (((xv.toUInt32 >>> ((2 : Int32) &&& 31).toUInt32).toInt32) &&& (65535 : Int32)))]))
        refine Done.step (fun _ => XT.i2c X0.here hx rfl (hb hby d1_39) rfl) ?_
        show Done _ p e below s _ _ (T0.setTop (mkF m 40 #[oI xv, oI (xv &&& (3 : Int32))] [(.int ((((xv.toUInt32 >>> ((2 : Int32) &&& 31).toUInt32).toInt32) &&& (65535 : Int32)).toUInt32.toUInt16.toUInt32.toInt32))]))
        exact Done.retN (leavesF X0 hlk (by decide) (by decide)) X0 hx (t := .char) hret (by simp) (hb hby d1_40) ⟨by unfold own_pick; rw [if_neg hc1, if_neg hc2, if_neg hc3], e0, rfl⟩
theorem d16_0 : decode method_3_code 0 = .ok (.iload_n 0, 1) := by decide +kernel
theorem d16_1 : decode method_3_code 1 = .ok (.bipush 32, 2) := by decide +kernel
theorem d16_3 : decode method_3_code 3 = .ok (.if_icmp .eq 9, 3) := by decide +kernel
theorem d16_12 : decode method_3_code 12 = .ok (.iconst 1, 1) := by decide +kernel
theorem d16_13 : decode method_3_code 13 = .ok (.goto 4, 3) := by decide +kernel
theorem d16_17 : decode method_3_code 17 = .ok (.ireturn, 1) := by decide +kernel
theorem d16_6 : decode method_3_code 6 = .ok (.iload_n 0, 1) := by decide +kernel
theorem d16_7 : decode method_3_code 7 = .ok (.bipush 9, 2) := by decide +kernel
theorem d16_9 : decode method_3_code 9 = .ok (.if_icmp .ne 7, 3) := by decide +kernel
theorem d16_16 : decode method_3_code 16 = .ok (.iconst 0, 1) := by decide +kernel
set_option maxRecDepth 65536 in
set_option maxHeartbeats 40000000 in
theorem rWs (l : Launch) (Z : State) (a0 : Array Value) (hw : ∀ d ∈ tables_1, d.before a0 Z = true) (ws : List Jvm.Cond) (xv r : Int32) (h0 : Heap) (n0 : Nat) (Z0 : n0 ≤ h0.size) (hr : r = bP (own_ws xv)) :
    Ctr FrameEnd l Z (⟨"com/example/wide_weir/wideweir/http/HttpSyntaxTrimWhitespacePinLaw", "ws", "(C)Z"⟩ : MethodName) method_3_code 1 (some .boolean) ws ({ frames := 0, cells := 0, slots := 0, locals := 0 } : Room) #[(.int xv)] h0 TrueV (PureQ (some (.int r)) h0) := by
  refine Ctr.intro (plainFor_of_name pn_com_example_wide_weir_wideweir_http_HttpSyntaxTrimWhitespacePinLaw) (Ls := #[.val (.int xv)]) (fun m => by first | (simp [entryFrame, mkF, argsToLocals, Value.category]; done) | rfl) ?_
  intro p e s m below meth c T0 hx hby hml hown hnm hret hlk hZ hV hsh e0 X0
  have N0 := Fr.nil n0
  show Done _ p e below s _ _ (T0.setTop (mkF m 0 #[oI xv] []))
  refine Done.step (fun _ => XS.iloadN X0.here hx rfl (hb hby d16_0) rfl) ?_
  show Done _ p e below s _ _ (T0.setTop (mkF m 1 #[oI xv] [(.int xv)]))
  refine Done.step (fun _ => XT.bipushV X0.here hx rfl (32 : Int32) (hb hby d16_1) (by decide)) ?_
  show Done _ p e below s _ _ (T0.setTop (mkF m 3 #[oI xv] [(.int (32 : Int32)), (.int xv)]))
  by_cases hc1 : xv = (32 : Int32)
  · refine Done.step (fun _ => XS.icmpYes X0.here hx rfl (pc0 := 3) (pc' := 12) rfl (hb hby d16_3) rfl (XT.ii_eq_t hc1) (by decide) (by decide)) ?_
    show Done _ p e below s _ _ (T0.setTop (mkF m 12 #[oI xv] []))
    refine Done.step (fun _ => XT.iconstV X0.here hx rfl (1 : Int32) (hb hby d16_12) (by decide)) ?_
    show Done _ p e below s _ _ (T0.setTop (mkF m 13 #[oI xv] [(.int (1 : Int32))]))
    refine Done.step (fun _ => XS.goto X0.here hx rfl (pc0 := 13) (pc' := 17) rfl (hb hby d16_13) (by decide) (by decide)) ?_
    show Done _ p e below s _ _ (T0.setTop (mkF m 17 #[oI xv] [(.int (1 : Int32))]))
    exact Done.retN (leavesF X0 hlk (by decide) (by decide)) X0 hx (t := .boolean) hret (by simp) (hb hby d16_17) ⟨by rw [hr, bP_t (P := own_ws xv) (Or.inl hc1)]; rfl, e0, rfl⟩
  · refine Done.step (fun _ => XS.icmpNo X0.here hx rfl (hb hby d16_3) rfl (XT.ii_eq_f hc1)) ?_
    show Done _ p e below s _ _ (T0.setTop (mkF m 6 #[oI xv] []))
    refine Done.step (fun _ => XS.iloadN X0.here hx rfl (hb hby d16_6) rfl) ?_
    show Done _ p e below s _ _ (T0.setTop (mkF m 7 #[oI xv] [(.int xv)]))
    refine Done.step (fun _ => XT.bipushV X0.here hx rfl (9 : Int32) (hb hby d16_7) (by decide)) ?_
    show Done _ p e below s _ _ (T0.setTop (mkF m 9 #[oI xv] [(.int (9 : Int32)), (.int xv)]))
    by_cases hc2 : xv = (9 : Int32)
    · refine Done.step (fun _ => XS.icmpNo X0.here hx rfl (hb hby d16_9) rfl (XT.ii_ne_f hc2)) ?_
      show Done _ p e below s _ _ (T0.setTop (mkF m 12 #[oI xv] []))
      refine Done.step (fun _ => XT.iconstV X0.here hx rfl (1 : Int32) (hb hby d16_12) (by decide)) ?_
      show Done _ p e below s _ _ (T0.setTop (mkF m 13 #[oI xv] [(.int (1 : Int32))]))
      refine Done.step (fun _ => XS.goto X0.here hx rfl (pc0 := 13) (pc' := 17) rfl (hb hby d16_13) (by decide) (by decide)) ?_
      show Done _ p e below s _ _ (T0.setTop (mkF m 17 #[oI xv] [(.int (1 : Int32))]))
      exact Done.retN (leavesF X0 hlk (by decide) (by decide)) X0 hx (t := .boolean) hret (by simp) (hb hby d16_17) ⟨by rw [hr, bP_t (P := own_ws xv) (Or.inr hc2)]; rfl, e0, rfl⟩
    · refine Done.step (fun _ => XS.icmpYes X0.here hx rfl (pc0 := 9) (pc' := 16) rfl (hb hby d16_9) rfl (XT.ii_ne_t hc2) (by decide) (by decide)) ?_
      show Done _ p e below s _ _ (T0.setTop (mkF m 16 #[oI xv] []))
      refine Done.step (fun _ => XT.iconstV X0.here hx rfl (0 : Int32) (hb hby d16_16) (by decide)) ?_
      show Done _ p e below s _ _ (T0.setTop (mkF m 17 #[oI xv] [(.int (0 : Int32))]))
      exact Done.retN (leavesF X0 hlk (by decide) (by decide)) X0 hx (t := .boolean) hret (by simp) (hb hby d16_17) ⟨by rw [hr, bP_f (P := own_ws xv) (fun q => q.elim hc1 hc2)]; rfl, e0, rfl⟩
theorem d28_0 : decode method_4_code 0 = .ok (.iload_n 0, 1) := by decide +kernel
theorem d28_1 : decode method_4_code 1 = .ok (.ifCond .ne 5, 3) := by decide +kernel
theorem d28_4 : decode method_4_code 4 = .ok (.iload_n 1, 1) := by decide +kernel
theorem d28_5 : decode method_4_code 5 = .ok (.ireturn, 1) := by decide +kernel
theorem d28_6 : decode method_4_code 6 = .ok (.iload_n 0, 1) := by decide +kernel
theorem d28_7 : decode method_4_code 7 = .ok (.iconst 1, 1) := by decide +kernel
theorem d28_8 : decode method_4_code 8 = .ok (.if_icmp .ne 5, 3) := by decide +kernel
theorem d28_11 : decode method_4_code 11 = .ok (.iload_n 2, 1) := by decide +kernel
theorem d28_12 : decode method_4_code 12 = .ok (.ireturn, 1) := by decide +kernel
theorem d28_13 : decode method_4_code 13 = .ok (.iload_n 0, 1) := by decide +kernel
theorem d28_14 : decode method_4_code 14 = .ok (.iconst 2, 1) := by decide +kernel
theorem d28_15 : decode method_4_code 15 = .ok (.if_icmp .ne 5, 3) := by decide +kernel
theorem d28_18 : decode method_4_code 18 = .ok (.iload_n 3, 1) := by decide +kernel
theorem d28_19 : decode method_4_code 19 = .ok (.ireturn, 1) := by decide +kernel
theorem d28_20 : decode method_4_code 20 = .ok (.iload 4, 2) := by decide +kernel
theorem d28_22 : decode method_4_code 22 = .ok (.ireturn, 1) := by decide +kernel
set_option maxRecDepth 65536 in
set_option maxHeartbeats 40000000 in
theorem rAt (l : Launch) (Z : State) (a0 : Array Value) (hw : ∀ d ∈ tables_1, d.before a0 Z = true) (ws : List Jvm.Cond) (kv c0 c1 c2 c3 : Int32) (h0 : Heap) (n0 : Nat) (Z0 : n0 ≤ h0.size) (hbc0 : ¬ c0 < 0 ∧ ¬ (65535 : Int32) < c0) (hbc1 : ¬ c1 < 0 ∧ ¬ (65535 : Int32) < c1) (hbc2 : ¬ c2 < 0 ∧ ¬ (65535 : Int32) < c2) (hbc3 : ¬ c3 < 0 ∧ ¬ (65535 : Int32) < c3) :
    Ctr FrameEnd l Z (⟨"com/example/wide_weir/wideweir/http/HttpSyntaxTrimWhitespacePinLaw", "at", "(ICCCC)C"⟩ : MethodName) method_4_code 5 (some .char) ws ({ frames := 0, cells := 0, slots := 0, locals := 0 } : Room) #[(.int kv), (.int c0), (.int c1), (.int c2), (.int c3)] h0 TrueV (PureQ (some (.int (own_at4 kv c0 c1 c2 c3))) h0) := by
  refine Ctr.intro (plainFor_of_name pn_com_example_wide_weir_wideweir_http_HttpSyntaxTrimWhitespacePinLaw) (Ls := #[.val (.int kv), .val (.int c0), .val (.int c1), .val (.int c2), .val (.int c3)]) (fun m => by first | (simp [entryFrame, mkF, argsToLocals, Value.category]; done) | rfl) ?_
  intro p e s m below meth c T0 hx hby hml hown hnm hret hlk hZ hV hsh e0 X0
  have N0 := Fr.nil n0
  show Done _ p e below s _ _ (T0.setTop (mkF m 0 #[oI kv, oI c0, oI c1, oI c2, oI c3] []))
  refine Done.step (fun _ => XS.iloadN X0.here hx rfl (hb hby d28_0) rfl) ?_
  show Done _ p e below s _ _ (T0.setTop (mkF m 1 #[oI kv, oI c0, oI c1, oI c2, oI c3] [(.int kv)]))
  by_cases hc1 : kv = (0 : Int32)
  · refine Done.step (fun _ => XS.ifNo X0.here hx rfl (hb hby d28_1) rfl (XT.i0_ne_f hc1)) ?_
    show Done _ p e below s _ _ (T0.setTop (mkF m 4 #[oI kv, oI c0, oI c1, oI c2, oI c3] []))
    refine Done.step (fun _ => XS.iloadN X0.here hx rfl (hb hby d28_4) rfl) ?_
    show Done _ p e below s _ _ (T0.setTop (mkF m 5 #[oI kv, oI c0, oI c1, oI c2, oI c3] [(.int c0)]))
    exact Done.retN (leavesF X0 hlk (by decide) (by decide)) X0 hx (t := .char) hret (by simp) (hb hby d28_5) ⟨by unfold own_at4; rw [if_pos hc1, own_nar2 hbc0], e0, rfl⟩
  · refine Done.step (fun _ => XS.ifYes X0.here hx rfl (pc0 := 1) (pc' := 6) rfl (hb hby d28_1) rfl (XT.i0_ne_t hc1) (by decide) (by decide)) ?_
    show Done _ p e below s _ _ (T0.setTop (mkF m 6 #[oI kv, oI c0, oI c1, oI c2, oI c3] []))
    refine Done.step (fun _ => XS.iloadN X0.here hx rfl (hb hby d28_6) rfl) ?_
    show Done _ p e below s _ _ (T0.setTop (mkF m 7 #[oI kv, oI c0, oI c1, oI c2, oI c3] [(.int kv)]))
    refine Done.step (fun _ => XT.iconstV X0.here hx rfl (1 : Int32) (hb hby d28_7) (by decide)) ?_
    show Done _ p e below s _ _ (T0.setTop (mkF m 8 #[oI kv, oI c0, oI c1, oI c2, oI c3] [(.int (1 : Int32)), (.int kv)]))
    by_cases hc2 : kv = (1 : Int32)
    · refine Done.step (fun _ => XS.icmpNo X0.here hx rfl (hb hby d28_8) rfl (XT.ii_ne_f hc2)) ?_
      show Done _ p e below s _ _ (T0.setTop (mkF m 11 #[oI kv, oI c0, oI c1, oI c2, oI c3] []))
      refine Done.step (fun _ => XS.iloadN X0.here hx rfl (hb hby d28_11) rfl) ?_
      show Done _ p e below s _ _ (T0.setTop (mkF m 12 #[oI kv, oI c0, oI c1, oI c2, oI c3] [(.int c1)]))
      exact Done.retN (leavesF X0 hlk (by decide) (by decide)) X0 hx (t := .char) hret (by simp) (hb hby d28_12) ⟨by unfold own_at4; rw [if_neg hc1, if_pos hc2, own_nar2 hbc1], e0, rfl⟩
    · refine Done.step (fun _ => XS.icmpYes X0.here hx rfl (pc0 := 8) (pc' := 13) rfl (hb hby d28_8) rfl (XT.ii_ne_t hc2) (by decide) (by decide)) ?_
      show Done _ p e below s _ _ (T0.setTop (mkF m 13 #[oI kv, oI c0, oI c1, oI c2, oI c3] []))
      refine Done.step (fun _ => XS.iloadN X0.here hx rfl (hb hby d28_13) rfl) ?_
      show Done _ p e below s _ _ (T0.setTop (mkF m 14 #[oI kv, oI c0, oI c1, oI c2, oI c3] [(.int kv)]))
      refine Done.step (fun _ => XT.iconstV X0.here hx rfl (2 : Int32) (hb hby d28_14) (by decide)) ?_
      show Done _ p e below s _ _ (T0.setTop (mkF m 15 #[oI kv, oI c0, oI c1, oI c2, oI c3] [(.int (2 : Int32)), (.int kv)]))
      by_cases hc3 : kv = (2 : Int32)
      · refine Done.step (fun _ => XS.icmpNo X0.here hx rfl (hb hby d28_15) rfl (XT.ii_ne_f hc3)) ?_
        show Done _ p e below s _ _ (T0.setTop (mkF m 18 #[oI kv, oI c0, oI c1, oI c2, oI c3] []))
        refine Done.step (fun _ => XS.iloadN X0.here hx rfl (hb hby d28_18) rfl) ?_
        show Done _ p e below s _ _ (T0.setTop (mkF m 19 #[oI kv, oI c0, oI c1, oI c2, oI c3] [(.int c2)]))
        exact Done.retN (leavesF X0 hlk (by decide) (by decide)) X0 hx (t := .char) hret (by simp) (hb hby d28_19) ⟨by unfold own_at4; rw [if_neg hc1, if_neg hc2, if_pos hc3, own_nar2 hbc2], e0, rfl⟩
      · refine Done.step (fun _ => XS.icmpYes X0.here hx rfl (pc0 := 15) (pc' := 20) rfl (hb hby d28_15) rfl (XT.ii_ne_t hc3) (by decide) (by decide)) ?_
        show Done _ p e below s _ _ (T0.setTop (mkF m 20 #[oI kv, oI c0, oI c1, oI c2, oI c3] []))
        refine Done.step (fun _ => XS.iload X0.here hx rfl (hb hby d28_20) rfl) ?_
        show Done _ p e below s _ _ (T0.setTop (mkF m 22 #[oI kv, oI c0, oI c1, oI c2, oI c3] [(.int c3)]))
        exact Done.retN (leavesF X0 hlk (by decide) (by decide)) X0 hx (t := .char) hret (by simp) (hb hby d28_22) ⟨by unfold own_at4; rw [if_neg hc1, if_neg hc2, if_neg hc3, own_nar2 hbc3], e0, rfl⟩
theorem d2_0 : decode method_5_code 0 = .ok (.iload_n 0, 1) := by decide +kernel
theorem d2_1 : decode method_5_code 1 = .ok (.ifCond .ne 14, 3) := by decide +kernel
theorem d2_4 : decode method_5_code 4 = .ok (.new 8, 3) := by decide +kernel
theorem d2_7 : decode method_5_code 7 = .ok (.dup, 1) := by decide +kernel
theorem d2_8 : decode method_5_code 8 = .ok (.iconst 0, 1) := by decide +kernel
theorem d2_9 : decode method_5_code 9 = .ok (.newarray .char, 2) := by decide +kernel
theorem d2_11 : decode method_5_code 11 = .ok (.invokespecial 10, 3) := by decide +kernel
theorem pd_26 : parseMethodDescriptor "([C)V" = some ⟨[(.array .char)], none⟩ := by decide +kernel
theorem d2_14 : decode method_5_code 14 = .ok (.areturn, 1) := by decide +kernel
theorem d2_15 : decode method_5_code 15 = .ok (.iload_n 0, 1) := by decide +kernel
theorem d2_16 : decode method_5_code 16 = .ok (.iconst 1, 1) := by decide +kernel
theorem d2_17 : decode method_5_code 17 = .ok (.if_icmp .ne 18, 3) := by decide +kernel
theorem d2_20 : decode method_5_code 20 = .ok (.new 8, 3) := by decide +kernel
theorem d2_23 : decode method_5_code 23 = .ok (.dup, 1) := by decide +kernel
theorem d2_24 : decode method_5_code 24 = .ok (.iconst 1, 1) := by decide +kernel
theorem d2_25 : decode method_5_code 25 = .ok (.newarray .char, 2) := by decide +kernel
theorem d2_27 : decode method_5_code 27 = .ok (.dup, 1) := by decide +kernel
theorem d2_28 : decode method_5_code 28 = .ok (.iconst 0, 1) := by decide +kernel
theorem d2_29 : decode method_5_code 29 = .ok (.iload_n 1, 1) := by decide +kernel
theorem d2_30 : decode method_5_code 30 = .ok (.castore, 1) := by decide +kernel
theorem d2_31 : decode method_5_code 31 = .ok (.invokespecial 10, 3) := by decide +kernel
theorem d2_34 : decode method_5_code 34 = .ok (.areturn, 1) := by decide +kernel
theorem d2_35 : decode method_5_code 35 = .ok (.iload_n 0, 1) := by decide +kernel
theorem d2_36 : decode method_5_code 36 = .ok (.iconst 2, 1) := by decide +kernel
theorem d2_37 : decode method_5_code 37 = .ok (.if_icmp .ne 22, 3) := by decide +kernel
theorem d2_40 : decode method_5_code 40 = .ok (.new 8, 3) := by decide +kernel
theorem d2_43 : decode method_5_code 43 = .ok (.dup, 1) := by decide +kernel
theorem d2_44 : decode method_5_code 44 = .ok (.iconst 2, 1) := by decide +kernel
theorem d2_45 : decode method_5_code 45 = .ok (.newarray .char, 2) := by decide +kernel
theorem d2_47 : decode method_5_code 47 = .ok (.dup, 1) := by decide +kernel
theorem d2_48 : decode method_5_code 48 = .ok (.iconst 0, 1) := by decide +kernel
theorem d2_49 : decode method_5_code 49 = .ok (.iload_n 1, 1) := by decide +kernel
theorem d2_50 : decode method_5_code 50 = .ok (.castore, 1) := by decide +kernel
theorem d2_51 : decode method_5_code 51 = .ok (.dup, 1) := by decide +kernel
theorem d2_52 : decode method_5_code 52 = .ok (.iconst 1, 1) := by decide +kernel
theorem d2_53 : decode method_5_code 53 = .ok (.iload_n 2, 1) := by decide +kernel
theorem d2_54 : decode method_5_code 54 = .ok (.castore, 1) := by decide +kernel
theorem d2_55 : decode method_5_code 55 = .ok (.invokespecial 10, 3) := by decide +kernel
theorem d2_58 : decode method_5_code 58 = .ok (.areturn, 1) := by decide +kernel
theorem d2_59 : decode method_5_code 59 = .ok (.iload_n 0, 1) := by decide +kernel
theorem d2_60 : decode method_5_code 60 = .ok (.iconst 3, 1) := by decide +kernel
theorem d2_61 : decode method_5_code 61 = .ok (.if_icmp .ne 26, 3) := by decide +kernel
theorem d2_64 : decode method_5_code 64 = .ok (.new 8, 3) := by decide +kernel
theorem d2_67 : decode method_5_code 67 = .ok (.dup, 1) := by decide +kernel
theorem d2_68 : decode method_5_code 68 = .ok (.iconst 3, 1) := by decide +kernel
theorem d2_69 : decode method_5_code 69 = .ok (.newarray .char, 2) := by decide +kernel
theorem d2_71 : decode method_5_code 71 = .ok (.dup, 1) := by decide +kernel
theorem d2_72 : decode method_5_code 72 = .ok (.iconst 0, 1) := by decide +kernel
theorem d2_73 : decode method_5_code 73 = .ok (.iload_n 1, 1) := by decide +kernel
theorem d2_74 : decode method_5_code 74 = .ok (.castore, 1) := by decide +kernel
theorem d2_75 : decode method_5_code 75 = .ok (.dup, 1) := by decide +kernel
theorem d2_76 : decode method_5_code 76 = .ok (.iconst 1, 1) := by decide +kernel
theorem d2_77 : decode method_5_code 77 = .ok (.iload_n 2, 1) := by decide +kernel
theorem d2_78 : decode method_5_code 78 = .ok (.castore, 1) := by decide +kernel
theorem d2_79 : decode method_5_code 79 = .ok (.dup, 1) := by decide +kernel
theorem d2_80 : decode method_5_code 80 = .ok (.iconst 2, 1) := by decide +kernel
theorem d2_81 : decode method_5_code 81 = .ok (.iload_n 3, 1) := by decide +kernel
theorem d2_82 : decode method_5_code 82 = .ok (.castore, 1) := by decide +kernel
theorem d2_83 : decode method_5_code 83 = .ok (.invokespecial 10, 3) := by decide +kernel
theorem d2_86 : decode method_5_code 86 = .ok (.areturn, 1) := by decide +kernel
theorem d2_87 : decode method_5_code 87 = .ok (.new 8, 3) := by decide +kernel
theorem d2_90 : decode method_5_code 90 = .ok (.dup, 1) := by decide +kernel
theorem d2_91 : decode method_5_code 91 = .ok (.iconst 4, 1) := by decide +kernel
theorem d2_92 : decode method_5_code 92 = .ok (.newarray .char, 2) := by decide +kernel
theorem d2_94 : decode method_5_code 94 = .ok (.dup, 1) := by decide +kernel
theorem d2_95 : decode method_5_code 95 = .ok (.iconst 0, 1) := by decide +kernel
theorem d2_96 : decode method_5_code 96 = .ok (.iload_n 1, 1) := by decide +kernel
theorem d2_97 : decode method_5_code 97 = .ok (.castore, 1) := by decide +kernel
theorem d2_98 : decode method_5_code 98 = .ok (.dup, 1) := by decide +kernel
theorem d2_99 : decode method_5_code 99 = .ok (.iconst 1, 1) := by decide +kernel
theorem d2_100 : decode method_5_code 100 = .ok (.iload_n 2, 1) := by decide +kernel
theorem d2_101 : decode method_5_code 101 = .ok (.castore, 1) := by decide +kernel
theorem d2_102 : decode method_5_code 102 = .ok (.dup, 1) := by decide +kernel
theorem d2_103 : decode method_5_code 103 = .ok (.iconst 2, 1) := by decide +kernel
theorem d2_104 : decode method_5_code 104 = .ok (.iload_n 3, 1) := by decide +kernel
theorem d2_105 : decode method_5_code 105 = .ok (.castore, 1) := by decide +kernel
theorem d2_106 : decode method_5_code 106 = .ok (.dup, 1) := by decide +kernel
theorem d2_107 : decode method_5_code 107 = .ok (.iconst 3, 1) := by decide +kernel
theorem d2_108 : decode method_5_code 108 = .ok (.iload 4, 2) := by decide +kernel
theorem d2_110 : decode method_5_code 110 = .ok (.castore, 1) := by decide +kernel
theorem d2_111 : decode method_5_code 111 = .ok (.invokespecial 10, 3) := by decide +kernel
theorem d2_114 : decode method_5_code 114 = .ok (.areturn, 1) := by decide +kernel
set_option maxRecDepth 65536 in
set_option maxHeartbeats 40000000 in
theorem rMk (l : Launch) (Z : State) (a0 : Array Value) (hw : ∀ d ∈ tables_1, d.before a0 Z = true) (ws : List Jvm.Cond) (nn c0 c1 c2 c3 : Int32) (z : Int32) (fm : Value) (h0 : Heap) (n0 : Nat) (Z0 : n0 ≤ h0.size) (O0 : Old Z n0 h0) (SC : Sta Z Z.heap "java/lang/String" "COMPACT_STRINGS" "Z" (.int z)) (hz : ¬ z = 0) (SF : Sta Z Z.heap "jdk/internal/util/Preconditions" "SIOOBE_FORMATTER" "Ljava/util/function/BiFunction;" fm) (rF : fm.isRef = true) (SA : Sta Z Z.heap "java/lang/StringUTF16" "$assertionsDisabled" "Z" (.int (1 : Int32))) (SH : Sta Z Z.heap "java/lang/StringUTF16" "HI_BYTE_SHIFT" "I" (.int (0 : Int32))) (SL : Sta Z Z.heap "java/lang/StringUTF16" "LO_BYTE_SHIFT" "I" (.int (8 : Int32))) (hbc0 : ¬ c0 < 0 ∧ ¬ (65535 : Int32) < c0) (hbc1 : ¬ c1 < 0 ∧ ¬ (65535 : Int32) < c1) (hbc2 : ¬ c2 < 0 ∧ ¬ (65535 : Int32) < c2) (hbc3 : ¬ c3 < 0 ∧ ¬ (65535 : Int32) < c3) (hh : Jvm.Lit.constHeld Z "java/lang/String" 7) (hcw : Jvm.Lit.compactW.before a0 Z = true) :
    Ctr ReturnedEndW l Z (⟨"com/example/wide_weir/wideweir/http/HttpSyntaxTrimWhitespacePinLaw", "make", "(ICCCC)Ljava/lang/String;"⟩ : MethodName) method_5_code 5 (some (.object "java/lang/String")) ws ({ frames := 6, cells := 4, slots := 20, locals := 107 } : Room) #[(.int nn), (.int c0), (.int c1), (.int c2), (.int c3)] h0 (fun vm => IB Z vm []) (fun v h vm L => ∃ (x t : Addr) (kb : ClassId), v = some (.ref x) ∧ Fr n0 L ∧ Keep h0 h [] ∧ Exa Z h x "java/lang/String" ∧ Fld Z h x "java/lang/String" "value" "[B" (.ref t) ∧ SD Z h x t kb (own_cs nn c0 c1 c2 c3) ∧ IB Z vm (own_ts nn)) := by
  refine Ctr.intro (plainFor_of_name pn_com_example_wide_weir_wideweir_http_HttpSyntaxTrimWhitespacePinLaw) (Ls := #[.val (.int nn), .val (.int c0), .val (.int c1), .val (.int c2), .val (.int c3)]) (fun m => by first | (simp [entryFrame, mkF, argsToLocals, Value.category]; done) | rfl) ?_
  intro p e s m below meth c T0 hx hby hml hown hnm hret hlk hZ hV hsh e0 X0
  have N0 := Fr.nil n0
  have hS : s.Since s.vm 0 := (State.WarmedH.refl s).since 0
  have hk : 0 ≤ h0.size := Nat.zero_le _
  have X0 : Stand p l e ({ frames := 6, cells := 4, slots := 20, locals := 107 } : Room) (s.setVm s.vm) m #[(.int nn), (.int c0), (.int c1), (.int c2), (.int c3)] below meth c T0 [] 0 0 := X0
  have hZ : Z.Warmed39 (s.setVm s.vm).vm := hZ
  have hown : (s.setVm s.vm).vm.findClass "com/example/wide_weir/wideweir/http/HttpSyntaxTrimWhitespacePinLaw" = some m.cls := hown
  show Done _ p e below s _ _ (T0.setTop (mkF m 0 #[oI nn, oI c0, oI c1, oI c2, oI c3] []))
  refine Done.step (fun _ => XS.iloadN X0.here hx rfl (hb hby d2_0) rfl) ?_
  show Done _ p e below s _ _ (T0.setTop (mkF m 1 #[oI nn, oI c0, oI c1, oI c2, oI c3] [(.int nn)]))
  by_cases hc1 : nn = (0 : Int32)
  · refine Done.step (fun _ => XS.ifNo X0.here hx rfl (hb hby d2_1) rfl (XT.i0_ne_f hc1)) ?_
    show Done _ p e below s _ _ (T0.setTop (mkF m 4 #[oI nn, oI c0, oI c1, oI c2, oI c3] []))
    obtain ⟨T2, h2, X2, e2, E2, A2, D2, -, st2⟩ := newO X0 hx hZ hown (wAt hw 9 rfl) (wAt hw 10 rfl) (wAt hw 11 rfl) e0 (g := (mkF m 4 #[oI nn, oI c0, oI c1, oI c2, oI c3] [])) rfl (hb hby d2_4) (by decide) (by decide)
    obtain ⟨b2, g2⟩ : ∃ z, z = h0.size := ⟨_, rfl⟩
    rw [← g2] at A2 D2 st2
    have n0_b2 : n0 ≤ b2 := by rw [g2]; exact Z0
    have sz_b2 : h0.size ≤ b2 := by rw [g2]; exact (Keep.refl h0 []).1
    have K2 := (Keep.refl h0 []).ext E2
    have Zs2 := Nat.le_trans Z0 E2.1
    have hk := Nat.le_trans hk E2.1
    have F_value_b2 : Fld Z h2 b2 "java/lang/String" "value" "[B" .null := D2 (Or.inr (wAt hw 25 rfl)) (ty := (.array .byte)) (by decide)
    have F_coder_b2 : Fld Z h2 b2 "java/lang/String" "coder" "B" (.int (0 : Int32)) := D2 (Or.inr (wAt hw 26 rfl)) (ty := .byte) (by decide)
    refine Done.step st2 ?_
    show Done _ p e below s _ _ (T2.setTop (mkF m 7 #[oI nn, oI c0, oI c1, oI c2, oI c3] [(.ref b2)]))
    refine Done.step (fun _ => XS.dup X2.here hx rfl (hb hby d2_7) rfl rfl) ?_
    show Done _ p e below s _ _ (T2.setTop (mkF m 8 #[oI nn, oI c0, oI c1, oI c2, oI c3] [(.ref b2), (.ref b2)]))
    refine Done.step (fun _ => XT.iconstV X2.here hx rfl (0 : Int32) (hb hby d2_8) (by decide)) ?_
    show Done _ p e below s _ _ (T2.setTop (mkF m 9 #[oI nn, oI c0, oI c1, oI c2, oI c3] [(.int (0 : Int32)), (.ref b2), (.ref b2)]))
    obtain ⟨T3, h3, k3, X3, e3, E3, A3, st3⟩ := newP X2 hx hZ (wAt hw 12 rfl) e2 (g := (mkF m 9 #[oI nn, oI c0, oI c1, oI c2, oI c3] [(.int (0 : Int32)), (.ref b2), (.ref b2)])) rfl (hb hby d2_9) rfl (by decide) (cap := 0) (by decide) (by decide) (by decide) (by decide)
    obtain ⟨b3, g3⟩ : ∃ z, z = h2.size := ⟨_, rfl⟩
    rw [← g3] at A3 st3
    have ne_b2_b3 : b2 ≠ b3 := by rw [g3]; exact Nat.ne_of_lt A2.lt
    have n0_b3 : n0 ≤ b3 := by rw [g3]; exact Zs2
    have sz_b3 : h0.size ≤ b3 := by rw [g3]; exact K2.1
    have K3 := K2.ext E3
    have Zs3 := Nat.le_trans Zs2 E3.1
    have hk := Nat.le_trans hk E3.1
    have V_b3 : Arv Z h3 b3 k3 .char (0 : Int32) [] (.int (0 : Int32)) := Arv.new A3 (by decide)
    refine Done.step st3 ?_
    show Done _ p e below s _ _ (T3.setTop (mkF m 11 #[oI nn, oI c0, oI c1, oI c2, oI c3] [(.ref b3), (.ref b2), (.ref b2)]))
    have f4 := (A2.ext E3)
    have f5 := (F_value_b2.ext E3)
    have f6 := (F_coder_b2.ext E3)
    have f7 := ((O0.ext E2).ext E3)
    refine Done.callIW X3 hx hZ rfl hown hS hk (wAt hw 13 rfl) (wAt hw 14 rfl) (wAt hw 11 rfl) (wAt hw 15 rfl) (by decide) (rmZ l Z a0 hw [] b2 b3 k3 h3 n0 Zs3 V_b3 f4 f5 f6 n0_b2 f7 hh hcw) (fun vm' hW => own_ibV hV hW) e3 (g := (mkF m 11 #[oI nn, oI c0, oI c1, oI c2, oI c3] [(.ref b3), (.ref b2), (.ref b2)])) rfl (by rw [hml]; rfl) b2 [(.ref b3)] [(.ref b2)] 1 (lenOf pd_26 rfl) rfl rfl (by show 2 * 0 + _ ≤ _; exact Nat.le_of_eq rfl) (hb hby d2_11) (by decide) (by decide) (by decide) (by decide) ?_
    intro T8 v8 L8 X8 hS hZ hown hW8 q8
    have hk := Nat.le_refl T8.heap.size
    obtain ⟨rfl, Nq8, K8q, aaq, bbq, kkq, IBqq, LTqq, FAvq, FAcq, FBqq, naxq, nbxq, Exqq, Fvqq, Fcqq⟩ := q8
    have N8 := Fr.app N0 Nq8
    have Zs8 := Nat.le_trans Zs3 K8q.1
    have K8 := K3.trans K8q (allS (Or.inr sz_b2) all0)
    show Done _ p e below s _ _ (T8.setTop (mkF m 14 #[oI nn, oI c0, oI c1, oI c2, oI c3] [(.ref b2)]))
    have ecs : (own_cs nn c0 c1 c2 c3) = [] := by unfold own_cs; rw [if_pos hc1]
    have ets : own_ts nn = [""] := by unfold own_ts; rw [if_pos hc1]
    refine Done.retA (leavesW X8 hS (by first | exact hk | (rw [rfl]; exact hk)) hlk (by decide) (by decide)) X8 hx hret rfl rfl (hb hby d2_14) ?_
    rw [ecs, ets]
    exact ⟨b2, bbq, kkq, rfl, N8, K8, Exqq, Fvqq, Or.inl ⟨(fun c hc => absurd hc List.not_mem_nil), Fcqq, FBqq⟩, own_ib X8 IBqq⟩
  · refine Done.step (fun _ => XS.ifYes X0.here hx rfl (pc0 := 1) (pc' := 15) rfl (hb hby d2_1) rfl (XT.i0_ne_t hc1) (by decide) (by decide)) ?_
    show Done _ p e below s _ _ (T0.setTop (mkF m 15 #[oI nn, oI c0, oI c1, oI c2, oI c3] []))
    refine Done.step (fun _ => XS.iloadN X0.here hx rfl (hb hby d2_15) rfl) ?_
    show Done _ p e below s _ _ (T0.setTop (mkF m 16 #[oI nn, oI c0, oI c1, oI c2, oI c3] [(.int nn)]))
    refine Done.step (fun _ => XT.iconstV X0.here hx rfl (1 : Int32) (hb hby d2_16) (by decide)) ?_
    show Done _ p e below s _ _ (T0.setTop (mkF m 17 #[oI nn, oI c0, oI c1, oI c2, oI c3] [(.int (1 : Int32)), (.int nn)]))
    by_cases hc9 : nn = (1 : Int32)
    · refine Done.step (fun _ => XS.icmpNo X0.here hx rfl (hb hby d2_17) rfl (XT.ii_ne_f hc9)) ?_
      show Done _ p e below s _ _ (T0.setTop (mkF m 20 #[oI nn, oI c0, oI c1, oI c2, oI c3] []))
      obtain ⟨T10, h10, X10, e10, E10, A10, D10, -, st10⟩ := newO X0 hx hZ hown (wAt hw 9 rfl) (wAt hw 10 rfl) (wAt hw 11 rfl) e0 (g := (mkF m 20 #[oI nn, oI c0, oI c1, oI c2, oI c3] [])) rfl (hb hby d2_20) (by decide) (by decide)
      obtain ⟨b10, g10⟩ : ∃ z, z = h0.size := ⟨_, rfl⟩
      rw [← g10] at A10 D10 st10
      have n0_b10 : n0 ≤ b10 := by rw [g10]; exact Z0
      have sz_b10 : h0.size ≤ b10 := by rw [g10]; exact (Keep.refl h0 []).1
      have K10 := (Keep.refl h0 []).ext E10
      have Zs10 := Nat.le_trans Z0 E10.1
      have hk := Nat.le_trans hk E10.1
      have F_value_b10 : Fld Z h10 b10 "java/lang/String" "value" "[B" .null := D10 (Or.inr (wAt hw 25 rfl)) (ty := (.array .byte)) (by decide)
      have F_coder_b10 : Fld Z h10 b10 "java/lang/String" "coder" "B" (.int (0 : Int32)) := D10 (Or.inr (wAt hw 26 rfl)) (ty := .byte) (by decide)
      refine Done.step st10 ?_
      show Done _ p e below s _ _ (T10.setTop (mkF m 23 #[oI nn, oI c0, oI c1, oI c2, oI c3] [(.ref b10)]))
      refine Done.step (fun _ => XS.dup X10.here hx rfl (hb hby d2_23) rfl rfl) ?_
      show Done _ p e below s _ _ (T10.setTop (mkF m 24 #[oI nn, oI c0, oI c1, oI c2, oI c3] [(.ref b10), (.ref b10)]))
      refine Done.step (fun _ => XT.iconstV X10.here hx rfl (1 : Int32) (hb hby d2_24) (by decide)) ?_
      show Done _ p e below s _ _ (T10.setTop (mkF m 25 #[oI nn, oI c0, oI c1, oI c2, oI c3] [(.int (1 : Int32)), (.ref b10), (.ref b10)]))
      obtain ⟨T11, h11, k11, X11, e11, E11, A11, st11⟩ := newP X10 hx hZ (wAt hw 12 rfl) e10 (g := (mkF m 25 #[oI nn, oI c0, oI c1, oI c2, oI c3] [(.int (1 : Int32)), (.ref b10), (.ref b10)])) rfl (hb hby d2_25) rfl (by decide) (cap := 1) (by decide) (by decide) (by decide) (by decide)
      obtain ⟨b11, g11⟩ : ∃ z, z = h10.size := ⟨_, rfl⟩
      rw [← g11] at A11 st11
      have ne_b10_b11 : b10 ≠ b11 := by rw [g11]; exact Nat.ne_of_lt A10.lt
      have n0_b11 : n0 ≤ b11 := by rw [g11]; exact Zs10
      have sz_b11 : h0.size ≤ b11 := by rw [g11]; exact K10.1
      have K11 := K10.ext E11
      have Zs11 := Nat.le_trans Zs10 E11.1
      have hk := Nat.le_trans hk E11.1
      have V_b11 : Arv Z h11 b11 k11 .char (1 : Int32) [(.int (0 : Int32))] (.int (0 : Int32)) := (Arv.new A11 (by decide)).pad (pad_rep [] (.int (0 : Int32)) 1)
      refine Done.step st11 ?_
      show Done _ p e below s _ _ (T11.setTop (mkF m 27 #[oI nn, oI c0, oI c1, oI c2, oI c3] [(.ref b11), (.ref b10), (.ref b10)]))
      refine Done.step (fun _ => XS.dup X11.here hx rfl (hb hby d2_27) rfl rfl) ?_
      show Done _ p e below s _ _ (T11.setTop (mkF m 28 #[oI nn, oI c0, oI c1, oI c2, oI c3] [(.ref b11), (.ref b11), (.ref b10), (.ref b10)]))
      refine Done.step (fun _ => XT.iconstV X11.here hx rfl (0 : Int32) (hb hby d2_28) (by decide)) ?_
      show Done _ p e below s _ _ (T11.setTop (mkF m 29 #[oI nn, oI c0, oI c1, oI c2, oI c3] [(.int (0 : Int32)), (.ref b11), (.ref b11), (.ref b10), (.ref b10)]))
      refine Done.step (fun _ => XS.iloadN X11.here hx rfl (hb hby d2_29) rfl) ?_
      show Done _ p e below s _ _ (T11.setTop (mkF m 30 #[oI nn, oI c0, oI c1, oI c2, oI c3] [(.int c0), (.int (0 : Int32)), (.ref b11), (.ref b11), (.ref b10), (.ref b10)]))
      obtain ⟨cl12, Ar12, q12, S12, Nn12, H12, G12⟩ := id V_b11
      have hin12 : ¬ ((0 : Int32) < 0 ∨ cl12.slots.size ≤ ((0 : Int32)).toNatClampNeg) := inb_of S12 ⟨by decide, by decide⟩
      obtain ⟨T12, h12, X12, e12, W12, st12⟩ := stC X11 hx hZ e11 Ar12 (j := (0 : Int32)) hin12 (g := (mkF m 30 #[oI nn, oI c0, oI c1, oI c2, oI c3] [(.int c0), (.int (0 : Int32)), (.ref b11), (.ref b11), (.ref b10), (.ref b10)])) rfl rfl (hb hby d2_30)
      have V12 := Arv.set Ar12 q12 S12 Nn12 H12 G12 (fits_nar_char _) W12 0 rfl (Nat.le_of_ble_eq_true rfl)
      have N12 := Fr.snoc X12 N0 n0_b11
      have Zs12 := Nat.le_trans Zs11 (Keep.of_wr W12).1
      have hk := Nat.le_trans hk (Keep.of_wr W12).1
      have K12 := K11.wr W12 (Or.inr sz_b11)
      refine Done.step st12 ?_
      show Done _ p e below s _ _ (T12.setTop (mkF m 31 #[oI nn, oI c0, oI c1, oI c2, oI c3] [(.ref b11), (.ref b10), (.ref b10)]))
      have f13 := ((A10.ext E11).wr W12)
      have f14 := ((F_value_b10.ext E11).other W12 (Or.inl ne_b10_b11))
      have f15 := ((F_coder_b10.ext E11).other W12 (Or.inl ne_b10_b11))
      have f16 := (((O0.ext E10).ext E11).wr W12 n0_b11)
      have Vs17 : Arv Z h12 b11 k11 .char (1 : Int32) [(.int (nar .char c0))] (.int (0 : Int32)) := V12
      rw [own_nar2 hbc0] at Vs17
      have hbs : ∀ c ∈ [c0], ¬ c < 0 ∧ ¬ (65535 : Int32) < c := by
        intro c hc; simp only [List.mem_cons, List.not_mem_nil, or_false] at hc; rw [hc]; exact hbc0
      refine Done.callI X12 hx hZ rfl hown (wAt hw 13 rfl) (wAt hw 14 rfl) (wAt hw 11 rfl) (wAt hw 15 rfl) (by decide) (rX1 l Z a0 hw [] b10 b11 k11 [c0] z fm h12 n0 Zs12 f13 f14 f15 n0_b10 f16 SC hz SF rF SA SH SL Vs17 (Ne.symm ne_b10_b11) (Nat.le_of_ble_eq_true rfl) hbs (Nat.succ_pos _)) (fun _ _ => trivial) e12 (g := (mkF m 31 #[oI nn, oI c0, oI c1, oI c2, oI c3] [(.ref b11), (.ref b10), (.ref b10)])) rfl (by rw [hml]; rfl) b10 [(.ref b11)] [(.ref b10)] 1 (lenOf pd_26 rfl) rfl rfl (by show 2 * 0 + _ ≤ _; exact Nat.le_of_eq rfl) (hb hby d2_31) (by decide) (by decide) (by decide) (by decide) ?_
      intro T18 v18 L18 X18 q18
      obtain ⟨rfl, Nq18, K18q, bU, ku, EqX, VqX, DqX⟩ := q18
      have N18 := Fr.app N12 Nq18
      have Zs18 := Nat.le_trans Zs12 K18q.1
      have hk := Nat.le_trans hk K18q.1
      have K18 := K12.trans K18q (allS (Or.inr sz_b10) all0)
      show Done _ p e below s _ _ (T18.setTop (mkF m 34 #[oI nn, oI c0, oI c1, oI c2, oI c3] [(.ref b10)]))
      have ecs : (own_cs nn c0 c1 c2 c3) = [c0] := by unfold own_cs; rw [if_neg hc1, if_pos hc9]
      have ets : own_ts nn = [] := by unfold own_ts; rw [if_neg hc1]
      refine Done.retA (leavesW X18 hS (by first | exact hk | (rw [rfl]; exact hk)) hlk (by decide) (by decide)) X18 hx hret rfl rfl (hb hby d2_34) ?_
      rw [ecs, ets]
      exact ⟨b10, bU, ku, rfl, N18, K18, EqX, VqX, DqX, own_ib X18 hV⟩
    · refine Done.step (fun _ => XS.icmpYes X0.here hx rfl (pc0 := 17) (pc' := 35) rfl (hb hby d2_17) rfl (XT.ii_ne_t hc9) (by decide) (by decide)) ?_
      show Done _ p e below s _ _ (T0.setTop (mkF m 35 #[oI nn, oI c0, oI c1, oI c2, oI c3] []))
      refine Done.step (fun _ => XS.iloadN X0.here hx rfl (hb hby d2_35) rfl) ?_
      show Done _ p e below s _ _ (T0.setTop (mkF m 36 #[oI nn, oI c0, oI c1, oI c2, oI c3] [(.int nn)]))
      refine Done.step (fun _ => XT.iconstV X0.here hx rfl (2 : Int32) (hb hby d2_36) (by decide)) ?_
      show Done _ p e below s _ _ (T0.setTop (mkF m 37 #[oI nn, oI c0, oI c1, oI c2, oI c3] [(.int (2 : Int32)), (.int nn)]))
      by_cases hc19 : nn = (2 : Int32)
      · refine Done.step (fun _ => XS.icmpNo X0.here hx rfl (hb hby d2_37) rfl (XT.ii_ne_f hc19)) ?_
        show Done _ p e below s _ _ (T0.setTop (mkF m 40 #[oI nn, oI c0, oI c1, oI c2, oI c3] []))
        obtain ⟨T20, h20, X20, e20, E20, A20, D20, -, st20⟩ := newO X0 hx hZ hown (wAt hw 9 rfl) (wAt hw 10 rfl) (wAt hw 11 rfl) e0 (g := (mkF m 40 #[oI nn, oI c0, oI c1, oI c2, oI c3] [])) rfl (hb hby d2_40) (by decide) (by decide)
        obtain ⟨b20, g20⟩ : ∃ z, z = h0.size := ⟨_, rfl⟩
        rw [← g20] at A20 D20 st20
        have n0_b20 : n0 ≤ b20 := by rw [g20]; exact Z0
        have sz_b20 : h0.size ≤ b20 := by rw [g20]; exact (Keep.refl h0 []).1
        have K20 := (Keep.refl h0 []).ext E20
        have Zs20 := Nat.le_trans Z0 E20.1
        have hk := Nat.le_trans hk E20.1
        have F_value_b20 : Fld Z h20 b20 "java/lang/String" "value" "[B" .null := D20 (Or.inr (wAt hw 25 rfl)) (ty := (.array .byte)) (by decide)
        have F_coder_b20 : Fld Z h20 b20 "java/lang/String" "coder" "B" (.int (0 : Int32)) := D20 (Or.inr (wAt hw 26 rfl)) (ty := .byte) (by decide)
        refine Done.step st20 ?_
        show Done _ p e below s _ _ (T20.setTop (mkF m 43 #[oI nn, oI c0, oI c1, oI c2, oI c3] [(.ref b20)]))
        refine Done.step (fun _ => XS.dup X20.here hx rfl (hb hby d2_43) rfl rfl) ?_
        show Done _ p e below s _ _ (T20.setTop (mkF m 44 #[oI nn, oI c0, oI c1, oI c2, oI c3] [(.ref b20), (.ref b20)]))
        refine Done.step (fun _ => XT.iconstV X20.here hx rfl (2 : Int32) (hb hby d2_44) (by decide)) ?_
        show Done _ p e below s _ _ (T20.setTop (mkF m 45 #[oI nn, oI c0, oI c1, oI c2, oI c3] [(.int (2 : Int32)), (.ref b20), (.ref b20)]))
        obtain ⟨T21, h21, k21, X21, e21, E21, A21, st21⟩ := newP X20 hx hZ (wAt hw 12 rfl) e20 (g := (mkF m 45 #[oI nn, oI c0, oI c1, oI c2, oI c3] [(.int (2 : Int32)), (.ref b20), (.ref b20)])) rfl (hb hby d2_45) rfl (by decide) (cap := 2) (by decide) (by decide) (by decide) (by decide)
        obtain ⟨b21, g21⟩ : ∃ z, z = h20.size := ⟨_, rfl⟩
        rw [← g21] at A21 st21
        have ne_b20_b21 : b20 ≠ b21 := by rw [g21]; exact Nat.ne_of_lt A20.lt
        have n0_b21 : n0 ≤ b21 := by rw [g21]; exact Zs20
        have sz_b21 : h0.size ≤ b21 := by rw [g21]; exact K20.1
        have K21 := K20.ext E21
        have Zs21 := Nat.le_trans Zs20 E21.1
        have hk := Nat.le_trans hk E21.1
        have V_b21 : Arv Z h21 b21 k21 .char (2 : Int32) [(.int (0 : Int32)), (.int (0 : Int32))] (.int (0 : Int32)) := (Arv.new A21 (by decide)).pad (pad_rep [] (.int (0 : Int32)) 2)
        refine Done.step st21 ?_
        show Done _ p e below s _ _ (T21.setTop (mkF m 47 #[oI nn, oI c0, oI c1, oI c2, oI c3] [(.ref b21), (.ref b20), (.ref b20)]))
        refine Done.step (fun _ => XS.dup X21.here hx rfl (hb hby d2_47) rfl rfl) ?_
        show Done _ p e below s _ _ (T21.setTop (mkF m 48 #[oI nn, oI c0, oI c1, oI c2, oI c3] [(.ref b21), (.ref b21), (.ref b20), (.ref b20)]))
        refine Done.step (fun _ => XT.iconstV X21.here hx rfl (0 : Int32) (hb hby d2_48) (by decide)) ?_
        show Done _ p e below s _ _ (T21.setTop (mkF m 49 #[oI nn, oI c0, oI c1, oI c2, oI c3] [(.int (0 : Int32)), (.ref b21), (.ref b21), (.ref b20), (.ref b20)]))
        refine Done.step (fun _ => XS.iloadN X21.here hx rfl (hb hby d2_49) rfl) ?_
        show Done _ p e below s _ _ (T21.setTop (mkF m 50 #[oI nn, oI c0, oI c1, oI c2, oI c3] [(.int c0), (.int (0 : Int32)), (.ref b21), (.ref b21), (.ref b20), (.ref b20)]))
        obtain ⟨cl22, Ar22, q22, S22, Nn22, H22, G22⟩ := id V_b21
        have hin22 : ¬ ((0 : Int32) < 0 ∨ cl22.slots.size ≤ ((0 : Int32)).toNatClampNeg) := inb_of S22 ⟨by decide, by decide⟩
        obtain ⟨T22, h22, X22, e22, W22, st22⟩ := stC X21 hx hZ e21 Ar22 (j := (0 : Int32)) hin22 (g := (mkF m 50 #[oI nn, oI c0, oI c1, oI c2, oI c3] [(.int c0), (.int (0 : Int32)), (.ref b21), (.ref b21), (.ref b20), (.ref b20)])) rfl rfl (hb hby d2_50)
        have V22 := Arv.set Ar22 q22 S22 Nn22 H22 G22 (fits_nar_char _) W22 0 rfl (Nat.le_of_ble_eq_true rfl)
        have N22 := Fr.snoc X22 N0 n0_b21
        have Zs22 := Nat.le_trans Zs21 (Keep.of_wr W22).1
        have hk := Nat.le_trans hk (Keep.of_wr W22).1
        have K22 := K21.wr W22 (Or.inr sz_b21)
        refine Done.step st22 ?_
        show Done _ p e below s _ _ (T22.setTop (mkF m 51 #[oI nn, oI c0, oI c1, oI c2, oI c3] [(.ref b21), (.ref b20), (.ref b20)]))
        refine Done.step (fun _ => XS.dup X22.here hx rfl (hb hby d2_51) rfl rfl) ?_
        show Done _ p e below s _ _ (T22.setTop (mkF m 52 #[oI nn, oI c0, oI c1, oI c2, oI c3] [(.ref b21), (.ref b21), (.ref b20), (.ref b20)]))
        refine Done.step (fun _ => XT.iconstV X22.here hx rfl (1 : Int32) (hb hby d2_52) (by decide)) ?_
        show Done _ p e below s _ _ (T22.setTop (mkF m 53 #[oI nn, oI c0, oI c1, oI c2, oI c3] [(.int (1 : Int32)), (.ref b21), (.ref b21), (.ref b20), (.ref b20)]))
        refine Done.step (fun _ => XS.iloadN X22.here hx rfl (hb hby d2_53) rfl) ?_
        show Done _ p e below s _ _ (T22.setTop (mkF m 54 #[oI nn, oI c0, oI c1, oI c2, oI c3] [(.int c1), (.int (1 : Int32)), (.ref b21), (.ref b21), (.ref b20), (.ref b20)]))
        obtain ⟨cl23, Ar23, q23, S23, Nn23, H23, G23⟩ := id V22
        have hin23 : ¬ ((1 : Int32) < 0 ∨ cl23.slots.size ≤ ((1 : Int32)).toNatClampNeg) := inb_of S23 ⟨by decide, by decide⟩
        obtain ⟨T23, h23, X23, e23, W23, st23⟩ := stC X22 hx hZ e22 Ar23 (j := (1 : Int32)) hin23 (g := (mkF m 54 #[oI nn, oI c0, oI c1, oI c2, oI c3] [(.int c1), (.int (1 : Int32)), (.ref b21), (.ref b21), (.ref b20), (.ref b20)])) rfl rfl (hb hby d2_54)
        have V23 := Arv.set Ar23 q23 S23 Nn23 H23 G23 (fits_nar_char _) W23 1 rfl (Nat.le_of_ble_eq_true rfl)
        have N23 := Fr.snoc X23 N22 n0_b21
        have Zs23 := Nat.le_trans Zs22 (Keep.of_wr W23).1
        have hk := Nat.le_trans hk (Keep.of_wr W23).1
        have K23 := K22.wr W23 (Or.inr sz_b21)
        refine Done.step st23 ?_
        show Done _ p e below s _ _ (T23.setTop (mkF m 55 #[oI nn, oI c0, oI c1, oI c2, oI c3] [(.ref b21), (.ref b20), (.ref b20)]))
        have f24 := (((A20.ext E21).wr W22).wr W23)
        have f25 := (((F_value_b20.ext E21).other W22 (Or.inl ne_b20_b21)).other W23 (Or.inl ne_b20_b21))
        have f26 := (((F_coder_b20.ext E21).other W22 (Or.inl ne_b20_b21)).other W23 (Or.inl ne_b20_b21))
        have f27 := ((((O0.ext E20).ext E21).wr W22 n0_b21).wr W23 n0_b21)
        have Vs28 : Arv Z h23 b21 k21 .char (2 : Int32) [(.int (nar .char c0)), (.int (nar .char c1))] (.int (0 : Int32)) := V23
        rw [own_nar2 hbc0, own_nar2 hbc1] at Vs28
        have hbs : ∀ c ∈ [c0, c1], ¬ c < 0 ∧ ¬ (65535 : Int32) < c := by
          intro c hc; simp only [List.mem_cons, List.not_mem_nil, or_false] at hc; rcases hc with rfl | rfl
          · exact hbc0
          · exact hbc1
        refine Done.callI X23 hx hZ rfl hown (wAt hw 13 rfl) (wAt hw 14 rfl) (wAt hw 11 rfl) (wAt hw 15 rfl) (by decide) (rX1 l Z a0 hw [] b20 b21 k21 [c0, c1] z fm h23 n0 Zs23 f24 f25 f26 n0_b20 f27 SC hz SF rF SA SH SL Vs28 (Ne.symm ne_b20_b21) (Nat.le_of_ble_eq_true rfl) hbs (Nat.succ_pos _)) (fun _ _ => trivial) e23 (g := (mkF m 55 #[oI nn, oI c0, oI c1, oI c2, oI c3] [(.ref b21), (.ref b20), (.ref b20)])) rfl (by rw [hml]; rfl) b20 [(.ref b21)] [(.ref b20)] 1 (lenOf pd_26 rfl) rfl rfl (by show 2 * 0 + _ ≤ _; exact Nat.le_of_eq rfl) (hb hby d2_55) (by decide) (by decide) (by decide) (by decide) ?_
        intro T29 v29 L29 X29 q29
        obtain ⟨rfl, Nq29, K29q, bU, ku, EqX, VqX, DqX⟩ := q29
        have N29 := Fr.app N23 Nq29
        have Zs29 := Nat.le_trans Zs23 K29q.1
        have hk := Nat.le_trans hk K29q.1
        have K29 := K23.trans K29q (allS (Or.inr sz_b20) all0)
        show Done _ p e below s _ _ (T29.setTop (mkF m 58 #[oI nn, oI c0, oI c1, oI c2, oI c3] [(.ref b20)]))
        have ecs : (own_cs nn c0 c1 c2 c3) = [c0, c1] := by unfold own_cs; rw [if_neg hc1, if_neg hc9, if_pos hc19]
        have ets : own_ts nn = [] := by unfold own_ts; rw [if_neg hc1]
        refine Done.retA (leavesW X29 hS (by first | exact hk | (rw [rfl]; exact hk)) hlk (by decide) (by decide)) X29 hx hret rfl rfl (hb hby d2_58) ?_
        rw [ecs, ets]
        exact ⟨b20, bU, ku, rfl, N29, K29, EqX, VqX, DqX, own_ib X29 hV⟩
      · refine Done.step (fun _ => XS.icmpYes X0.here hx rfl (pc0 := 37) (pc' := 59) rfl (hb hby d2_37) rfl (XT.ii_ne_t hc19) (by decide) (by decide)) ?_
        show Done _ p e below s _ _ (T0.setTop (mkF m 59 #[oI nn, oI c0, oI c1, oI c2, oI c3] []))
        refine Done.step (fun _ => XS.iloadN X0.here hx rfl (hb hby d2_59) rfl) ?_
        show Done _ p e below s _ _ (T0.setTop (mkF m 60 #[oI nn, oI c0, oI c1, oI c2, oI c3] [(.int nn)]))
        refine Done.step (fun _ => XT.iconstV X0.here hx rfl (3 : Int32) (hb hby d2_60) (by decide)) ?_
        show Done _ p e below s _ _ (T0.setTop (mkF m 61 #[oI nn, oI c0, oI c1, oI c2, oI c3] [(.int (3 : Int32)), (.int nn)]))
        by_cases hc30 : nn = (3 : Int32)
        · refine Done.step (fun _ => XS.icmpNo X0.here hx rfl (hb hby d2_61) rfl (XT.ii_ne_f hc30)) ?_
          show Done _ p e below s _ _ (T0.setTop (mkF m 64 #[oI nn, oI c0, oI c1, oI c2, oI c3] []))
          obtain ⟨T31, h31, X31, e31, E31, A31, D31, -, st31⟩ := newO X0 hx hZ hown (wAt hw 9 rfl) (wAt hw 10 rfl) (wAt hw 11 rfl) e0 (g := (mkF m 64 #[oI nn, oI c0, oI c1, oI c2, oI c3] [])) rfl (hb hby d2_64) (by decide) (by decide)
          obtain ⟨b31, g31⟩ : ∃ z, z = h0.size := ⟨_, rfl⟩
          rw [← g31] at A31 D31 st31
          have n0_b31 : n0 ≤ b31 := by rw [g31]; exact Z0
          have sz_b31 : h0.size ≤ b31 := by rw [g31]; exact (Keep.refl h0 []).1
          have K31 := (Keep.refl h0 []).ext E31
          have Zs31 := Nat.le_trans Z0 E31.1
          have hk := Nat.le_trans hk E31.1
          have F_value_b31 : Fld Z h31 b31 "java/lang/String" "value" "[B" .null := D31 (Or.inr (wAt hw 25 rfl)) (ty := (.array .byte)) (by decide)
          have F_coder_b31 : Fld Z h31 b31 "java/lang/String" "coder" "B" (.int (0 : Int32)) := D31 (Or.inr (wAt hw 26 rfl)) (ty := .byte) (by decide)
          refine Done.step st31 ?_
          show Done _ p e below s _ _ (T31.setTop (mkF m 67 #[oI nn, oI c0, oI c1, oI c2, oI c3] [(.ref b31)]))
          refine Done.step (fun _ => XS.dup X31.here hx rfl (hb hby d2_67) rfl rfl) ?_
          show Done _ p e below s _ _ (T31.setTop (mkF m 68 #[oI nn, oI c0, oI c1, oI c2, oI c3] [(.ref b31), (.ref b31)]))
          refine Done.step (fun _ => XT.iconstV X31.here hx rfl (3 : Int32) (hb hby d2_68) (by decide)) ?_
          show Done _ p e below s _ _ (T31.setTop (mkF m 69 #[oI nn, oI c0, oI c1, oI c2, oI c3] [(.int (3 : Int32)), (.ref b31), (.ref b31)]))
          obtain ⟨T32, h32, k32, X32, e32, E32, A32, st32⟩ := newP X31 hx hZ (wAt hw 12 rfl) e31 (g := (mkF m 69 #[oI nn, oI c0, oI c1, oI c2, oI c3] [(.int (3 : Int32)), (.ref b31), (.ref b31)])) rfl (hb hby d2_69) rfl (by decide) (cap := 3) (by decide) (by decide) (by decide) (by decide)
          obtain ⟨b32, g32⟩ : ∃ z, z = h31.size := ⟨_, rfl⟩
          rw [← g32] at A32 st32
          have ne_b31_b32 : b31 ≠ b32 := by rw [g32]; exact Nat.ne_of_lt A31.lt
          have n0_b32 : n0 ≤ b32 := by rw [g32]; exact Zs31
          have sz_b32 : h0.size ≤ b32 := by rw [g32]; exact K31.1
          have K32 := K31.ext E32
          have Zs32 := Nat.le_trans Zs31 E32.1
          have hk := Nat.le_trans hk E32.1
          have V_b32 : Arv Z h32 b32 k32 .char (3 : Int32) [(.int (0 : Int32)), (.int (0 : Int32)), (.int (0 : Int32))] (.int (0 : Int32)) := (Arv.new A32 (by decide)).pad (pad_rep [] (.int (0 : Int32)) 3)
          refine Done.step st32 ?_
          show Done _ p e below s _ _ (T32.setTop (mkF m 71 #[oI nn, oI c0, oI c1, oI c2, oI c3] [(.ref b32), (.ref b31), (.ref b31)]))
          refine Done.step (fun _ => XS.dup X32.here hx rfl (hb hby d2_71) rfl rfl) ?_
          show Done _ p e below s _ _ (T32.setTop (mkF m 72 #[oI nn, oI c0, oI c1, oI c2, oI c3] [(.ref b32), (.ref b32), (.ref b31), (.ref b31)]))
          refine Done.step (fun _ => XT.iconstV X32.here hx rfl (0 : Int32) (hb hby d2_72) (by decide)) ?_
          show Done _ p e below s _ _ (T32.setTop (mkF m 73 #[oI nn, oI c0, oI c1, oI c2, oI c3] [(.int (0 : Int32)), (.ref b32), (.ref b32), (.ref b31), (.ref b31)]))
          refine Done.step (fun _ => XS.iloadN X32.here hx rfl (hb hby d2_73) rfl) ?_
          show Done _ p e below s _ _ (T32.setTop (mkF m 74 #[oI nn, oI c0, oI c1, oI c2, oI c3] [(.int c0), (.int (0 : Int32)), (.ref b32), (.ref b32), (.ref b31), (.ref b31)]))
          obtain ⟨cl33, Ar33, q33, S33, Nn33, H33, G33⟩ := id V_b32
          have hin33 : ¬ ((0 : Int32) < 0 ∨ cl33.slots.size ≤ ((0 : Int32)).toNatClampNeg) := inb_of S33 ⟨by decide, by decide⟩
          obtain ⟨T33, h33, X33, e33, W33, st33⟩ := stC X32 hx hZ e32 Ar33 (j := (0 : Int32)) hin33 (g := (mkF m 74 #[oI nn, oI c0, oI c1, oI c2, oI c3] [(.int c0), (.int (0 : Int32)), (.ref b32), (.ref b32), (.ref b31), (.ref b31)])) rfl rfl (hb hby d2_74)
          have V33 := Arv.set Ar33 q33 S33 Nn33 H33 G33 (fits_nar_char _) W33 0 rfl (Nat.le_of_ble_eq_true rfl)
          have N33 := Fr.snoc X33 N0 n0_b32
          have Zs33 := Nat.le_trans Zs32 (Keep.of_wr W33).1
          have hk := Nat.le_trans hk (Keep.of_wr W33).1
          have K33 := K32.wr W33 (Or.inr sz_b32)
          refine Done.step st33 ?_
          show Done _ p e below s _ _ (T33.setTop (mkF m 75 #[oI nn, oI c0, oI c1, oI c2, oI c3] [(.ref b32), (.ref b31), (.ref b31)]))
          refine Done.step (fun _ => XS.dup X33.here hx rfl (hb hby d2_75) rfl rfl) ?_
          show Done _ p e below s _ _ (T33.setTop (mkF m 76 #[oI nn, oI c0, oI c1, oI c2, oI c3] [(.ref b32), (.ref b32), (.ref b31), (.ref b31)]))
          refine Done.step (fun _ => XT.iconstV X33.here hx rfl (1 : Int32) (hb hby d2_76) (by decide)) ?_
          show Done _ p e below s _ _ (T33.setTop (mkF m 77 #[oI nn, oI c0, oI c1, oI c2, oI c3] [(.int (1 : Int32)), (.ref b32), (.ref b32), (.ref b31), (.ref b31)]))
          refine Done.step (fun _ => XS.iloadN X33.here hx rfl (hb hby d2_77) rfl) ?_
          show Done _ p e below s _ _ (T33.setTop (mkF m 78 #[oI nn, oI c0, oI c1, oI c2, oI c3] [(.int c1), (.int (1 : Int32)), (.ref b32), (.ref b32), (.ref b31), (.ref b31)]))
          obtain ⟨cl34, Ar34, q34, S34, Nn34, H34, G34⟩ := id V33
          have hin34 : ¬ ((1 : Int32) < 0 ∨ cl34.slots.size ≤ ((1 : Int32)).toNatClampNeg) := inb_of S34 ⟨by decide, by decide⟩
          obtain ⟨T34, h34, X34, e34, W34, st34⟩ := stC X33 hx hZ e33 Ar34 (j := (1 : Int32)) hin34 (g := (mkF m 78 #[oI nn, oI c0, oI c1, oI c2, oI c3] [(.int c1), (.int (1 : Int32)), (.ref b32), (.ref b32), (.ref b31), (.ref b31)])) rfl rfl (hb hby d2_78)
          have V34 := Arv.set Ar34 q34 S34 Nn34 H34 G34 (fits_nar_char _) W34 1 rfl (Nat.le_of_ble_eq_true rfl)
          have N34 := Fr.snoc X34 N33 n0_b32
          have Zs34 := Nat.le_trans Zs33 (Keep.of_wr W34).1
          have hk := Nat.le_trans hk (Keep.of_wr W34).1
          have K34 := K33.wr W34 (Or.inr sz_b32)
          refine Done.step st34 ?_
          show Done _ p e below s _ _ (T34.setTop (mkF m 79 #[oI nn, oI c0, oI c1, oI c2, oI c3] [(.ref b32), (.ref b31), (.ref b31)]))
          refine Done.step (fun _ => XS.dup X34.here hx rfl (hb hby d2_79) rfl rfl) ?_
          show Done _ p e below s _ _ (T34.setTop (mkF m 80 #[oI nn, oI c0, oI c1, oI c2, oI c3] [(.ref b32), (.ref b32), (.ref b31), (.ref b31)]))
          refine Done.step (fun _ => XT.iconstV X34.here hx rfl (2 : Int32) (hb hby d2_80) (by decide)) ?_
          show Done _ p e below s _ _ (T34.setTop (mkF m 81 #[oI nn, oI c0, oI c1, oI c2, oI c3] [(.int (2 : Int32)), (.ref b32), (.ref b32), (.ref b31), (.ref b31)]))
          refine Done.step (fun _ => XS.iloadN X34.here hx rfl (hb hby d2_81) rfl) ?_
          show Done _ p e below s _ _ (T34.setTop (mkF m 82 #[oI nn, oI c0, oI c1, oI c2, oI c3] [(.int c2), (.int (2 : Int32)), (.ref b32), (.ref b32), (.ref b31), (.ref b31)]))
          obtain ⟨cl35, Ar35, q35, S35, Nn35, H35, G35⟩ := id V34
          have hin35 : ¬ ((2 : Int32) < 0 ∨ cl35.slots.size ≤ ((2 : Int32)).toNatClampNeg) := inb_of S35 ⟨by decide, by decide⟩
          obtain ⟨T35, h35, X35, e35, W35, st35⟩ := stC X34 hx hZ e34 Ar35 (j := (2 : Int32)) hin35 (g := (mkF m 82 #[oI nn, oI c0, oI c1, oI c2, oI c3] [(.int c2), (.int (2 : Int32)), (.ref b32), (.ref b32), (.ref b31), (.ref b31)])) rfl rfl (hb hby d2_82)
          have V35 := Arv.set Ar35 q35 S35 Nn35 H35 G35 (fits_nar_char _) W35 2 rfl (Nat.le_of_ble_eq_true rfl)
          have N35 := Fr.snoc X35 N34 n0_b32
          have Zs35 := Nat.le_trans Zs34 (Keep.of_wr W35).1
          have hk := Nat.le_trans hk (Keep.of_wr W35).1
          have K35 := K34.wr W35 (Or.inr sz_b32)
          refine Done.step st35 ?_
          show Done _ p e below s _ _ (T35.setTop (mkF m 83 #[oI nn, oI c0, oI c1, oI c2, oI c3] [(.ref b32), (.ref b31), (.ref b31)]))
          have f36 := ((((A31.ext E32).wr W33).wr W34).wr W35)
          have f37 := ((((F_value_b31.ext E32).other W33 (Or.inl ne_b31_b32)).other W34 (Or.inl ne_b31_b32)).other W35 (Or.inl ne_b31_b32))
          have f38 := ((((F_coder_b31.ext E32).other W33 (Or.inl ne_b31_b32)).other W34 (Or.inl ne_b31_b32)).other W35 (Or.inl ne_b31_b32))
          have f39 := (((((O0.ext E31).ext E32).wr W33 n0_b32).wr W34 n0_b32).wr W35 n0_b32)
          have Vs40 : Arv Z h35 b32 k32 .char (3 : Int32) [(.int (nar .char c0)), (.int (nar .char c1)), (.int (nar .char c2))] (.int (0 : Int32)) := V35
          rw [own_nar2 hbc0, own_nar2 hbc1, own_nar2 hbc2] at Vs40
          have hbs : ∀ c ∈ [c0, c1, c2], ¬ c < 0 ∧ ¬ (65535 : Int32) < c := by
            intro c hc; simp only [List.mem_cons, List.not_mem_nil, or_false] at hc; rcases hc with rfl | rfl | rfl
            · exact hbc0
            · exact hbc1
            · exact hbc2
          refine Done.callI X35 hx hZ rfl hown (wAt hw 13 rfl) (wAt hw 14 rfl) (wAt hw 11 rfl) (wAt hw 15 rfl) (by decide) (rX1 l Z a0 hw [] b31 b32 k32 [c0, c1, c2] z fm h35 n0 Zs35 f36 f37 f38 n0_b31 f39 SC hz SF rF SA SH SL Vs40 (Ne.symm ne_b31_b32) (Nat.le_of_ble_eq_true rfl) hbs (Nat.succ_pos _)) (fun _ _ => trivial) e35 (g := (mkF m 83 #[oI nn, oI c0, oI c1, oI c2, oI c3] [(.ref b32), (.ref b31), (.ref b31)])) rfl (by rw [hml]; rfl) b31 [(.ref b32)] [(.ref b31)] 1 (lenOf pd_26 rfl) rfl rfl (by show 2 * 0 + _ ≤ _; exact Nat.le_of_eq rfl) (hb hby d2_83) (by decide) (by decide) (by decide) (by decide) ?_
          intro T41 v41 L41 X41 q41
          obtain ⟨rfl, Nq41, K41q, bU, ku, EqX, VqX, DqX⟩ := q41
          have N41 := Fr.app N35 Nq41
          have Zs41 := Nat.le_trans Zs35 K41q.1
          have hk := Nat.le_trans hk K41q.1
          have K41 := K35.trans K41q (allS (Or.inr sz_b31) all0)
          show Done _ p e below s _ _ (T41.setTop (mkF m 86 #[oI nn, oI c0, oI c1, oI c2, oI c3] [(.ref b31)]))
          have ecs : (own_cs nn c0 c1 c2 c3) = [c0, c1, c2] := by unfold own_cs; rw [if_neg hc1, if_neg hc9, if_neg hc19, if_pos hc30]
          have ets : own_ts nn = [] := by unfold own_ts; rw [if_neg hc1]
          refine Done.retA (leavesW X41 hS (by first | exact hk | (rw [rfl]; exact hk)) hlk (by decide) (by decide)) X41 hx hret rfl rfl (hb hby d2_86) ?_
          rw [ecs, ets]
          exact ⟨b31, bU, ku, rfl, N41, K41, EqX, VqX, DqX, own_ib X41 hV⟩
        · refine Done.step (fun _ => XS.icmpYes X0.here hx rfl (pc0 := 61) (pc' := 87) rfl (hb hby d2_61) rfl (XT.ii_ne_t hc30) (by decide) (by decide)) ?_
          show Done _ p e below s _ _ (T0.setTop (mkF m 87 #[oI nn, oI c0, oI c1, oI c2, oI c3] []))
          obtain ⟨T42, h42, X42, e42, E42, A42, D42, -, st42⟩ := newO X0 hx hZ hown (wAt hw 9 rfl) (wAt hw 10 rfl) (wAt hw 11 rfl) e0 (g := (mkF m 87 #[oI nn, oI c0, oI c1, oI c2, oI c3] [])) rfl (hb hby d2_87) (by decide) (by decide)
          obtain ⟨b42, g42⟩ : ∃ z, z = h0.size := ⟨_, rfl⟩
          rw [← g42] at A42 D42 st42
          have n0_b42 : n0 ≤ b42 := by rw [g42]; exact Z0
          have sz_b42 : h0.size ≤ b42 := by rw [g42]; exact (Keep.refl h0 []).1
          have K42 := (Keep.refl h0 []).ext E42
          have Zs42 := Nat.le_trans Z0 E42.1
          have hk := Nat.le_trans hk E42.1
          have F_value_b42 : Fld Z h42 b42 "java/lang/String" "value" "[B" .null := D42 (Or.inr (wAt hw 25 rfl)) (ty := (.array .byte)) (by decide)
          have F_coder_b42 : Fld Z h42 b42 "java/lang/String" "coder" "B" (.int (0 : Int32)) := D42 (Or.inr (wAt hw 26 rfl)) (ty := .byte) (by decide)
          refine Done.step st42 ?_
          show Done _ p e below s _ _ (T42.setTop (mkF m 90 #[oI nn, oI c0, oI c1, oI c2, oI c3] [(.ref b42)]))
          refine Done.step (fun _ => XS.dup X42.here hx rfl (hb hby d2_90) rfl rfl) ?_
          show Done _ p e below s _ _ (T42.setTop (mkF m 91 #[oI nn, oI c0, oI c1, oI c2, oI c3] [(.ref b42), (.ref b42)]))
          refine Done.step (fun _ => XT.iconstV X42.here hx rfl (4 : Int32) (hb hby d2_91) (by decide)) ?_
          show Done _ p e below s _ _ (T42.setTop (mkF m 92 #[oI nn, oI c0, oI c1, oI c2, oI c3] [(.int (4 : Int32)), (.ref b42), (.ref b42)]))
          obtain ⟨T43, h43, k43, X43, e43, E43, A43, st43⟩ := newP X42 hx hZ (wAt hw 12 rfl) e42 (g := (mkF m 92 #[oI nn, oI c0, oI c1, oI c2, oI c3] [(.int (4 : Int32)), (.ref b42), (.ref b42)])) rfl (hb hby d2_92) rfl (by decide) (cap := 4) (by decide) (by decide) (by decide) (by decide)
          obtain ⟨b43, g43⟩ : ∃ z, z = h42.size := ⟨_, rfl⟩
          rw [← g43] at A43 st43
          have ne_b42_b43 : b42 ≠ b43 := by rw [g43]; exact Nat.ne_of_lt A42.lt
          have n0_b43 : n0 ≤ b43 := by rw [g43]; exact Zs42
          have sz_b43 : h0.size ≤ b43 := by rw [g43]; exact K42.1
          have K43 := K42.ext E43
          have Zs43 := Nat.le_trans Zs42 E43.1
          have hk := Nat.le_trans hk E43.1
          have V_b43 : Arv Z h43 b43 k43 .char (4 : Int32) [(.int (0 : Int32)), (.int (0 : Int32)), (.int (0 : Int32)), (.int (0 : Int32))] (.int (0 : Int32)) := (Arv.new A43 (by decide)).pad (pad_rep [] (.int (0 : Int32)) 4)
          refine Done.step st43 ?_
          show Done _ p e below s _ _ (T43.setTop (mkF m 94 #[oI nn, oI c0, oI c1, oI c2, oI c3] [(.ref b43), (.ref b42), (.ref b42)]))
          refine Done.step (fun _ => XS.dup X43.here hx rfl (hb hby d2_94) rfl rfl) ?_
          show Done _ p e below s _ _ (T43.setTop (mkF m 95 #[oI nn, oI c0, oI c1, oI c2, oI c3] [(.ref b43), (.ref b43), (.ref b42), (.ref b42)]))
          refine Done.step (fun _ => XT.iconstV X43.here hx rfl (0 : Int32) (hb hby d2_95) (by decide)) ?_
          show Done _ p e below s _ _ (T43.setTop (mkF m 96 #[oI nn, oI c0, oI c1, oI c2, oI c3] [(.int (0 : Int32)), (.ref b43), (.ref b43), (.ref b42), (.ref b42)]))
          refine Done.step (fun _ => XS.iloadN X43.here hx rfl (hb hby d2_96) rfl) ?_
          show Done _ p e below s _ _ (T43.setTop (mkF m 97 #[oI nn, oI c0, oI c1, oI c2, oI c3] [(.int c0), (.int (0 : Int32)), (.ref b43), (.ref b43), (.ref b42), (.ref b42)]))
          obtain ⟨cl44, Ar44, q44, S44, Nn44, H44, G44⟩ := id V_b43
          have hin44 : ¬ ((0 : Int32) < 0 ∨ cl44.slots.size ≤ ((0 : Int32)).toNatClampNeg) := inb_of S44 ⟨by decide, by decide⟩
          obtain ⟨T44, h44, X44, e44, W44, st44⟩ := stC X43 hx hZ e43 Ar44 (j := (0 : Int32)) hin44 (g := (mkF m 97 #[oI nn, oI c0, oI c1, oI c2, oI c3] [(.int c0), (.int (0 : Int32)), (.ref b43), (.ref b43), (.ref b42), (.ref b42)])) rfl rfl (hb hby d2_97)
          have V44 := Arv.set Ar44 q44 S44 Nn44 H44 G44 (fits_nar_char _) W44 0 rfl (Nat.le_of_ble_eq_true rfl)
          have N44 := Fr.snoc X44 N0 n0_b43
          have Zs44 := Nat.le_trans Zs43 (Keep.of_wr W44).1
          have hk := Nat.le_trans hk (Keep.of_wr W44).1
          have K44 := K43.wr W44 (Or.inr sz_b43)
          refine Done.step st44 ?_
          show Done _ p e below s _ _ (T44.setTop (mkF m 98 #[oI nn, oI c0, oI c1, oI c2, oI c3] [(.ref b43), (.ref b42), (.ref b42)]))
          refine Done.step (fun _ => XS.dup X44.here hx rfl (hb hby d2_98) rfl rfl) ?_
          show Done _ p e below s _ _ (T44.setTop (mkF m 99 #[oI nn, oI c0, oI c1, oI c2, oI c3] [(.ref b43), (.ref b43), (.ref b42), (.ref b42)]))
          refine Done.step (fun _ => XT.iconstV X44.here hx rfl (1 : Int32) (hb hby d2_99) (by decide)) ?_
          show Done _ p e below s _ _ (T44.setTop (mkF m 100 #[oI nn, oI c0, oI c1, oI c2, oI c3] [(.int (1 : Int32)), (.ref b43), (.ref b43), (.ref b42), (.ref b42)]))
          refine Done.step (fun _ => XS.iloadN X44.here hx rfl (hb hby d2_100) rfl) ?_
          show Done _ p e below s _ _ (T44.setTop (mkF m 101 #[oI nn, oI c0, oI c1, oI c2, oI c3] [(.int c1), (.int (1 : Int32)), (.ref b43), (.ref b43), (.ref b42), (.ref b42)]))
          obtain ⟨cl45, Ar45, q45, S45, Nn45, H45, G45⟩ := id V44
          have hin45 : ¬ ((1 : Int32) < 0 ∨ cl45.slots.size ≤ ((1 : Int32)).toNatClampNeg) := inb_of S45 ⟨by decide, by decide⟩
          obtain ⟨T45, h45, X45, e45, W45, st45⟩ := stC X44 hx hZ e44 Ar45 (j := (1 : Int32)) hin45 (g := (mkF m 101 #[oI nn, oI c0, oI c1, oI c2, oI c3] [(.int c1), (.int (1 : Int32)), (.ref b43), (.ref b43), (.ref b42), (.ref b42)])) rfl rfl (hb hby d2_101)
          have V45 := Arv.set Ar45 q45 S45 Nn45 H45 G45 (fits_nar_char _) W45 1 rfl (Nat.le_of_ble_eq_true rfl)
          have N45 := Fr.snoc X45 N44 n0_b43
          have Zs45 := Nat.le_trans Zs44 (Keep.of_wr W45).1
          have hk := Nat.le_trans hk (Keep.of_wr W45).1
          have K45 := K44.wr W45 (Or.inr sz_b43)
          refine Done.step st45 ?_
          show Done _ p e below s _ _ (T45.setTop (mkF m 102 #[oI nn, oI c0, oI c1, oI c2, oI c3] [(.ref b43), (.ref b42), (.ref b42)]))
          refine Done.step (fun _ => XS.dup X45.here hx rfl (hb hby d2_102) rfl rfl) ?_
          show Done _ p e below s _ _ (T45.setTop (mkF m 103 #[oI nn, oI c0, oI c1, oI c2, oI c3] [(.ref b43), (.ref b43), (.ref b42), (.ref b42)]))
          refine Done.step (fun _ => XT.iconstV X45.here hx rfl (2 : Int32) (hb hby d2_103) (by decide)) ?_
          show Done _ p e below s _ _ (T45.setTop (mkF m 104 #[oI nn, oI c0, oI c1, oI c2, oI c3] [(.int (2 : Int32)), (.ref b43), (.ref b43), (.ref b42), (.ref b42)]))
          refine Done.step (fun _ => XS.iloadN X45.here hx rfl (hb hby d2_104) rfl) ?_
          show Done _ p e below s _ _ (T45.setTop (mkF m 105 #[oI nn, oI c0, oI c1, oI c2, oI c3] [(.int c2), (.int (2 : Int32)), (.ref b43), (.ref b43), (.ref b42), (.ref b42)]))
          obtain ⟨cl46, Ar46, q46, S46, Nn46, H46, G46⟩ := id V45
          have hin46 : ¬ ((2 : Int32) < 0 ∨ cl46.slots.size ≤ ((2 : Int32)).toNatClampNeg) := inb_of S46 ⟨by decide, by decide⟩
          obtain ⟨T46, h46, X46, e46, W46, st46⟩ := stC X45 hx hZ e45 Ar46 (j := (2 : Int32)) hin46 (g := (mkF m 105 #[oI nn, oI c0, oI c1, oI c2, oI c3] [(.int c2), (.int (2 : Int32)), (.ref b43), (.ref b43), (.ref b42), (.ref b42)])) rfl rfl (hb hby d2_105)
          have V46 := Arv.set Ar46 q46 S46 Nn46 H46 G46 (fits_nar_char _) W46 2 rfl (Nat.le_of_ble_eq_true rfl)
          have N46 := Fr.snoc X46 N45 n0_b43
          have Zs46 := Nat.le_trans Zs45 (Keep.of_wr W46).1
          have hk := Nat.le_trans hk (Keep.of_wr W46).1
          have K46 := K45.wr W46 (Or.inr sz_b43)
          refine Done.step st46 ?_
          show Done _ p e below s _ _ (T46.setTop (mkF m 106 #[oI nn, oI c0, oI c1, oI c2, oI c3] [(.ref b43), (.ref b42), (.ref b42)]))
          refine Done.step (fun _ => XS.dup X46.here hx rfl (hb hby d2_106) rfl rfl) ?_
          show Done _ p e below s _ _ (T46.setTop (mkF m 107 #[oI nn, oI c0, oI c1, oI c2, oI c3] [(.ref b43), (.ref b43), (.ref b42), (.ref b42)]))
          refine Done.step (fun _ => XT.iconstV X46.here hx rfl (3 : Int32) (hb hby d2_107) (by decide)) ?_
          show Done _ p e below s _ _ (T46.setTop (mkF m 108 #[oI nn, oI c0, oI c1, oI c2, oI c3] [(.int (3 : Int32)), (.ref b43), (.ref b43), (.ref b42), (.ref b42)]))
          refine Done.step (fun _ => XS.iload X46.here hx rfl (hb hby d2_108) rfl) ?_
          show Done _ p e below s _ _ (T46.setTop (mkF m 110 #[oI nn, oI c0, oI c1, oI c2, oI c3] [(.int c3), (.int (3 : Int32)), (.ref b43), (.ref b43), (.ref b42), (.ref b42)]))
          obtain ⟨cl47, Ar47, q47, S47, Nn47, H47, G47⟩ := id V46
          have hin47 : ¬ ((3 : Int32) < 0 ∨ cl47.slots.size ≤ ((3 : Int32)).toNatClampNeg) := inb_of S47 ⟨by decide, by decide⟩
          obtain ⟨T47, h47, X47, e47, W47, st47⟩ := stC X46 hx hZ e46 Ar47 (j := (3 : Int32)) hin47 (g := (mkF m 110 #[oI nn, oI c0, oI c1, oI c2, oI c3] [(.int c3), (.int (3 : Int32)), (.ref b43), (.ref b43), (.ref b42), (.ref b42)])) rfl rfl (hb hby d2_110)
          have V47 := Arv.set Ar47 q47 S47 Nn47 H47 G47 (fits_nar_char _) W47 3 rfl (Nat.le_of_ble_eq_true rfl)
          have N47 := Fr.snoc X47 N46 n0_b43
          have Zs47 := Nat.le_trans Zs46 (Keep.of_wr W47).1
          have hk := Nat.le_trans hk (Keep.of_wr W47).1
          have K47 := K46.wr W47 (Or.inr sz_b43)
          refine Done.step st47 ?_
          show Done _ p e below s _ _ (T47.setTop (mkF m 111 #[oI nn, oI c0, oI c1, oI c2, oI c3] [(.ref b43), (.ref b42), (.ref b42)]))
          have f48 := (((((A42.ext E43).wr W44).wr W45).wr W46).wr W47)
          have f49 := (((((F_value_b42.ext E43).other W44 (Or.inl ne_b42_b43)).other W45 (Or.inl ne_b42_b43)).other W46 (Or.inl ne_b42_b43)).other W47 (Or.inl ne_b42_b43))
          have f50 := (((((F_coder_b42.ext E43).other W44 (Or.inl ne_b42_b43)).other W45 (Or.inl ne_b42_b43)).other W46 (Or.inl ne_b42_b43)).other W47 (Or.inl ne_b42_b43))
          have f51 := ((((((O0.ext E42).ext E43).wr W44 n0_b43).wr W45 n0_b43).wr W46 n0_b43).wr W47 n0_b43)
          have Vs52 : Arv Z h47 b43 k43 .char (4 : Int32) [(.int (nar .char c0)), (.int (nar .char c1)), (.int (nar .char c2)), (.int (nar .char c3))] (.int (0 : Int32)) := V47
          rw [own_nar2 hbc0, own_nar2 hbc1, own_nar2 hbc2, own_nar2 hbc3] at Vs52
          have hbs : ∀ c ∈ [c0, c1, c2, c3], ¬ c < 0 ∧ ¬ (65535 : Int32) < c := by
            intro c hc; simp only [List.mem_cons, List.not_mem_nil, or_false] at hc; rcases hc with rfl | rfl | rfl | rfl
            · exact hbc0
            · exact hbc1
            · exact hbc2
            · exact hbc3
          refine Done.callI X47 hx hZ rfl hown (wAt hw 13 rfl) (wAt hw 14 rfl) (wAt hw 11 rfl) (wAt hw 15 rfl) (by decide) (rX1 l Z a0 hw [] b42 b43 k43 [c0, c1, c2, c3] z fm h47 n0 Zs47 f48 f49 f50 n0_b42 f51 SC hz SF rF SA SH SL Vs52 (Ne.symm ne_b42_b43) (Nat.le_of_ble_eq_true rfl) hbs (Nat.succ_pos _)) (fun _ _ => trivial) e47 (g := (mkF m 111 #[oI nn, oI c0, oI c1, oI c2, oI c3] [(.ref b43), (.ref b42), (.ref b42)])) rfl (by rw [hml]; rfl) b42 [(.ref b43)] [(.ref b42)] 1 (lenOf pd_26 rfl) rfl rfl (by show 2 * 0 + _ ≤ _; exact Nat.le_of_eq rfl) (hb hby d2_111) (by decide) (by decide) (by decide) (by decide) ?_
          intro T53 v53 L53 X53 q53
          obtain ⟨rfl, Nq53, K53q, bU, ku, EqX, VqX, DqX⟩ := q53
          have N53 := Fr.app N47 Nq53
          have Zs53 := Nat.le_trans Zs47 K53q.1
          have hk := Nat.le_trans hk K53q.1
          have K53 := K47.trans K53q (allS (Or.inr sz_b42) all0)
          show Done _ p e below s _ _ (T53.setTop (mkF m 114 #[oI nn, oI c0, oI c1, oI c2, oI c3] [(.ref b42)]))
          have ecs : (own_cs nn c0 c1 c2 c3) = [c0, c1, c2, c3] := by unfold own_cs; rw [if_neg hc1, if_neg hc9, if_neg hc19, if_neg hc30]
          have ets : own_ts nn = [] := by unfold own_ts; rw [if_neg hc1]
          refine Done.retA (leavesW X53 hS (by first | exact hk | (rw [rfl]; exact hk)) hlk (by decide) (by decide)) X53 hx hret rfl rfl (hb hby d2_114) ?_
          rw [ecs, ets]
          exact ⟨b42, bU, ku, rfl, N53, K53, EqX, VqX, DqX, own_ib X53 hV⟩
theorem own_mod5 (x : Int32) : ¬ ((x &&& (2147483647 : Int32)) % (5 : Int32)) < (0 : Int32) ∧ ((x &&& (2147483647 : Int32)) % (5 : Int32)) < (5 : Int32) := by
  have e : (x &&& (2147483647 : Int32)).toInt = x.toInt % 2 ^ 31 := Jvm.Kit.i32_mask x _ (k := 31) (by decide) (by decide)
  have e0 : (0 : Int32).toInt = 0 := rfl
  have e5 : (5 : Int32).toInt = 5 := rfl
  rw [Int32.lt_iff_toInt_lt, Int32.lt_iff_toInt_lt, Int32.toInt_mod, e, e0, e5]
  have h1 : 0 ≤ x.toInt % 2 ^ 31 := Int.emod_nonneg _ (by decide)
  rw [Int.tmod_eq_emod_of_nonneg h1]
  omega
def own_r5 (n : Int32) : Prop := n = (0 : Int32) ∨ n = (1 : Int32) ∨ n = (2 : Int32) ∨ n = (3 : Int32) ∨ n = (4 : Int32)
theorem own_r5of {n : Int32} (h : ¬ n < (0 : Int32) ∧ n < (5 : Int32)) : own_r5 n := by
  have e0 : (0 : Int32).toInt = 0 := rfl
  have e5 : (5 : Int32).toInt = 5 := rfl
  rw [Int32.lt_iff_toInt_lt, Int32.lt_iff_toInt_lt, e0, e5] at h
  have q : n.toInt = 0 ∨ n.toInt = 1 ∨ n.toInt = 2 ∨ n.toInt = 3 ∨ n.toInt = 4 := by omega
  rcases q with q | q | q | q | q
  · exact Or.inl (Int32.toInt_inj.mp q)
  · exact Or.inr (Or.inl (Int32.toInt_inj.mp q))
  · exact Or.inr (Or.inr (Or.inl (Int32.toInt_inj.mp q)))
  · exact Or.inr (Or.inr (Or.inr (Or.inl (Int32.toInt_inj.mp q))))
  · exact Or.inr (Or.inr (Or.inr (Or.inr (Int32.toInt_inj.mp q))))
def own_st (P : Prop) [Decidable P] (v o : Int32) : Int32 := if P then v else o
theorem own_stT {P : Prop} [Decidable P] {v o : Int32} (h : P) : v = own_st P v o := (if_pos h).symm
theorem own_stF {P : Prop} [Decidable P] {v o x : Int32} (h : ¬ P) (e : x = o) : x = own_st P v o := by rw [e]; exact (if_neg h).symm
theorem own_uniq {cs : List Int32} {f t f2 t2 : Nat} (h : TR cs f t) (g : TR cs f2 t2) : f = f2 ∧ t = t2 := by
  obtain ⟨a1, a2, a3, a4, a5, a6⟩ := h
  obtain ⟨b1, b2, b3, b4, b5, b6⟩ := g
  have e : f = f2 := by
    rcases Nat.lt_trichotomy f f2 with q | q | q
    · exact absurd (b3 f q) (a4 (by omega))
    · exact q
    · exact absurd (a3 f2 q) (b4 (by omega))
  subst e
  refine ⟨rfl, ?_⟩
  rcases Nat.lt_trichotomy t t2 with q | q | q
  · exact absurd (a5 (t2 - 1) (by omega) (by omega)) (b6 (by omega))
  · exact q
  · exact absurd (b5 (t - 1) (by omega) (by omega)) (a6 (by omega))
theorem own_wa0 (cs : List Int32) : WA cs 0 := fun x hx => absurd hx (Nat.not_lt_zero _)
theorem own_wbn (cs : List Int32) : WB cs cs.length := fun x h1 h2 => absurd h1 (by omega)
theorem own_tsN {n a b c d : Int32} {cs : List Int32} (hcs : cs = own_cs n a b c d) (h : cs.length ≠ 0) : "" ∉ own_ts n := by
  subst hcs
  unfold own_ts
  by_cases q : n = (0 : Int32)
  · exfalso; apply h; unfold own_cs; rw [if_pos q]; rfl
  · rw [if_neg q]; exact List.not_mem_nil
def own_F3 (nn c0 c1 c2 c3 : Int32) : Int32 := own_st ((3 : Int32) < nn ∧ ¬ own_ws c3) 3 nn
def own_F2 (nn c0 c1 c2 c3 : Int32) : Int32 := own_st ((2 : Int32) < nn ∧ ¬ own_ws c2) 2 (own_F3 nn c0 c1 c2 c3)
def own_F1 (nn c0 c1 c2 c3 : Int32) : Int32 := own_st ((1 : Int32) < nn ∧ ¬ own_ws c1) 1 (own_F2 nn c0 c1 c2 c3)
def own_F0 (nn c0 c1 c2 c3 : Int32) : Int32 := own_st ((0 : Int32) < nn ∧ ¬ own_ws c0) 0 (own_F1 nn c0 c1 c2 c3)
def own_T0 (nn c0 c1 c2 c3 : Int32) : Int32 := own_st ((0 : Int32) < nn ∧ ¬ own_ws c0) 1 0
def own_T1 (nn c0 c1 c2 c3 : Int32) : Int32 := own_st ((1 : Int32) < nn ∧ ¬ own_ws c1) 2 (own_T0 nn c0 c1 c2 c3)
def own_T2 (nn c0 c1 c2 c3 : Int32) : Int32 := own_st ((2 : Int32) < nn ∧ ¬ own_ws c2) 3 (own_T1 nn c0 c1 c2 c3)
def own_T3 (nn c0 c1 c2 c3 : Int32) : Int32 := own_st ((3 : Int32) < nn ∧ ¬ own_ws c3) 4 (own_T2 nn c0 c1 c2 c3)
theorem own_cs0 (c0 c1 c2 c3 : Int32) : own_cs (0 : Int32) c0 c1 c2 c3 = [] := by unfold own_cs; rw [if_pos rfl]
theorem own_cs1 (c0 c1 c2 c3 : Int32) : own_cs (1 : Int32) c0 c1 c2 c3 = [c0] := by unfold own_cs; rw [if_neg (by decide), if_pos rfl]
theorem own_cs2 (c0 c1 c2 c3 : Int32) : own_cs (2 : Int32) c0 c1 c2 c3 = [c0, c1] := by unfold own_cs; rw [if_neg (by decide), if_neg (by decide), if_pos rfl]
theorem own_cs3 (c0 c1 c2 c3 : Int32) : own_cs (3 : Int32) c0 c1 c2 c3 = [c0, c1, c2] := by unfold own_cs; rw [if_neg (by decide), if_neg (by decide), if_neg (by decide), if_pos rfl]
theorem own_cs4 (c0 c1 c2 c3 : Int32) : own_cs (4 : Int32) c0 c1 c2 c3 = [c0, c1, c2, c3] := by unfold own_cs; rw [if_neg (by decide), if_neg (by decide), if_neg (by decide), if_neg (by decide)]
theorem own_at0 (c0 c1 c2 c3 : Int32) : own_at4 (Int32.ofNat 0) c0 c1 c2 c3 = c0 := by unfold own_at4; rw [if_pos (by decide)]
theorem own_at1 (c0 c1 c2 c3 : Int32) : own_at4 (Int32.ofNat 1) c0 c1 c2 c3 = c1 := by unfold own_at4; rw [if_neg (by decide), if_pos (by decide)]
theorem own_at2 (c0 c1 c2 c3 : Int32) : own_at4 (Int32.ofNat 2) c0 c1 c2 c3 = c2 := by unfold own_at4; rw [if_neg (by decide), if_neg (by decide), if_pos (by decide)]
theorem own_at3 (c0 c1 c2 c3 : Int32) : own_at4 (Int32.ofNat 3) c0 c1 c2 c3 = c3 := by unfold own_at4; rw [if_neg (by decide), if_neg (by decide), if_neg (by decide)]
theorem own_csA {nn c0 c1 c2 c3 : Int32} (h5 : own_r5 nn) {cs : List Int32} (hcs : cs = own_cs nn c0 c1 c2 c3) {j : Nat} (hj : j < cs.length) : cs.getD j 0 = own_at4 (Int32.ofNat j) c0 c1 c2 c3 := by
  rcases h5 with rfl | rfl | rfl | rfl | rfl
  · rw [own_cs0] at hcs; subst hcs
    exact absurd hj (Nat.not_lt_zero _)
  · rw [own_cs1] at hcs; subst hcs
    rcases j with _ | j
    · exact (own_at0 ..).symm
    · exact absurd hj (by simp)
  · rw [own_cs2] at hcs; subst hcs
    rcases j with _ | _ | j
    · exact (own_at0 ..).symm
    · exact (own_at1 ..).symm
    · exact absurd hj (by simp)
  · rw [own_cs3] at hcs; subst hcs
    rcases j with _ | _ | _ | j
    · exact (own_at0 ..).symm
    · exact (own_at1 ..).symm
    · exact (own_at2 ..).symm
    · exact absurd hj (by simp)
  · rw [own_cs4] at hcs; subst hcs
    rcases j with _ | _ | _ | _ | j
    · exact (own_at0 ..).symm
    · exact (own_at1 ..).symm
    · exact (own_at2 ..).symm
    · exact (own_at3 ..).symm
    · exact absurd hj (by simp)
theorem own_csB {nn c0 c1 c2 c3 : Int32} (hbc0 : ¬ c0 < 0 ∧ ¬ (65535 : Int32) < c0) (hbc1 : ¬ c1 < 0 ∧ ¬ (65535 : Int32) < c1) (hbc2 : ¬ c2 < 0 ∧ ¬ (65535 : Int32) < c2) (hbc3 : ¬ c3 < 0 ∧ ¬ (65535 : Int32) < c3) (h5 : own_r5 nn) {cs : List Int32} (hcs : cs = own_cs nn c0 c1 c2 c3) : (∀ c ∈ cs, ¬ c < 0 ∧ ¬ (65535 : Int32) < c) ∧ cs.length ≤ 4 := by
  rcases h5 with rfl | rfl | rfl | rfl | rfl
  · rw [own_cs0] at hcs; subst hcs
    refine ⟨?_, Nat.le_of_ble_eq_true rfl⟩
    intro c hc
    exact nomatch hc
  · rw [own_cs1] at hcs; subst hcs
    refine ⟨?_, Nat.le_of_ble_eq_true rfl⟩
    intro c hc
    simp only [List.mem_cons, List.not_mem_nil, or_false] at hc
    rcases hc with rfl
    · exact hbc0
  · rw [own_cs2] at hcs; subst hcs
    refine ⟨?_, Nat.le_of_ble_eq_true rfl⟩
    intro c hc
    simp only [List.mem_cons, List.not_mem_nil, or_false] at hc
    rcases hc with rfl | rfl
    · exact hbc0
    · exact hbc1
  · rw [own_cs3] at hcs; subst hcs
    refine ⟨?_, Nat.le_of_ble_eq_true rfl⟩
    intro c hc
    simp only [List.mem_cons, List.not_mem_nil, or_false] at hc
    rcases hc with rfl | rfl | rfl
    · exact hbc0
    · exact hbc1
    · exact hbc2
  · rw [own_cs4] at hcs; subst hcs
    refine ⟨?_, Nat.le_of_ble_eq_true rfl⟩
    intro c hc
    simp only [List.mem_cons, List.not_mem_nil, or_false] at hc
    rcases hc with rfl | rfl | rfl | rfl
    · exact hbc0
    · exact hbc1
    · exact hbc2
    · exact hbc3
theorem own_fin0 {c0 c1 c2 c3 fr to : Int32} {f t : Nat} (htr : TR [] f t) (hfr : fr = own_F0 (0 : Int32) c0 c1 c2 c3) (hto : to = own_T3 (0 : Int32) c0 c1 c2 c3) : fr = Int32.ofNat f ∧ own_max to fr - fr = Int32.ofNat (t - f) := by
  have hT : TR [] 0 0 := ⟨Nat.le_of_ble_eq_true rfl, Nat.le_of_ble_eq_true rfl, (own_wa0 _), fun h => absurd h (Nat.lt_irrefl _), (own_wbn []), fun h => absurd h (Nat.lt_irrefl _)⟩
  obtain ⟨rfl, rfl⟩ := own_uniq hT htr
  have e1 : (0 : Int32) = own_F0 (0 : Int32) c0 c1 c2 c3 := (own_stF (fun q => absurd q.1 (by decide)) (own_stF (fun q => absurd q.1 (by decide)) (own_stF (fun q => absurd q.1 (by decide)) (own_stF (fun q => absurd q.1 (by decide)) rfl))))
  have e2 : (0 : Int32) = own_T3 (0 : Int32) c0 c1 c2 c3 := (own_stF (fun q => absurd q.1 (by decide)) (own_stF (fun q => absurd q.1 (by decide)) (own_stF (fun q => absurd q.1 (by decide)) (own_stF (fun q => absurd q.1 (by decide)) rfl))))
  rw [hfr, hto, ← e1, ← e2]
  exact ⟨rfl, by decide⟩
theorem own_fin1 {c0 c1 c2 c3 fr to : Int32} {f t : Nat} (htr : TR [c0] f t) (hfr : fr = own_F0 (1 : Int32) c0 c1 c2 c3) (hto : to = own_T3 (1 : Int32) c0 c1 c2 c3) : fr = Int32.ofNat f ∧ own_max to fr - fr = Int32.ofNat (t - f) := by
  by_cases w0 : own_ws c0
  · have hT : TR [c0] 1 1 := ⟨Nat.le_of_ble_eq_true rfl, Nat.le_of_ble_eq_true rfl, (own_wa (own_wa0 _) w0), fun h => absurd h (Nat.lt_irrefl _), (own_wbn [c0]), fun h => absurd h (Nat.lt_irrefl _)⟩
    obtain ⟨rfl, rfl⟩ := own_uniq hT htr
    have e1 : (1 : Int32) = own_F0 (1 : Int32) c0 c1 c2 c3 := (own_stF (fun q => q.2 w0) (own_stF (fun q => absurd q.1 (by decide)) (own_stF (fun q => absurd q.1 (by decide)) (own_stF (fun q => absurd q.1 (by decide)) rfl))))
    have e2 : (0 : Int32) = own_T3 (1 : Int32) c0 c1 c2 c3 := (own_stF (fun q => absurd q.1 (by decide)) (own_stF (fun q => absurd q.1 (by decide)) (own_stF (fun q => absurd q.1 (by decide)) (own_stF (fun q => q.2 w0) rfl))))
    rw [hfr, hto, ← e1, ← e2]
    exact ⟨rfl, by decide⟩
  · have hT : TR [c0] 0 1 := ⟨Nat.le_of_ble_eq_true rfl, Nat.le_of_ble_eq_true rfl, (own_wa0 _), fun _ => w0, (own_wbn [c0]), fun _ => w0⟩
    obtain ⟨rfl, rfl⟩ := own_uniq hT htr
    have e1 : (0 : Int32) = own_F0 (1 : Int32) c0 c1 c2 c3 := (own_stT ⟨by decide, w0⟩)
    have e2 : (1 : Int32) = own_T3 (1 : Int32) c0 c1 c2 c3 := (own_stF (fun q => absurd q.1 (by decide)) (own_stF (fun q => absurd q.1 (by decide)) (own_stF (fun q => absurd q.1 (by decide)) (own_stT ⟨by decide, w0⟩))))
    rw [hfr, hto, ← e1, ← e2]
    exact ⟨rfl, by decide⟩
theorem own_fin2 {c0 c1 c2 c3 fr to : Int32} {f t : Nat} (htr : TR [c0, c1] f t) (hfr : fr = own_F0 (2 : Int32) c0 c1 c2 c3) (hto : to = own_T3 (2 : Int32) c0 c1 c2 c3) : fr = Int32.ofNat f ∧ own_max to fr - fr = Int32.ofNat (t - f) := by
  by_cases w0 : own_ws c0
  · by_cases w1 : own_ws c1
    · have hT : TR [c0, c1] 2 2 := ⟨Nat.le_of_ble_eq_true rfl, Nat.le_of_ble_eq_true rfl, (own_wa (own_wa (own_wa0 _) w0) w1), fun h => absurd h (Nat.lt_irrefl _), (own_wbn [c0, c1]), fun h => absurd h (Nat.lt_irrefl _)⟩
      obtain ⟨rfl, rfl⟩ := own_uniq hT htr
      have e1 : (2 : Int32) = own_F0 (2 : Int32) c0 c1 c2 c3 := (own_stF (fun q => q.2 w0) (own_stF (fun q => q.2 w1) (own_stF (fun q => absurd q.1 (by decide)) (own_stF (fun q => absurd q.1 (by decide)) rfl))))
      have e2 : (0 : Int32) = own_T3 (2 : Int32) c0 c1 c2 c3 := (own_stF (fun q => absurd q.1 (by decide)) (own_stF (fun q => absurd q.1 (by decide)) (own_stF (fun q => q.2 w1) (own_stF (fun q => q.2 w0) rfl))))
      rw [hfr, hto, ← e1, ← e2]
      exact ⟨rfl, by decide⟩
    · have hT : TR [c0, c1] 1 2 := ⟨Nat.le_of_ble_eq_true rfl, Nat.le_of_ble_eq_true rfl, (own_wa (own_wa0 _) w0), fun _ => w1, (own_wbn [c0, c1]), fun _ => w1⟩
      obtain ⟨rfl, rfl⟩ := own_uniq hT htr
      have e1 : (1 : Int32) = own_F0 (2 : Int32) c0 c1 c2 c3 := (own_stF (fun q => q.2 w0) (own_stT ⟨by decide, w1⟩))
      have e2 : (2 : Int32) = own_T3 (2 : Int32) c0 c1 c2 c3 := (own_stF (fun q => absurd q.1 (by decide)) (own_stF (fun q => absurd q.1 (by decide)) (own_stT ⟨by decide, w1⟩)))
      rw [hfr, hto, ← e1, ← e2]
      exact ⟨rfl, by decide⟩
  · by_cases w1 : own_ws c1
    · have hT : TR [c0, c1] 0 1 := ⟨Nat.le_of_ble_eq_true rfl, Nat.le_of_ble_eq_true rfl, (own_wa0 _), fun _ => w0, (own_wb (j := 2) (own_wbn [c0, c1]) w1), fun _ => w0⟩
      obtain ⟨rfl, rfl⟩ := own_uniq hT htr
      have e1 : (0 : Int32) = own_F0 (2 : Int32) c0 c1 c2 c3 := (own_stT ⟨by decide, w0⟩)
      have e2 : (1 : Int32) = own_T3 (2 : Int32) c0 c1 c2 c3 := (own_stF (fun q => absurd q.1 (by decide)) (own_stF (fun q => absurd q.1 (by decide)) (own_stF (fun q => q.2 w1) (own_stT ⟨by decide, w0⟩))))
      rw [hfr, hto, ← e1, ← e2]
      exact ⟨rfl, by decide⟩
    · have hT : TR [c0, c1] 0 2 := ⟨Nat.le_of_ble_eq_true rfl, Nat.le_of_ble_eq_true rfl, (own_wa0 _), fun _ => w0, (own_wbn [c0, c1]), fun _ => w1⟩
      obtain ⟨rfl, rfl⟩ := own_uniq hT htr
      have e1 : (0 : Int32) = own_F0 (2 : Int32) c0 c1 c2 c3 := (own_stT ⟨by decide, w0⟩)
      have e2 : (2 : Int32) = own_T3 (2 : Int32) c0 c1 c2 c3 := (own_stF (fun q => absurd q.1 (by decide)) (own_stF (fun q => absurd q.1 (by decide)) (own_stT ⟨by decide, w1⟩)))
      rw [hfr, hto, ← e1, ← e2]
      exact ⟨rfl, by decide⟩
theorem own_fin3 {c0 c1 c2 c3 fr to : Int32} {f t : Nat} (htr : TR [c0, c1, c2] f t) (hfr : fr = own_F0 (3 : Int32) c0 c1 c2 c3) (hto : to = own_T3 (3 : Int32) c0 c1 c2 c3) : fr = Int32.ofNat f ∧ own_max to fr - fr = Int32.ofNat (t - f) := by
  by_cases w0 : own_ws c0
  · by_cases w1 : own_ws c1
    · by_cases w2 : own_ws c2
      · have hT : TR [c0, c1, c2] 3 3 := ⟨Nat.le_of_ble_eq_true rfl, Nat.le_of_ble_eq_true rfl, (own_wa (own_wa (own_wa (own_wa0 _) w0) w1) w2), fun h => absurd h (Nat.lt_irrefl _), (own_wbn [c0, c1, c2]), fun h => absurd h (Nat.lt_irrefl _)⟩
        obtain ⟨rfl, rfl⟩ := own_uniq hT htr
        have e1 : (3 : Int32) = own_F0 (3 : Int32) c0 c1 c2 c3 := (own_stF (fun q => q.2 w0) (own_stF (fun q => q.2 w1) (own_stF (fun q => q.2 w2) (own_stF (fun q => absurd q.1 (by decide)) rfl))))
        have e2 : (0 : Int32) = own_T3 (3 : Int32) c0 c1 c2 c3 := (own_stF (fun q => absurd q.1 (by decide)) (own_stF (fun q => q.2 w2) (own_stF (fun q => q.2 w1) (own_stF (fun q => q.2 w0) rfl))))
        rw [hfr, hto, ← e1, ← e2]
        exact ⟨rfl, by decide⟩
      · have hT : TR [c0, c1, c2] 2 3 := ⟨Nat.le_of_ble_eq_true rfl, Nat.le_of_ble_eq_true rfl, (own_wa (own_wa (own_wa0 _) w0) w1), fun _ => w2, (own_wbn [c0, c1, c2]), fun _ => w2⟩
        obtain ⟨rfl, rfl⟩ := own_uniq hT htr
        have e1 : (2 : Int32) = own_F0 (3 : Int32) c0 c1 c2 c3 := (own_stF (fun q => q.2 w0) (own_stF (fun q => q.2 w1) (own_stT ⟨by decide, w2⟩)))
        have e2 : (3 : Int32) = own_T3 (3 : Int32) c0 c1 c2 c3 := (own_stF (fun q => absurd q.1 (by decide)) (own_stT ⟨by decide, w2⟩))
        rw [hfr, hto, ← e1, ← e2]
        exact ⟨rfl, by decide⟩
    · by_cases w2 : own_ws c2
      · have hT : TR [c0, c1, c2] 1 2 := ⟨Nat.le_of_ble_eq_true rfl, Nat.le_of_ble_eq_true rfl, (own_wa (own_wa0 _) w0), fun _ => w1, (own_wb (j := 3) (own_wbn [c0, c1, c2]) w2), fun _ => w1⟩
        obtain ⟨rfl, rfl⟩ := own_uniq hT htr
        have e1 : (1 : Int32) = own_F0 (3 : Int32) c0 c1 c2 c3 := (own_stF (fun q => q.2 w0) (own_stT ⟨by decide, w1⟩))
        have e2 : (2 : Int32) = own_T3 (3 : Int32) c0 c1 c2 c3 := (own_stF (fun q => absurd q.1 (by decide)) (own_stF (fun q => q.2 w2) (own_stT ⟨by decide, w1⟩)))
        rw [hfr, hto, ← e1, ← e2]
        exact ⟨rfl, by decide⟩
      · have hT : TR [c0, c1, c2] 1 3 := ⟨Nat.le_of_ble_eq_true rfl, Nat.le_of_ble_eq_true rfl, (own_wa (own_wa0 _) w0), fun _ => w1, (own_wbn [c0, c1, c2]), fun _ => w2⟩
        obtain ⟨rfl, rfl⟩ := own_uniq hT htr
        have e1 : (1 : Int32) = own_F0 (3 : Int32) c0 c1 c2 c3 := (own_stF (fun q => q.2 w0) (own_stT ⟨by decide, w1⟩))
        have e2 : (3 : Int32) = own_T3 (3 : Int32) c0 c1 c2 c3 := (own_stF (fun q => absurd q.1 (by decide)) (own_stT ⟨by decide, w2⟩))
        rw [hfr, hto, ← e1, ← e2]
        exact ⟨rfl, by decide⟩
  · by_cases w1 : own_ws c1
    · by_cases w2 : own_ws c2
      · have hT : TR [c0, c1, c2] 0 1 := ⟨Nat.le_of_ble_eq_true rfl, Nat.le_of_ble_eq_true rfl, (own_wa0 _), fun _ => w0, (own_wb (j := 2) (own_wb (j := 3) (own_wbn [c0, c1, c2]) w2) w1), fun _ => w0⟩
        obtain ⟨rfl, rfl⟩ := own_uniq hT htr
        have e1 : (0 : Int32) = own_F0 (3 : Int32) c0 c1 c2 c3 := (own_stT ⟨by decide, w0⟩)
        have e2 : (1 : Int32) = own_T3 (3 : Int32) c0 c1 c2 c3 := (own_stF (fun q => absurd q.1 (by decide)) (own_stF (fun q => q.2 w2) (own_stF (fun q => q.2 w1) (own_stT ⟨by decide, w0⟩))))
        rw [hfr, hto, ← e1, ← e2]
        exact ⟨rfl, by decide⟩
      · have hT : TR [c0, c1, c2] 0 3 := ⟨Nat.le_of_ble_eq_true rfl, Nat.le_of_ble_eq_true rfl, (own_wa0 _), fun _ => w0, (own_wbn [c0, c1, c2]), fun _ => w2⟩
        obtain ⟨rfl, rfl⟩ := own_uniq hT htr
        have e1 : (0 : Int32) = own_F0 (3 : Int32) c0 c1 c2 c3 := (own_stT ⟨by decide, w0⟩)
        have e2 : (3 : Int32) = own_T3 (3 : Int32) c0 c1 c2 c3 := (own_stF (fun q => absurd q.1 (by decide)) (own_stT ⟨by decide, w2⟩))
        rw [hfr, hto, ← e1, ← e2]
        exact ⟨rfl, by decide⟩
    · by_cases w2 : own_ws c2
      · have hT : TR [c0, c1, c2] 0 2 := ⟨Nat.le_of_ble_eq_true rfl, Nat.le_of_ble_eq_true rfl, (own_wa0 _), fun _ => w0, (own_wb (j := 3) (own_wbn [c0, c1, c2]) w2), fun _ => w1⟩
        obtain ⟨rfl, rfl⟩ := own_uniq hT htr
        have e1 : (0 : Int32) = own_F0 (3 : Int32) c0 c1 c2 c3 := (own_stT ⟨by decide, w0⟩)
        have e2 : (2 : Int32) = own_T3 (3 : Int32) c0 c1 c2 c3 := (own_stF (fun q => absurd q.1 (by decide)) (own_stF (fun q => q.2 w2) (own_stT ⟨by decide, w1⟩)))
        rw [hfr, hto, ← e1, ← e2]
        exact ⟨rfl, by decide⟩
      · have hT : TR [c0, c1, c2] 0 3 := ⟨Nat.le_of_ble_eq_true rfl, Nat.le_of_ble_eq_true rfl, (own_wa0 _), fun _ => w0, (own_wbn [c0, c1, c2]), fun _ => w2⟩
        obtain ⟨rfl, rfl⟩ := own_uniq hT htr
        have e1 : (0 : Int32) = own_F0 (3 : Int32) c0 c1 c2 c3 := (own_stT ⟨by decide, w0⟩)
        have e2 : (3 : Int32) = own_T3 (3 : Int32) c0 c1 c2 c3 := (own_stF (fun q => absurd q.1 (by decide)) (own_stT ⟨by decide, w2⟩))
        rw [hfr, hto, ← e1, ← e2]
        exact ⟨rfl, by decide⟩
theorem own_fin4 {c0 c1 c2 c3 fr to : Int32} {f t : Nat} (htr : TR [c0, c1, c2, c3] f t) (hfr : fr = own_F0 (4 : Int32) c0 c1 c2 c3) (hto : to = own_T3 (4 : Int32) c0 c1 c2 c3) : fr = Int32.ofNat f ∧ own_max to fr - fr = Int32.ofNat (t - f) := by
  by_cases w0 : own_ws c0
  · by_cases w1 : own_ws c1
    · by_cases w2 : own_ws c2
      · by_cases w3 : own_ws c3
        · have hT : TR [c0, c1, c2, c3] 4 4 := ⟨Nat.le_of_ble_eq_true rfl, Nat.le_of_ble_eq_true rfl, (own_wa (own_wa (own_wa (own_wa (own_wa0 _) w0) w1) w2) w3), fun h => absurd h (Nat.lt_irrefl _), (own_wbn [c0, c1, c2, c3]), fun h => absurd h (Nat.lt_irrefl _)⟩
          obtain ⟨rfl, rfl⟩ := own_uniq hT htr
          have e1 : (4 : Int32) = own_F0 (4 : Int32) c0 c1 c2 c3 := (own_stF (fun q => q.2 w0) (own_stF (fun q => q.2 w1) (own_stF (fun q => q.2 w2) (own_stF (fun q => q.2 w3) rfl))))
          have e2 : (0 : Int32) = own_T3 (4 : Int32) c0 c1 c2 c3 := (own_stF (fun q => q.2 w3) (own_stF (fun q => q.2 w2) (own_stF (fun q => q.2 w1) (own_stF (fun q => q.2 w0) rfl))))
          rw [hfr, hto, ← e1, ← e2]
          exact ⟨rfl, by decide⟩
        · have hT : TR [c0, c1, c2, c3] 3 4 := ⟨Nat.le_of_ble_eq_true rfl, Nat.le_of_ble_eq_true rfl, (own_wa (own_wa (own_wa (own_wa0 _) w0) w1) w2), fun _ => w3, (own_wbn [c0, c1, c2, c3]), fun _ => w3⟩
          obtain ⟨rfl, rfl⟩ := own_uniq hT htr
          have e1 : (3 : Int32) = own_F0 (4 : Int32) c0 c1 c2 c3 := (own_stF (fun q => q.2 w0) (own_stF (fun q => q.2 w1) (own_stF (fun q => q.2 w2) (own_stT ⟨by decide, w3⟩))))
          have e2 : (4 : Int32) = own_T3 (4 : Int32) c0 c1 c2 c3 := (own_stT ⟨by decide, w3⟩)
          rw [hfr, hto, ← e1, ← e2]
          exact ⟨rfl, by decide⟩
      · by_cases w3 : own_ws c3
        · have hT : TR [c0, c1, c2, c3] 2 3 := ⟨Nat.le_of_ble_eq_true rfl, Nat.le_of_ble_eq_true rfl, (own_wa (own_wa (own_wa0 _) w0) w1), fun _ => w2, (own_wb (j := 4) (own_wbn [c0, c1, c2, c3]) w3), fun _ => w2⟩
          obtain ⟨rfl, rfl⟩ := own_uniq hT htr
          have e1 : (2 : Int32) = own_F0 (4 : Int32) c0 c1 c2 c3 := (own_stF (fun q => q.2 w0) (own_stF (fun q => q.2 w1) (own_stT ⟨by decide, w2⟩)))
          have e2 : (3 : Int32) = own_T3 (4 : Int32) c0 c1 c2 c3 := (own_stF (fun q => q.2 w3) (own_stT ⟨by decide, w2⟩))
          rw [hfr, hto, ← e1, ← e2]
          exact ⟨rfl, by decide⟩
        · have hT : TR [c0, c1, c2, c3] 2 4 := ⟨Nat.le_of_ble_eq_true rfl, Nat.le_of_ble_eq_true rfl, (own_wa (own_wa (own_wa0 _) w0) w1), fun _ => w2, (own_wbn [c0, c1, c2, c3]), fun _ => w3⟩
          obtain ⟨rfl, rfl⟩ := own_uniq hT htr
          have e1 : (2 : Int32) = own_F0 (4 : Int32) c0 c1 c2 c3 := (own_stF (fun q => q.2 w0) (own_stF (fun q => q.2 w1) (own_stT ⟨by decide, w2⟩)))
          have e2 : (4 : Int32) = own_T3 (4 : Int32) c0 c1 c2 c3 := (own_stT ⟨by decide, w3⟩)
          rw [hfr, hto, ← e1, ← e2]
          exact ⟨rfl, by decide⟩
    · by_cases w2 : own_ws c2
      · by_cases w3 : own_ws c3
        · have hT : TR [c0, c1, c2, c3] 1 2 := ⟨Nat.le_of_ble_eq_true rfl, Nat.le_of_ble_eq_true rfl, (own_wa (own_wa0 _) w0), fun _ => w1, (own_wb (j := 3) (own_wb (j := 4) (own_wbn [c0, c1, c2, c3]) w3) w2), fun _ => w1⟩
          obtain ⟨rfl, rfl⟩ := own_uniq hT htr
          have e1 : (1 : Int32) = own_F0 (4 : Int32) c0 c1 c2 c3 := (own_stF (fun q => q.2 w0) (own_stT ⟨by decide, w1⟩))
          have e2 : (2 : Int32) = own_T3 (4 : Int32) c0 c1 c2 c3 := (own_stF (fun q => q.2 w3) (own_stF (fun q => q.2 w2) (own_stT ⟨by decide, w1⟩)))
          rw [hfr, hto, ← e1, ← e2]
          exact ⟨rfl, by decide⟩
        · have hT : TR [c0, c1, c2, c3] 1 4 := ⟨Nat.le_of_ble_eq_true rfl, Nat.le_of_ble_eq_true rfl, (own_wa (own_wa0 _) w0), fun _ => w1, (own_wbn [c0, c1, c2, c3]), fun _ => w3⟩
          obtain ⟨rfl, rfl⟩ := own_uniq hT htr
          have e1 : (1 : Int32) = own_F0 (4 : Int32) c0 c1 c2 c3 := (own_stF (fun q => q.2 w0) (own_stT ⟨by decide, w1⟩))
          have e2 : (4 : Int32) = own_T3 (4 : Int32) c0 c1 c2 c3 := (own_stT ⟨by decide, w3⟩)
          rw [hfr, hto, ← e1, ← e2]
          exact ⟨rfl, by decide⟩
      · by_cases w3 : own_ws c3
        · have hT : TR [c0, c1, c2, c3] 1 3 := ⟨Nat.le_of_ble_eq_true rfl, Nat.le_of_ble_eq_true rfl, (own_wa (own_wa0 _) w0), fun _ => w1, (own_wb (j := 4) (own_wbn [c0, c1, c2, c3]) w3), fun _ => w2⟩
          obtain ⟨rfl, rfl⟩ := own_uniq hT htr
          have e1 : (1 : Int32) = own_F0 (4 : Int32) c0 c1 c2 c3 := (own_stF (fun q => q.2 w0) (own_stT ⟨by decide, w1⟩))
          have e2 : (3 : Int32) = own_T3 (4 : Int32) c0 c1 c2 c3 := (own_stF (fun q => q.2 w3) (own_stT ⟨by decide, w2⟩))
          rw [hfr, hto, ← e1, ← e2]
          exact ⟨rfl, by decide⟩
        · have hT : TR [c0, c1, c2, c3] 1 4 := ⟨Nat.le_of_ble_eq_true rfl, Nat.le_of_ble_eq_true rfl, (own_wa (own_wa0 _) w0), fun _ => w1, (own_wbn [c0, c1, c2, c3]), fun _ => w3⟩
          obtain ⟨rfl, rfl⟩ := own_uniq hT htr
          have e1 : (1 : Int32) = own_F0 (4 : Int32) c0 c1 c2 c3 := (own_stF (fun q => q.2 w0) (own_stT ⟨by decide, w1⟩))
          have e2 : (4 : Int32) = own_T3 (4 : Int32) c0 c1 c2 c3 := (own_stT ⟨by decide, w3⟩)
          rw [hfr, hto, ← e1, ← e2]
          exact ⟨rfl, by decide⟩
  · by_cases w1 : own_ws c1
    · by_cases w2 : own_ws c2
      · by_cases w3 : own_ws c3
        · have hT : TR [c0, c1, c2, c3] 0 1 := ⟨Nat.le_of_ble_eq_true rfl, Nat.le_of_ble_eq_true rfl, (own_wa0 _), fun _ => w0, (own_wb (j := 2) (own_wb (j := 3) (own_wb (j := 4) (own_wbn [c0, c1, c2, c3]) w3) w2) w1), fun _ => w0⟩
          obtain ⟨rfl, rfl⟩ := own_uniq hT htr
          have e1 : (0 : Int32) = own_F0 (4 : Int32) c0 c1 c2 c3 := (own_stT ⟨by decide, w0⟩)
          have e2 : (1 : Int32) = own_T3 (4 : Int32) c0 c1 c2 c3 := (own_stF (fun q => q.2 w3) (own_stF (fun q => q.2 w2) (own_stF (fun q => q.2 w1) (own_stT ⟨by decide, w0⟩))))
          rw [hfr, hto, ← e1, ← e2]
          exact ⟨rfl, by decide⟩
        · have hT : TR [c0, c1, c2, c3] 0 4 := ⟨Nat.le_of_ble_eq_true rfl, Nat.le_of_ble_eq_true rfl, (own_wa0 _), fun _ => w0, (own_wbn [c0, c1, c2, c3]), fun _ => w3⟩
          obtain ⟨rfl, rfl⟩ := own_uniq hT htr
          have e1 : (0 : Int32) = own_F0 (4 : Int32) c0 c1 c2 c3 := (own_stT ⟨by decide, w0⟩)
          have e2 : (4 : Int32) = own_T3 (4 : Int32) c0 c1 c2 c3 := (own_stT ⟨by decide, w3⟩)
          rw [hfr, hto, ← e1, ← e2]
          exact ⟨rfl, by decide⟩
      · by_cases w3 : own_ws c3
        · have hT : TR [c0, c1, c2, c3] 0 3 := ⟨Nat.le_of_ble_eq_true rfl, Nat.le_of_ble_eq_true rfl, (own_wa0 _), fun _ => w0, (own_wb (j := 4) (own_wbn [c0, c1, c2, c3]) w3), fun _ => w2⟩
          obtain ⟨rfl, rfl⟩ := own_uniq hT htr
          have e1 : (0 : Int32) = own_F0 (4 : Int32) c0 c1 c2 c3 := (own_stT ⟨by decide, w0⟩)
          have e2 : (3 : Int32) = own_T3 (4 : Int32) c0 c1 c2 c3 := (own_stF (fun q => q.2 w3) (own_stT ⟨by decide, w2⟩))
          rw [hfr, hto, ← e1, ← e2]
          exact ⟨rfl, by decide⟩
        · have hT : TR [c0, c1, c2, c3] 0 4 := ⟨Nat.le_of_ble_eq_true rfl, Nat.le_of_ble_eq_true rfl, (own_wa0 _), fun _ => w0, (own_wbn [c0, c1, c2, c3]), fun _ => w3⟩
          obtain ⟨rfl, rfl⟩ := own_uniq hT htr
          have e1 : (0 : Int32) = own_F0 (4 : Int32) c0 c1 c2 c3 := (own_stT ⟨by decide, w0⟩)
          have e2 : (4 : Int32) = own_T3 (4 : Int32) c0 c1 c2 c3 := (own_stT ⟨by decide, w3⟩)
          rw [hfr, hto, ← e1, ← e2]
          exact ⟨rfl, by decide⟩
    · by_cases w2 : own_ws c2
      · by_cases w3 : own_ws c3
        · have hT : TR [c0, c1, c2, c3] 0 2 := ⟨Nat.le_of_ble_eq_true rfl, Nat.le_of_ble_eq_true rfl, (own_wa0 _), fun _ => w0, (own_wb (j := 3) (own_wb (j := 4) (own_wbn [c0, c1, c2, c3]) w3) w2), fun _ => w1⟩
          obtain ⟨rfl, rfl⟩ := own_uniq hT htr
          have e1 : (0 : Int32) = own_F0 (4 : Int32) c0 c1 c2 c3 := (own_stT ⟨by decide, w0⟩)
          have e2 : (2 : Int32) = own_T3 (4 : Int32) c0 c1 c2 c3 := (own_stF (fun q => q.2 w3) (own_stF (fun q => q.2 w2) (own_stT ⟨by decide, w1⟩)))
          rw [hfr, hto, ← e1, ← e2]
          exact ⟨rfl, by decide⟩
        · have hT : TR [c0, c1, c2, c3] 0 4 := ⟨Nat.le_of_ble_eq_true rfl, Nat.le_of_ble_eq_true rfl, (own_wa0 _), fun _ => w0, (own_wbn [c0, c1, c2, c3]), fun _ => w3⟩
          obtain ⟨rfl, rfl⟩ := own_uniq hT htr
          have e1 : (0 : Int32) = own_F0 (4 : Int32) c0 c1 c2 c3 := (own_stT ⟨by decide, w0⟩)
          have e2 : (4 : Int32) = own_T3 (4 : Int32) c0 c1 c2 c3 := (own_stT ⟨by decide, w3⟩)
          rw [hfr, hto, ← e1, ← e2]
          exact ⟨rfl, by decide⟩
      · by_cases w3 : own_ws c3
        · have hT : TR [c0, c1, c2, c3] 0 3 := ⟨Nat.le_of_ble_eq_true rfl, Nat.le_of_ble_eq_true rfl, (own_wa0 _), fun _ => w0, (own_wb (j := 4) (own_wbn [c0, c1, c2, c3]) w3), fun _ => w2⟩
          obtain ⟨rfl, rfl⟩ := own_uniq hT htr
          have e1 : (0 : Int32) = own_F0 (4 : Int32) c0 c1 c2 c3 := (own_stT ⟨by decide, w0⟩)
          have e2 : (3 : Int32) = own_T3 (4 : Int32) c0 c1 c2 c3 := (own_stF (fun q => q.2 w3) (own_stT ⟨by decide, w2⟩))
          rw [hfr, hto, ← e1, ← e2]
          exact ⟨rfl, by decide⟩
        · have hT : TR [c0, c1, c2, c3] 0 4 := ⟨Nat.le_of_ble_eq_true rfl, Nat.le_of_ble_eq_true rfl, (own_wa0 _), fun _ => w0, (own_wbn [c0, c1, c2, c3]), fun _ => w3⟩
          obtain ⟨rfl, rfl⟩ := own_uniq hT htr
          have e1 : (0 : Int32) = own_F0 (4 : Int32) c0 c1 c2 c3 := (own_stT ⟨by decide, w0⟩)
          have e2 : (4 : Int32) = own_T3 (4 : Int32) c0 c1 c2 c3 := (own_stT ⟨by decide, w3⟩)
          rw [hfr, hto, ← e1, ← e2]
          exact ⟨rfl, by decide⟩
theorem own_fin {nn c0 c1 c2 c3 fr to : Int32} {f t : Nat} (h5 : own_r5 nn) {cs : List Int32} (hcs : cs = own_cs nn c0 c1 c2 c3) (htr : TR cs f t) (hfr : fr = own_F0 nn c0 c1 c2 c3) (hto : to = own_T3 nn c0 c1 c2 c3) : fr = Int32.ofNat f ∧ own_max to fr - fr = Int32.ofNat (t - f) := by
  rcases h5 with rfl | rfl | rfl | rfl | rfl
  · rw [own_cs0] at hcs; subst hcs; exact own_fin0 htr hfr hto
  · rw [own_cs1] at hcs; subst hcs; exact own_fin1 htr hfr hto
  · rw [own_cs2] at hcs; subst hcs; exact own_fin2 htr hfr hto
  · rw [own_cs3] at hcs; subst hcs; exact own_fin3 htr hfr hto
  · rw [own_cs4] at hcs; subst hcs; exact own_fin4 htr hfr hto
theorem own_mono {j k n : Nat} (h : ¬ Int32.ofNat j < Int32.ofNat n) (hjk : j ≤ k) (hk : k < 1000) (hn : n < 1000) : ¬ Int32.ofNat k < Int32.ofNat n := by
  rw [own_lt (by omega) hn] at h; rw [own_lt hk hn]; omega
theorem pd_27 : parseMethodDescriptor "(ICCCC)Ljava/lang/String;" = some ⟨[.int, .char, .char, .char, .char], some (.object "java/lang/String")⟩ := by decide +kernel
theorem pd_28 : parseMethodDescriptor "(Ljava/lang/String;)Ljava/lang/String;" = some ⟨[(.object "java/lang/String")], some (.object "java/lang/String")⟩ := by decide +kernel
theorem pd_29 : parseMethodDescriptor "(ICCCC)C" = some ⟨[.int, .char, .char, .char, .char], some .char⟩ := by decide +kernel
theorem pd_30 : parseMethodDescriptor "(C)Z" = some ⟨[.char], some .boolean⟩ := by decide +kernel
set_option maxRecDepth 65536 in
set_option maxHeartbeats 40000000 in
theorem rm0 (l : Launch) (Z : State) (a0 : Array Value) (hw : ∀ d ∈ tables_1, d.before a0 Z = true) (ws : List Jvm.Cond) (pp y0 y1 y2 y3 : Int32) (z : Int32) (fm : Value) (h0 : Heap) (n0 : Nat) (Z0 : n0 ≤ h0.size) (O0 : Old Z n0 h0) (SC : Sta Z Z.heap "java/lang/String" "COMPACT_STRINGS" "Z" (.int z)) (hz : ¬ z = 0) (SF : Sta Z Z.heap "jdk/internal/util/Preconditions" "SIOOBE_FORMATTER" "Ljava/util/function/BiFunction;" fm) (rF : fm.isRef = true) (SA : Sta Z Z.heap "java/lang/StringUTF16" "$assertionsDisabled" "Z" (.int (1 : Int32))) (SH : Sta Z Z.heap "java/lang/StringUTF16" "HI_BYTE_SHIFT" "I" (.int (0 : Int32))) (SL : Sta Z Z.heap "java/lang/StringUTF16" "LO_BYTE_SHIFT" "I" (.int (8 : Int32))) (hh7 : Jvm.Lit.constHeld Z "java/lang/String" 7) (hhL : Jvm.Lit.constHeld Z "java/lang/StringLatin1" 151) (hcw : Jvm.Lit.compactW.before a0 Z = true) :
    Ctr ReturnedEndW l Z x code maxLocals ret ws room_1 #[(.int pp), (.int y0), (.int y1), (.int y2), (.int y3)] h0 (fun vm => IB Z vm []) (LawQ n0) := by
  refine Ctr.intro (plainFor_of_name pn_com_example_wide_weir_wideweir_http_HttpSyntaxTrimWhitespacePinLaw) (Ls := #[.val (.int pp), .val (.int y0), .val (.int y1), .val (.int y2), .val (.int y3), .unset, .unset, .unset, .unset, .unset, .unset, .unset, .unset, .unset, .unset]) (fun m => by first | (simp [entryFrame, mkF, argsToLocals, Value.category, maxLocals]; done) | rfl) ?_
  intro p e s m below meth c T0 hx hby hml hown hnm hret hlk hZ hV hsh e0 X0
  have N0 := Fr.nil n0
  have hown : s.vm.findClass "com/example/wide_weir/wideweir/http/HttpSyntaxTrimWhitespacePinLaw" = some m.cls := hown
  have hret : meth.sig.returnType = (some .boolean) := hret
  have hml : c.maxLocals = 15 := hml
  have hS : s.Since s.vm 0 := (State.WarmedH.refl s).since 0
  have hk : 0 ≤ h0.size := Nat.zero_le _
  have X0 : Stand p l e room_1 (s.setVm s.vm) m #[(.int pp), (.int y0), (.int y1), (.int y2), (.int y3)] below meth c T0 [] 0 0 := X0
  have hZ : Z.Warmed39 (s.setVm s.vm).vm := hZ
  have hown : (s.setVm s.vm).vm.findClass "com/example/wide_weir/wideweir/http/HttpSyntaxTrimWhitespacePinLaw" = some m.cls := hown
  show Done _ p e below s _ _ (T0.setTop (mkF m 0 #[oI pp, oI y0, oI y1, oI y2, oI y3, .unset, .unset, .unset, .unset, .unset, .unset, .unset, .unset, .unset, .unset] []))
  refine Done.step (fun _ => XS.iloadN X0.here hx rfl (hb hby at_0) rfl) ?_
  show Done _ p e below s _ _ (T0.setTop (mkF m 1 #[oI pp, oI y0, oI y1, oI y2, oI y3, .unset, .unset, .unset, .unset, .unset, .unset, .unset, .unset, .unset, .unset] [(.int pp)]))
  refine Done.step (fun _ => Stand.ldcI X0 hx hown (mvT hZ (wAt hw 0 rfl)) (g := (mkF m 1 #[oI pp, oI y0, oI y1, oI y2, oI y3, .unset, .unset, .unset, .unset, .unset, .unset, .unset, .unset, .unset, .unset] [(.int pp)])) rfl (hb hby at_1)) ?_
  show Done _ p e below s _ _ (T0.setTop (mkF m 3 #[oI pp, oI y0, oI y1, oI y2, oI y3, .unset, .unset, .unset, .unset, .unset, .unset, .unset, .unset, .unset, .unset] [(.int (2147483647 : Int32)), (.int pp)]))
  refine Done.step (fun _ => XS.iand X0.here hx rfl (hb hby at_3) rfl) ?_
  show Done _ p e below s _ _ (T0.setTop (mkF m 4 #[oI pp, oI y0, oI y1, oI y2, oI y3, .unset, .unset, .unset, .unset, .unset, .unset, .unset, .unset, .unset, .unset] [(.int (pp &&& (2147483647 : Int32)))]))
  refine Done.step (fun _ => XT.iconstV X0.here hx rfl (5 : Int32) (hb hby at_4) (by decide)) ?_
  show Done _ p e below s _ _ (T0.setTop (mkF m 5 #[oI pp, oI y0, oI y1, oI y2, oI y3, .unset, .unset, .unset, .unset, .unset, .unset, .unset, .unset, .unset, .unset] [(.int (5 : Int32)), (.int (pp &&& (2147483647 : Int32)))]))
  refine Done.step (fun _ => iremM X0 hx rfl (hb hby at_5) rfl (by decide)) ?_
  show Done _ p e below s _ _ (T0.setTop (mkF m 6 #[oI pp, oI y0, oI y1, oI y2, oI y3, .unset, .unset, .unset, .unset, .unset, .unset, .unset, .unset, .unset, .unset] [(.int ((pp &&& (2147483647 : Int32)) % (5 : Int32)))]))
  obtain ⟨nn, hnn⟩ : ∃ q : Int32, q = ((pp &&& (2147483647 : Int32)) % (5 : Int32)) := ⟨_, rfl⟩
  rw [← hnn]
  have h5 : own_r5 nn := own_r5of (hnn ▸ own_mod5 pp)
  show Done _ p e below s _ _ (T0.setTop (mkF m 6 #[oI pp, oI y0, oI y1, oI y2, oI y3, .unset, .unset, .unset, .unset, .unset, .unset, .unset, .unset, .unset, .unset] [(.int nn)]))
  refine Done.step (fun _ => XS.istore X0.here hx rfl (hb hby at_6) rfl (l' := #[oI pp, oI y0, oI y1, oI y2, oI y3, oI nn, .unset, .unset, .unset, .unset, .unset, .unset, .unset, .unset, .unset]) rfl) ?_
  show Done _ p e below s _ _ (T0.setTop (mkF m 8 #[oI pp, oI y0, oI y1, oI y2, oI y3, oI nn, .unset, .unset, .unset, .unset, .unset, .unset, .unset, .unset, .unset] []))
  have K33 : ∀ (TL : State) (eL : TL.heap = h0) (XL : Stand p l e room_1 (s.setVm s.vm) m #[(.int pp), (.int y0), (.int y1), (.int y2), (.int y3)] below meth c TL [] 0 0) (c0 c1 c2 c3 : Int32) (hbc0 : ¬ c0 < 0 ∧ ¬ (65535 : Int32) < c0) (hbc1 : ¬ c1 < 0 ∧ ¬ (65535 : Int32) < c1) (hbc2 : ¬ c2 < 0 ∧ ¬ (65535 : Int32) < c2) (hbc3 : ¬ c3 < 0 ∧ ¬ (65535 : Int32) < c3), Done ReturnedEndW p e below s room_1 (LawQ n0) (TL.setTop (mkF m 33 #[oI pp, oI y0, oI y1, oI y2, oI y3, oI nn, oI c0, oI c1, oI c2, oI c3, .unset, .unset, .unset, .unset, .unset] [])) := by
    intro TL eL XL c0 c1 c2 c3 hb0 hb1 hb2 hb3
    show Done _ p e below s _ _ (TL.setTop (mkF m 33 #[oI pp, oI y0, oI y1, oI y2, oI y3, oI nn, oI c0, oI c1, oI c2, oI c3, .unset, .unset, .unset, .unset, .unset] []))
    refine Done.step (fun _ => XS.iload XL.here hx rfl (hb hby at_33) rfl) ?_
    show Done _ p e below s _ _ (TL.setTop (mkF m 35 #[oI pp, oI y0, oI y1, oI y2, oI y3, oI nn, oI c0, oI c1, oI c2, oI c3, .unset, .unset, .unset, .unset, .unset] [(.int nn)]))
    refine Done.step (fun _ => XS.iload XL.here hx rfl (hb hby at_35) rfl) ?_
    show Done _ p e below s _ _ (TL.setTop (mkF m 37 #[oI pp, oI y0, oI y1, oI y2, oI y3, oI nn, oI c0, oI c1, oI c2, oI c3, .unset, .unset, .unset, .unset, .unset] [(.int c0), (.int nn)]))
    refine Done.step (fun _ => XS.iload XL.here hx rfl (hb hby at_37) rfl) ?_
    show Done _ p e below s _ _ (TL.setTop (mkF m 39 #[oI pp, oI y0, oI y1, oI y2, oI y3, oI nn, oI c0, oI c1, oI c2, oI c3, .unset, .unset, .unset, .unset, .unset] [(.int c1), (.int c0), (.int nn)]))
    refine Done.step (fun _ => XS.iload XL.here hx rfl (hb hby at_39) rfl) ?_
    show Done _ p e below s _ _ (TL.setTop (mkF m 41 #[oI pp, oI y0, oI y1, oI y2, oI y3, oI nn, oI c0, oI c1, oI c2, oI c3, .unset, .unset, .unset, .unset, .unset] [(.int c2), (.int c1), (.int c0), (.int nn)]))
    refine Done.step (fun _ => XS.iload XL.here hx rfl (hb hby at_41) rfl) ?_
    show Done _ p e below s _ _ (TL.setTop (mkF m 43 #[oI pp, oI y0, oI y1, oI y2, oI y3, oI nn, oI c0, oI c1, oI c2, oI c3, .unset, .unset, .unset, .unset, .unset] [(.int c3), (.int c2), (.int c1), (.int c0), (.int nn)]))
    refine Done.callSW XL hx hZ hown hS hk (wAt hw 6 rfl) (wAt hw 7 rfl) (wAt hw 3 rfl) (wAt hw 8 rfl) (by decide) (rMk l Z a0 hw [] nn c0 c1 c2 c3 z fm h0 n0 Z0 O0 SC hz SF rF SA SH SL hb0 hb1 hb2 hb3 hh7 hcw) (fun vm' hW => own_ibV hV hW) eL (g := (mkF m 43 #[oI pp, oI y0, oI y1, oI y2, oI y3, oI nn, oI c0, oI c1, oI c2, oI c3, .unset, .unset, .unset, .unset, .unset] [(.int c3), (.int c2), (.int c1), (.int c0), (.int nn)])) rfl (by rw [hml]; rfl) [(.int nn), (.int c0), (.int c1), (.int c2), (.int c3)] [] 0 (lenOf pd_27 rfl) rfl rfl (by show 2 * 0 + _ ≤ _; exact Nat.le_of_eq rfl) (hb hby at_43) (by decide) (by decide) (by decide) (by decide) ?_
    intro T1 v1 L1 X1 hS hZ hown hW1 q1
    have hk := Nat.le_refl T1.heap.size
    obtain ⟨sx, sa, sk, rfl, Nq1, K1q, Es, Fs, DS, IBm⟩ := q1
    have N1 := Fr.app N0 Nq1
    have Zs1 := Nat.le_trans Z0 K1q.1
    show Done _ p e below s _ _ (T1.setTop (mkF m 46 #[oI pp, oI y0, oI y1, oI y2, oI y3, oI nn, oI c0, oI c1, oI c2, oI c3, .unset, .unset, .unset, .unset, .unset] [(.ref sx)]))
    obtain ⟨cs, hcs⟩ : ∃ q, q = own_cs nn c0 c1 c2 c3 := ⟨_, rfl⟩
    rw [← hcs] at DS
    obtain ⟨hbc, hn⟩ := own_csB hb0 hb1 hb2 hb3 h5 hcs
    refine Done.step (fun _ => XS.astore X1.here hx rfl (hb hby at_46) rfl rfl (l' := #[oI pp, oI y0, oI y1, oI y2, oI y3, oI nn, oI c0, oI c1, oI c2, oI c3, oR sx, .unset, .unset, .unset, .unset]) rfl) ?_
    show Done _ p e below s _ _ (T1.setTop (mkF m 48 #[oI pp, oI y0, oI y1, oI y2, oI y3, oI nn, oI c0, oI c1, oI c2, oI c3, oR sx, .unset, .unset, .unset, .unset] []))
    refine Done.step (fun _ => XS.iload X1.here hx rfl (hb hby at_48) rfl) ?_
    show Done _ p e below s _ _ (T1.setTop (mkF m 50 #[oI pp, oI y0, oI y1, oI y2, oI y3, oI nn, oI c0, oI c1, oI c2, oI c3, oR sx, .unset, .unset, .unset, .unset] [(.int nn)]))
    refine Done.step (fun _ => XS.istore X1.here hx rfl (hb hby at_50) rfl (l' := #[oI pp, oI y0, oI y1, oI y2, oI y3, oI nn, oI c0, oI c1, oI c2, oI c3, oR sx, oI nn, .unset, .unset, .unset]) rfl) ?_
    show Done _ p e below s _ _ (T1.setTop (mkF m 52 #[oI pp, oI y0, oI y1, oI y2, oI y3, oI nn, oI c0, oI c1, oI c2, oI c3, oR sx, oI nn, .unset, .unset, .unset] []))
    have J189 : ∀ (TL : State) (eL : TL.heap = T1.heap) (XL : Stand p l e room_1 (s.setVm T1.vm) m #[(.int pp), (.int y0), (.int y1), (.int y2), (.int y3)] below meth c TL ([] ++ L1) 4 20) (fr to : Int32) (hfr : fr = own_F0 nn c0 c1 c2 c3) (hto : to = own_T3 nn c0 c1 c2 c3), Done ReturnedEndW p e below s room_1 (LawQ n0) (TL.setTop (mkF m 189 #[oI pp, oI y0, oI y1, oI y2, oI y3, oI nn, oI c0, oI c1, oI c2, oI c3, oR sx, oI fr, oI to, .unset, .unset] [])) := by
      intro TL eL XL fr to hfr hto
      show Done _ p e below s _ _ (TL.setTop (mkF m 189 #[oI pp, oI y0, oI y1, oI y2, oI y3, oI nn, oI c0, oI c1, oI c2, oI c3, oR sx, oI fr, oI to, .unset, .unset] []))
      refine Done.step (fun _ => XS.iload XL.here hx rfl (hb hby at_189) rfl) ?_
      show Done _ p e below s _ _ (TL.setTop (mkF m 191 #[oI pp, oI y0, oI y1, oI y2, oI y3, oI nn, oI c0, oI c1, oI c2, oI c3, oR sx, oI fr, oI to, .unset, .unset] [(.int to)]))
      refine Done.step (fun _ => XS.iload XL.here hx rfl (hb hby at_191) rfl) ?_
      show Done _ p e below s _ _ (TL.setTop (mkF m 193 #[oI pp, oI y0, oI y1, oI y2, oI y3, oI nn, oI c0, oI c1, oI c2, oI c3, oR sx, oI fr, oI to, .unset, .unset] [(.int fr), (.int to)]))
      refine Done.callSP XL hx hZ hown (wAt hw 31 rfl) (wAt hw 32 rfl) (wAt hw 33 rfl) (wAt hw 34 rfl) (by decide) (rMax l Z a0 hw [] to fr T1.heap n0 Zs1) eL (g := (mkF m 193 #[oI pp, oI y0, oI y1, oI y2, oI y3, oI nn, oI c0, oI c1, oI c2, oI c3, oR sx, oI fr, oI to, .unset, .unset] [(.int fr), (.int to)])) rfl (by rw [hml]; rfl) [(.int to), (.int fr)] [] 0 (lenOf pd_4 rfl) rfl rfl (by show 2 * 0 + _ ≤ _; exact Nat.le_of_eq rfl) (hb hby at_193) (by decide) (by decide) (by decide) (by decide) rfl rfl ?_
      intro T2 X2 e2
      show Done _ p e below s _ _ (T2.setTop (mkF m 196 #[oI pp, oI y0, oI y1, oI y2, oI y3, oI nn, oI c0, oI c1, oI c2, oI c3, oR sx, oI fr, oI to, .unset, .unset] [(.int (own_max to fr))]))
      refine Done.step (fun _ => XS.istore X2.here hx rfl (hb hby at_196) rfl (l' := #[oI pp, oI y0, oI y1, oI y2, oI y3, oI nn, oI c0, oI c1, oI c2, oI c3, oR sx, oI fr, oI (own_max to fr), .unset, .unset]) rfl) ?_
      show Done _ p e below s _ _ (T2.setTop (mkF m 198 #[oI pp, oI y0, oI y1, oI y2, oI y3, oI nn, oI c0, oI c1, oI c2, oI c3, oR sx, oI fr, oI (own_max to fr), .unset, .unset] []))
      refine Done.step (fun _ => XS.iload X2.here hx rfl (hb hby at_198) rfl) ?_
      show Done _ p e below s _ _ (T2.setTop (mkF m 200 #[oI pp, oI y0, oI y1, oI y2, oI y3, oI nn, oI c0, oI c1, oI c2, oI c3, oR sx, oI fr, oI (own_max to fr), .unset, .unset] [(.int (own_max to fr))]))
      refine Done.step (fun _ => XS.iload X2.here hx rfl (hb hby at_200) rfl) ?_
      show Done _ p e below s _ _ (T2.setTop (mkF m 202 #[oI pp, oI y0, oI y1, oI y2, oI y3, oI nn, oI c0, oI c1, oI c2, oI c3, oR sx, oI fr, oI (own_max to fr), .unset, .unset] [(.int fr), (.int (own_max to fr))]))
      refine Done.step (fun _ => XS.isub X2.here hx rfl (hb hby at_202) rfl) ?_
      show Done _ p e below s _ _ (T2.setTop (mkF m 203 #[oI pp, oI y0, oI y1, oI y2, oI y3, oI nn, oI c0, oI c1, oI c2, oI c3, oR sx, oI fr, oI (own_max to fr), .unset, .unset] [(.int ((own_max to fr) - fr))]))
      refine Done.step (fun _ => XS.istore X2.here hx rfl (hb hby at_203) rfl (l' := #[oI pp, oI y0, oI y1, oI y2, oI y3, oI nn, oI c0, oI c1, oI c2, oI c3, oR sx, oI fr, oI (own_max to fr), oI ((own_max to fr) - fr), .unset]) rfl) ?_
      show Done _ p e below s _ _ (T2.setTop (mkF m 205 #[oI pp, oI y0, oI y1, oI y2, oI y3, oI nn, oI c0, oI c1, oI c2, oI c3, oR sx, oI fr, oI (own_max to fr), oI ((own_max to fr) - fr), .unset] []))
      refine Done.step (fun _ => XS.aload X2.here hx rfl (hb hby at_205) rfl rfl) ?_
      show Done _ p e below s _ _ (T2.setTop (mkF m 207 #[oI pp, oI y0, oI y1, oI y2, oI y3, oI nn, oI c0, oI c1, oI c2, oI c3, oR sx, oI fr, oI (own_max to fr), oI ((own_max to fr) - fr), .unset] [(.ref sx)]))
      have f3 := (O0.keep K1q all0)
      refine Done.callSW X2 hx hZ hown hS hk (wAt hw 35 rfl) (wAt hw 36 rfl) (wAt hw 37 rfl) (wAt hw 38 rfl) (by decide) (rT l Z a0 hw [] sx sa sk cs (own_ts nn) z fm T1.heap n0 Zs1 f3 SC hz SF rF SA SH SL Es Fs DS hn hbc (own_tsN hcs) hhL hcw) (fun vm' hW => own_ibV IBm hW) e2 (g := (mkF m 207 #[oI pp, oI y0, oI y1, oI y2, oI y3, oI nn, oI c0, oI c1, oI c2, oI c3, oR sx, oI fr, oI (own_max to fr), oI ((own_max to fr) - fr), .unset] [(.ref sx)])) rfl (by rw [hml]; rfl) [(.ref sx)] [] 0 (lenOf pd_28 rfl) rfl rfl (by show 2 * 0 + _ ≤ _; exact Nat.le_of_eq rfl) (hb hby at_207) (by decide) (by decide) (by decide) (by decide) ?_
      intro T4 v4 L4 X4 hS hZ hown hW4 q4
      have hk := Nat.le_refl T4.heap.size
      obtain ⟨f, tt, xR, tR, kR, rfl, Nq4, K4q, htr, ER, FR, DR⟩ := q4
      have N4 := Fr.app N1 Nq4
      have Zs4 := Nat.le_trans Zs1 K4q.1
      show Done _ p e below s _ _ (T4.setTop (mkF m 210 #[oI pp, oI y0, oI y1, oI y2, oI y3, oI nn, oI c0, oI c1, oI c2, oI c3, oR sx, oI fr, oI (own_max to fr), oI ((own_max to fr) - fr), .unset] [(.ref xR)]))
      obtain ⟨hfr2, hlen⟩ := own_fin h5 hcs htr hfr hto
      have hft : f ≤ tt := htr.1
      have htn : tt ≤ cs.length := htr.2.1
      have hsl := own_subL (cs := cs) (f := f) (m := tt - f) (by omega)
      rw [hlen, hfr2]
      show Done _ p e below s _ _ (T4.setTop (mkF m 210 #[oI pp, oI y0, oI y1, oI y2, oI y3, oI nn, oI c0, oI c1, oI c2, oI c3, oR sx, oI (Int32.ofNat f), oI (own_max to (Int32.ofNat f)), oI (Int32.ofNat (tt - f)), .unset] [(.ref xR)]))
      refine Done.step (fun _ => XS.astore X4.here hx rfl (hb hby at_210) rfl rfl (l' := #[oI pp, oI y0, oI y1, oI y2, oI y3, oI nn, oI c0, oI c1, oI c2, oI c3, oR sx, oI (Int32.ofNat f), oI (own_max to (Int32.ofNat f)), oI (Int32.ofNat (tt - f)), oR xR]) rfl) ?_
      show Done _ p e below s _ _ (T4.setTop (mkF m 212 #[oI pp, oI y0, oI y1, oI y2, oI y3, oI nn, oI c0, oI c1, oI c2, oI c3, oR sx, oI (Int32.ofNat f), oI (own_max to (Int32.ofNat f)), oI (Int32.ofNat (tt - f)), oR xR] []))
      refine Done.step (fun _ => XS.aload X4.here hx rfl (hb hby at_212) rfl rfl) ?_
      show Done _ p e below s _ _ (T4.setTop (mkF m 214 #[oI pp, oI y0, oI y1, oI y2, oI y3, oI nn, oI c0, oI c1, oI c2, oI c3, oR sx, oI (Int32.ofNat f), oI (own_max to (Int32.ofNat f)), oI (Int32.ofNat (tt - f)), oR xR] [(.ref xR)]))
      have f5 := (f3.keep K4q all0)
      refine Done.callVP X4 hx hZ (C := "java/lang/String") hown (wAt hw 64 rfl) (wAt hw 40 rfl) (notFace_of_selects (args := #[]) (mvT hZ (wAt hw 42 rfl))) (wAt hw 42 rfl) (wAt hw 41 rfl) (wAt hw 11 rfl) (wAt hw 43 rfl) (by decide) (rL l Z a0 hw [] xR tR kR ((cs.drop f).take (tt - f)) z fm T4.heap n0 Zs4 f5 SC hz SF rF SA SH SL ER FR DR (by omega)) rfl ER (g := (mkF m 214 #[oI pp, oI y0, oI y1, oI y2, oI y3, oI nn, oI c0, oI c1, oI c2, oI c3, oR sx, oI (Int32.ofNat f), oI (own_max to (Int32.ofNat f)), oI (Int32.ofNat (tt - f)), oR xR] [(.ref xR)])) rfl (by rw [hml]; rfl) [] [] 0 (lenOf pd_21 rfl) rfl rfl (by show 2 * 0 + _ ≤ _; exact Nat.le_of_eq rfl) (hb hby at_214) (by decide) (by decide) (by decide) (by decide) rfl rfl ?_
      intro T6 X6 e6
      show Done _ p e below s _ _ (T6.setTop (mkF m 217 #[oI pp, oI y0, oI y1, oI y2, oI y3, oI nn, oI c0, oI c1, oI c2, oI c3, oR sx, oI (Int32.ofNat f), oI (own_max to (Int32.ofNat f)), oI (Int32.ofNat (tt - f)), oR xR] [(.int (Int32.ofNat ((cs.drop f).take (tt - f)).length))]))
      refine Done.step (fun _ => XS.iload X6.here hx rfl (hb hby at_217) rfl) ?_
      show Done _ p e below s _ _ (T6.setTop (mkF m 219 #[oI pp, oI y0, oI y1, oI y2, oI y3, oI nn, oI c0, oI c1, oI c2, oI c3, oR sx, oI (Int32.ofNat f), oI (own_max to (Int32.ofNat f)), oI (Int32.ofNat (tt - f)), oR xR] [(.int (Int32.ofNat (tt - f))), (.int (Int32.ofNat ((cs.drop f).take (tt - f)).length))]))
      refine Done.step (fun _ => XS.icmpYes X6.here hx rfl (pc0 := 219) (pc' := 224) rfl (hb hby at_219) rfl (XT.ii_eq_t (by rw [hsl])) (by decide) (by decide)) ?_
      show Done _ p e below s _ _ (T6.setTop (mkF m 224 #[oI pp, oI y0, oI y1, oI y2, oI y3, oI nn, oI c0, oI c1, oI c2, oI c3, oR sx, oI (Int32.ofNat f), oI (own_max to (Int32.ofNat f)), oI (Int32.ofNat (tt - f)), oR xR] []))
      refine Done.step (fun _ => XS.iload X6.here hx rfl (hb hby at_224) rfl) ?_
      show Done _ p e below s _ _ (T6.setTop (mkF m 226 #[oI pp, oI y0, oI y1, oI y2, oI y3, oI nn, oI c0, oI c1, oI c2, oI c3, oR sx, oI (Int32.ofNat f), oI (own_max to (Int32.ofNat f)), oI (Int32.ofNat (tt - f)), oR xR] [(.int (Int32.ofNat (tt - f)))]))
      by_cases hc7 : (0 : Int32) < (Int32.ofNat (tt - f))
      · refine Done.step (fun _ => XS.ifNo X6.here hx rfl (hb hby at_226) rfl (XT.i0_le_f hc7)) ?_
        show Done _ p e below s _ _ (T6.setTop (mkF m 229 #[oI pp, oI y0, oI y1, oI y2, oI y3, oI nn, oI c0, oI c1, oI c2, oI c3, oR sx, oI (Int32.ofNat f), oI (own_max to (Int32.ofNat f)), oI (Int32.ofNat (tt - f)), oR xR] []))
        refine Done.step (fun _ => XS.aload X6.here hx rfl (hb hby at_229) rfl rfl) ?_
        show Done _ p e below s _ _ (T6.setTop (mkF m 231 #[oI pp, oI y0, oI y1, oI y2, oI y3, oI nn, oI c0, oI c1, oI c2, oI c3, oR sx, oI (Int32.ofNat f), oI (own_max to (Int32.ofNat f)), oI (Int32.ofNat (tt - f)), oR xR] [(.ref xR)]))
        refine Done.step (fun _ => XT.iconstV X6.here hx rfl (0 : Int32) (hb hby at_231) (by decide)) ?_
        show Done _ p e below s _ _ (T6.setTop (mkF m 232 #[oI pp, oI y0, oI y1, oI y2, oI y3, oI nn, oI c0, oI c1, oI c2, oI c3, oR sx, oI (Int32.ofNat f), oI (own_max to (Int32.ofNat f)), oI (Int32.ofNat (tt - f)), oR xR] [(.int (0 : Int32)), (.ref xR)]))
        have hk0 : 0 < tt - f := (own_lt (i := 0) (by omega) (by omega)).mp hc7
        refine Done.callVP X6 hx hZ (C := "java/lang/String") hown (wAt hw 122 rfl) (wAt hw 79 rfl) (notFace_of_selects (args := #[]) (mvT hZ (wAt hw 81 rfl))) (wAt hw 81 rfl) (wAt hw 80 rfl) (wAt hw 11 rfl) (wAt hw 82 rfl) (by decide) (rC l Z a0 hw [] xR tR kR ((cs.drop f).take (tt - f)) 0 z fm T4.heap n0 Zs4 f5 SC hz SF rF SA SH SL ER FR DR (by omega) (by omega) (own_subB hbc f (tt - f))) e6 ER (g := (mkF m 232 #[oI pp, oI y0, oI y1, oI y2, oI y3, oI nn, oI c0, oI c1, oI c2, oI c3, oR sx, oI (Int32.ofNat f), oI (own_max to (Int32.ofNat f)), oI (Int32.ofNat (tt - f)), oR xR] [(.int (0 : Int32)), (.ref xR)])) rfl (by rw [hml]; rfl) [(.int (0 : Int32))] [] 0 (lenOf pd_25 rfl) rfl rfl (by show 2 * 0 + _ ≤ _; exact Nat.le_of_eq rfl) (hb hby at_232) (by decide) (by decide) (by decide) (by decide) rfl rfl ?_
        intro T8 X8 e8
        show Done _ p e below s _ _ (T8.setTop (mkF m 235 #[oI pp, oI y0, oI y1, oI y2, oI y3, oI nn, oI c0, oI c1, oI c2, oI c3, oR sx, oI (Int32.ofNat f), oI (own_max to (Int32.ofNat f)), oI (Int32.ofNat (tt - f)), oR xR] [(.int (((cs.drop f).take (tt - f)).getD 0 0))]))
        refine Done.step (fun _ => XS.iload X8.here hx rfl (hb hby at_235) rfl) ?_
        show Done _ p e below s _ _ (T8.setTop (mkF m 237 #[oI pp, oI y0, oI y1, oI y2, oI y3, oI nn, oI c0, oI c1, oI c2, oI c3, oR sx, oI (Int32.ofNat f), oI (own_max to (Int32.ofNat f)), oI (Int32.ofNat (tt - f)), oR xR] [(.int (Int32.ofNat f)), (.int (((cs.drop f).take (tt - f)).getD 0 0))]))
        refine Done.step (fun _ => XS.iload X8.here hx rfl (hb hby at_237) rfl) ?_
        show Done _ p e below s _ _ (T8.setTop (mkF m 239 #[oI pp, oI y0, oI y1, oI y2, oI y3, oI nn, oI c0, oI c1, oI c2, oI c3, oR sx, oI (Int32.ofNat f), oI (own_max to (Int32.ofNat f)), oI (Int32.ofNat (tt - f)), oR xR] [(.int c0), (.int (Int32.ofNat f)), (.int (((cs.drop f).take (tt - f)).getD 0 0))]))
        refine Done.step (fun _ => XS.iload X8.here hx rfl (hb hby at_239) rfl) ?_
        show Done _ p e below s _ _ (T8.setTop (mkF m 241 #[oI pp, oI y0, oI y1, oI y2, oI y3, oI nn, oI c0, oI c1, oI c2, oI c3, oR sx, oI (Int32.ofNat f), oI (own_max to (Int32.ofNat f)), oI (Int32.ofNat (tt - f)), oR xR] [(.int c1), (.int c0), (.int (Int32.ofNat f)), (.int (((cs.drop f).take (tt - f)).getD 0 0))]))
        refine Done.step (fun _ => XS.iload X8.here hx rfl (hb hby at_241) rfl) ?_
        show Done _ p e below s _ _ (T8.setTop (mkF m 243 #[oI pp, oI y0, oI y1, oI y2, oI y3, oI nn, oI c0, oI c1, oI c2, oI c3, oR sx, oI (Int32.ofNat f), oI (own_max to (Int32.ofNat f)), oI (Int32.ofNat (tt - f)), oR xR] [(.int c2), (.int c1), (.int c0), (.int (Int32.ofNat f)), (.int (((cs.drop f).take (tt - f)).getD 0 0))]))
        refine Done.step (fun _ => XS.iload X8.here hx rfl (hb hby at_243) rfl) ?_
        show Done _ p e below s _ _ (T8.setTop (mkF m 245 #[oI pp, oI y0, oI y1, oI y2, oI y3, oI nn, oI c0, oI c1, oI c2, oI c3, oR sx, oI (Int32.ofNat f), oI (own_max to (Int32.ofNat f)), oI (Int32.ofNat (tt - f)), oR xR] [(.int c3), (.int c2), (.int c1), (.int c0), (.int (Int32.ofNat f)), (.int (((cs.drop f).take (tt - f)).getD 0 0))]))
        refine Done.callSP X8 hx hZ hown (wAt hw 123 rfl) (wAt hw 124 rfl) (wAt hw 3 rfl) (wAt hw 125 rfl) (by decide) (rAt l Z a0 hw [] (Int32.ofNat f) c0 c1 c2 c3 T4.heap n0 Zs4 hb0 hb1 hb2 hb3) e8 (g := (mkF m 245 #[oI pp, oI y0, oI y1, oI y2, oI y3, oI nn, oI c0, oI c1, oI c2, oI c3, oR sx, oI (Int32.ofNat f), oI (own_max to (Int32.ofNat f)), oI (Int32.ofNat (tt - f)), oR xR] [(.int c3), (.int c2), (.int c1), (.int c0), (.int (Int32.ofNat f)), (.int (((cs.drop f).take (tt - f)).getD 0 0))])) rfl (by rw [hml]; rfl) [(.int (Int32.ofNat f)), (.int c0), (.int c1), (.int c2), (.int c3)] [(.int (((cs.drop f).take (tt - f)).getD 0 0))] 1 (lenOf pd_29 rfl) rfl rfl (by show 2 * 0 + _ ≤ _; exact Nat.le_of_eq rfl) (hb hby at_245) (by decide) (by decide) (by decide) (by decide) rfl rfl ?_
        intro T9 X9 e9
        show Done _ p e below s _ _ (T9.setTop (mkF m 248 #[oI pp, oI y0, oI y1, oI y2, oI y3, oI nn, oI c0, oI c1, oI c2, oI c3, oR sx, oI (Int32.ofNat f), oI (own_max to (Int32.ofNat f)), oI (Int32.ofNat (tt - f)), oR xR] [(.int (own_at4 (Int32.ofNat f) c0 c1 c2 c3)), (.int (((cs.drop f).take (tt - f)).getD 0 0))]))
        refine Done.step (fun _ => XS.icmpYes X9.here hx rfl (pc0 := 248) (pc' := 253) rfl (hb hby at_248) rfl (XT.ii_eq_t (by rw [own_subG hk0, own_csA h5 hcs (by omega)]; rfl)) (by decide) (by decide)) ?_
        show Done _ p e below s _ _ (T9.setTop (mkF m 253 #[oI pp, oI y0, oI y1, oI y2, oI y3, oI nn, oI c0, oI c1, oI c2, oI c3, oR sx, oI (Int32.ofNat f), oI (own_max to (Int32.ofNat f)), oI (Int32.ofNat (tt - f)), oR xR] []))
        refine Done.step (fun _ => XS.iload X9.here hx rfl (hb hby at_253) rfl) ?_
        show Done _ p e below s _ _ (T9.setTop (mkF m 255 #[oI pp, oI y0, oI y1, oI y2, oI y3, oI nn, oI c0, oI c1, oI c2, oI c3, oR sx, oI (Int32.ofNat f), oI (own_max to (Int32.ofNat f)), oI (Int32.ofNat (tt - f)), oR xR] [(.int (Int32.ofNat (tt - f)))]))
        refine Done.step (fun _ => XT.iconstV X9.here hx rfl (1 : Int32) (hb hby at_255) (by decide)) ?_
        show Done _ p e below s _ _ (T9.setTop (mkF m 256 #[oI pp, oI y0, oI y1, oI y2, oI y3, oI nn, oI c0, oI c1, oI c2, oI c3, oR sx, oI (Int32.ofNat f), oI (own_max to (Int32.ofNat f)), oI (Int32.ofNat (tt - f)), oR xR] [(.int (1 : Int32)), (.int (Int32.ofNat (tt - f)))]))
        by_cases hc10 : (1 : Int32) < (Int32.ofNat (tt - f))
        · refine Done.step (fun _ => XS.icmpNo X9.here hx rfl (hb hby at_256) rfl (XT.ii_le_f hc10)) ?_
          show Done _ p e below s _ _ (T9.setTop (mkF m 259 #[oI pp, oI y0, oI y1, oI y2, oI y3, oI nn, oI c0, oI c1, oI c2, oI c3, oR sx, oI (Int32.ofNat f), oI (own_max to (Int32.ofNat f)), oI (Int32.ofNat (tt - f)), oR xR] []))
          refine Done.step (fun _ => XS.aload X9.here hx rfl (hb hby at_259) rfl rfl) ?_
          show Done _ p e below s _ _ (T9.setTop (mkF m 261 #[oI pp, oI y0, oI y1, oI y2, oI y3, oI nn, oI c0, oI c1, oI c2, oI c3, oR sx, oI (Int32.ofNat f), oI (own_max to (Int32.ofNat f)), oI (Int32.ofNat (tt - f)), oR xR] [(.ref xR)]))
          refine Done.step (fun _ => XT.iconstV X9.here hx rfl (1 : Int32) (hb hby at_261) (by decide)) ?_
          show Done _ p e below s _ _ (T9.setTop (mkF m 262 #[oI pp, oI y0, oI y1, oI y2, oI y3, oI nn, oI c0, oI c1, oI c2, oI c3, oR sx, oI (Int32.ofNat f), oI (own_max to (Int32.ofNat f)), oI (Int32.ofNat (tt - f)), oR xR] [(.int (1 : Int32)), (.ref xR)]))
          have hk1 : 1 < tt - f := (own_lt (i := 1) (by omega) (by omega)).mp hc10
          refine Done.callVP X9 hx hZ (C := "java/lang/String") hown (wAt hw 122 rfl) (wAt hw 79 rfl) (notFace_of_selects (args := #[]) (mvT hZ (wAt hw 81 rfl))) (wAt hw 81 rfl) (wAt hw 80 rfl) (wAt hw 11 rfl) (wAt hw 82 rfl) (by decide) (rC l Z a0 hw [] xR tR kR ((cs.drop f).take (tt - f)) 1 z fm T4.heap n0 Zs4 f5 SC hz SF rF SA SH SL ER FR DR (by omega) (by omega) (own_subB hbc f (tt - f))) e9 ER (g := (mkF m 262 #[oI pp, oI y0, oI y1, oI y2, oI y3, oI nn, oI c0, oI c1, oI c2, oI c3, oR sx, oI (Int32.ofNat f), oI (own_max to (Int32.ofNat f)), oI (Int32.ofNat (tt - f)), oR xR] [(.int (1 : Int32)), (.ref xR)])) rfl (by rw [hml]; rfl) [(.int (1 : Int32))] [] 0 (lenOf pd_25 rfl) rfl rfl (by show 2 * 0 + _ ≤ _; exact Nat.le_of_eq rfl) (hb hby at_262) (by decide) (by decide) (by decide) (by decide) rfl rfl ?_
          intro T11 X11 e11
          show Done _ p e below s _ _ (T11.setTop (mkF m 265 #[oI pp, oI y0, oI y1, oI y2, oI y3, oI nn, oI c0, oI c1, oI c2, oI c3, oR sx, oI (Int32.ofNat f), oI (own_max to (Int32.ofNat f)), oI (Int32.ofNat (tt - f)), oR xR] [(.int (((cs.drop f).take (tt - f)).getD 1 0))]))
          refine Done.step (fun _ => XS.iload X11.here hx rfl (hb hby at_265) rfl) ?_
          show Done _ p e below s _ _ (T11.setTop (mkF m 267 #[oI pp, oI y0, oI y1, oI y2, oI y3, oI nn, oI c0, oI c1, oI c2, oI c3, oR sx, oI (Int32.ofNat f), oI (own_max to (Int32.ofNat f)), oI (Int32.ofNat (tt - f)), oR xR] [(.int (Int32.ofNat f)), (.int (((cs.drop f).take (tt - f)).getD 1 0))]))
          refine Done.step (fun _ => XT.iconstV X11.here hx rfl (1 : Int32) (hb hby at_267) (by decide)) ?_
          show Done _ p e below s _ _ (T11.setTop (mkF m 268 #[oI pp, oI y0, oI y1, oI y2, oI y3, oI nn, oI c0, oI c1, oI c2, oI c3, oR sx, oI (Int32.ofNat f), oI (own_max to (Int32.ofNat f)), oI (Int32.ofNat (tt - f)), oR xR] [(.int (1 : Int32)), (.int (Int32.ofNat f)), (.int (((cs.drop f).take (tt - f)).getD 1 0))]))
          refine Done.step (fun _ => XS.iadd X11.here hx rfl (hb hby at_268) rfl) ?_
          show Done _ p e below s _ _ (T11.setTop (mkF m 269 #[oI pp, oI y0, oI y1, oI y2, oI y3, oI nn, oI c0, oI c1, oI c2, oI c3, oR sx, oI (Int32.ofNat f), oI (own_max to (Int32.ofNat f)), oI (Int32.ofNat (tt - f)), oR xR] [(.int ((Int32.ofNat f) + (1 : Int32))), (.int (((cs.drop f).take (tt - f)).getD 1 0))]))
          refine Done.step (fun _ => XS.iload X11.here hx rfl (hb hby at_269) rfl) ?_
          show Done _ p e below s _ _ (T11.setTop (mkF m 271 #[oI pp, oI y0, oI y1, oI y2, oI y3, oI nn, oI c0, oI c1, oI c2, oI c3, oR sx, oI (Int32.ofNat f), oI (own_max to (Int32.ofNat f)), oI (Int32.ofNat (tt - f)), oR xR] [(.int c0), (.int ((Int32.ofNat f) + (1 : Int32))), (.int (((cs.drop f).take (tt - f)).getD 1 0))]))
          refine Done.step (fun _ => XS.iload X11.here hx rfl (hb hby at_271) rfl) ?_
          show Done _ p e below s _ _ (T11.setTop (mkF m 273 #[oI pp, oI y0, oI y1, oI y2, oI y3, oI nn, oI c0, oI c1, oI c2, oI c3, oR sx, oI (Int32.ofNat f), oI (own_max to (Int32.ofNat f)), oI (Int32.ofNat (tt - f)), oR xR] [(.int c1), (.int c0), (.int ((Int32.ofNat f) + (1 : Int32))), (.int (((cs.drop f).take (tt - f)).getD 1 0))]))
          refine Done.step (fun _ => XS.iload X11.here hx rfl (hb hby at_273) rfl) ?_
          show Done _ p e below s _ _ (T11.setTop (mkF m 275 #[oI pp, oI y0, oI y1, oI y2, oI y3, oI nn, oI c0, oI c1, oI c2, oI c3, oR sx, oI (Int32.ofNat f), oI (own_max to (Int32.ofNat f)), oI (Int32.ofNat (tt - f)), oR xR] [(.int c2), (.int c1), (.int c0), (.int ((Int32.ofNat f) + (1 : Int32))), (.int (((cs.drop f).take (tt - f)).getD 1 0))]))
          refine Done.step (fun _ => XS.iload X11.here hx rfl (hb hby at_275) rfl) ?_
          show Done _ p e below s _ _ (T11.setTop (mkF m 277 #[oI pp, oI y0, oI y1, oI y2, oI y3, oI nn, oI c0, oI c1, oI c2, oI c3, oR sx, oI (Int32.ofNat f), oI (own_max to (Int32.ofNat f)), oI (Int32.ofNat (tt - f)), oR xR] [(.int c3), (.int c2), (.int c1), (.int c0), (.int ((Int32.ofNat f) + (1 : Int32))), (.int (((cs.drop f).take (tt - f)).getD 1 0))]))
          refine Done.callSP X11 hx hZ hown (wAt hw 123 rfl) (wAt hw 124 rfl) (wAt hw 3 rfl) (wAt hw 125 rfl) (by decide) (rAt l Z a0 hw [] ((Int32.ofNat f) + (1 : Int32)) c0 c1 c2 c3 T4.heap n0 Zs4 hb0 hb1 hb2 hb3) e11 (g := (mkF m 277 #[oI pp, oI y0, oI y1, oI y2, oI y3, oI nn, oI c0, oI c1, oI c2, oI c3, oR sx, oI (Int32.ofNat f), oI (own_max to (Int32.ofNat f)), oI (Int32.ofNat (tt - f)), oR xR] [(.int c3), (.int c2), (.int c1), (.int c0), (.int ((Int32.ofNat f) + (1 : Int32))), (.int (((cs.drop f).take (tt - f)).getD 1 0))])) rfl (by rw [hml]; rfl) [(.int ((Int32.ofNat f) + (1 : Int32))), (.int c0), (.int c1), (.int c2), (.int c3)] [(.int (((cs.drop f).take (tt - f)).getD 1 0))] 1 (lenOf pd_29 rfl) rfl rfl (by show 2 * 0 + _ ≤ _; exact Nat.le_of_eq rfl) (hb hby at_277) (by decide) (by decide) (by decide) (by decide) rfl rfl ?_
          intro T12 X12 e12
          show Done _ p e below s _ _ (T12.setTop (mkF m 280 #[oI pp, oI y0, oI y1, oI y2, oI y3, oI nn, oI c0, oI c1, oI c2, oI c3, oR sx, oI (Int32.ofNat f), oI (own_max to (Int32.ofNat f)), oI (Int32.ofNat (tt - f)), oR xR] [(.int (own_at4 ((Int32.ofNat f) + (1 : Int32)) c0 c1 c2 c3)), (.int (((cs.drop f).take (tt - f)).getD 1 0))]))
          refine Done.step (fun _ => XS.icmpYes X12.here hx rfl (pc0 := 280) (pc' := 285) rfl (hb hby at_280) rfl (XT.ii_eq_t (by rw [own_subG hk1, own_csA h5 hcs (by omega)]; rw [← own_addN]; rfl)) (by decide) (by decide)) ?_
          show Done _ p e below s _ _ (T12.setTop (mkF m 285 #[oI pp, oI y0, oI y1, oI y2, oI y3, oI nn, oI c0, oI c1, oI c2, oI c3, oR sx, oI (Int32.ofNat f), oI (own_max to (Int32.ofNat f)), oI (Int32.ofNat (tt - f)), oR xR] []))
          refine Done.step (fun _ => XS.iload X12.here hx rfl (hb hby at_285) rfl) ?_
          show Done _ p e below s _ _ (T12.setTop (mkF m 287 #[oI pp, oI y0, oI y1, oI y2, oI y3, oI nn, oI c0, oI c1, oI c2, oI c3, oR sx, oI (Int32.ofNat f), oI (own_max to (Int32.ofNat f)), oI (Int32.ofNat (tt - f)), oR xR] [(.int (Int32.ofNat (tt - f)))]))
          refine Done.step (fun _ => XT.iconstV X12.here hx rfl (2 : Int32) (hb hby at_287) (by decide)) ?_
          show Done _ p e below s _ _ (T12.setTop (mkF m 288 #[oI pp, oI y0, oI y1, oI y2, oI y3, oI nn, oI c0, oI c1, oI c2, oI c3, oR sx, oI (Int32.ofNat f), oI (own_max to (Int32.ofNat f)), oI (Int32.ofNat (tt - f)), oR xR] [(.int (2 : Int32)), (.int (Int32.ofNat (tt - f)))]))
          by_cases hc13 : (2 : Int32) < (Int32.ofNat (tt - f))
          · refine Done.step (fun _ => XS.icmpNo X12.here hx rfl (hb hby at_288) rfl (XT.ii_le_f hc13)) ?_
            show Done _ p e below s _ _ (T12.setTop (mkF m 291 #[oI pp, oI y0, oI y1, oI y2, oI y3, oI nn, oI c0, oI c1, oI c2, oI c3, oR sx, oI (Int32.ofNat f), oI (own_max to (Int32.ofNat f)), oI (Int32.ofNat (tt - f)), oR xR] []))
            refine Done.step (fun _ => XS.aload X12.here hx rfl (hb hby at_291) rfl rfl) ?_
            show Done _ p e below s _ _ (T12.setTop (mkF m 293 #[oI pp, oI y0, oI y1, oI y2, oI y3, oI nn, oI c0, oI c1, oI c2, oI c3, oR sx, oI (Int32.ofNat f), oI (own_max to (Int32.ofNat f)), oI (Int32.ofNat (tt - f)), oR xR] [(.ref xR)]))
            refine Done.step (fun _ => XT.iconstV X12.here hx rfl (2 : Int32) (hb hby at_293) (by decide)) ?_
            show Done _ p e below s _ _ (T12.setTop (mkF m 294 #[oI pp, oI y0, oI y1, oI y2, oI y3, oI nn, oI c0, oI c1, oI c2, oI c3, oR sx, oI (Int32.ofNat f), oI (own_max to (Int32.ofNat f)), oI (Int32.ofNat (tt - f)), oR xR] [(.int (2 : Int32)), (.ref xR)]))
            have hk2 : 2 < tt - f := (own_lt (i := 2) (by omega) (by omega)).mp hc13
            refine Done.callVP X12 hx hZ (C := "java/lang/String") hown (wAt hw 122 rfl) (wAt hw 79 rfl) (notFace_of_selects (args := #[]) (mvT hZ (wAt hw 81 rfl))) (wAt hw 81 rfl) (wAt hw 80 rfl) (wAt hw 11 rfl) (wAt hw 82 rfl) (by decide) (rC l Z a0 hw [] xR tR kR ((cs.drop f).take (tt - f)) 2 z fm T4.heap n0 Zs4 f5 SC hz SF rF SA SH SL ER FR DR (by omega) (by omega) (own_subB hbc f (tt - f))) e12 ER (g := (mkF m 294 #[oI pp, oI y0, oI y1, oI y2, oI y3, oI nn, oI c0, oI c1, oI c2, oI c3, oR sx, oI (Int32.ofNat f), oI (own_max to (Int32.ofNat f)), oI (Int32.ofNat (tt - f)), oR xR] [(.int (2 : Int32)), (.ref xR)])) rfl (by rw [hml]; rfl) [(.int (2 : Int32))] [] 0 (lenOf pd_25 rfl) rfl rfl (by show 2 * 0 + _ ≤ _; exact Nat.le_of_eq rfl) (hb hby at_294) (by decide) (by decide) (by decide) (by decide) rfl rfl ?_
            intro T14 X14 e14
            show Done _ p e below s _ _ (T14.setTop (mkF m 297 #[oI pp, oI y0, oI y1, oI y2, oI y3, oI nn, oI c0, oI c1, oI c2, oI c3, oR sx, oI (Int32.ofNat f), oI (own_max to (Int32.ofNat f)), oI (Int32.ofNat (tt - f)), oR xR] [(.int (((cs.drop f).take (tt - f)).getD 2 0))]))
            refine Done.step (fun _ => XS.iload X14.here hx rfl (hb hby at_297) rfl) ?_
            show Done _ p e below s _ _ (T14.setTop (mkF m 299 #[oI pp, oI y0, oI y1, oI y2, oI y3, oI nn, oI c0, oI c1, oI c2, oI c3, oR sx, oI (Int32.ofNat f), oI (own_max to (Int32.ofNat f)), oI (Int32.ofNat (tt - f)), oR xR] [(.int (Int32.ofNat f)), (.int (((cs.drop f).take (tt - f)).getD 2 0))]))
            refine Done.step (fun _ => XT.iconstV X14.here hx rfl (2 : Int32) (hb hby at_299) (by decide)) ?_
            show Done _ p e below s _ _ (T14.setTop (mkF m 300 #[oI pp, oI y0, oI y1, oI y2, oI y3, oI nn, oI c0, oI c1, oI c2, oI c3, oR sx, oI (Int32.ofNat f), oI (own_max to (Int32.ofNat f)), oI (Int32.ofNat (tt - f)), oR xR] [(.int (2 : Int32)), (.int (Int32.ofNat f)), (.int (((cs.drop f).take (tt - f)).getD 2 0))]))
            refine Done.step (fun _ => XS.iadd X14.here hx rfl (hb hby at_300) rfl) ?_
            show Done _ p e below s _ _ (T14.setTop (mkF m 301 #[oI pp, oI y0, oI y1, oI y2, oI y3, oI nn, oI c0, oI c1, oI c2, oI c3, oR sx, oI (Int32.ofNat f), oI (own_max to (Int32.ofNat f)), oI (Int32.ofNat (tt - f)), oR xR] [(.int ((Int32.ofNat f) + (2 : Int32))), (.int (((cs.drop f).take (tt - f)).getD 2 0))]))
            refine Done.step (fun _ => XS.iload X14.here hx rfl (hb hby at_301) rfl) ?_
            show Done _ p e below s _ _ (T14.setTop (mkF m 303 #[oI pp, oI y0, oI y1, oI y2, oI y3, oI nn, oI c0, oI c1, oI c2, oI c3, oR sx, oI (Int32.ofNat f), oI (own_max to (Int32.ofNat f)), oI (Int32.ofNat (tt - f)), oR xR] [(.int c0), (.int ((Int32.ofNat f) + (2 : Int32))), (.int (((cs.drop f).take (tt - f)).getD 2 0))]))
            refine Done.step (fun _ => XS.iload X14.here hx rfl (hb hby at_303) rfl) ?_
            show Done _ p e below s _ _ (T14.setTop (mkF m 305 #[oI pp, oI y0, oI y1, oI y2, oI y3, oI nn, oI c0, oI c1, oI c2, oI c3, oR sx, oI (Int32.ofNat f), oI (own_max to (Int32.ofNat f)), oI (Int32.ofNat (tt - f)), oR xR] [(.int c1), (.int c0), (.int ((Int32.ofNat f) + (2 : Int32))), (.int (((cs.drop f).take (tt - f)).getD 2 0))]))
            refine Done.step (fun _ => XS.iload X14.here hx rfl (hb hby at_305) rfl) ?_
            show Done _ p e below s _ _ (T14.setTop (mkF m 307 #[oI pp, oI y0, oI y1, oI y2, oI y3, oI nn, oI c0, oI c1, oI c2, oI c3, oR sx, oI (Int32.ofNat f), oI (own_max to (Int32.ofNat f)), oI (Int32.ofNat (tt - f)), oR xR] [(.int c2), (.int c1), (.int c0), (.int ((Int32.ofNat f) + (2 : Int32))), (.int (((cs.drop f).take (tt - f)).getD 2 0))]))
            refine Done.step (fun _ => XS.iload X14.here hx rfl (hb hby at_307) rfl) ?_
            show Done _ p e below s _ _ (T14.setTop (mkF m 309 #[oI pp, oI y0, oI y1, oI y2, oI y3, oI nn, oI c0, oI c1, oI c2, oI c3, oR sx, oI (Int32.ofNat f), oI (own_max to (Int32.ofNat f)), oI (Int32.ofNat (tt - f)), oR xR] [(.int c3), (.int c2), (.int c1), (.int c0), (.int ((Int32.ofNat f) + (2 : Int32))), (.int (((cs.drop f).take (tt - f)).getD 2 0))]))
            refine Done.callSP X14 hx hZ hown (wAt hw 123 rfl) (wAt hw 124 rfl) (wAt hw 3 rfl) (wAt hw 125 rfl) (by decide) (rAt l Z a0 hw [] ((Int32.ofNat f) + (2 : Int32)) c0 c1 c2 c3 T4.heap n0 Zs4 hb0 hb1 hb2 hb3) e14 (g := (mkF m 309 #[oI pp, oI y0, oI y1, oI y2, oI y3, oI nn, oI c0, oI c1, oI c2, oI c3, oR sx, oI (Int32.ofNat f), oI (own_max to (Int32.ofNat f)), oI (Int32.ofNat (tt - f)), oR xR] [(.int c3), (.int c2), (.int c1), (.int c0), (.int ((Int32.ofNat f) + (2 : Int32))), (.int (((cs.drop f).take (tt - f)).getD 2 0))])) rfl (by rw [hml]; rfl) [(.int ((Int32.ofNat f) + (2 : Int32))), (.int c0), (.int c1), (.int c2), (.int c3)] [(.int (((cs.drop f).take (tt - f)).getD 2 0))] 1 (lenOf pd_29 rfl) rfl rfl (by show 2 * 0 + _ ≤ _; exact Nat.le_of_eq rfl) (hb hby at_309) (by decide) (by decide) (by decide) (by decide) rfl rfl ?_
            intro T15 X15 e15
            show Done _ p e below s _ _ (T15.setTop (mkF m 312 #[oI pp, oI y0, oI y1, oI y2, oI y3, oI nn, oI c0, oI c1, oI c2, oI c3, oR sx, oI (Int32.ofNat f), oI (own_max to (Int32.ofNat f)), oI (Int32.ofNat (tt - f)), oR xR] [(.int (own_at4 ((Int32.ofNat f) + (2 : Int32)) c0 c1 c2 c3)), (.int (((cs.drop f).take (tt - f)).getD 2 0))]))
            refine Done.step (fun _ => XS.icmpYes X15.here hx rfl (pc0 := 312) (pc' := 317) rfl (hb hby at_312) rfl (XT.ii_eq_t (by rw [own_subG hk2, own_csA h5 hcs (by omega)]; rw [← own_addN]; rfl)) (by decide) (by decide)) ?_
            show Done _ p e below s _ _ (T15.setTop (mkF m 317 #[oI pp, oI y0, oI y1, oI y2, oI y3, oI nn, oI c0, oI c1, oI c2, oI c3, oR sx, oI (Int32.ofNat f), oI (own_max to (Int32.ofNat f)), oI (Int32.ofNat (tt - f)), oR xR] []))
            refine Done.step (fun _ => XS.iload X15.here hx rfl (hb hby at_317) rfl) ?_
            show Done _ p e below s _ _ (T15.setTop (mkF m 319 #[oI pp, oI y0, oI y1, oI y2, oI y3, oI nn, oI c0, oI c1, oI c2, oI c3, oR sx, oI (Int32.ofNat f), oI (own_max to (Int32.ofNat f)), oI (Int32.ofNat (tt - f)), oR xR] [(.int (Int32.ofNat (tt - f)))]))
            refine Done.step (fun _ => XT.iconstV X15.here hx rfl (3 : Int32) (hb hby at_319) (by decide)) ?_
            show Done _ p e below s _ _ (T15.setTop (mkF m 320 #[oI pp, oI y0, oI y1, oI y2, oI y3, oI nn, oI c0, oI c1, oI c2, oI c3, oR sx, oI (Int32.ofNat f), oI (own_max to (Int32.ofNat f)), oI (Int32.ofNat (tt - f)), oR xR] [(.int (3 : Int32)), (.int (Int32.ofNat (tt - f)))]))
            by_cases hc16 : (3 : Int32) < (Int32.ofNat (tt - f))
            · refine Done.step (fun _ => XS.icmpNo X15.here hx rfl (hb hby at_320) rfl (XT.ii_le_f hc16)) ?_
              show Done _ p e below s _ _ (T15.setTop (mkF m 323 #[oI pp, oI y0, oI y1, oI y2, oI y3, oI nn, oI c0, oI c1, oI c2, oI c3, oR sx, oI (Int32.ofNat f), oI (own_max to (Int32.ofNat f)), oI (Int32.ofNat (tt - f)), oR xR] []))
              refine Done.step (fun _ => XS.aload X15.here hx rfl (hb hby at_323) rfl rfl) ?_
              show Done _ p e below s _ _ (T15.setTop (mkF m 325 #[oI pp, oI y0, oI y1, oI y2, oI y3, oI nn, oI c0, oI c1, oI c2, oI c3, oR sx, oI (Int32.ofNat f), oI (own_max to (Int32.ofNat f)), oI (Int32.ofNat (tt - f)), oR xR] [(.ref xR)]))
              refine Done.step (fun _ => XT.iconstV X15.here hx rfl (3 : Int32) (hb hby at_325) (by decide)) ?_
              show Done _ p e below s _ _ (T15.setTop (mkF m 326 #[oI pp, oI y0, oI y1, oI y2, oI y3, oI nn, oI c0, oI c1, oI c2, oI c3, oR sx, oI (Int32.ofNat f), oI (own_max to (Int32.ofNat f)), oI (Int32.ofNat (tt - f)), oR xR] [(.int (3 : Int32)), (.ref xR)]))
              have hk3 : 3 < tt - f := (own_lt (i := 3) (by omega) (by omega)).mp hc16
              refine Done.callVP X15 hx hZ (C := "java/lang/String") hown (wAt hw 122 rfl) (wAt hw 79 rfl) (notFace_of_selects (args := #[]) (mvT hZ (wAt hw 81 rfl))) (wAt hw 81 rfl) (wAt hw 80 rfl) (wAt hw 11 rfl) (wAt hw 82 rfl) (by decide) (rC l Z a0 hw [] xR tR kR ((cs.drop f).take (tt - f)) 3 z fm T4.heap n0 Zs4 f5 SC hz SF rF SA SH SL ER FR DR (by omega) (by omega) (own_subB hbc f (tt - f))) e15 ER (g := (mkF m 326 #[oI pp, oI y0, oI y1, oI y2, oI y3, oI nn, oI c0, oI c1, oI c2, oI c3, oR sx, oI (Int32.ofNat f), oI (own_max to (Int32.ofNat f)), oI (Int32.ofNat (tt - f)), oR xR] [(.int (3 : Int32)), (.ref xR)])) rfl (by rw [hml]; rfl) [(.int (3 : Int32))] [] 0 (lenOf pd_25 rfl) rfl rfl (by show 2 * 0 + _ ≤ _; exact Nat.le_of_eq rfl) (hb hby at_326) (by decide) (by decide) (by decide) (by decide) rfl rfl ?_
              intro T17 X17 e17
              show Done _ p e below s _ _ (T17.setTop (mkF m 329 #[oI pp, oI y0, oI y1, oI y2, oI y3, oI nn, oI c0, oI c1, oI c2, oI c3, oR sx, oI (Int32.ofNat f), oI (own_max to (Int32.ofNat f)), oI (Int32.ofNat (tt - f)), oR xR] [(.int (((cs.drop f).take (tt - f)).getD 3 0))]))
              refine Done.step (fun _ => XS.iload X17.here hx rfl (hb hby at_329) rfl) ?_
              show Done _ p e below s _ _ (T17.setTop (mkF m 331 #[oI pp, oI y0, oI y1, oI y2, oI y3, oI nn, oI c0, oI c1, oI c2, oI c3, oR sx, oI (Int32.ofNat f), oI (own_max to (Int32.ofNat f)), oI (Int32.ofNat (tt - f)), oR xR] [(.int (Int32.ofNat f)), (.int (((cs.drop f).take (tt - f)).getD 3 0))]))
              refine Done.step (fun _ => XT.iconstV X17.here hx rfl (3 : Int32) (hb hby at_331) (by decide)) ?_
              show Done _ p e below s _ _ (T17.setTop (mkF m 332 #[oI pp, oI y0, oI y1, oI y2, oI y3, oI nn, oI c0, oI c1, oI c2, oI c3, oR sx, oI (Int32.ofNat f), oI (own_max to (Int32.ofNat f)), oI (Int32.ofNat (tt - f)), oR xR] [(.int (3 : Int32)), (.int (Int32.ofNat f)), (.int (((cs.drop f).take (tt - f)).getD 3 0))]))
              refine Done.step (fun _ => XS.iadd X17.here hx rfl (hb hby at_332) rfl) ?_
              show Done _ p e below s _ _ (T17.setTop (mkF m 333 #[oI pp, oI y0, oI y1, oI y2, oI y3, oI nn, oI c0, oI c1, oI c2, oI c3, oR sx, oI (Int32.ofNat f), oI (own_max to (Int32.ofNat f)), oI (Int32.ofNat (tt - f)), oR xR] [(.int ((Int32.ofNat f) + (3 : Int32))), (.int (((cs.drop f).take (tt - f)).getD 3 0))]))
              refine Done.step (fun _ => XS.iload X17.here hx rfl (hb hby at_333) rfl) ?_
              show Done _ p e below s _ _ (T17.setTop (mkF m 335 #[oI pp, oI y0, oI y1, oI y2, oI y3, oI nn, oI c0, oI c1, oI c2, oI c3, oR sx, oI (Int32.ofNat f), oI (own_max to (Int32.ofNat f)), oI (Int32.ofNat (tt - f)), oR xR] [(.int c0), (.int ((Int32.ofNat f) + (3 : Int32))), (.int (((cs.drop f).take (tt - f)).getD 3 0))]))
              refine Done.step (fun _ => XS.iload X17.here hx rfl (hb hby at_335) rfl) ?_
              show Done _ p e below s _ _ (T17.setTop (mkF m 337 #[oI pp, oI y0, oI y1, oI y2, oI y3, oI nn, oI c0, oI c1, oI c2, oI c3, oR sx, oI (Int32.ofNat f), oI (own_max to (Int32.ofNat f)), oI (Int32.ofNat (tt - f)), oR xR] [(.int c1), (.int c0), (.int ((Int32.ofNat f) + (3 : Int32))), (.int (((cs.drop f).take (tt - f)).getD 3 0))]))
              refine Done.step (fun _ => XS.iload X17.here hx rfl (hb hby at_337) rfl) ?_
              show Done _ p e below s _ _ (T17.setTop (mkF m 339 #[oI pp, oI y0, oI y1, oI y2, oI y3, oI nn, oI c0, oI c1, oI c2, oI c3, oR sx, oI (Int32.ofNat f), oI (own_max to (Int32.ofNat f)), oI (Int32.ofNat (tt - f)), oR xR] [(.int c2), (.int c1), (.int c0), (.int ((Int32.ofNat f) + (3 : Int32))), (.int (((cs.drop f).take (tt - f)).getD 3 0))]))
              refine Done.step (fun _ => XS.iload X17.here hx rfl (hb hby at_339) rfl) ?_
              show Done _ p e below s _ _ (T17.setTop (mkF m 341 #[oI pp, oI y0, oI y1, oI y2, oI y3, oI nn, oI c0, oI c1, oI c2, oI c3, oR sx, oI (Int32.ofNat f), oI (own_max to (Int32.ofNat f)), oI (Int32.ofNat (tt - f)), oR xR] [(.int c3), (.int c2), (.int c1), (.int c0), (.int ((Int32.ofNat f) + (3 : Int32))), (.int (((cs.drop f).take (tt - f)).getD 3 0))]))
              refine Done.callSP X17 hx hZ hown (wAt hw 123 rfl) (wAt hw 124 rfl) (wAt hw 3 rfl) (wAt hw 125 rfl) (by decide) (rAt l Z a0 hw [] ((Int32.ofNat f) + (3 : Int32)) c0 c1 c2 c3 T4.heap n0 Zs4 hb0 hb1 hb2 hb3) e17 (g := (mkF m 341 #[oI pp, oI y0, oI y1, oI y2, oI y3, oI nn, oI c0, oI c1, oI c2, oI c3, oR sx, oI (Int32.ofNat f), oI (own_max to (Int32.ofNat f)), oI (Int32.ofNat (tt - f)), oR xR] [(.int c3), (.int c2), (.int c1), (.int c0), (.int ((Int32.ofNat f) + (3 : Int32))), (.int (((cs.drop f).take (tt - f)).getD 3 0))])) rfl (by rw [hml]; rfl) [(.int ((Int32.ofNat f) + (3 : Int32))), (.int c0), (.int c1), (.int c2), (.int c3)] [(.int (((cs.drop f).take (tt - f)).getD 3 0))] 1 (lenOf pd_29 rfl) rfl rfl (by show 2 * 0 + _ ≤ _; exact Nat.le_of_eq rfl) (hb hby at_341) (by decide) (by decide) (by decide) (by decide) rfl rfl ?_
              intro T18 X18 e18
              show Done _ p e below s _ _ (T18.setTop (mkF m 344 #[oI pp, oI y0, oI y1, oI y2, oI y3, oI nn, oI c0, oI c1, oI c2, oI c3, oR sx, oI (Int32.ofNat f), oI (own_max to (Int32.ofNat f)), oI (Int32.ofNat (tt - f)), oR xR] [(.int (own_at4 ((Int32.ofNat f) + (3 : Int32)) c0 c1 c2 c3)), (.int (((cs.drop f).take (tt - f)).getD 3 0))]))
              refine Done.step (fun _ => XS.icmpYes X18.here hx rfl (pc0 := 344) (pc' := 349) rfl (hb hby at_344) rfl (XT.ii_eq_t (by rw [own_subG hk3, own_csA h5 hcs (by omega)]; rw [← own_addN]; rfl)) (by decide) (by decide)) ?_
              show Done _ p e below s _ _ (T18.setTop (mkF m 349 #[oI pp, oI y0, oI y1, oI y2, oI y3, oI nn, oI c0, oI c1, oI c2, oI c3, oR sx, oI (Int32.ofNat f), oI (own_max to (Int32.ofNat f)), oI (Int32.ofNat (tt - f)), oR xR] []))
              refine Done.step (fun _ => XT.iconstV X18.here hx rfl (1 : Int32) (hb hby at_349) (by decide)) ?_
              show Done _ p e below s _ _ (T18.setTop (mkF m 350 #[oI pp, oI y0, oI y1, oI y2, oI y3, oI nn, oI c0, oI c1, oI c2, oI c3, oR sx, oI (Int32.ofNat f), oI (own_max to (Int32.ofNat f)), oI (Int32.ofNat (tt - f)), oR xR] [(.int (1 : Int32))]))
              exact Done.retN (leavesW X18 hS (by first | exact hk | (rw [e18]; exact hk)) hlk (by decide) (by decide)) X18 hx (t := .boolean) hret (by simp) (hb hby at_350) ⟨rfl, N4⟩
            · refine Done.step (fun _ => XS.icmpYes X15.here hx rfl (pc0 := 320) (pc' := 349) rfl (hb hby at_320) rfl (XT.ii_le_t hc16) (by decide) (by decide)) ?_
              show Done _ p e below s _ _ (T15.setTop (mkF m 349 #[oI pp, oI y0, oI y1, oI y2, oI y3, oI nn, oI c0, oI c1, oI c2, oI c3, oR sx, oI (Int32.ofNat f), oI (own_max to (Int32.ofNat f)), oI (Int32.ofNat (tt - f)), oR xR] []))
              refine Done.step (fun _ => XT.iconstV X15.here hx rfl (1 : Int32) (hb hby at_349) (by decide)) ?_
              show Done _ p e below s _ _ (T15.setTop (mkF m 350 #[oI pp, oI y0, oI y1, oI y2, oI y3, oI nn, oI c0, oI c1, oI c2, oI c3, oR sx, oI (Int32.ofNat f), oI (own_max to (Int32.ofNat f)), oI (Int32.ofNat (tt - f)), oR xR] [(.int (1 : Int32))]))
              exact Done.retN (leavesW X15 hS (by first | exact hk | (rw [e15]; exact hk)) hlk (by decide) (by decide)) X15 hx (t := .boolean) hret (by simp) (hb hby at_350) ⟨rfl, N4⟩
          · refine Done.step (fun _ => XS.icmpYes X12.here hx rfl (pc0 := 288) (pc' := 317) rfl (hb hby at_288) rfl (XT.ii_le_t hc13) (by decide) (by decide)) ?_
            show Done _ p e below s _ _ (T12.setTop (mkF m 317 #[oI pp, oI y0, oI y1, oI y2, oI y3, oI nn, oI c0, oI c1, oI c2, oI c3, oR sx, oI (Int32.ofNat f), oI (own_max to (Int32.ofNat f)), oI (Int32.ofNat (tt - f)), oR xR] []))
            refine Done.step (fun _ => XS.iload X12.here hx rfl (hb hby at_317) rfl) ?_
            show Done _ p e below s _ _ (T12.setTop (mkF m 319 #[oI pp, oI y0, oI y1, oI y2, oI y3, oI nn, oI c0, oI c1, oI c2, oI c3, oR sx, oI (Int32.ofNat f), oI (own_max to (Int32.ofNat f)), oI (Int32.ofNat (tt - f)), oR xR] [(.int (Int32.ofNat (tt - f)))]))
            refine Done.step (fun _ => XT.iconstV X12.here hx rfl (3 : Int32) (hb hby at_319) (by decide)) ?_
            show Done _ p e below s _ _ (T12.setTop (mkF m 320 #[oI pp, oI y0, oI y1, oI y2, oI y3, oI nn, oI c0, oI c1, oI c2, oI c3, oR sx, oI (Int32.ofNat f), oI (own_max to (Int32.ofNat f)), oI (Int32.ofNat (tt - f)), oR xR] [(.int (3 : Int32)), (.int (Int32.ofNat (tt - f)))]))
            refine Done.step (fun _ => XS.icmpYes X12.here hx rfl (pc0 := 320) (pc' := 349) rfl (hb hby at_320) rfl (XT.ii_le_t (own_mono (j := 2) (k := 3) hc13 (by omega) (by omega) (by omega))) (by decide) (by decide)) ?_
            show Done _ p e below s _ _ (T12.setTop (mkF m 349 #[oI pp, oI y0, oI y1, oI y2, oI y3, oI nn, oI c0, oI c1, oI c2, oI c3, oR sx, oI (Int32.ofNat f), oI (own_max to (Int32.ofNat f)), oI (Int32.ofNat (tt - f)), oR xR] []))
            refine Done.step (fun _ => XT.iconstV X12.here hx rfl (1 : Int32) (hb hby at_349) (by decide)) ?_
            show Done _ p e below s _ _ (T12.setTop (mkF m 350 #[oI pp, oI y0, oI y1, oI y2, oI y3, oI nn, oI c0, oI c1, oI c2, oI c3, oR sx, oI (Int32.ofNat f), oI (own_max to (Int32.ofNat f)), oI (Int32.ofNat (tt - f)), oR xR] [(.int (1 : Int32))]))
            exact Done.retN (leavesW X12 hS (by first | exact hk | (rw [e12]; exact hk)) hlk (by decide) (by decide)) X12 hx (t := .boolean) hret (by simp) (hb hby at_350) ⟨rfl, N4⟩
        · refine Done.step (fun _ => XS.icmpYes X9.here hx rfl (pc0 := 256) (pc' := 285) rfl (hb hby at_256) rfl (XT.ii_le_t hc10) (by decide) (by decide)) ?_
          show Done _ p e below s _ _ (T9.setTop (mkF m 285 #[oI pp, oI y0, oI y1, oI y2, oI y3, oI nn, oI c0, oI c1, oI c2, oI c3, oR sx, oI (Int32.ofNat f), oI (own_max to (Int32.ofNat f)), oI (Int32.ofNat (tt - f)), oR xR] []))
          refine Done.step (fun _ => XS.iload X9.here hx rfl (hb hby at_285) rfl) ?_
          show Done _ p e below s _ _ (T9.setTop (mkF m 287 #[oI pp, oI y0, oI y1, oI y2, oI y3, oI nn, oI c0, oI c1, oI c2, oI c3, oR sx, oI (Int32.ofNat f), oI (own_max to (Int32.ofNat f)), oI (Int32.ofNat (tt - f)), oR xR] [(.int (Int32.ofNat (tt - f)))]))
          refine Done.step (fun _ => XT.iconstV X9.here hx rfl (2 : Int32) (hb hby at_287) (by decide)) ?_
          show Done _ p e below s _ _ (T9.setTop (mkF m 288 #[oI pp, oI y0, oI y1, oI y2, oI y3, oI nn, oI c0, oI c1, oI c2, oI c3, oR sx, oI (Int32.ofNat f), oI (own_max to (Int32.ofNat f)), oI (Int32.ofNat (tt - f)), oR xR] [(.int (2 : Int32)), (.int (Int32.ofNat (tt - f)))]))
          refine Done.step (fun _ => XS.icmpYes X9.here hx rfl (pc0 := 288) (pc' := 317) rfl (hb hby at_288) rfl (XT.ii_le_t (own_mono (j := 1) (k := 2) hc10 (by omega) (by omega) (by omega))) (by decide) (by decide)) ?_
          show Done _ p e below s _ _ (T9.setTop (mkF m 317 #[oI pp, oI y0, oI y1, oI y2, oI y3, oI nn, oI c0, oI c1, oI c2, oI c3, oR sx, oI (Int32.ofNat f), oI (own_max to (Int32.ofNat f)), oI (Int32.ofNat (tt - f)), oR xR] []))
          refine Done.step (fun _ => XS.iload X9.here hx rfl (hb hby at_317) rfl) ?_
          show Done _ p e below s _ _ (T9.setTop (mkF m 319 #[oI pp, oI y0, oI y1, oI y2, oI y3, oI nn, oI c0, oI c1, oI c2, oI c3, oR sx, oI (Int32.ofNat f), oI (own_max to (Int32.ofNat f)), oI (Int32.ofNat (tt - f)), oR xR] [(.int (Int32.ofNat (tt - f)))]))
          refine Done.step (fun _ => XT.iconstV X9.here hx rfl (3 : Int32) (hb hby at_319) (by decide)) ?_
          show Done _ p e below s _ _ (T9.setTop (mkF m 320 #[oI pp, oI y0, oI y1, oI y2, oI y3, oI nn, oI c0, oI c1, oI c2, oI c3, oR sx, oI (Int32.ofNat f), oI (own_max to (Int32.ofNat f)), oI (Int32.ofNat (tt - f)), oR xR] [(.int (3 : Int32)), (.int (Int32.ofNat (tt - f)))]))
          refine Done.step (fun _ => XS.icmpYes X9.here hx rfl (pc0 := 320) (pc' := 349) rfl (hb hby at_320) rfl (XT.ii_le_t (own_mono (j := 2) (k := 3) (own_mono (j := 1) (k := 2) hc10 (by omega) (by omega) (by omega)) (by omega) (by omega) (by omega))) (by decide) (by decide)) ?_
          show Done _ p e below s _ _ (T9.setTop (mkF m 349 #[oI pp, oI y0, oI y1, oI y2, oI y3, oI nn, oI c0, oI c1, oI c2, oI c3, oR sx, oI (Int32.ofNat f), oI (own_max to (Int32.ofNat f)), oI (Int32.ofNat (tt - f)), oR xR] []))
          refine Done.step (fun _ => XT.iconstV X9.here hx rfl (1 : Int32) (hb hby at_349) (by decide)) ?_
          show Done _ p e below s _ _ (T9.setTop (mkF m 350 #[oI pp, oI y0, oI y1, oI y2, oI y3, oI nn, oI c0, oI c1, oI c2, oI c3, oR sx, oI (Int32.ofNat f), oI (own_max to (Int32.ofNat f)), oI (Int32.ofNat (tt - f)), oR xR] [(.int (1 : Int32))]))
          exact Done.retN (leavesW X9 hS (by first | exact hk | (rw [e9]; exact hk)) hlk (by decide) (by decide)) X9 hx (t := .boolean) hret (by simp) (hb hby at_350) ⟨rfl, N4⟩
      · refine Done.step (fun _ => XS.ifYes X6.here hx rfl (pc0 := 226) (pc' := 253) rfl (hb hby at_226) rfl (XT.i0_le_t hc7) (by decide) (by decide)) ?_
        show Done _ p e below s _ _ (T6.setTop (mkF m 253 #[oI pp, oI y0, oI y1, oI y2, oI y3, oI nn, oI c0, oI c1, oI c2, oI c3, oR sx, oI (Int32.ofNat f), oI (own_max to (Int32.ofNat f)), oI (Int32.ofNat (tt - f)), oR xR] []))
        refine Done.step (fun _ => XS.iload X6.here hx rfl (hb hby at_253) rfl) ?_
        show Done _ p e below s _ _ (T6.setTop (mkF m 255 #[oI pp, oI y0, oI y1, oI y2, oI y3, oI nn, oI c0, oI c1, oI c2, oI c3, oR sx, oI (Int32.ofNat f), oI (own_max to (Int32.ofNat f)), oI (Int32.ofNat (tt - f)), oR xR] [(.int (Int32.ofNat (tt - f)))]))
        refine Done.step (fun _ => XT.iconstV X6.here hx rfl (1 : Int32) (hb hby at_255) (by decide)) ?_
        show Done _ p e below s _ _ (T6.setTop (mkF m 256 #[oI pp, oI y0, oI y1, oI y2, oI y3, oI nn, oI c0, oI c1, oI c2, oI c3, oR sx, oI (Int32.ofNat f), oI (own_max to (Int32.ofNat f)), oI (Int32.ofNat (tt - f)), oR xR] [(.int (1 : Int32)), (.int (Int32.ofNat (tt - f)))]))
        refine Done.step (fun _ => XS.icmpYes X6.here hx rfl (pc0 := 256) (pc' := 285) rfl (hb hby at_256) rfl (XT.ii_le_t (own_mono (j := 0) (k := 1) hc7 (by omega) (by omega) (by omega))) (by decide) (by decide)) ?_
        show Done _ p e below s _ _ (T6.setTop (mkF m 285 #[oI pp, oI y0, oI y1, oI y2, oI y3, oI nn, oI c0, oI c1, oI c2, oI c3, oR sx, oI (Int32.ofNat f), oI (own_max to (Int32.ofNat f)), oI (Int32.ofNat (tt - f)), oR xR] []))
        refine Done.step (fun _ => XS.iload X6.here hx rfl (hb hby at_285) rfl) ?_
        show Done _ p e below s _ _ (T6.setTop (mkF m 287 #[oI pp, oI y0, oI y1, oI y2, oI y3, oI nn, oI c0, oI c1, oI c2, oI c3, oR sx, oI (Int32.ofNat f), oI (own_max to (Int32.ofNat f)), oI (Int32.ofNat (tt - f)), oR xR] [(.int (Int32.ofNat (tt - f)))]))
        refine Done.step (fun _ => XT.iconstV X6.here hx rfl (2 : Int32) (hb hby at_287) (by decide)) ?_
        show Done _ p e below s _ _ (T6.setTop (mkF m 288 #[oI pp, oI y0, oI y1, oI y2, oI y3, oI nn, oI c0, oI c1, oI c2, oI c3, oR sx, oI (Int32.ofNat f), oI (own_max to (Int32.ofNat f)), oI (Int32.ofNat (tt - f)), oR xR] [(.int (2 : Int32)), (.int (Int32.ofNat (tt - f)))]))
        refine Done.step (fun _ => XS.icmpYes X6.here hx rfl (pc0 := 288) (pc' := 317) rfl (hb hby at_288) rfl (XT.ii_le_t (own_mono (j := 1) (k := 2) (own_mono (j := 0) (k := 1) hc7 (by omega) (by omega) (by omega)) (by omega) (by omega) (by omega))) (by decide) (by decide)) ?_
        show Done _ p e below s _ _ (T6.setTop (mkF m 317 #[oI pp, oI y0, oI y1, oI y2, oI y3, oI nn, oI c0, oI c1, oI c2, oI c3, oR sx, oI (Int32.ofNat f), oI (own_max to (Int32.ofNat f)), oI (Int32.ofNat (tt - f)), oR xR] []))
        refine Done.step (fun _ => XS.iload X6.here hx rfl (hb hby at_317) rfl) ?_
        show Done _ p e below s _ _ (T6.setTop (mkF m 319 #[oI pp, oI y0, oI y1, oI y2, oI y3, oI nn, oI c0, oI c1, oI c2, oI c3, oR sx, oI (Int32.ofNat f), oI (own_max to (Int32.ofNat f)), oI (Int32.ofNat (tt - f)), oR xR] [(.int (Int32.ofNat (tt - f)))]))
        refine Done.step (fun _ => XT.iconstV X6.here hx rfl (3 : Int32) (hb hby at_319) (by decide)) ?_
        show Done _ p e below s _ _ (T6.setTop (mkF m 320 #[oI pp, oI y0, oI y1, oI y2, oI y3, oI nn, oI c0, oI c1, oI c2, oI c3, oR sx, oI (Int32.ofNat f), oI (own_max to (Int32.ofNat f)), oI (Int32.ofNat (tt - f)), oR xR] [(.int (3 : Int32)), (.int (Int32.ofNat (tt - f)))]))
        refine Done.step (fun _ => XS.icmpYes X6.here hx rfl (pc0 := 320) (pc' := 349) rfl (hb hby at_320) rfl (XT.ii_le_t (own_mono (j := 2) (k := 3) (own_mono (j := 1) (k := 2) (own_mono (j := 0) (k := 1) hc7 (by omega) (by omega) (by omega)) (by omega) (by omega) (by omega)) (by omega) (by omega) (by omega))) (by decide) (by decide)) ?_
        show Done _ p e below s _ _ (T6.setTop (mkF m 349 #[oI pp, oI y0, oI y1, oI y2, oI y3, oI nn, oI c0, oI c1, oI c2, oI c3, oR sx, oI (Int32.ofNat f), oI (own_max to (Int32.ofNat f)), oI (Int32.ofNat (tt - f)), oR xR] []))
        refine Done.step (fun _ => XT.iconstV X6.here hx rfl (1 : Int32) (hb hby at_349) (by decide)) ?_
        show Done _ p e below s _ _ (T6.setTop (mkF m 350 #[oI pp, oI y0, oI y1, oI y2, oI y3, oI nn, oI c0, oI c1, oI c2, oI c3, oR sx, oI (Int32.ofNat f), oI (own_max to (Int32.ofNat f)), oI (Int32.ofNat (tt - f)), oR xR] [(.int (1 : Int32))]))
        exact Done.retN (leavesW X6 hS (by first | exact hk | (rw [e6]; exact hk)) hlk (by decide) (by decide)) X6 hx (t := .boolean) hret (by simp) (hb hby at_350) ⟨rfl, N4⟩
    have J172 : ∀ (TL : State) (eL : TL.heap = T1.heap) (XL : Stand p l e room_1 (s.setVm T1.vm) m #[(.int pp), (.int y0), (.int y1), (.int y2), (.int y3)] below meth c TL ([] ++ L1) 4 20) (fr to : Int32) (hfr : fr = own_F0 nn c0 c1 c2 c3) (hto : to = own_T2 nn c0 c1 c2 c3), Done ReturnedEndW p e below s room_1 (LawQ n0) (TL.setTop (mkF m 172 #[oI pp, oI y0, oI y1, oI y2, oI y3, oI nn, oI c0, oI c1, oI c2, oI c3, oR sx, oI fr, oI to, .unset, .unset] [])) := by
      intro TL eL XL fr to hfr hto
      show Done _ p e below s _ _ (TL.setTop (mkF m 172 #[oI pp, oI y0, oI y1, oI y2, oI y3, oI nn, oI c0, oI c1, oI c2, oI c3, oR sx, oI fr, oI to, .unset, .unset] []))
      refine Done.step (fun _ => XS.iload XL.here hx rfl (hb hby at_172) rfl) ?_
      show Done _ p e below s _ _ (TL.setTop (mkF m 174 #[oI pp, oI y0, oI y1, oI y2, oI y3, oI nn, oI c0, oI c1, oI c2, oI c3, oR sx, oI fr, oI to, .unset, .unset] [(.int nn)]))
      refine Done.step (fun _ => XT.iconstV XL.here hx rfl (3 : Int32) (hb hby at_174) (by decide)) ?_
      show Done _ p e below s _ _ (TL.setTop (mkF m 175 #[oI pp, oI y0, oI y1, oI y2, oI y3, oI nn, oI c0, oI c1, oI c2, oI c3, oR sx, oI fr, oI to, .unset, .unset] [(.int (3 : Int32)), (.int nn)]))
      by_cases hc19 : (3 : Int32) < nn
      · refine Done.step (fun _ => XS.icmpNo XL.here hx rfl (hb hby at_175) rfl (XT.ii_le_f hc19)) ?_
        show Done _ p e below s _ _ (TL.setTop (mkF m 178 #[oI pp, oI y0, oI y1, oI y2, oI y3, oI nn, oI c0, oI c1, oI c2, oI c3, oR sx, oI fr, oI to, .unset, .unset] []))
        refine Done.step (fun _ => XS.iload XL.here hx rfl (hb hby at_178) rfl) ?_
        show Done _ p e below s _ _ (TL.setTop (mkF m 180 #[oI pp, oI y0, oI y1, oI y2, oI y3, oI nn, oI c0, oI c1, oI c2, oI c3, oR sx, oI fr, oI to, .unset, .unset] [(.int c3)]))
        by_cases hc20 : own_ws c3
        · refine Done.callSP XL hx hZ hown (wAt hw 75 rfl) (wAt hw 76 rfl) (wAt hw 3 rfl) (wAt hw 77 rfl) (by decide) (rWs l Z a0 hw [] c3 (1 : Int32) T1.heap n0 Zs1 (bP_t hc20).symm) eL (g := (mkF m 180 #[oI pp, oI y0, oI y1, oI y2, oI y3, oI nn, oI c0, oI c1, oI c2, oI c3, oR sx, oI fr, oI to, .unset, .unset] [(.int c3)])) rfl (by rw [hml]; rfl) [(.int c3)] [] 0 (lenOf pd_30 rfl) rfl rfl (by show 2 * 0 + _ ≤ _; exact Nat.le_of_eq rfl) (hb hby at_180) (by decide) (by decide) (by decide) (by decide) rfl rfl ?_
          intro T21 X21 e21
          show Done _ p e below s _ _ (T21.setTop (mkF m 183 #[oI pp, oI y0, oI y1, oI y2, oI y3, oI nn, oI c0, oI c1, oI c2, oI c3, oR sx, oI fr, oI to, .unset, .unset] [(.int (1 : Int32))]))
          refine Done.step (fun _ => XS.ifYes X21.here hx rfl (pc0 := 183) (pc' := 189) rfl (hb hby at_183) rfl (XT.i0_ne_t (by decide)) (by decide) (by decide)) ?_
          show Done _ p e below s _ _ (T21.setTop (mkF m 189 #[oI pp, oI y0, oI y1, oI y2, oI y3, oI nn, oI c0, oI c1, oI c2, oI c3, oR sx, oI fr, oI to, .unset, .unset] []))
          exact J189 T21 e21 X21 fr to hfr (own_stF (fun q => q.2 hc20) hto)
        · refine Done.callSP XL hx hZ hown (wAt hw 75 rfl) (wAt hw 76 rfl) (wAt hw 3 rfl) (wAt hw 77 rfl) (by decide) (rWs l Z a0 hw [] c3 (0 : Int32) T1.heap n0 Zs1 (bP_f hc20).symm) eL (g := (mkF m 180 #[oI pp, oI y0, oI y1, oI y2, oI y3, oI nn, oI c0, oI c1, oI c2, oI c3, oR sx, oI fr, oI to, .unset, .unset] [(.int c3)])) rfl (by rw [hml]; rfl) [(.int c3)] [] 0 (lenOf pd_30 rfl) rfl rfl (by show 2 * 0 + _ ≤ _; exact Nat.le_of_eq rfl) (hb hby at_180) (by decide) (by decide) (by decide) (by decide) rfl rfl ?_
          intro T22 X22 e22
          show Done _ p e below s _ _ (T22.setTop (mkF m 183 #[oI pp, oI y0, oI y1, oI y2, oI y3, oI nn, oI c0, oI c1, oI c2, oI c3, oR sx, oI fr, oI to, .unset, .unset] [(.int (0 : Int32))]))
          refine Done.step (fun _ => XS.ifNo X22.here hx rfl (hb hby at_183) rfl (XT.i0_ne_f rfl)) ?_
          show Done _ p e below s _ _ (T22.setTop (mkF m 186 #[oI pp, oI y0, oI y1, oI y2, oI y3, oI nn, oI c0, oI c1, oI c2, oI c3, oR sx, oI fr, oI to, .unset, .unset] []))
          refine Done.step (fun _ => XT.iconstV X22.here hx rfl (4 : Int32) (hb hby at_186) (by decide)) ?_
          show Done _ p e below s _ _ (T22.setTop (mkF m 187 #[oI pp, oI y0, oI y1, oI y2, oI y3, oI nn, oI c0, oI c1, oI c2, oI c3, oR sx, oI fr, oI to, .unset, .unset] [(.int (4 : Int32))]))
          refine Done.step (fun _ => XS.istore X22.here hx rfl (hb hby at_187) rfl (l' := #[oI pp, oI y0, oI y1, oI y2, oI y3, oI nn, oI c0, oI c1, oI c2, oI c3, oR sx, oI fr, oI (4 : Int32), .unset, .unset]) rfl) ?_
          show Done _ p e below s _ _ (T22.setTop (mkF m 189 #[oI pp, oI y0, oI y1, oI y2, oI y3, oI nn, oI c0, oI c1, oI c2, oI c3, oR sx, oI fr, oI (4 : Int32), .unset, .unset] []))
          exact J189 T22 e22 X22 fr (4 : Int32) hfr (own_stT ⟨hc19, hc20⟩)
      · refine Done.step (fun _ => XS.icmpYes XL.here hx rfl (pc0 := 175) (pc' := 189) rfl (hb hby at_175) rfl (XT.ii_le_t hc19) (by decide) (by decide)) ?_
        show Done _ p e below s _ _ (TL.setTop (mkF m 189 #[oI pp, oI y0, oI y1, oI y2, oI y3, oI nn, oI c0, oI c1, oI c2, oI c3, oR sx, oI fr, oI to, .unset, .unset] []))
        exact J189 TL eL XL fr to hfr (own_stF (fun q => hc19 q.1) hto)
    have J155 : ∀ (TL : State) (eL : TL.heap = T1.heap) (XL : Stand p l e room_1 (s.setVm T1.vm) m #[(.int pp), (.int y0), (.int y1), (.int y2), (.int y3)] below meth c TL ([] ++ L1) 4 20) (fr to : Int32) (hfr : fr = own_F0 nn c0 c1 c2 c3) (hto : to = own_T1 nn c0 c1 c2 c3), Done ReturnedEndW p e below s room_1 (LawQ n0) (TL.setTop (mkF m 155 #[oI pp, oI y0, oI y1, oI y2, oI y3, oI nn, oI c0, oI c1, oI c2, oI c3, oR sx, oI fr, oI to, .unset, .unset] [])) := by
      intro TL eL XL fr to hfr hto
      show Done _ p e below s _ _ (TL.setTop (mkF m 155 #[oI pp, oI y0, oI y1, oI y2, oI y3, oI nn, oI c0, oI c1, oI c2, oI c3, oR sx, oI fr, oI to, .unset, .unset] []))
      refine Done.step (fun _ => XS.iload XL.here hx rfl (hb hby at_155) rfl) ?_
      show Done _ p e below s _ _ (TL.setTop (mkF m 157 #[oI pp, oI y0, oI y1, oI y2, oI y3, oI nn, oI c0, oI c1, oI c2, oI c3, oR sx, oI fr, oI to, .unset, .unset] [(.int nn)]))
      refine Done.step (fun _ => XT.iconstV XL.here hx rfl (2 : Int32) (hb hby at_157) (by decide)) ?_
      show Done _ p e below s _ _ (TL.setTop (mkF m 158 #[oI pp, oI y0, oI y1, oI y2, oI y3, oI nn, oI c0, oI c1, oI c2, oI c3, oR sx, oI fr, oI to, .unset, .unset] [(.int (2 : Int32)), (.int nn)]))
      by_cases hc23 : (2 : Int32) < nn
      · refine Done.step (fun _ => XS.icmpNo XL.here hx rfl (hb hby at_158) rfl (XT.ii_le_f hc23)) ?_
        show Done _ p e below s _ _ (TL.setTop (mkF m 161 #[oI pp, oI y0, oI y1, oI y2, oI y3, oI nn, oI c0, oI c1, oI c2, oI c3, oR sx, oI fr, oI to, .unset, .unset] []))
        refine Done.step (fun _ => XS.iload XL.here hx rfl (hb hby at_161) rfl) ?_
        show Done _ p e below s _ _ (TL.setTop (mkF m 163 #[oI pp, oI y0, oI y1, oI y2, oI y3, oI nn, oI c0, oI c1, oI c2, oI c3, oR sx, oI fr, oI to, .unset, .unset] [(.int c2)]))
        by_cases hc24 : own_ws c2
        · refine Done.callSP XL hx hZ hown (wAt hw 75 rfl) (wAt hw 76 rfl) (wAt hw 3 rfl) (wAt hw 77 rfl) (by decide) (rWs l Z a0 hw [] c2 (1 : Int32) T1.heap n0 Zs1 (bP_t hc24).symm) eL (g := (mkF m 163 #[oI pp, oI y0, oI y1, oI y2, oI y3, oI nn, oI c0, oI c1, oI c2, oI c3, oR sx, oI fr, oI to, .unset, .unset] [(.int c2)])) rfl (by rw [hml]; rfl) [(.int c2)] [] 0 (lenOf pd_30 rfl) rfl rfl (by show 2 * 0 + _ ≤ _; exact Nat.le_of_eq rfl) (hb hby at_163) (by decide) (by decide) (by decide) (by decide) rfl rfl ?_
          intro T25 X25 e25
          show Done _ p e below s _ _ (T25.setTop (mkF m 166 #[oI pp, oI y0, oI y1, oI y2, oI y3, oI nn, oI c0, oI c1, oI c2, oI c3, oR sx, oI fr, oI to, .unset, .unset] [(.int (1 : Int32))]))
          refine Done.step (fun _ => XS.ifYes X25.here hx rfl (pc0 := 166) (pc' := 172) rfl (hb hby at_166) rfl (XT.i0_ne_t (by decide)) (by decide) (by decide)) ?_
          show Done _ p e below s _ _ (T25.setTop (mkF m 172 #[oI pp, oI y0, oI y1, oI y2, oI y3, oI nn, oI c0, oI c1, oI c2, oI c3, oR sx, oI fr, oI to, .unset, .unset] []))
          exact J172 T25 e25 X25 fr to hfr (own_stF (fun q => q.2 hc24) hto)
        · refine Done.callSP XL hx hZ hown (wAt hw 75 rfl) (wAt hw 76 rfl) (wAt hw 3 rfl) (wAt hw 77 rfl) (by decide) (rWs l Z a0 hw [] c2 (0 : Int32) T1.heap n0 Zs1 (bP_f hc24).symm) eL (g := (mkF m 163 #[oI pp, oI y0, oI y1, oI y2, oI y3, oI nn, oI c0, oI c1, oI c2, oI c3, oR sx, oI fr, oI to, .unset, .unset] [(.int c2)])) rfl (by rw [hml]; rfl) [(.int c2)] [] 0 (lenOf pd_30 rfl) rfl rfl (by show 2 * 0 + _ ≤ _; exact Nat.le_of_eq rfl) (hb hby at_163) (by decide) (by decide) (by decide) (by decide) rfl rfl ?_
          intro T26 X26 e26
          show Done _ p e below s _ _ (T26.setTop (mkF m 166 #[oI pp, oI y0, oI y1, oI y2, oI y3, oI nn, oI c0, oI c1, oI c2, oI c3, oR sx, oI fr, oI to, .unset, .unset] [(.int (0 : Int32))]))
          refine Done.step (fun _ => XS.ifNo X26.here hx rfl (hb hby at_166) rfl (XT.i0_ne_f rfl)) ?_
          show Done _ p e below s _ _ (T26.setTop (mkF m 169 #[oI pp, oI y0, oI y1, oI y2, oI y3, oI nn, oI c0, oI c1, oI c2, oI c3, oR sx, oI fr, oI to, .unset, .unset] []))
          refine Done.step (fun _ => XT.iconstV X26.here hx rfl (3 : Int32) (hb hby at_169) (by decide)) ?_
          show Done _ p e below s _ _ (T26.setTop (mkF m 170 #[oI pp, oI y0, oI y1, oI y2, oI y3, oI nn, oI c0, oI c1, oI c2, oI c3, oR sx, oI fr, oI to, .unset, .unset] [(.int (3 : Int32))]))
          refine Done.step (fun _ => XS.istore X26.here hx rfl (hb hby at_170) rfl (l' := #[oI pp, oI y0, oI y1, oI y2, oI y3, oI nn, oI c0, oI c1, oI c2, oI c3, oR sx, oI fr, oI (3 : Int32), .unset, .unset]) rfl) ?_
          show Done _ p e below s _ _ (T26.setTop (mkF m 172 #[oI pp, oI y0, oI y1, oI y2, oI y3, oI nn, oI c0, oI c1, oI c2, oI c3, oR sx, oI fr, oI (3 : Int32), .unset, .unset] []))
          exact J172 T26 e26 X26 fr (3 : Int32) hfr (own_stT ⟨hc23, hc24⟩)
      · refine Done.step (fun _ => XS.icmpYes XL.here hx rfl (pc0 := 158) (pc' := 172) rfl (hb hby at_158) rfl (XT.ii_le_t hc23) (by decide) (by decide)) ?_
        show Done _ p e below s _ _ (TL.setTop (mkF m 172 #[oI pp, oI y0, oI y1, oI y2, oI y3, oI nn, oI c0, oI c1, oI c2, oI c3, oR sx, oI fr, oI to, .unset, .unset] []))
        exact J172 TL eL XL fr to hfr (own_stF (fun q => hc23 q.1) hto)
    have J138 : ∀ (TL : State) (eL : TL.heap = T1.heap) (XL : Stand p l e room_1 (s.setVm T1.vm) m #[(.int pp), (.int y0), (.int y1), (.int y2), (.int y3)] below meth c TL ([] ++ L1) 4 20) (fr to : Int32) (hfr : fr = own_F0 nn c0 c1 c2 c3) (hto : to = own_T0 nn c0 c1 c2 c3), Done ReturnedEndW p e below s room_1 (LawQ n0) (TL.setTop (mkF m 138 #[oI pp, oI y0, oI y1, oI y2, oI y3, oI nn, oI c0, oI c1, oI c2, oI c3, oR sx, oI fr, oI to, .unset, .unset] [])) := by
      intro TL eL XL fr to hfr hto
      show Done _ p e below s _ _ (TL.setTop (mkF m 138 #[oI pp, oI y0, oI y1, oI y2, oI y3, oI nn, oI c0, oI c1, oI c2, oI c3, oR sx, oI fr, oI to, .unset, .unset] []))
      refine Done.step (fun _ => XS.iload XL.here hx rfl (hb hby at_138) rfl) ?_
      show Done _ p e below s _ _ (TL.setTop (mkF m 140 #[oI pp, oI y0, oI y1, oI y2, oI y3, oI nn, oI c0, oI c1, oI c2, oI c3, oR sx, oI fr, oI to, .unset, .unset] [(.int nn)]))
      refine Done.step (fun _ => XT.iconstV XL.here hx rfl (1 : Int32) (hb hby at_140) (by decide)) ?_
      show Done _ p e below s _ _ (TL.setTop (mkF m 141 #[oI pp, oI y0, oI y1, oI y2, oI y3, oI nn, oI c0, oI c1, oI c2, oI c3, oR sx, oI fr, oI to, .unset, .unset] [(.int (1 : Int32)), (.int nn)]))
      by_cases hc27 : (1 : Int32) < nn
      · refine Done.step (fun _ => XS.icmpNo XL.here hx rfl (hb hby at_141) rfl (XT.ii_le_f hc27)) ?_
        show Done _ p e below s _ _ (TL.setTop (mkF m 144 #[oI pp, oI y0, oI y1, oI y2, oI y3, oI nn, oI c0, oI c1, oI c2, oI c3, oR sx, oI fr, oI to, .unset, .unset] []))
        refine Done.step (fun _ => XS.iload XL.here hx rfl (hb hby at_144) rfl) ?_
        show Done _ p e below s _ _ (TL.setTop (mkF m 146 #[oI pp, oI y0, oI y1, oI y2, oI y3, oI nn, oI c0, oI c1, oI c2, oI c3, oR sx, oI fr, oI to, .unset, .unset] [(.int c1)]))
        by_cases hc28 : own_ws c1
        · refine Done.callSP XL hx hZ hown (wAt hw 75 rfl) (wAt hw 76 rfl) (wAt hw 3 rfl) (wAt hw 77 rfl) (by decide) (rWs l Z a0 hw [] c1 (1 : Int32) T1.heap n0 Zs1 (bP_t hc28).symm) eL (g := (mkF m 146 #[oI pp, oI y0, oI y1, oI y2, oI y3, oI nn, oI c0, oI c1, oI c2, oI c3, oR sx, oI fr, oI to, .unset, .unset] [(.int c1)])) rfl (by rw [hml]; rfl) [(.int c1)] [] 0 (lenOf pd_30 rfl) rfl rfl (by show 2 * 0 + _ ≤ _; exact Nat.le_of_eq rfl) (hb hby at_146) (by decide) (by decide) (by decide) (by decide) rfl rfl ?_
          intro T29 X29 e29
          show Done _ p e below s _ _ (T29.setTop (mkF m 149 #[oI pp, oI y0, oI y1, oI y2, oI y3, oI nn, oI c0, oI c1, oI c2, oI c3, oR sx, oI fr, oI to, .unset, .unset] [(.int (1 : Int32))]))
          refine Done.step (fun _ => XS.ifYes X29.here hx rfl (pc0 := 149) (pc' := 155) rfl (hb hby at_149) rfl (XT.i0_ne_t (by decide)) (by decide) (by decide)) ?_
          show Done _ p e below s _ _ (T29.setTop (mkF m 155 #[oI pp, oI y0, oI y1, oI y2, oI y3, oI nn, oI c0, oI c1, oI c2, oI c3, oR sx, oI fr, oI to, .unset, .unset] []))
          exact J155 T29 e29 X29 fr to hfr (own_stF (fun q => q.2 hc28) hto)
        · refine Done.callSP XL hx hZ hown (wAt hw 75 rfl) (wAt hw 76 rfl) (wAt hw 3 rfl) (wAt hw 77 rfl) (by decide) (rWs l Z a0 hw [] c1 (0 : Int32) T1.heap n0 Zs1 (bP_f hc28).symm) eL (g := (mkF m 146 #[oI pp, oI y0, oI y1, oI y2, oI y3, oI nn, oI c0, oI c1, oI c2, oI c3, oR sx, oI fr, oI to, .unset, .unset] [(.int c1)])) rfl (by rw [hml]; rfl) [(.int c1)] [] 0 (lenOf pd_30 rfl) rfl rfl (by show 2 * 0 + _ ≤ _; exact Nat.le_of_eq rfl) (hb hby at_146) (by decide) (by decide) (by decide) (by decide) rfl rfl ?_
          intro T30 X30 e30
          show Done _ p e below s _ _ (T30.setTop (mkF m 149 #[oI pp, oI y0, oI y1, oI y2, oI y3, oI nn, oI c0, oI c1, oI c2, oI c3, oR sx, oI fr, oI to, .unset, .unset] [(.int (0 : Int32))]))
          refine Done.step (fun _ => XS.ifNo X30.here hx rfl (hb hby at_149) rfl (XT.i0_ne_f rfl)) ?_
          show Done _ p e below s _ _ (T30.setTop (mkF m 152 #[oI pp, oI y0, oI y1, oI y2, oI y3, oI nn, oI c0, oI c1, oI c2, oI c3, oR sx, oI fr, oI to, .unset, .unset] []))
          refine Done.step (fun _ => XT.iconstV X30.here hx rfl (2 : Int32) (hb hby at_152) (by decide)) ?_
          show Done _ p e below s _ _ (T30.setTop (mkF m 153 #[oI pp, oI y0, oI y1, oI y2, oI y3, oI nn, oI c0, oI c1, oI c2, oI c3, oR sx, oI fr, oI to, .unset, .unset] [(.int (2 : Int32))]))
          refine Done.step (fun _ => XS.istore X30.here hx rfl (hb hby at_153) rfl (l' := #[oI pp, oI y0, oI y1, oI y2, oI y3, oI nn, oI c0, oI c1, oI c2, oI c3, oR sx, oI fr, oI (2 : Int32), .unset, .unset]) rfl) ?_
          show Done _ p e below s _ _ (T30.setTop (mkF m 155 #[oI pp, oI y0, oI y1, oI y2, oI y3, oI nn, oI c0, oI c1, oI c2, oI c3, oR sx, oI fr, oI (2 : Int32), .unset, .unset] []))
          exact J155 T30 e30 X30 fr (2 : Int32) hfr (own_stT ⟨hc27, hc28⟩)
      · refine Done.step (fun _ => XS.icmpYes XL.here hx rfl (pc0 := 141) (pc' := 155) rfl (hb hby at_141) rfl (XT.ii_le_t hc27) (by decide) (by decide)) ?_
        show Done _ p e below s _ _ (TL.setTop (mkF m 155 #[oI pp, oI y0, oI y1, oI y2, oI y3, oI nn, oI c0, oI c1, oI c2, oI c3, oR sx, oI fr, oI to, .unset, .unset] []))
        exact J155 TL eL XL fr to hfr (own_stF (fun q => hc27 q.1) hto)
    have J119 : ∀ (TL : State) (eL : TL.heap = T1.heap) (XL : Stand p l e room_1 (s.setVm T1.vm) m #[(.int pp), (.int y0), (.int y1), (.int y2), (.int y3)] below meth c TL ([] ++ L1) 4 20) (fr : Int32) (hfr : fr = own_F0 nn c0 c1 c2 c3), Done ReturnedEndW p e below s room_1 (LawQ n0) (TL.setTop (mkF m 119 #[oI pp, oI y0, oI y1, oI y2, oI y3, oI nn, oI c0, oI c1, oI c2, oI c3, oR sx, oI fr, .unset, .unset, .unset] [])) := by
      intro TL eL XL fr hfr
      show Done _ p e below s _ _ (TL.setTop (mkF m 119 #[oI pp, oI y0, oI y1, oI y2, oI y3, oI nn, oI c0, oI c1, oI c2, oI c3, oR sx, oI fr, .unset, .unset, .unset] []))
      refine Done.step (fun _ => XT.iconstV XL.here hx rfl (0 : Int32) (hb hby at_119) (by decide)) ?_
      show Done _ p e below s _ _ (TL.setTop (mkF m 120 #[oI pp, oI y0, oI y1, oI y2, oI y3, oI nn, oI c0, oI c1, oI c2, oI c3, oR sx, oI fr, .unset, .unset, .unset] [(.int (0 : Int32))]))
      refine Done.step (fun _ => XS.istore XL.here hx rfl (hb hby at_120) rfl (l' := #[oI pp, oI y0, oI y1, oI y2, oI y3, oI nn, oI c0, oI c1, oI c2, oI c3, oR sx, oI fr, oI (0 : Int32), .unset, .unset]) rfl) ?_
      show Done _ p e below s _ _ (TL.setTop (mkF m 122 #[oI pp, oI y0, oI y1, oI y2, oI y3, oI nn, oI c0, oI c1, oI c2, oI c3, oR sx, oI fr, oI (0 : Int32), .unset, .unset] []))
      refine Done.step (fun _ => XS.iload XL.here hx rfl (hb hby at_122) rfl) ?_
      show Done _ p e below s _ _ (TL.setTop (mkF m 124 #[oI pp, oI y0, oI y1, oI y2, oI y3, oI nn, oI c0, oI c1, oI c2, oI c3, oR sx, oI fr, oI (0 : Int32), .unset, .unset] [(.int nn)]))
      by_cases hc31 : (0 : Int32) < nn
      · refine Done.step (fun _ => XS.ifNo XL.here hx rfl (hb hby at_124) rfl (XT.i0_le_f hc31)) ?_
        show Done _ p e below s _ _ (TL.setTop (mkF m 127 #[oI pp, oI y0, oI y1, oI y2, oI y3, oI nn, oI c0, oI c1, oI c2, oI c3, oR sx, oI fr, oI (0 : Int32), .unset, .unset] []))
        refine Done.step (fun _ => XS.iload XL.here hx rfl (hb hby at_127) rfl) ?_
        show Done _ p e below s _ _ (TL.setTop (mkF m 129 #[oI pp, oI y0, oI y1, oI y2, oI y3, oI nn, oI c0, oI c1, oI c2, oI c3, oR sx, oI fr, oI (0 : Int32), .unset, .unset] [(.int c0)]))
        by_cases hc32 : own_ws c0
        · refine Done.callSP XL hx hZ hown (wAt hw 75 rfl) (wAt hw 76 rfl) (wAt hw 3 rfl) (wAt hw 77 rfl) (by decide) (rWs l Z a0 hw [] c0 (1 : Int32) T1.heap n0 Zs1 (bP_t hc32).symm) eL (g := (mkF m 129 #[oI pp, oI y0, oI y1, oI y2, oI y3, oI nn, oI c0, oI c1, oI c2, oI c3, oR sx, oI fr, oI (0 : Int32), .unset, .unset] [(.int c0)])) rfl (by rw [hml]; rfl) [(.int c0)] [] 0 (lenOf pd_30 rfl) rfl rfl (by show 2 * 0 + _ ≤ _; exact Nat.le_of_eq rfl) (hb hby at_129) (by decide) (by decide) (by decide) (by decide) rfl rfl ?_
          intro T33 X33 e33
          show Done _ p e below s _ _ (T33.setTop (mkF m 132 #[oI pp, oI y0, oI y1, oI y2, oI y3, oI nn, oI c0, oI c1, oI c2, oI c3, oR sx, oI fr, oI (0 : Int32), .unset, .unset] [(.int (1 : Int32))]))
          refine Done.step (fun _ => XS.ifYes X33.here hx rfl (pc0 := 132) (pc' := 138) rfl (hb hby at_132) rfl (XT.i0_ne_t (by decide)) (by decide) (by decide)) ?_
          show Done _ p e below s _ _ (T33.setTop (mkF m 138 #[oI pp, oI y0, oI y1, oI y2, oI y3, oI nn, oI c0, oI c1, oI c2, oI c3, oR sx, oI fr, oI (0 : Int32), .unset, .unset] []))
          exact J138 T33 e33 X33 fr (0 : Int32) hfr (own_stF (fun q => q.2 hc32) rfl)
        · refine Done.callSP XL hx hZ hown (wAt hw 75 rfl) (wAt hw 76 rfl) (wAt hw 3 rfl) (wAt hw 77 rfl) (by decide) (rWs l Z a0 hw [] c0 (0 : Int32) T1.heap n0 Zs1 (bP_f hc32).symm) eL (g := (mkF m 129 #[oI pp, oI y0, oI y1, oI y2, oI y3, oI nn, oI c0, oI c1, oI c2, oI c3, oR sx, oI fr, oI (0 : Int32), .unset, .unset] [(.int c0)])) rfl (by rw [hml]; rfl) [(.int c0)] [] 0 (lenOf pd_30 rfl) rfl rfl (by show 2 * 0 + _ ≤ _; exact Nat.le_of_eq rfl) (hb hby at_129) (by decide) (by decide) (by decide) (by decide) rfl rfl ?_
          intro T34 X34 e34
          show Done _ p e below s _ _ (T34.setTop (mkF m 132 #[oI pp, oI y0, oI y1, oI y2, oI y3, oI nn, oI c0, oI c1, oI c2, oI c3, oR sx, oI fr, oI (0 : Int32), .unset, .unset] [(.int (0 : Int32))]))
          refine Done.step (fun _ => XS.ifNo X34.here hx rfl (hb hby at_132) rfl (XT.i0_ne_f rfl)) ?_
          show Done _ p e below s _ _ (T34.setTop (mkF m 135 #[oI pp, oI y0, oI y1, oI y2, oI y3, oI nn, oI c0, oI c1, oI c2, oI c3, oR sx, oI fr, oI (0 : Int32), .unset, .unset] []))
          refine Done.step (fun _ => XT.iconstV X34.here hx rfl (1 : Int32) (hb hby at_135) (by decide)) ?_
          show Done _ p e below s _ _ (T34.setTop (mkF m 136 #[oI pp, oI y0, oI y1, oI y2, oI y3, oI nn, oI c0, oI c1, oI c2, oI c3, oR sx, oI fr, oI (0 : Int32), .unset, .unset] [(.int (1 : Int32))]))
          refine Done.step (fun _ => XS.istore X34.here hx rfl (hb hby at_136) rfl (l' := #[oI pp, oI y0, oI y1, oI y2, oI y3, oI nn, oI c0, oI c1, oI c2, oI c3, oR sx, oI fr, oI (1 : Int32), .unset, .unset]) rfl) ?_
          show Done _ p e below s _ _ (T34.setTop (mkF m 138 #[oI pp, oI y0, oI y1, oI y2, oI y3, oI nn, oI c0, oI c1, oI c2, oI c3, oR sx, oI fr, oI (1 : Int32), .unset, .unset] []))
          exact J138 T34 e34 X34 fr (1 : Int32) hfr (own_stT ⟨hc31, hc32⟩)
      · refine Done.step (fun _ => XS.ifYes XL.here hx rfl (pc0 := 124) (pc' := 138) rfl (hb hby at_124) rfl (XT.i0_le_t hc31) (by decide) (by decide)) ?_
        show Done _ p e below s _ _ (TL.setTop (mkF m 138 #[oI pp, oI y0, oI y1, oI y2, oI y3, oI nn, oI c0, oI c1, oI c2, oI c3, oR sx, oI fr, oI (0 : Int32), .unset, .unset] []))
        exact J138 TL eL XL fr (0 : Int32) hfr (own_stF (fun q => hc31 q.1) rfl)
    have J103 : ∀ (TL : State) (eL : TL.heap = T1.heap) (XL : Stand p l e room_1 (s.setVm T1.vm) m #[(.int pp), (.int y0), (.int y1), (.int y2), (.int y3)] below meth c TL ([] ++ L1) 4 20) (fr : Int32) (hfr : fr = own_F1 nn c0 c1 c2 c3), Done ReturnedEndW p e below s room_1 (LawQ n0) (TL.setTop (mkF m 103 #[oI pp, oI y0, oI y1, oI y2, oI y3, oI nn, oI c0, oI c1, oI c2, oI c3, oR sx, oI fr, .unset, .unset, .unset] [])) := by
      intro TL eL XL fr hfr
      show Done _ p e below s _ _ (TL.setTop (mkF m 103 #[oI pp, oI y0, oI y1, oI y2, oI y3, oI nn, oI c0, oI c1, oI c2, oI c3, oR sx, oI fr, .unset, .unset, .unset] []))
      refine Done.step (fun _ => XS.iload XL.here hx rfl (hb hby at_103) rfl) ?_
      show Done _ p e below s _ _ (TL.setTop (mkF m 105 #[oI pp, oI y0, oI y1, oI y2, oI y3, oI nn, oI c0, oI c1, oI c2, oI c3, oR sx, oI fr, .unset, .unset, .unset] [(.int nn)]))
      by_cases hc35 : (0 : Int32) < nn
      · refine Done.step (fun _ => XS.ifNo XL.here hx rfl (hb hby at_105) rfl (XT.i0_le_f hc35)) ?_
        show Done _ p e below s _ _ (TL.setTop (mkF m 108 #[oI pp, oI y0, oI y1, oI y2, oI y3, oI nn, oI c0, oI c1, oI c2, oI c3, oR sx, oI fr, .unset, .unset, .unset] []))
        refine Done.step (fun _ => XS.iload XL.here hx rfl (hb hby at_108) rfl) ?_
        show Done _ p e below s _ _ (TL.setTop (mkF m 110 #[oI pp, oI y0, oI y1, oI y2, oI y3, oI nn, oI c0, oI c1, oI c2, oI c3, oR sx, oI fr, .unset, .unset, .unset] [(.int c0)]))
        by_cases hc36 : own_ws c0
        · refine Done.callSP XL hx hZ hown (wAt hw 75 rfl) (wAt hw 76 rfl) (wAt hw 3 rfl) (wAt hw 77 rfl) (by decide) (rWs l Z a0 hw [] c0 (1 : Int32) T1.heap n0 Zs1 (bP_t hc36).symm) eL (g := (mkF m 110 #[oI pp, oI y0, oI y1, oI y2, oI y3, oI nn, oI c0, oI c1, oI c2, oI c3, oR sx, oI fr, .unset, .unset, .unset] [(.int c0)])) rfl (by rw [hml]; rfl) [(.int c0)] [] 0 (lenOf pd_30 rfl) rfl rfl (by show 2 * 0 + _ ≤ _; exact Nat.le_of_eq rfl) (hb hby at_110) (by decide) (by decide) (by decide) (by decide) rfl rfl ?_
          intro T37 X37 e37
          show Done _ p e below s _ _ (T37.setTop (mkF m 113 #[oI pp, oI y0, oI y1, oI y2, oI y3, oI nn, oI c0, oI c1, oI c2, oI c3, oR sx, oI fr, .unset, .unset, .unset] [(.int (1 : Int32))]))
          refine Done.step (fun _ => XS.ifYes X37.here hx rfl (pc0 := 113) (pc' := 119) rfl (hb hby at_113) rfl (XT.i0_ne_t (by decide)) (by decide) (by decide)) ?_
          show Done _ p e below s _ _ (T37.setTop (mkF m 119 #[oI pp, oI y0, oI y1, oI y2, oI y3, oI nn, oI c0, oI c1, oI c2, oI c3, oR sx, oI fr, .unset, .unset, .unset] []))
          exact J119 T37 e37 X37 fr (own_stF (fun q => q.2 hc36) hfr)
        · refine Done.callSP XL hx hZ hown (wAt hw 75 rfl) (wAt hw 76 rfl) (wAt hw 3 rfl) (wAt hw 77 rfl) (by decide) (rWs l Z a0 hw [] c0 (0 : Int32) T1.heap n0 Zs1 (bP_f hc36).symm) eL (g := (mkF m 110 #[oI pp, oI y0, oI y1, oI y2, oI y3, oI nn, oI c0, oI c1, oI c2, oI c3, oR sx, oI fr, .unset, .unset, .unset] [(.int c0)])) rfl (by rw [hml]; rfl) [(.int c0)] [] 0 (lenOf pd_30 rfl) rfl rfl (by show 2 * 0 + _ ≤ _; exact Nat.le_of_eq rfl) (hb hby at_110) (by decide) (by decide) (by decide) (by decide) rfl rfl ?_
          intro T38 X38 e38
          show Done _ p e below s _ _ (T38.setTop (mkF m 113 #[oI pp, oI y0, oI y1, oI y2, oI y3, oI nn, oI c0, oI c1, oI c2, oI c3, oR sx, oI fr, .unset, .unset, .unset] [(.int (0 : Int32))]))
          refine Done.step (fun _ => XS.ifNo X38.here hx rfl (hb hby at_113) rfl (XT.i0_ne_f rfl)) ?_
          show Done _ p e below s _ _ (T38.setTop (mkF m 116 #[oI pp, oI y0, oI y1, oI y2, oI y3, oI nn, oI c0, oI c1, oI c2, oI c3, oR sx, oI fr, .unset, .unset, .unset] []))
          refine Done.step (fun _ => XT.iconstV X38.here hx rfl (0 : Int32) (hb hby at_116) (by decide)) ?_
          show Done _ p e below s _ _ (T38.setTop (mkF m 117 #[oI pp, oI y0, oI y1, oI y2, oI y3, oI nn, oI c0, oI c1, oI c2, oI c3, oR sx, oI fr, .unset, .unset, .unset] [(.int (0 : Int32))]))
          refine Done.step (fun _ => XS.istore X38.here hx rfl (hb hby at_117) rfl (l' := #[oI pp, oI y0, oI y1, oI y2, oI y3, oI nn, oI c0, oI c1, oI c2, oI c3, oR sx, oI (0 : Int32), .unset, .unset, .unset]) rfl) ?_
          show Done _ p e below s _ _ (T38.setTop (mkF m 119 #[oI pp, oI y0, oI y1, oI y2, oI y3, oI nn, oI c0, oI c1, oI c2, oI c3, oR sx, oI (0 : Int32), .unset, .unset, .unset] []))
          exact J119 T38 e38 X38 (0 : Int32) (own_stT ⟨hc35, hc36⟩)
      · refine Done.step (fun _ => XS.ifYes XL.here hx rfl (pc0 := 105) (pc' := 119) rfl (hb hby at_105) rfl (XT.i0_le_t hc35) (by decide) (by decide)) ?_
        show Done _ p e below s _ _ (TL.setTop (mkF m 119 #[oI pp, oI y0, oI y1, oI y2, oI y3, oI nn, oI c0, oI c1, oI c2, oI c3, oR sx, oI fr, .unset, .unset, .unset] []))
        exact J119 TL eL XL fr (own_stF (fun q => hc35 q.1) hfr)
    have J86 : ∀ (TL : State) (eL : TL.heap = T1.heap) (XL : Stand p l e room_1 (s.setVm T1.vm) m #[(.int pp), (.int y0), (.int y1), (.int y2), (.int y3)] below meth c TL ([] ++ L1) 4 20) (fr : Int32) (hfr : fr = own_F2 nn c0 c1 c2 c3), Done ReturnedEndW p e below s room_1 (LawQ n0) (TL.setTop (mkF m 86 #[oI pp, oI y0, oI y1, oI y2, oI y3, oI nn, oI c0, oI c1, oI c2, oI c3, oR sx, oI fr, .unset, .unset, .unset] [])) := by
      intro TL eL XL fr hfr
      show Done _ p e below s _ _ (TL.setTop (mkF m 86 #[oI pp, oI y0, oI y1, oI y2, oI y3, oI nn, oI c0, oI c1, oI c2, oI c3, oR sx, oI fr, .unset, .unset, .unset] []))
      refine Done.step (fun _ => XS.iload XL.here hx rfl (hb hby at_86) rfl) ?_
      show Done _ p e below s _ _ (TL.setTop (mkF m 88 #[oI pp, oI y0, oI y1, oI y2, oI y3, oI nn, oI c0, oI c1, oI c2, oI c3, oR sx, oI fr, .unset, .unset, .unset] [(.int nn)]))
      refine Done.step (fun _ => XT.iconstV XL.here hx rfl (1 : Int32) (hb hby at_88) (by decide)) ?_
      show Done _ p e below s _ _ (TL.setTop (mkF m 89 #[oI pp, oI y0, oI y1, oI y2, oI y3, oI nn, oI c0, oI c1, oI c2, oI c3, oR sx, oI fr, .unset, .unset, .unset] [(.int (1 : Int32)), (.int nn)]))
      by_cases hc39 : (1 : Int32) < nn
      · refine Done.step (fun _ => XS.icmpNo XL.here hx rfl (hb hby at_89) rfl (XT.ii_le_f hc39)) ?_
        show Done _ p e below s _ _ (TL.setTop (mkF m 92 #[oI pp, oI y0, oI y1, oI y2, oI y3, oI nn, oI c0, oI c1, oI c2, oI c3, oR sx, oI fr, .unset, .unset, .unset] []))
        refine Done.step (fun _ => XS.iload XL.here hx rfl (hb hby at_92) rfl) ?_
        show Done _ p e below s _ _ (TL.setTop (mkF m 94 #[oI pp, oI y0, oI y1, oI y2, oI y3, oI nn, oI c0, oI c1, oI c2, oI c3, oR sx, oI fr, .unset, .unset, .unset] [(.int c1)]))
        by_cases hc40 : own_ws c1
        · refine Done.callSP XL hx hZ hown (wAt hw 75 rfl) (wAt hw 76 rfl) (wAt hw 3 rfl) (wAt hw 77 rfl) (by decide) (rWs l Z a0 hw [] c1 (1 : Int32) T1.heap n0 Zs1 (bP_t hc40).symm) eL (g := (mkF m 94 #[oI pp, oI y0, oI y1, oI y2, oI y3, oI nn, oI c0, oI c1, oI c2, oI c3, oR sx, oI fr, .unset, .unset, .unset] [(.int c1)])) rfl (by rw [hml]; rfl) [(.int c1)] [] 0 (lenOf pd_30 rfl) rfl rfl (by show 2 * 0 + _ ≤ _; exact Nat.le_of_eq rfl) (hb hby at_94) (by decide) (by decide) (by decide) (by decide) rfl rfl ?_
          intro T41 X41 e41
          show Done _ p e below s _ _ (T41.setTop (mkF m 97 #[oI pp, oI y0, oI y1, oI y2, oI y3, oI nn, oI c0, oI c1, oI c2, oI c3, oR sx, oI fr, .unset, .unset, .unset] [(.int (1 : Int32))]))
          refine Done.step (fun _ => XS.ifYes X41.here hx rfl (pc0 := 97) (pc' := 103) rfl (hb hby at_97) rfl (XT.i0_ne_t (by decide)) (by decide) (by decide)) ?_
          show Done _ p e below s _ _ (T41.setTop (mkF m 103 #[oI pp, oI y0, oI y1, oI y2, oI y3, oI nn, oI c0, oI c1, oI c2, oI c3, oR sx, oI fr, .unset, .unset, .unset] []))
          exact J103 T41 e41 X41 fr (own_stF (fun q => q.2 hc40) hfr)
        · refine Done.callSP XL hx hZ hown (wAt hw 75 rfl) (wAt hw 76 rfl) (wAt hw 3 rfl) (wAt hw 77 rfl) (by decide) (rWs l Z a0 hw [] c1 (0 : Int32) T1.heap n0 Zs1 (bP_f hc40).symm) eL (g := (mkF m 94 #[oI pp, oI y0, oI y1, oI y2, oI y3, oI nn, oI c0, oI c1, oI c2, oI c3, oR sx, oI fr, .unset, .unset, .unset] [(.int c1)])) rfl (by rw [hml]; rfl) [(.int c1)] [] 0 (lenOf pd_30 rfl) rfl rfl (by show 2 * 0 + _ ≤ _; exact Nat.le_of_eq rfl) (hb hby at_94) (by decide) (by decide) (by decide) (by decide) rfl rfl ?_
          intro T42 X42 e42
          show Done _ p e below s _ _ (T42.setTop (mkF m 97 #[oI pp, oI y0, oI y1, oI y2, oI y3, oI nn, oI c0, oI c1, oI c2, oI c3, oR sx, oI fr, .unset, .unset, .unset] [(.int (0 : Int32))]))
          refine Done.step (fun _ => XS.ifNo X42.here hx rfl (hb hby at_97) rfl (XT.i0_ne_f rfl)) ?_
          show Done _ p e below s _ _ (T42.setTop (mkF m 100 #[oI pp, oI y0, oI y1, oI y2, oI y3, oI nn, oI c0, oI c1, oI c2, oI c3, oR sx, oI fr, .unset, .unset, .unset] []))
          refine Done.step (fun _ => XT.iconstV X42.here hx rfl (1 : Int32) (hb hby at_100) (by decide)) ?_
          show Done _ p e below s _ _ (T42.setTop (mkF m 101 #[oI pp, oI y0, oI y1, oI y2, oI y3, oI nn, oI c0, oI c1, oI c2, oI c3, oR sx, oI fr, .unset, .unset, .unset] [(.int (1 : Int32))]))
          refine Done.step (fun _ => XS.istore X42.here hx rfl (hb hby at_101) rfl (l' := #[oI pp, oI y0, oI y1, oI y2, oI y3, oI nn, oI c0, oI c1, oI c2, oI c3, oR sx, oI (1 : Int32), .unset, .unset, .unset]) rfl) ?_
          show Done _ p e below s _ _ (T42.setTop (mkF m 103 #[oI pp, oI y0, oI y1, oI y2, oI y3, oI nn, oI c0, oI c1, oI c2, oI c3, oR sx, oI (1 : Int32), .unset, .unset, .unset] []))
          exact J103 T42 e42 X42 (1 : Int32) (own_stT ⟨hc39, hc40⟩)
      · refine Done.step (fun _ => XS.icmpYes XL.here hx rfl (pc0 := 89) (pc' := 103) rfl (hb hby at_89) rfl (XT.ii_le_t hc39) (by decide) (by decide)) ?_
        show Done _ p e below s _ _ (TL.setTop (mkF m 103 #[oI pp, oI y0, oI y1, oI y2, oI y3, oI nn, oI c0, oI c1, oI c2, oI c3, oR sx, oI fr, .unset, .unset, .unset] []))
        exact J103 TL eL XL fr (own_stF (fun q => hc39 q.1) hfr)
    have J69 : ∀ (TL : State) (eL : TL.heap = T1.heap) (XL : Stand p l e room_1 (s.setVm T1.vm) m #[(.int pp), (.int y0), (.int y1), (.int y2), (.int y3)] below meth c TL ([] ++ L1) 4 20) (fr : Int32) (hfr : fr = own_F3 nn c0 c1 c2 c3), Done ReturnedEndW p e below s room_1 (LawQ n0) (TL.setTop (mkF m 69 #[oI pp, oI y0, oI y1, oI y2, oI y3, oI nn, oI c0, oI c1, oI c2, oI c3, oR sx, oI fr, .unset, .unset, .unset] [])) := by
      intro TL eL XL fr hfr
      show Done _ p e below s _ _ (TL.setTop (mkF m 69 #[oI pp, oI y0, oI y1, oI y2, oI y3, oI nn, oI c0, oI c1, oI c2, oI c3, oR sx, oI fr, .unset, .unset, .unset] []))
      refine Done.step (fun _ => XS.iload XL.here hx rfl (hb hby at_69) rfl) ?_
      show Done _ p e below s _ _ (TL.setTop (mkF m 71 #[oI pp, oI y0, oI y1, oI y2, oI y3, oI nn, oI c0, oI c1, oI c2, oI c3, oR sx, oI fr, .unset, .unset, .unset] [(.int nn)]))
      refine Done.step (fun _ => XT.iconstV XL.here hx rfl (2 : Int32) (hb hby at_71) (by decide)) ?_
      show Done _ p e below s _ _ (TL.setTop (mkF m 72 #[oI pp, oI y0, oI y1, oI y2, oI y3, oI nn, oI c0, oI c1, oI c2, oI c3, oR sx, oI fr, .unset, .unset, .unset] [(.int (2 : Int32)), (.int nn)]))
      by_cases hc43 : (2 : Int32) < nn
      · refine Done.step (fun _ => XS.icmpNo XL.here hx rfl (hb hby at_72) rfl (XT.ii_le_f hc43)) ?_
        show Done _ p e below s _ _ (TL.setTop (mkF m 75 #[oI pp, oI y0, oI y1, oI y2, oI y3, oI nn, oI c0, oI c1, oI c2, oI c3, oR sx, oI fr, .unset, .unset, .unset] []))
        refine Done.step (fun _ => XS.iload XL.here hx rfl (hb hby at_75) rfl) ?_
        show Done _ p e below s _ _ (TL.setTop (mkF m 77 #[oI pp, oI y0, oI y1, oI y2, oI y3, oI nn, oI c0, oI c1, oI c2, oI c3, oR sx, oI fr, .unset, .unset, .unset] [(.int c2)]))
        by_cases hc44 : own_ws c2
        · refine Done.callSP XL hx hZ hown (wAt hw 75 rfl) (wAt hw 76 rfl) (wAt hw 3 rfl) (wAt hw 77 rfl) (by decide) (rWs l Z a0 hw [] c2 (1 : Int32) T1.heap n0 Zs1 (bP_t hc44).symm) eL (g := (mkF m 77 #[oI pp, oI y0, oI y1, oI y2, oI y3, oI nn, oI c0, oI c1, oI c2, oI c3, oR sx, oI fr, .unset, .unset, .unset] [(.int c2)])) rfl (by rw [hml]; rfl) [(.int c2)] [] 0 (lenOf pd_30 rfl) rfl rfl (by show 2 * 0 + _ ≤ _; exact Nat.le_of_eq rfl) (hb hby at_77) (by decide) (by decide) (by decide) (by decide) rfl rfl ?_
          intro T45 X45 e45
          show Done _ p e below s _ _ (T45.setTop (mkF m 80 #[oI pp, oI y0, oI y1, oI y2, oI y3, oI nn, oI c0, oI c1, oI c2, oI c3, oR sx, oI fr, .unset, .unset, .unset] [(.int (1 : Int32))]))
          refine Done.step (fun _ => XS.ifYes X45.here hx rfl (pc0 := 80) (pc' := 86) rfl (hb hby at_80) rfl (XT.i0_ne_t (by decide)) (by decide) (by decide)) ?_
          show Done _ p e below s _ _ (T45.setTop (mkF m 86 #[oI pp, oI y0, oI y1, oI y2, oI y3, oI nn, oI c0, oI c1, oI c2, oI c3, oR sx, oI fr, .unset, .unset, .unset] []))
          exact J86 T45 e45 X45 fr (own_stF (fun q => q.2 hc44) hfr)
        · refine Done.callSP XL hx hZ hown (wAt hw 75 rfl) (wAt hw 76 rfl) (wAt hw 3 rfl) (wAt hw 77 rfl) (by decide) (rWs l Z a0 hw [] c2 (0 : Int32) T1.heap n0 Zs1 (bP_f hc44).symm) eL (g := (mkF m 77 #[oI pp, oI y0, oI y1, oI y2, oI y3, oI nn, oI c0, oI c1, oI c2, oI c3, oR sx, oI fr, .unset, .unset, .unset] [(.int c2)])) rfl (by rw [hml]; rfl) [(.int c2)] [] 0 (lenOf pd_30 rfl) rfl rfl (by show 2 * 0 + _ ≤ _; exact Nat.le_of_eq rfl) (hb hby at_77) (by decide) (by decide) (by decide) (by decide) rfl rfl ?_
          intro T46 X46 e46
          show Done _ p e below s _ _ (T46.setTop (mkF m 80 #[oI pp, oI y0, oI y1, oI y2, oI y3, oI nn, oI c0, oI c1, oI c2, oI c3, oR sx, oI fr, .unset, .unset, .unset] [(.int (0 : Int32))]))
          refine Done.step (fun _ => XS.ifNo X46.here hx rfl (hb hby at_80) rfl (XT.i0_ne_f rfl)) ?_
          show Done _ p e below s _ _ (T46.setTop (mkF m 83 #[oI pp, oI y0, oI y1, oI y2, oI y3, oI nn, oI c0, oI c1, oI c2, oI c3, oR sx, oI fr, .unset, .unset, .unset] []))
          refine Done.step (fun _ => XT.iconstV X46.here hx rfl (2 : Int32) (hb hby at_83) (by decide)) ?_
          show Done _ p e below s _ _ (T46.setTop (mkF m 84 #[oI pp, oI y0, oI y1, oI y2, oI y3, oI nn, oI c0, oI c1, oI c2, oI c3, oR sx, oI fr, .unset, .unset, .unset] [(.int (2 : Int32))]))
          refine Done.step (fun _ => XS.istore X46.here hx rfl (hb hby at_84) rfl (l' := #[oI pp, oI y0, oI y1, oI y2, oI y3, oI nn, oI c0, oI c1, oI c2, oI c3, oR sx, oI (2 : Int32), .unset, .unset, .unset]) rfl) ?_
          show Done _ p e below s _ _ (T46.setTop (mkF m 86 #[oI pp, oI y0, oI y1, oI y2, oI y3, oI nn, oI c0, oI c1, oI c2, oI c3, oR sx, oI (2 : Int32), .unset, .unset, .unset] []))
          exact J86 T46 e46 X46 (2 : Int32) (own_stT ⟨hc43, hc44⟩)
      · refine Done.step (fun _ => XS.icmpYes XL.here hx rfl (pc0 := 72) (pc' := 86) rfl (hb hby at_72) rfl (XT.ii_le_t hc43) (by decide) (by decide)) ?_
        show Done _ p e below s _ _ (TL.setTop (mkF m 86 #[oI pp, oI y0, oI y1, oI y2, oI y3, oI nn, oI c0, oI c1, oI c2, oI c3, oR sx, oI fr, .unset, .unset, .unset] []))
        exact J86 TL eL XL fr (own_stF (fun q => hc43 q.1) hfr)
    refine Done.step (fun _ => XS.iload X1.here hx rfl (hb hby at_52) rfl) ?_
    show Done _ p e below s _ _ (T1.setTop (mkF m 54 #[oI pp, oI y0, oI y1, oI y2, oI y3, oI nn, oI c0, oI c1, oI c2, oI c3, oR sx, oI nn, .unset, .unset, .unset] [(.int nn)]))
    refine Done.step (fun _ => XT.iconstV X1.here hx rfl (3 : Int32) (hb hby at_54) (by decide)) ?_
    show Done _ p e below s _ _ (T1.setTop (mkF m 55 #[oI pp, oI y0, oI y1, oI y2, oI y3, oI nn, oI c0, oI c1, oI c2, oI c3, oR sx, oI nn, .unset, .unset, .unset] [(.int (3 : Int32)), (.int nn)]))
    by_cases hc47 : (3 : Int32) < nn
    · refine Done.step (fun _ => XS.icmpNo X1.here hx rfl (hb hby at_55) rfl (XT.ii_le_f hc47)) ?_
      show Done _ p e below s _ _ (T1.setTop (mkF m 58 #[oI pp, oI y0, oI y1, oI y2, oI y3, oI nn, oI c0, oI c1, oI c2, oI c3, oR sx, oI nn, .unset, .unset, .unset] []))
      refine Done.step (fun _ => XS.iload X1.here hx rfl (hb hby at_58) rfl) ?_
      show Done _ p e below s _ _ (T1.setTop (mkF m 60 #[oI pp, oI y0, oI y1, oI y2, oI y3, oI nn, oI c0, oI c1, oI c2, oI c3, oR sx, oI nn, .unset, .unset, .unset] [(.int c3)]))
      by_cases hc48 : own_ws c3
      · refine Done.callSP X1 hx hZ hown (wAt hw 75 rfl) (wAt hw 76 rfl) (wAt hw 3 rfl) (wAt hw 77 rfl) (by decide) (rWs l Z a0 hw [] c3 (1 : Int32) T1.heap n0 Zs1 (bP_t hc48).symm) rfl (g := (mkF m 60 #[oI pp, oI y0, oI y1, oI y2, oI y3, oI nn, oI c0, oI c1, oI c2, oI c3, oR sx, oI nn, .unset, .unset, .unset] [(.int c3)])) rfl (by rw [hml]; rfl) [(.int c3)] [] 0 (lenOf pd_30 rfl) rfl rfl (by show 2 * 0 + _ ≤ _; exact Nat.le_of_eq rfl) (hb hby at_60) (by decide) (by decide) (by decide) (by decide) rfl rfl ?_
        intro T49 X49 e49
        show Done _ p e below s _ _ (T49.setTop (mkF m 63 #[oI pp, oI y0, oI y1, oI y2, oI y3, oI nn, oI c0, oI c1, oI c2, oI c3, oR sx, oI nn, .unset, .unset, .unset] [(.int (1 : Int32))]))
        refine Done.step (fun _ => XS.ifYes X49.here hx rfl (pc0 := 63) (pc' := 69) rfl (hb hby at_63) rfl (XT.i0_ne_t (by decide)) (by decide) (by decide)) ?_
        show Done _ p e below s _ _ (T49.setTop (mkF m 69 #[oI pp, oI y0, oI y1, oI y2, oI y3, oI nn, oI c0, oI c1, oI c2, oI c3, oR sx, oI nn, .unset, .unset, .unset] []))
        exact J69 T49 e49 X49 nn (own_stF (fun q => q.2 hc48) rfl)
      · refine Done.callSP X1 hx hZ hown (wAt hw 75 rfl) (wAt hw 76 rfl) (wAt hw 3 rfl) (wAt hw 77 rfl) (by decide) (rWs l Z a0 hw [] c3 (0 : Int32) T1.heap n0 Zs1 (bP_f hc48).symm) rfl (g := (mkF m 60 #[oI pp, oI y0, oI y1, oI y2, oI y3, oI nn, oI c0, oI c1, oI c2, oI c3, oR sx, oI nn, .unset, .unset, .unset] [(.int c3)])) rfl (by rw [hml]; rfl) [(.int c3)] [] 0 (lenOf pd_30 rfl) rfl rfl (by show 2 * 0 + _ ≤ _; exact Nat.le_of_eq rfl) (hb hby at_60) (by decide) (by decide) (by decide) (by decide) rfl rfl ?_
        intro T50 X50 e50
        show Done _ p e below s _ _ (T50.setTop (mkF m 63 #[oI pp, oI y0, oI y1, oI y2, oI y3, oI nn, oI c0, oI c1, oI c2, oI c3, oR sx, oI nn, .unset, .unset, .unset] [(.int (0 : Int32))]))
        refine Done.step (fun _ => XS.ifNo X50.here hx rfl (hb hby at_63) rfl (XT.i0_ne_f rfl)) ?_
        show Done _ p e below s _ _ (T50.setTop (mkF m 66 #[oI pp, oI y0, oI y1, oI y2, oI y3, oI nn, oI c0, oI c1, oI c2, oI c3, oR sx, oI nn, .unset, .unset, .unset] []))
        refine Done.step (fun _ => XT.iconstV X50.here hx rfl (3 : Int32) (hb hby at_66) (by decide)) ?_
        show Done _ p e below s _ _ (T50.setTop (mkF m 67 #[oI pp, oI y0, oI y1, oI y2, oI y3, oI nn, oI c0, oI c1, oI c2, oI c3, oR sx, oI nn, .unset, .unset, .unset] [(.int (3 : Int32))]))
        refine Done.step (fun _ => XS.istore X50.here hx rfl (hb hby at_67) rfl (l' := #[oI pp, oI y0, oI y1, oI y2, oI y3, oI nn, oI c0, oI c1, oI c2, oI c3, oR sx, oI (3 : Int32), .unset, .unset, .unset]) rfl) ?_
        show Done _ p e below s _ _ (T50.setTop (mkF m 69 #[oI pp, oI y0, oI y1, oI y2, oI y3, oI nn, oI c0, oI c1, oI c2, oI c3, oR sx, oI (3 : Int32), .unset, .unset, .unset] []))
        exact J69 T50 e50 X50 (3 : Int32) (own_stT ⟨hc47, hc48⟩)
    · refine Done.step (fun _ => XS.icmpYes X1.here hx rfl (pc0 := 55) (pc' := 69) rfl (hb hby at_55) rfl (XT.ii_le_t hc47) (by decide) (by decide)) ?_
      show Done _ p e below s _ _ (T1.setTop (mkF m 69 #[oI pp, oI y0, oI y1, oI y2, oI y3, oI nn, oI c0, oI c1, oI c2, oI c3, oR sx, oI nn, .unset, .unset, .unset] []))
      exact J69 T1 rfl X1 nn (own_stF (fun q => hc47 q.1) rfl)
  refine Done.step (fun _ => XS.iloadN X0.here hx rfl (hb hby at_8) rfl) ?_
  show Done _ p e below s _ _ (T0.setTop (mkF m 9 #[oI pp, oI y0, oI y1, oI y2, oI y3, oI nn, .unset, .unset, .unset, .unset, .unset, .unset, .unset, .unset, .unset] [(.int y0)]))
  refine Done.callSP X0 hx hZ hown (wAt hw 1 rfl) (wAt hw 2 rfl) (wAt hw 3 rfl) (wAt hw 4 rfl) (by decide) (rPk l Z a0 hw [] y0 h0 n0 Z0) e0 (g := (mkF m 9 #[oI pp, oI y0, oI y1, oI y2, oI y3, oI nn, .unset, .unset, .unset, .unset, .unset, .unset, .unset, .unset, .unset] [(.int y0)])) rfl (by rw [hml]; rfl) [(.int y0)] [] 0 (lenOf pd_25 rfl) rfl rfl (by show 2 * 0 + _ ≤ _; exact Nat.le_of_eq rfl) (hb hby at_9) (by decide) (by decide) (by decide) (by decide) rfl rfl ?_
  intro T51 X51 e51
  show Done _ p e below s _ _ (T51.setTop (mkF m 12 #[oI pp, oI y0, oI y1, oI y2, oI y3, oI nn, .unset, .unset, .unset, .unset, .unset, .unset, .unset, .unset, .unset] [(.int (own_pick y0))]))
  refine Done.step (fun _ => XS.istore X51.here hx rfl (hb hby at_12) rfl (l' := #[oI pp, oI y0, oI y1, oI y2, oI y3, oI nn, oI (own_pick y0), .unset, .unset, .unset, .unset, .unset, .unset, .unset, .unset]) rfl) ?_
  show Done _ p e below s _ _ (T51.setTop (mkF m 14 #[oI pp, oI y0, oI y1, oI y2, oI y3, oI nn, oI (own_pick y0), .unset, .unset, .unset, .unset, .unset, .unset, .unset, .unset] []))
  refine Done.step (fun _ => XS.iloadN X51.here hx rfl (hb hby at_14) rfl) ?_
  show Done _ p e below s _ _ (T51.setTop (mkF m 15 #[oI pp, oI y0, oI y1, oI y2, oI y3, oI nn, oI (own_pick y0), .unset, .unset, .unset, .unset, .unset, .unset, .unset, .unset] [(.int y1)]))
  refine Done.callSP X51 hx hZ hown (wAt hw 1 rfl) (wAt hw 2 rfl) (wAt hw 3 rfl) (wAt hw 4 rfl) (by decide) (rPk l Z a0 hw [] y1 h0 n0 Z0) e51 (g := (mkF m 15 #[oI pp, oI y0, oI y1, oI y2, oI y3, oI nn, oI (own_pick y0), .unset, .unset, .unset, .unset, .unset, .unset, .unset, .unset] [(.int y1)])) rfl (by rw [hml]; rfl) [(.int y1)] [] 0 (lenOf pd_25 rfl) rfl rfl (by show 2 * 0 + _ ≤ _; exact Nat.le_of_eq rfl) (hb hby at_15) (by decide) (by decide) (by decide) (by decide) rfl rfl ?_
  intro T52 X52 e52
  show Done _ p e below s _ _ (T52.setTop (mkF m 18 #[oI pp, oI y0, oI y1, oI y2, oI y3, oI nn, oI (own_pick y0), .unset, .unset, .unset, .unset, .unset, .unset, .unset, .unset] [(.int (own_pick y1))]))
  refine Done.step (fun _ => XS.istore X52.here hx rfl (hb hby at_18) rfl (l' := #[oI pp, oI y0, oI y1, oI y2, oI y3, oI nn, oI (own_pick y0), oI (own_pick y1), .unset, .unset, .unset, .unset, .unset, .unset, .unset]) rfl) ?_
  show Done _ p e below s _ _ (T52.setTop (mkF m 20 #[oI pp, oI y0, oI y1, oI y2, oI y3, oI nn, oI (own_pick y0), oI (own_pick y1), .unset, .unset, .unset, .unset, .unset, .unset, .unset] []))
  refine Done.step (fun _ => XS.iloadN X52.here hx rfl (hb hby at_20) rfl) ?_
  show Done _ p e below s _ _ (T52.setTop (mkF m 21 #[oI pp, oI y0, oI y1, oI y2, oI y3, oI nn, oI (own_pick y0), oI (own_pick y1), .unset, .unset, .unset, .unset, .unset, .unset, .unset] [(.int y2)]))
  refine Done.callSP X52 hx hZ hown (wAt hw 1 rfl) (wAt hw 2 rfl) (wAt hw 3 rfl) (wAt hw 4 rfl) (by decide) (rPk l Z a0 hw [] y2 h0 n0 Z0) e52 (g := (mkF m 21 #[oI pp, oI y0, oI y1, oI y2, oI y3, oI nn, oI (own_pick y0), oI (own_pick y1), .unset, .unset, .unset, .unset, .unset, .unset, .unset] [(.int y2)])) rfl (by rw [hml]; rfl) [(.int y2)] [] 0 (lenOf pd_25 rfl) rfl rfl (by show 2 * 0 + _ ≤ _; exact Nat.le_of_eq rfl) (hb hby at_21) (by decide) (by decide) (by decide) (by decide) rfl rfl ?_
  intro T53 X53 e53
  show Done _ p e below s _ _ (T53.setTop (mkF m 24 #[oI pp, oI y0, oI y1, oI y2, oI y3, oI nn, oI (own_pick y0), oI (own_pick y1), .unset, .unset, .unset, .unset, .unset, .unset, .unset] [(.int (own_pick y2))]))
  refine Done.step (fun _ => XS.istore X53.here hx rfl (hb hby at_24) rfl (l' := #[oI pp, oI y0, oI y1, oI y2, oI y3, oI nn, oI (own_pick y0), oI (own_pick y1), oI (own_pick y2), .unset, .unset, .unset, .unset, .unset, .unset]) rfl) ?_
  show Done _ p e below s _ _ (T53.setTop (mkF m 26 #[oI pp, oI y0, oI y1, oI y2, oI y3, oI nn, oI (own_pick y0), oI (own_pick y1), oI (own_pick y2), .unset, .unset, .unset, .unset, .unset, .unset] []))
  refine Done.step (fun _ => XS.iload X53.here hx rfl (hb hby at_26) rfl) ?_
  show Done _ p e below s _ _ (T53.setTop (mkF m 28 #[oI pp, oI y0, oI y1, oI y2, oI y3, oI nn, oI (own_pick y0), oI (own_pick y1), oI (own_pick y2), .unset, .unset, .unset, .unset, .unset, .unset] [(.int y3)]))
  refine Done.callSP X53 hx hZ hown (wAt hw 1 rfl) (wAt hw 2 rfl) (wAt hw 3 rfl) (wAt hw 4 rfl) (by decide) (rPk l Z a0 hw [] y3 h0 n0 Z0) e53 (g := (mkF m 28 #[oI pp, oI y0, oI y1, oI y2, oI y3, oI nn, oI (own_pick y0), oI (own_pick y1), oI (own_pick y2), .unset, .unset, .unset, .unset, .unset, .unset] [(.int y3)])) rfl (by rw [hml]; rfl) [(.int y3)] [] 0 (lenOf pd_25 rfl) rfl rfl (by show 2 * 0 + _ ≤ _; exact Nat.le_of_eq rfl) (hb hby at_28) (by decide) (by decide) (by decide) (by decide) rfl rfl ?_
  intro T54 X54 e54
  show Done _ p e below s _ _ (T54.setTop (mkF m 31 #[oI pp, oI y0, oI y1, oI y2, oI y3, oI nn, oI (own_pick y0), oI (own_pick y1), oI (own_pick y2), .unset, .unset, .unset, .unset, .unset, .unset] [(.int (own_pick y3))]))
  refine Done.step (fun _ => XS.istore X54.here hx rfl (hb hby at_31) rfl (l' := #[oI pp, oI y0, oI y1, oI y2, oI y3, oI nn, oI (own_pick y0), oI (own_pick y1), oI (own_pick y2), oI (own_pick y3), .unset, .unset, .unset, .unset, .unset]) rfl) ?_
  show Done _ p e below s _ _ (T54.setTop (mkF m 33 #[oI pp, oI y0, oI y1, oI y2, oI y3, oI nn, oI (own_pick y0), oI (own_pick y1), oI (own_pick y2), oI (own_pick y3), .unset, .unset, .unset, .unset, .unset] []))
  exact K33 T54 e54 X54 (own_pick y0) (own_pick y1) (own_pick y2) (own_pick y3) (own_pickB y0) (own_pickB y1) (own_pickB y2) (own_pickB y3)
set_option maxRecDepth 65536 in
set_option maxHeartbeats 40000000 in
theorem comes_1 {Post : Tables → Env → Array Value → State → Outcome → State → Prop} (hpost : ∀ tb e args s v u, (limb_1_1.after args s (.returned v) u = true ∧ limb_1_2.after args s (.returned v) u = true ∧ True) → ReturnedEndW s (.returned v) u (Jvm.fieldLocs frame_1_writes args s ++ Jvm.arrayLocs frame_1_arrays args s ++ Jvm.staticLocs frame_1_statics s) 32 2240 → Post tb e args s (.returned v) u) :
    ArmFor flags0 classFile x code maxLocals ret World_1 tables_1 room_1 Calls_1 rest_1 Pre_1 Post := by
  intro l hfl _ _ p e ha hc hk s m args below hf hA hF happ hP
  obtain ⟨hcalls, hrest, hpre⟩ := hP
  obtain ⟨-, -, -, hnamed, -, -, -, hat⟩ := (Spec.applies_iff hf).mp happ
  obtain ⟨hg, hn⟩ := and_e (Cond.before_iff.mp (show (Jvm.Cond.and given_1 narrow_1).before args s = true from hpre))
  obtain ⟨w0, w1, w2, w3, w4, rfl⟩ : ∃ w0 w1 w2 w3 w4 : Value, args = #[w0, w1, w2, w3, w4] := by
    have hs : args.size = 5 := by simpa [Cond.value] using (and_e hg).1
    obtain ⟨L⟩ := args
    match L, hs with
    | [w0, w1, w2, w3, w4], _ => exact ⟨w0, w1, w2, w3, w4, rfl⟩
  have hw := fun d (hd : d ∈ tables_1) => atoms_spec (ws := Jvm.Cond.code x code maxLocals ret :: tables_1) hat d (List.mem_cons_of_mem _ hd)
  have hfit : Fit s := fun {y c} hc i hi => by
    obtain ⟨ha, rfl⟩ := Array.getElem?_eq_some_iff.mp hc
    have q := List.all_eq_true.mp ((Array.all_eq_true_iff_forall_mem.mp hF) _ (Array.getElem_mem ha)) i (List.mem_range.mpr hi)
    simpa [Array.getElem?_eq_getElem hi] using q
  obtain ⟨hsets, hown0⟩ := atoms_of _ (rest_1_c_eq ▸ (show rest_1_c.before _ s = true from hrest))
  have hr0 := Cond.before_iff.mp hown0
  obtain ⟨_, hg0⟩ := and_e hg
  obtain ⟨ga0, hg1⟩ := and_e hg0
  obtain ⟨i0, ei0⟩ := is_v ga0
  obtain rfl : w0 = (.int i0) := Option.some.inj ei0
  obtain ⟨ga1, hg2⟩ := and_e hg1
  obtain ⟨i1, ei1⟩ := is_v ga1
  obtain rfl : w1 = (.int i1) := Option.some.inj ei1
  obtain ⟨ga2, hg3⟩ := and_e hg2
  obtain ⟨i2, ei2⟩ := is_v ga2
  obtain rfl : w2 = (.int i2) := Option.some.inj ei2
  obtain ⟨ga3, hg4⟩ := and_e hg3
  obtain ⟨i3, ei3⟩ := is_v ga3
  obtain rfl : w3 = (.int i3) := Option.some.inj ei3
  obtain ⟨i4, ei4⟩ := is_v hg4
  obtain rfl : w4 = (.int i4) := Option.some.inj ei4
  obtain ⟨z, ez⟩ := is_v (Cond.before_iff.mp (hsets _ (List.mem_of_getElem? (i := 1) rfl)))
  have SC := Sta.start ez (Or.inl (hsets _ (List.mem_of_getElem? (i := 0) rfl)))
  have hz : ¬ z = 0 := fun q => gotF (eq_v ez) (not_v (Cond.before_iff.mp (hsets _ (List.mem_of_getElem? (i := 2) rfl)))) q
  obtain ⟨fm, ef, rF⟩ := isR_v (Cond.before_iff.mp (hsets _ (List.mem_of_getElem? (i := 8) rfl)))
  have SF := Sta.start ef (Or.inl (hsets _ (List.mem_of_getElem? (i := 7) rfl)))
  have eSA := int_eq_v (Cond.before_iff.mp (hsets _ (List.mem_of_getElem? (i := 12) rfl)))
  have SA := Sta.start eSA (Or.inl (hsets _ (List.mem_of_getElem? (i := 11) rfl)))
  have eSH := int_eq_v (Cond.before_iff.mp (hsets _ (List.mem_of_getElem? (i := 15) rfl)))
  have SH := Sta.start eSH (Or.inl (hsets _ (List.mem_of_getElem? (i := 14) rfl)))
  have eSL := int_eq_v (Cond.before_iff.mp (hsets _ (List.mem_of_getElem? (i := 18) rfl)))
  have SL := Sta.start eSL (Or.inl (hsets _ (List.mem_of_getElem? (i := 17) rfl)))
  have hcw : Jvm.Lit.compactW.before #[(.int i0), (.int i1), (.int i2), (.int i3), (.int i4)] s = true := hsets _ (List.mem_of_getElem? (i := 2) rfl)
  have hh7 : Jvm.Lit.constHeld s "java/lang/String" 7 := hcalls.1 _ (List.mem_of_getElem? (i := 0) rfl)
  have hhL : Jvm.Lit.constHeld s "java/lang/StringLatin1" 151 := hcalls.1 _ (List.mem_of_getElem? (i := 1) rfl)
  obtain ⟨n, o, h1, h2, h3, _, L, rfl, ⟨rfl, N⟩, hq⟩ := rm0 l s _ hw tables_1 i0 i1 i2 i3 i4 z fm s.heap s.heap.size (Nat.le_refl _) (Old.start s) SC hz SF rF SA SH SL hh7 hhL hcw p e ha hc hk s m _ below hf ((Spec.applies_iff_loose hf).mp happ).1 ⟨rfl, State.Warmed39.refl s, rfl, IB.start⟩ trivial
  refine ⟨n, _, h1, h2, h3, hpost _ _ _ _ _ _ ⟨Cond.after_iff.mpr rfl, Cond.after_iff.mpr (eq_i res_at (Term.int_eval (1)) rfl), trivial⟩ ⟨hq.1, hq.2.1, hq.2.2.1, (hq.2.2.2.sift fun y hy => Or.inr (N y hy)).mono (by decide) (by decide)⟩⟩
theorem main_1_1 : Claimed_1_1 := comes_1 fun _ _ _ _ _ _ h hF => ⟨h.1, hF⟩
theorem main_1_2 : Claimed_1_2 := comes_1 fun _ _ _ _ _ _ h hF => ⟨h.2.1, hF⟩
end Jvm.Pilot.@@N@@
namespace Jvm.Pilot.@@N@@
open Jvm Jvm.ClassFile Sem Op Lib Jvm.Free Jvm.Stand Jvm.Pilot.@@N@@.Jvm.D
/-! MADE BY PROGRAM (witnessworld.py) out of the Statement's table words and the real class files: 23 classes; the members and pool entries that the words name. The judged class is class 1, her method 5. -/
namespace start1
open Jvm.ClassFile
def u (s : String) : CpInfo := .utf8 (stringToUtf16 s)
/-- a pool by its gaps: so many unusable entries, then the entry; so many at the end -/
def gap : Nat → List CpInfo → List CpInfo
  | 0, r => r
  | n + 1, r => .unusable :: gap n r
def poolList (es : List (Nat × CpInfo)) (last : Nat) : List CpInfo := es.foldr (fun e r => gap e.1 (e.2 :: r)) (gap last [])
def pool (es : List (Nat × CpInfo)) (last : Nat) : Array CpInfo := ⟨poolList es last⟩
def fileOf (pool : Array CpInfo) (this : Nat) (attrs : Array Attribute := #[]) (ms : Array MethodInfo := #[]) (fl : Nat := 33) (sup : Nat := 0) (ifs : Array Nat := #[]) (fds : Array FieldInfo := #[]) : ClassFile where
  minorVersion := 0
  majorVersion := 65
  constantPool := pool
  accessFlags := fl
  thisClass := this
  superClass := sup
  interfaces := ifs
  fields := fds
  methods := ms
  attributes := attrs
def plain (name : String) (sup : Option ClassId) : Class where
  name := name
  kind := .ordinary
  loader := none
  accessFlags := 33
  super := sup
  interfaces := #[]
  cf := none
  fields := #[]
  methods := #[]
  instanceTypes := #[]
  staticTypes := #[]
  resolved := #[]
  callSites := []
  init := .initialized
  statics := none
  mirror := none

def pool0 : Array CpInfo := pool [(5, u "<init>"), (0, u "()V"), (1, .class_ 10), (1, u "java/lang/Object")] 113

def k0c0 : Code := { maxStack := 0, maxLocals := 1, code := object_method_1_code, exceptionTable := #[], attributes := #[] }
def k0m0 : Method := { name := "<init>", desc := "()V", sig := { parameters := [], returnType := none }, accessFlags := 1, code := some k0c0 }
/-- java/lang/Object -/
def k0 : Class := { plain "java/lang/Object" none with
  accessFlags := 33
  interfaces := #[]
  cf := some (fileOf pool0 8 #[] #[{ accessFlags := 1, nameIndex := 5, descriptorIndex := 6, attributes := #[] }] 33 0 #[] #[])
  fields := #[]
  methods := #[k0m0]
  instanceTypes := #[]
  staticTypes := #[]
  resolved := Array.replicate 124 none
  statics := none }

def pool1 : Array CpInfo := pool [(2, .class_ 4), (1, u "java/lang/Object"), (0, u "<init>"), (0, u "()V"), (0, .integer 65535), (0, .class_ 9), (0, u "java/lang/String"), (0, .methodref 8 11), (0, .nameAndType 5 12), (0, u "([C)V"), (0, .integer 2147483647), (0, .methodref 15 16), (0, .class_ 17), (0, .nameAndType 18 19), (0, u "com/example/wide_weir/wideweir/http/HttpSyntaxTrimWhitespacePinLaw"), (0, u "pick"), (0, u "(I)C"), (0, .methodref 15 21), (0, .nameAndType 22 23), (0, u "make"), (0, u "(ICCCC)Ljava/lang/String;"), (0, .methodref 15 25), (0, .nameAndType 26 27), (0, u "ws"), (0, u "(C)Z"), (0, .methodref 29 30), (0, .class_ 31), (0, .nameAndType 32 33), (0, u "java/lang/Math"), (0, u "max"), (0, u "(II)I"), (0, .methodref 35 36), (0, .class_ 37), (0, .nameAndType 38 39), (0, u "com/example/wide_weir/wideweir/http/HttpSyntax"), (0, u "trimWhitespace"), (0, u "(Ljava/lang/String;)Ljava/lang/String;"), (0, .methodref 8 41), (0, .nameAndType 42 43), (0, u "length"), (0, u "()I"), (0, .methodref 8 45), (0, .nameAndType 46 19), (0, u "charAt"), (0, .methodref 15 48), (0, .nameAndType 49 50), (0, u "at"), (0, u "(ICCCC)C"), (3, u "law"), (0, u "(IIIII)Z")] 2

def k1m0 : Method := { name := "<init>", desc := "()V", sig := { parameters := [], returnType := none }, accessFlags := 2, code := none }
def k1c1 : Code := { maxStack := 2, maxLocals := 2, code := method_2_code, exceptionTable := #[], attributes := #[] }
def k1m1 : Method := { name := "pick", desc := "(I)C", sig := { parameters := [.int], returnType := some .char }, accessFlags := 10, code := some k1c1 }
def k1c2 : Code := { maxStack := 2, maxLocals := 1, code := method_3_code, exceptionTable := #[], attributes := #[] }
def k1m2 : Method := { name := "ws", desc := "(C)Z", sig := { parameters := [.char], returnType := some .boolean }, accessFlags := 10, code := some k1c2 }
def k1c3 : Code := { maxStack := 2, maxLocals := 5, code := method_4_code, exceptionTable := #[], attributes := #[] }
def k1m3 : Method := { name := "at", desc := "(ICCCC)C", sig := { parameters := [.int, .char, .char, .char, .char], returnType := some .char }, accessFlags := 10, code := some k1c3 }
def k1c4 : Code := { maxStack := 6, maxLocals := 5, code := method_5_code, exceptionTable := #[], attributes := #[] }
def k1m4 : Method := { name := "make", desc := "(ICCCC)Ljava/lang/String;", sig := { parameters := [.int, .char, .char, .char, .char], returnType := some (.object "java/lang/String") }, accessFlags := 10, code := some k1c4 }
def k1c5 : Code := { maxStack := 6, maxLocals := 15, code := code, exceptionTable := #[], attributes := #[] }
def k1m5 : Method := { name := "law", desc := "(IIIII)Z", sig := { parameters := [.int, .int, .int, .int, .int], returnType := some .boolean }, accessFlags := 9, code := some k1c5 }
/-- com/example/wide_weir/wideweir/http/HttpSyntaxTrimWhitespacePinLaw -/
def k1 : Class := { plain "com/example/wide_weir/wideweir/http/HttpSyntaxTrimWhitespacePinLaw" (some 0) with
  accessFlags := 49
  interfaces := #[]
  cf := some (fileOf pool1 15 #[] #[{ accessFlags := 2, nameIndex := 5, descriptorIndex := 6, attributes := #[] }, { accessFlags := 10, nameIndex := 18, descriptorIndex := 19, attributes := #[] }, { accessFlags := 10, nameIndex := 26, descriptorIndex := 27, attributes := #[] }, { accessFlags := 10, nameIndex := 49, descriptorIndex := 50, attributes := #[] }, { accessFlags := 10, nameIndex := 22, descriptorIndex := 23, attributes := #[] }, { accessFlags := 9, nameIndex := 54, descriptorIndex := 55, attributes := #[] }] 49 2 #[] #[])
  fields := #[]
  methods := #[k1m0, k1m1, k1m2, k1m3, k1m4, k1m5]
  instanceTypes := #[]
  staticTypes := #[]
  resolved := Array.replicate 58 none
  statics := none }

def pool2 : Array CpInfo := pool [(1, .class_ 2), (0, u "java/io/Serializable"), (0, .class_ 4), (0, u "java/lang/Object")] 2

/-- java/io/Serializable -/
def k2 : Class := { plain "java/io/Serializable" (some 0) with
  accessFlags := 1537
  interfaces := #[]
  cf := some (fileOf pool2 1 #[] #[] 1537 3 #[] #[])
  fields := #[]
  methods := #[]
  instanceTypes := #[]
  staticTypes := #[]
  resolved := Array.replicate 7 none
  statics := none }

def pool3 : Array CpInfo := pool [(1, .class_ 2), (0, u "java/lang/Comparable"), (0, .class_ 4), (0, u "java/lang/Object")] 7

/-- java/lang/Comparable -/
def k3 : Class := { plain "java/lang/Comparable" (some 0) with
  accessFlags := 1537
  interfaces := #[]
  cf := some (fileOf pool3 1 #[] #[] 1537 3 #[] #[])
  fields := #[]
  methods := #[]
  instanceTypes := #[]
  staticTypes := #[]
  resolved := Array.replicate 12 none
  statics := none }

def pool4 : Array CpInfo := pool [(2, .class_ 4), (1, u "java/lang/CharSequence"), (42, .class_ 48), (0, u "java/lang/CharSequence$1CodePointIterator"), (10, .class_ 60), (0, u "java/lang/CharSequence$1CharIterator"), (5, .class_ 67), (0, u "java/lang/Object")] 63

/-- java/lang/CharSequence -/
def k4 : Class := { plain "java/lang/CharSequence" (some 0) with
  accessFlags := 1537
  interfaces := #[]
  cf := some (fileOf pool4 2 #[.nestMembers #[47, 59]] #[] 1537 66 #[] #[])
  fields := #[]
  methods := #[]
  instanceTypes := #[]
  staticTypes := #[]
  resolved := Array.replicate 131 none
  statics := none }

def pool5 : Array CpInfo := pool [(1, .class_ 2), (0, u "java/lang/constant/Constable"), (0, .class_ 4), (0, u "java/lang/Object")] 6

/-- java/lang/constant/Constable -/
def k5 : Class := { plain "java/lang/constant/Constable" (some 0) with
  accessFlags := 1537
  interfaces := #[]
  cf := some (fileOf pool5 1 #[] #[] 1537 3 #[] #[])
  fields := #[]
  methods := #[]
  instanceTypes := #[]
  staticTypes := #[]
  resolved := Array.replicate 11 none
  statics := none }

def pool6 : Array CpInfo := pool [(1, .class_ 2), (0, u "java/lang/constant/ConstantDesc"), (0, .class_ 4), (0, u "java/lang/Object")] 32

/-- java/lang/constant/ConstantDesc -/
def k6 : Class := { plain "java/lang/constant/ConstantDesc" (some 0) with
  accessFlags := 1537
  interfaces := #[]
  cf := some (fileOf pool6 1 #[] #[] 1537 3 #[] #[])
  fields := #[]
  methods := #[]
  instanceTypes := #[]
  staticTypes := #[]
  resolved := Array.replicate 37 none
  statics := none }

def pool7 : Array CpInfo := pool [(1, .methodref 2 3), (0, .class_ 4), (0, .nameAndType 5 6), (0, u "java/lang/Object"), (0, u "<init>"), (0, u "()V"), (0, .string 8), (0, u ""), (0, .fieldref 10 11), (0, .class_ 12), (0, .nameAndType 13 14), (0, u "java/lang/String"), (0, u "value"), (0, u "[B"), (0, .fieldref 10 16), (0, .nameAndType 17 18), (0, u "coder"), (0, u "B"), (2, u "hash"), (0, u "I"), (2, u "hashIsZero"), (0, u "Z"), (0, .methodref 10 28), (0, .nameAndType 5 29), (0, u "([CIILjava/lang/Void;)V"), (6, u "checkBoundsOffCount"), (0, u "(III)I"), (0, .fieldref 10 39), (0, .nameAndType 40 26), (0, u "COMPACT_STRINGS"), (1, .class_ 44), (1, u "java/lang/StringUTF16"), (0, u "compress"), (1, .methodref 42 48), (0, .nameAndType 49 50), (0, u "coderFromArrayLen"), (0, u "([BI)B"), (56, .class_ 109), (1, u "java/lang/StringLatin1"), (32, u "()Z"), (34, .methodref 42 178), (0, .nameAndType 45 179), (0, u "([CII)[B"), (31, u "([BB)V"), (122, u "()I"), (0, .methodref 10 336), (0, .nameAndType 17 337), (0, u "()B"), (25, u "([BI)C"), (27, u "(II)V"), (35, u "(I)C"), (64, .methodref 10 493), (0, .nameAndType 494 142), (0, u "isLatin1"), (0, .methodref 107 496), (0, .nameAndType 497 363), (0, u "charAt"), (0, .methodref 42 496), (2, u "checkIndex"), (3, .methodref 10 506), (0, .nameAndType 507 334), (0, u "length"), (5, u "checkFromToIndex"), (7, .methodref 10 522), (0, .nameAndType 523 524), (0, u "checkBoundsBeginEnd"), (0, u "(III)V"), (50, .class_ 576), (0, u "java/lang/CharSequence"), (22, u "CASE_INSENSITIVE_ORDER"), (0, u "Ljava/util/Comparator;"), (82, u "substring"), (0, u "(II)Ljava/lang/String;"), (0, .methodref 107 686), (0, .nameAndType 687 688), (0, u "newString"), (0, u "([BII)Ljava/lang/String;"), (0, .methodref 42 686), (320, u "([C)V"), (42, .fieldref 1054 1055), (0, .class_ 1056), (0, .nameAndType 1057 1058), (0, u "jdk/internal/util/Preconditions"), (0, u "SIOOBE_FORMATTER"), (0, u "Ljava/util/function/BiFunction;"), (0, .methodref 1054 1060), (0, .nameAndType 501 1061), (0, u "(IILjava/util/function/BiFunction;)I"), (0, .methodref 1054 1063), (0, .nameAndType 513 1064), (0, u "(IIILjava/util/function/BiFunction;)I"), (0, .methodref 1054 1066), (0, .nameAndType 1067 1064), (0, u "checkFromIndexSize"), (33, u "serialPersistentFields"), (0, u "[Ljava/io/ObjectStreamField;"), (0, .class_ 1104), (0, u "java/lang/String$CaseInsensitiveComparator"), (1, .class_ 1107), (0, u "java/io/Serializable"), (0, .class_ 1109), (0, u "java/lang/Comparable"), (0, .class_ 1111), (0, u "java/lang/constant/Constable"), (0, .class_ 1113), (0, u "java/lang/constant/ConstantDesc"), (2, u "serialVersionUID"), (0, u "J"), (3, u "REPL"), (0, u "C"), (2, u "LATIN1"), (1, u "UTF16")] 323

def k7m0 : Method := { name := "<init>", desc := "()V", sig := { parameters := [], returnType := none }, accessFlags := 1, code := none }
def k7c1 : Code := { maxStack := 5, maxLocals := 2, code := jdk_42_method_3_code, exceptionTable := #[], attributes := #[] }
def k7m1 : Method := { name := "<init>", desc := "([C)V", sig := { parameters := [(.array .char)], returnType := none }, accessFlags := 1, code := some k7c1 }
def k7c2 : Code := { maxStack := 2, maxLocals := 1, code := jdk_42_method_54_code, exceptionTable := #[], attributes := #[] }
def k7m2 : Method := { name := "length", desc := "()I", sig := { parameters := [], returnType := some .int }, accessFlags := 1, code := some k7c2 }
def k7c3 : Code := { maxStack := 2, maxLocals := 2, code := jdk_42_method_56_code, exceptionTable := #[], attributes := #[] }
def k7m3 : Method := { name := "charAt", desc := "(I)C", sig := { parameters := [.int], returnType := some .char }, accessFlags := 1, code := some k7c3 }
def k7c4 : Code := { maxStack := 3, maxLocals := 5, code := jdk_42_method_92_code, exceptionTable := #[], attributes := #[] }
def k7m4 : Method := { name := "substring", desc := "(II)Ljava/lang/String;", sig := { parameters := [.int, .int], returnType := some (.object "java/lang/String") }, accessFlags := 1, code := some k7c4 }
def k7c5 : Code := { maxStack := 4, maxLocals := 6, code := jdk_42_method_149_code, exceptionTable := #[], attributes := #[] }
def k7m5 : Method := { name := "<init>", desc := "([CIILjava/lang/Void;)V", sig := { parameters := [(.array .char), .int, .int, (.object "java/lang/Void")], returnType := none }, accessFlags := 2, code := some k7c5 }
def k7c6 : Code := { maxStack := 2, maxLocals := 3, code := jdk_42_method_151_code, exceptionTable := #[], attributes := #[] }
def k7m6 : Method := { name := "<init>", desc := "([BB)V", sig := { parameters := [(.array .byte), .byte], returnType := none }, accessFlags := 0, code := some k7c6 }
def k7c7 : Code := { maxStack := 1, maxLocals := 1, code := jdk_42_method_152_code, exceptionTable := #[], attributes := #[] }
def k7m7 : Method := { name := "coder", desc := "()B", sig := { parameters := [], returnType := some .byte }, accessFlags := 0, code := some k7c7 }
def k7c8 : Code := { maxStack := 1, maxLocals := 1, code := jdk_42_method_154_code, exceptionTable := #[], attributes := #[] }
def k7m8 : Method := { name := "isLatin1", desc := "()Z", sig := { parameters := [], returnType := some .boolean }, accessFlags := 0, code := some k7c8 }
def k7c9 : Code := { maxStack := 3, maxLocals := 2, code := jdk_42_method_155_code, exceptionTable := #[], attributes := #[] }
def k7m9 : Method := { name := "checkIndex", desc := "(II)V", sig := { parameters := [.int, .int], returnType := none }, accessFlags := 8, code := some k7c9 }
def k7c10 : Code := { maxStack := 4, maxLocals := 3, code := jdk_42_method_157_code, exceptionTable := #[], attributes := #[] }
def k7m10 : Method := { name := "checkBoundsOffCount", desc := "(III)I", sig := { parameters := [.int, .int, .int], returnType := some .int }, accessFlags := 8, code := some k7c10 }
def k7c11 : Code := { maxStack := 4, maxLocals := 3, code := jdk_42_method_158_code, exceptionTable := #[], attributes := #[] }
def k7m11 : Method := { name := "checkBoundsBeginEnd", desc := "(III)V", sig := { parameters := [.int, .int, .int], returnType := none }, accessFlags := 8, code := some k7c11 }
/-- java/lang/String -/
def k7 : Class := { plain "java/lang/String" (some 0) with
  accessFlags := 49
  interfaces := #[2, 3, 4, 5, 6]
  cf := some (fileOf pool7 10 #[.nestMembers #[1103]] #[{ accessFlags := 1, nameIndex := 5, descriptorIndex := 6, attributes := #[] }, { accessFlags := 1, nameIndex := 5, descriptorIndex := 1010, attributes := #[] }, { accessFlags := 1, nameIndex := 507, descriptorIndex := 334, attributes := #[] }, { accessFlags := 1, nameIndex := 497, descriptorIndex := 427, attributes := #[] }, { accessFlags := 1, nameIndex := 683, descriptorIndex := 684, attributes := #[] }, { accessFlags := 2, nameIndex := 5, descriptorIndex := 29, attributes := #[] }, { accessFlags := 0, nameIndex := 5, descriptorIndex := 211, attributes := #[] }, { accessFlags := 0, nameIndex := 17, descriptorIndex := 337, attributes := #[] }, { accessFlags := 0, nameIndex := 494, descriptorIndex := 142, attributes := #[] }, { accessFlags := 8, nameIndex := 501, descriptorIndex := 391, attributes := #[] }, { accessFlags := 8, nameIndex := 36, descriptorIndex := 37, attributes := #[] }, { accessFlags := 8, nameIndex := 523, descriptorIndex := 524, attributes := #[] }] 49 2 #[1106, 1108, 575, 1110, 1112] #[{ accessFlags := 18, nameIndex := 13, descriptorIndex := 14, attributes := #[] }, { accessFlags := 18, nameIndex := 17, descriptorIndex := 18, attributes := #[] }, { accessFlags := 2, nameIndex := 21, descriptorIndex := 22, attributes := #[] }, { accessFlags := 2, nameIndex := 25, descriptorIndex := 26, attributes := #[] }, { accessFlags := 26, nameIndex := 1116, descriptorIndex := 1117, attributes := #[] }, { accessFlags := 24, nameIndex := 40, descriptorIndex := 26, attributes := #[] }, { accessFlags := 26, nameIndex := 1101, descriptorIndex := 1102, attributes := #[] }, { accessFlags := 26, nameIndex := 1121, descriptorIndex := 1122, attributes := #[] }, { accessFlags := 25, nameIndex := 599, descriptorIndex := 600, attributes := #[] }, { accessFlags := 24, nameIndex := 1125, descriptorIndex := 18, attributes := #[] }, { accessFlags := 24, nameIndex := 1127, descriptorIndex := 18, attributes := #[] }])
  fields := #[{ name := "value", type := (.array .byte), accessFlags := 18, slot := 0, constantValue := 0 }, { name := "coder", type := .byte, accessFlags := 18, slot := 1, constantValue := 0 }, { name := "hash", type := .int, accessFlags := 2, slot := 2, constantValue := 0 }, { name := "hashIsZero", type := .boolean, accessFlags := 2, slot := 3, constantValue := 0 }, { name := "serialVersionUID", type := .long, accessFlags := 26, slot := 0, constantValue := 0 }, { name := "COMPACT_STRINGS", type := .boolean, accessFlags := 24, slot := 1, constantValue := 0 }, { name := "serialPersistentFields", type := (.array (.object "java/io/ObjectStreamField")), accessFlags := 26, slot := 2, constantValue := 0 }, { name := "REPL", type := .char, accessFlags := 26, slot := 3, constantValue := 0 }, { name := "CASE_INSENSITIVE_ORDER", type := (.object "java/util/Comparator"), accessFlags := 25, slot := 4, constantValue := 0 }, { name := "LATIN1", type := .byte, accessFlags := 24, slot := 5, constantValue := 0 }, { name := "UTF16", type := .byte, accessFlags := 24, slot := 6, constantValue := 0 }]
  methods := #[k7m0, k7m1, k7m2, k7m3, k7m4, k7m5, k7m6, k7m7, k7m8, k7m9, k7m10, k7m11]
  instanceTypes := #[(.array .byte), .byte, .int, .boolean]
  staticTypes := #[.long, .boolean, (.array (.object "java/io/ObjectStreamField")), .char, (.object "java/util/Comparator"), .byte, .byte]
  resolved := Array.replicate 1451 none
  statics := some 0 }

def pool8 : Array CpInfo := pool [(1, .class_ 2), (0, u "java/lang/Math"), (1, .class_ 6), (1, u "java/lang/Object"), (0, u "<init>"), (0, u "()V"), (89, .class_ 100), (1, u "java/lang/Math$RandomNumberGeneratorHolder"), (71, u "negativeZeroFloatBits"), (0, u "J"), (2, u "negativeZeroDoubleBits"), (21, u "max"), (2, u "min"), (43, u "$assertionsDisabled"), (0, u "Z"), (88, u "(II)I"), (2, u "twoToTheDoubleScaleDown"), (0, u "D"), (4, u "twoToTheDoubleScaleUp"), (9, u "E"), (3, u "PI"), (2, u "TAU"), (2, u "DEGREES_TO_RADIANS"), (0, u "RADIANS_TO_DEGREES")] 94

def k8m0 : Method := { name := "<init>", desc := "()V", sig := { parameters := [], returnType := none }, accessFlags := 2, code := none }
def k8c1 : Code := { maxStack := 2, maxLocals := 2, code := jdk_29_method_65_code, exceptionTable := #[], attributes := #[] }
def k8m1 : Method := { name := "max", desc := "(II)I", sig := { parameters := [.int, .int], returnType := some .int }, accessFlags := 9, code := some k8c1 }
def k8c2 : Code := { maxStack := 2, maxLocals := 2, code := jdk_29_method_69_code, exceptionTable := #[], attributes := #[] }
def k8m2 : Method := { name := "min", desc := "(II)I", sig := { parameters := [.int, .int], returnType := some .int }, accessFlags := 9, code := some k8c2 }
/-- java/lang/Math -/
def k8 : Class := { plain "java/lang/Math" (some 0) with
  accessFlags := 49
  interfaces := #[]
  cf := some (fileOf pool8 1 #[.nestMembers #[98]] #[{ accessFlags := 2, nameIndex := 7, descriptorIndex := 8, attributes := #[] }, { accessFlags := 9, nameIndex := 198, descriptorIndex := 335, attributes := #[] }, { accessFlags := 9, nameIndex := 201, descriptorIndex := 335, attributes := #[] }] 49 4 #[] #[{ accessFlags := 25, nameIndex := 354, descriptorIndex := 339, attributes := #[] }, { accessFlags := 25, nameIndex := 358, descriptorIndex := 339, attributes := #[] }, { accessFlags := 25, nameIndex := 361, descriptorIndex := 339, attributes := #[] }, { accessFlags := 26, nameIndex := 364, descriptorIndex := 339, attributes := #[] }, { accessFlags := 26, nameIndex := 365, descriptorIndex := 339, attributes := #[] }, { accessFlags := 26, nameIndex := 172, descriptorIndex := 173, attributes := #[] }, { accessFlags := 26, nameIndex := 176, descriptorIndex := 173, attributes := #[] }, { accessFlags := 8, nameIndex := 344, descriptorIndex := 339, attributes := #[] }, { accessFlags := 8, nameIndex := 338, descriptorIndex := 339, attributes := #[] }, { accessFlags := 4120, nameIndex := 245, descriptorIndex := 246, attributes := #[] }])
  fields := #[{ name := "E", type := .double, accessFlags := 25, slot := 0, constantValue := 0 }, { name := "PI", type := .double, accessFlags := 25, slot := 1, constantValue := 0 }, { name := "TAU", type := .double, accessFlags := 25, slot := 2, constantValue := 0 }, { name := "DEGREES_TO_RADIANS", type := .double, accessFlags := 26, slot := 3, constantValue := 0 }, { name := "RADIANS_TO_DEGREES", type := .double, accessFlags := 26, slot := 4, constantValue := 0 }, { name := "negativeZeroFloatBits", type := .long, accessFlags := 26, slot := 5, constantValue := 0 }, { name := "negativeZeroDoubleBits", type := .long, accessFlags := 26, slot := 6, constantValue := 0 }, { name := "twoToTheDoubleScaleUp", type := .double, accessFlags := 8, slot := 7, constantValue := 0 }, { name := "twoToTheDoubleScaleDown", type := .double, accessFlags := 8, slot := 8, constantValue := 0 }, { name := "$assertionsDisabled", type := .boolean, accessFlags := 4120, slot := 9, constantValue := 0 }]
  methods := #[k8m0, k8m1, k8m2]
  instanceTypes := #[]
  staticTypes := #[.double, .double, .double, .double, .double, .long, .long, .double, .double, .boolean]
  resolved := Array.replicate 460 none
  statics := none }

def pool9 : Array CpInfo := pool [(2, .class_ 4), (1, u "java/lang/Object"), (0, u "<init>"), (0, u "()V"), (1, .class_ 10), (1, u "java/lang/String"), (2, .methodref 8 14), (0, .nameAndType 15 16), (0, u "length"), (0, u "()I"), (0, .methodref 8 18), (0, .nameAndType 19 20), (0, u "charAt"), (0, u "(I)C"), (0, .class_ 22), (0, u "com/example/wide_weir/wideweir/http/HttpSyntax"), (6, .methodref 8 30), (0, .nameAndType 31 32), (0, u "substring"), (0, u "(II)Ljava/lang/String;"), (11, .class_ 45), (0, u "com/example/wide_weir/wideweir/http/HttpSyntax$Field"), (15, u "trimWhitespace"), (0, u "(Ljava/lang/String;)Ljava/lang/String;"), (25, u "TOKEN_SYMBOLS"), (0, u "Ljava/lang/String;")] 18

def k9m0 : Method := { name := "<init>", desc := "()V", sig := { parameters := [], returnType := none }, accessFlags := 2, code := none }
def k9c1 : Code := { maxStack := 3, maxLocals := 3, code := prog_33_method_5_code, exceptionTable := #[], attributes := #[] }
def k9m1 : Method := { name := "trimWhitespace", desc := "(Ljava/lang/String;)Ljava/lang/String;", sig := { parameters := [(.object "java/lang/String")], returnType := some (.object "java/lang/String") }, accessFlags := 8, code := some k9c1 }
/-- com/example/wide_weir/wideweir/http/HttpSyntax -/
def k9 : Class := { plain "com/example/wide_weir/wideweir/http/HttpSyntax" (some 0) with
  accessFlags := 48
  interfaces := #[]
  cf := some (fileOf pool9 21 #[.nestMembers #[44]] #[{ accessFlags := 2, nameIndex := 5, descriptorIndex := 6, attributes := #[] }, { accessFlags := 8, nameIndex := 61, descriptorIndex := 62, attributes := #[] }] 48 2 #[] #[{ accessFlags := 26, nameIndex := 88, descriptorIndex := 89, attributes := #[] }])
  fields := #[{ name := "TOKEN_SYMBOLS", type := (.object "java/lang/String"), accessFlags := 26, slot := 0, constantValue := 0 }]
  methods := #[k9m0, k9m1]
  instanceTypes := #[]
  staticTypes := #[(.object "java/lang/String")]
  resolved := Array.replicate 108 none
  statics := none }

def pool10 : Array CpInfo := pool [(2, .class_ 4), (1, u "java/lang/Object"), (0, u "<init>"), (0, u "()V"), (17, .class_ 26), (1, u "jdk/internal/util/Preconditions"), (6, u "checkIndex"), (13, u "checkFromToIndex"), (1, u "checkFromIndexSize"), (5, .class_ 56), (0, u "jdk/internal/util/Preconditions$4"), (57, .class_ 115), (0, u "jdk/internal/util/Preconditions$1"), (7, u "SIOOBE_FORMATTER"), (0, u "Ljava/util/function/BiFunction;"), (0, .class_ 126), (0, u "jdk/internal/util/Preconditions$2"), (3, u "AIOOBE_FORMATTER"), (0, .class_ 132), (0, u "jdk/internal/util/Preconditions$3"), (3, u "IOOBE_FORMATTER"), (41, u "(IILjava/util/function/BiFunction;)I"), (4, u "(IIILjava/util/function/BiFunction;)I")] 10

def k10m0 : Method := { name := "<init>", desc := "()V", sig := { parameters := [], returnType := none }, accessFlags := 1, code := none }
def k10c1 : Code := { maxStack := 3, maxLocals := 3, code := jdk_41_method_11_code, exceptionTable := #[], attributes := #[] }
def k10m1 : Method := { name := "checkIndex", desc := "(IILjava/util/function/BiFunction;)I", sig := { parameters := [.int, .int, (.object "java/util/function/BiFunction")], returnType := some .int }, accessFlags := 9, code := some k10c1 }
def k10c2 : Code := { maxStack := 4, maxLocals := 4, code := jdk_41_method_12_code, exceptionTable := #[], attributes := #[] }
def k10m2 : Method := { name := "checkFromToIndex", desc := "(IIILjava/util/function/BiFunction;)I", sig := { parameters := [.int, .int, .int, (.object "java/util/function/BiFunction")], returnType := some .int }, accessFlags := 9, code := some k10c2 }
def k10c3 : Code := { maxStack := 4, maxLocals := 4, code := jdk_41_method_13_code, exceptionTable := #[], attributes := #[] }
def k10m3 : Method := { name := "checkFromIndexSize", desc := "(IIILjava/util/function/BiFunction;)I", sig := { parameters := [.int, .int, .int, (.object "java/util/function/BiFunction")], returnType := some .int }, accessFlags := 9, code := some k10c3 }
/-- jdk/internal/util/Preconditions -/
def k10 : Class := { plain "jdk/internal/util/Preconditions" (some 0) with
  accessFlags := 33
  interfaces := #[]
  cf := some (fileOf pool10 24 #[.nestMembers #[55, 131, 125, 114]] #[{ accessFlags := 1, nameIndex := 5, descriptorIndex := 6, attributes := #[] }, { accessFlags := 9, nameIndex := 33, descriptorIndex := 178, attributes := #[] }, { accessFlags := 9, nameIndex := 47, descriptorIndex := 183, attributes := #[] }, { accessFlags := 9, nameIndex := 49, descriptorIndex := 183, attributes := #[] }] 33 2 #[] #[{ accessFlags := 25, nameIndex := 123, descriptorIndex := 124, attributes := #[] }, { accessFlags := 25, nameIndex := 130, descriptorIndex := 124, attributes := #[] }, { accessFlags := 25, nameIndex := 136, descriptorIndex := 124, attributes := #[] }])
  fields := #[{ name := "SIOOBE_FORMATTER", type := (.object "java/util/function/BiFunction"), accessFlags := 25, slot := 0, constantValue := 0 }, { name := "AIOOBE_FORMATTER", type := (.object "java/util/function/BiFunction"), accessFlags := 25, slot := 1, constantValue := 0 }, { name := "IOOBE_FORMATTER", type := (.object "java/util/function/BiFunction"), accessFlags := 25, slot := 2, constantValue := 0 }]
  methods := #[k10m0, k10m1, k10m2, k10m3]
  instanceTypes := #[]
  staticTypes := #[(.object "java/util/function/BiFunction"), (.object "java/util/function/BiFunction"), (.object "java/util/function/BiFunction")]
  resolved := Array.replicate 194 none
  statics := some 1 }

def pool11 : Array CpInfo := pool [(3, .class_ 4), (0, u "java/lang/String"), (1, .class_ 8), (1, u "java/lang/Object"), (0, u "<init>"), (0, u "()V"), (0, .methodref 12 13), (0, .class_ 14), (0, .nameAndType 15 16), (0, u "java/lang/StringUTF16"), (0, u "newBytesLength"), (0, u "(I)I"), (3, .integer 1073741823), (23, .fieldref 12 45), (0, .nameAndType 46 47), (0, u "$assertionsDisabled"), (0, u "Z"), (0, .methodref 12 49), (0, .nameAndType 50 51), (0, u "length"), (0, u "([B)I"), (7, .fieldref 12 60), (0, .nameAndType 61 62), (0, u "HI_BYTE_SHIFT"), (0, u "I"), (0, .fieldref 12 64), (0, .nameAndType 65 62), (0, u "LO_BYTE_SHIFT"), (1, .methodref 12 68), (0, .nameAndType 69 70), (0, u "checkIndex"), (0, u "(I[B)V"), (0, .methodref 12 72), (0, .nameAndType 73 74), (0, u "getChar"), (0, u "([BI)C"), (24, u "(II[B)V"), (7, .methodref 12 108), (0, .nameAndType 109 110), (0, u "newBytesFor"), (0, u "(I)[B"), (0, .methodref 12 112), (0, .nameAndType 113 114), (0, u "putChar"), (0, u "([BII)V"), (0, .methodref 12 116), (0, .nameAndType 117 118), (0, u "compress"), (0, u "([CI[BII)I"), (0, .methodref 12 120), (0, .nameAndType 121 122), (0, u "toBytes"), (0, u "([CII)[B"), (0, .methodref 12 124), (0, .nameAndType 117 125), (0, u "([BI[BII)I"), (0, .methodref 127 128), (0, .class_ 129), (0, .nameAndType 130 131), (0, u "java/util/Arrays"), (0, u "copyOfRange"), (0, u "([BII)[B"), (41, .methodref 12 174), (0, .nameAndType 175 99), (0, u "checkBoundsOffCount"), (75, .fieldref 3 252), (0, .nameAndType 253 47), (0, u "COMPACT_STRINGS"), (3, .methodref 12 258), (0, .nameAndType 117 131), (0, .methodref 12 260), (0, .nameAndType 261 262), (0, u "coderFromArrayLen"), (0, u "([BI)B"), (0, .methodref 3 264), (0, .nameAndType 9 265), (0, u "([BB)V"), (15, u "(III)I"), (45, u "newString"), (0, u "([BII)Ljava/lang/String;"), (40, .class_ 371), (1, u "java/lang/StringUTF16$LinesSpliterator"), (20, u "charAt"), (21, .methodref 3 415), (0, .nameAndType 69 416), (0, u "(II)V"), (2, .methodref 3 420), (0, .nameAndType 175 281), (9, u "MAX_LENGTH"), (196, .class_ 628), (0, u "java/lang/StringUTF16$CodePointsSpliterator"), (0, .class_ 630), (0, u "java/lang/StringUTF16$CharsSpliterator")] 4

def k11m0 : Method := { name := "<init>", desc := "()V", sig := { parameters := [], returnType := none }, accessFlags := 0, code := none }
def k11c1 : Code := { maxStack := 1, maxLocals := 1, code := jdk_52_method_2_code, exceptionTable := #[], attributes := #[] }
def k11m1 : Method := { name := "newBytesFor", desc := "(I)[B", sig := { parameters := [.int], returnType := some (.array .byte) }, accessFlags := 9, code := some k11c1 }
def k11c2 : Code := { maxStack := 4, maxLocals := 1, code := jdk_52_method_3_code, exceptionTable := #[], attributes := #[] }
def k11m2 : Method := { name := "newBytesLength", desc := "(I)I", sig := { parameters := [.int], returnType := some .int }, accessFlags := 9, code := some k11c2 }
def k11c3 : Code := { maxStack := 4, maxLocals := 3, code := jdk_52_method_4_code, exceptionTable := #[], attributes := #[] }
def k11m3 : Method := { name := "putChar", desc := "([BII)V", sig := { parameters := [(.array .byte), .int, .int], returnType := none }, accessFlags := 8, code := some k11c3 }
def k11c4 : Code := { maxStack := 3, maxLocals := 2, code := jdk_52_method_5_code, exceptionTable := #[], attributes := #[] }
def k11m4 : Method := { name := "getChar", desc := "([BI)C", sig := { parameters := [(.array .byte), .int], returnType := some .char }, accessFlags := 8, code := some k11c4 }
def k11c5 : Code := { maxStack := 2, maxLocals := 1, code := jdk_52_method_6_code, exceptionTable := #[], attributes := #[] }
def k11m5 : Method := { name := "length", desc := "([B)I", sig := { parameters := [(.array .byte)], returnType := some .int }, accessFlags := 9, code := some k11c5 }
def k11c6 : Code := { maxStack := 4, maxLocals := 5, code := jdk_52_method_14_code, exceptionTable := #[], attributes := #[] }
def k11m6 : Method := { name := "toBytes", desc := "([CII)[B", sig := { parameters := [(.array .char), .int, .int], returnType := some (.array .byte) }, accessFlags := 9, code := some k11c6 }
def k11c7 : Code := { maxStack := 2, maxLocals := 2, code := jdk_52_method_15_code, exceptionTable := #[], attributes := #[] }
def k11m7 : Method := { name := "coderFromArrayLen", desc := "([BI)B", sig := { parameters := [(.array .byte), .int], returnType := some .byte }, accessFlags := 8, code := some k11c7 }
def k11c8 : Code := { maxStack := 5, maxLocals := 6, code := jdk_52_method_16_code, exceptionTable := #[], attributes := #[] }
def k11m8 : Method := { name := "compress", desc := "([CII)[B", sig := { parameters := [(.array .char), .int, .int], returnType := some (.array .byte) }, accessFlags := 9, code := some k11c8 }
def k11c9 : Code := { maxStack := 5, maxLocals := 6, code := jdk_52_method_17_code, exceptionTable := #[], attributes := #[] }
def k11m9 : Method := { name := "compress", desc := "([BII)[B", sig := { parameters := [(.array .byte), .int, .int], returnType := some (.array .byte) }, accessFlags := 9, code := some k11c9 }
def k11c10 : Code := { maxStack := 3, maxLocals := 7, code := jdk_52_method_21_code, exceptionTable := #[], attributes := #[] }
def k11m10 : Method := { name := "compress", desc := "([CI[BII)I", sig := { parameters := [(.array .char), .int, (.array .byte), .int, .int], returnType := some .int }, accessFlags := 9, code := some k11c10 }
def k11c11 : Code := { maxStack := 3, maxLocals := 7, code := jdk_52_method_22_code, exceptionTable := #[], attributes := #[] }
def k11m11 : Method := { name := "compress", desc := "([BI[BII)I", sig := { parameters := [(.array .byte), .int, (.array .byte), .int, .int], returnType := some .int }, accessFlags := 9, code := some k11c11 }
def k11c12 : Code := { maxStack := 6, maxLocals := 5, code := jdk_52_method_69_code, exceptionTable := #[], attributes := #[] }
def k11m12 : Method := { name := "newString", desc := "([BII)Ljava/lang/String;", sig := { parameters := [(.array .byte), .int, .int], returnType := some (.object "java/lang/String") }, accessFlags := 9, code := some k11c12 }
def k11c13 : Code := { maxStack := 2, maxLocals := 2, code := jdk_52_method_83_code, exceptionTable := #[], attributes := #[] }
def k11m13 : Method := { name := "charAt", desc := "([BI)C", sig := { parameters := [(.array .byte), .int], returnType := some .char }, accessFlags := 9, code := some k11c13 }
def k11c14 : Code := { maxStack := 2, maxLocals := 2, code := jdk_52_method_91_code, exceptionTable := #[], attributes := #[] }
def k11m14 : Method := { name := "checkIndex", desc := "(I[B)V", sig := { parameters := [.int, (.array .byte)], returnType := none }, accessFlags := 9, code := some k11c14 }
def k11c15 : Code := { maxStack := 3, maxLocals := 3, code := jdk_52_method_94_code, exceptionTable := #[], attributes := #[] }
def k11m15 : Method := { name := "checkBoundsOffCount", desc := "(II[B)V", sig := { parameters := [.int, .int, (.array .byte)], returnType := none }, accessFlags := 9, code := some k11c15 }
/-- java/lang/StringUTF16 -/
def k11 : Class := { plain "java/lang/StringUTF16" (some 0) with
  accessFlags := 48
  interfaces := #[]
  cf := some (fileOf pool11 12 #[.nestMembers #[627, 629, 369]] #[{ accessFlags := 0, nameIndex := 9, descriptorIndex := 10, attributes := #[] }, { accessFlags := 9, nameIndex := 109, descriptorIndex := 110, attributes := #[] }, { accessFlags := 9, nameIndex := 15, descriptorIndex := 16, attributes := #[] }, { accessFlags := 8, nameIndex := 113, descriptorIndex := 114, attributes := #[] }, { accessFlags := 8, nameIndex := 73, descriptorIndex := 74, attributes := #[] }, { accessFlags := 9, nameIndex := 50, descriptorIndex := 51, attributes := #[] }, { accessFlags := 9, nameIndex := 121, descriptorIndex := 122, attributes := #[] }, { accessFlags := 8, nameIndex := 261, descriptorIndex := 262, attributes := #[] }, { accessFlags := 9, nameIndex := 117, descriptorIndex := 122, attributes := #[] }, { accessFlags := 9, nameIndex := 117, descriptorIndex := 131, attributes := #[] }, { accessFlags := 9, nameIndex := 117, descriptorIndex := 118, attributes := #[] }, { accessFlags := 9, nameIndex := 117, descriptorIndex := 125, attributes := #[] }, { accessFlags := 9, nameIndex := 327, descriptorIndex := 328, attributes := #[] }, { accessFlags := 9, nameIndex := 392, descriptorIndex := 74, attributes := #[] }, { accessFlags := 9, nameIndex := 69, descriptorIndex := 70, attributes := #[] }, { accessFlags := 9, nameIndex := 175, descriptorIndex := 99, attributes := #[] }] 48 6 #[] #[{ accessFlags := 26, nameIndex := 61, descriptorIndex := 62, attributes := #[] }, { accessFlags := 26, nameIndex := 65, descriptorIndex := 62, attributes := #[] }, { accessFlags := 24, nameIndex := 430, descriptorIndex := 62, attributes := #[] }, { accessFlags := 4120, nameIndex := 46, descriptorIndex := 47, attributes := #[] }])
  fields := #[{ name := "HI_BYTE_SHIFT", type := .int, accessFlags := 26, slot := 0, constantValue := 0 }, { name := "LO_BYTE_SHIFT", type := .int, accessFlags := 26, slot := 1, constantValue := 0 }, { name := "MAX_LENGTH", type := .int, accessFlags := 24, slot := 2, constantValue := 0 }, { name := "$assertionsDisabled", type := .boolean, accessFlags := 4120, slot := 3, constantValue := 0 }]
  methods := #[k11m0, k11m1, k11m2, k11m3, k11m4, k11m5, k11m6, k11m7, k11m8, k11m9, k11m10, k11m11, k11m12, k11m13, k11m14, k11m15]
  instanceTypes := #[]
  staticTypes := #[.int, .int, .int, .boolean]
  resolved := Array.replicate 635 none
  statics := some 2 }

def pool12 : Array CpInfo := pool [(1, .class_ 2), (0, u "java/lang/String"), (1, .class_ 6), (1, u "java/lang/Object"), (0, u "<init>"), (0, u "()V"), (0, .methodref 1 10), (0, .nameAndType 11 12), (0, u "checkIndex"), (0, u "(II)V"), (1, .class_ 16), (1, u "java/lang/StringLatin1"), (36, u "([BI)C"), (58, .methodref 1 113), (0, .nameAndType 7 114), (0, u "([BB)V"), (6, u "$assertionsDisabled"), (0, u "Z"), (8, .class_ 133), (1, u "java/util/Arrays"), (17, .string 152), (0, u ""), (43, u "newString"), (0, u "([BII)Ljava/lang/String;"), (23, .class_ 223), (1, u "java/lang/StringLatin1$LinesSpliterator"), (8, .methodref 131 233), (0, .nameAndType 234 235), (0, u "copyOfRange"), (0, u "([BII)[B"), (16, u "charAt"), (137, .class_ 391), (0, u "java/lang/StringLatin1$CharsSpliterator")] 3

def k12m0 : Method := { name := "<init>", desc := "()V", sig := { parameters := [], returnType := none }, accessFlags := 0, code := none }
def k12c1 : Code := { maxStack := 2, maxLocals := 2, code := jdk_43_method_2_code, exceptionTable := #[], attributes := #[] }
def k12m1 : Method := { name := "charAt", desc := "([BI)C", sig := { parameters := [(.array .byte), .int], returnType := some .char }, accessFlags := 9, code := some k12c1 }
def k12c2 : Code := { maxStack := 6, maxLocals := 3, code := jdk_43_method_47_code, exceptionTable := #[], attributes := #[] }
def k12m2 : Method := { name := "newString", desc := "([BII)Ljava/lang/String;", sig := { parameters := [(.array .byte), .int, .int], returnType := some (.object "java/lang/String") }, accessFlags := 9, code := some k12c2 }
/-- java/lang/StringLatin1 -/
def k12 : Class := { plain "java/lang/StringLatin1" (some 0) with
  accessFlags := 48
  interfaces := #[]
  cf := some (fileOf pool12 14 #[.nestMembers #[390, 221]] #[{ accessFlags := 0, nameIndex := 7, descriptorIndex := 8, attributes := #[] }, { accessFlags := 9, nameIndex := 252, descriptorIndex := 53, attributes := #[] }, { accessFlags := 9, nameIndex := 196, descriptorIndex := 197, attributes := #[] }] 48 4 #[] #[{ accessFlags := 4120, nameIndex := 121, descriptorIndex := 122, attributes := #[] }])
  fields := #[{ name := "$assertionsDisabled", type := .boolean, accessFlags := 4120, slot := 0, constantValue := 0 }]
  methods := #[k12m0, k12m1, k12m2]
  instanceTypes := #[]
  staticTypes := #[.boolean]
  resolved := Array.replicate 395 none
  statics := none }

def pool13 : Array CpInfo := pool [(2, .class_ 4), (1, u "java/lang/Object"), (0, u "<init>"), (0, u "()V"), (7, .class_ 16), (1, u "java/util/Arrays"), (57, .class_ 76), (1, u "java/util/Arrays$NaturalOrder"), (36, .class_ 115), (1, u "java/util/Arrays$LegacyMergeSort"), (1, u "Z"), (21, u "copyOfRange"), (10, .methodref 151 152), (0, .class_ 153), (0, .nameAndType 154 155), (0, u "java/lang/System"), (0, u "arraycopy"), (0, u "(Ljava/lang/Object;ILjava/lang/Object;II)V"), (148, .methodref 305 306), (0, .class_ 307), (0, .nameAndType 308 309), (0, u "java/lang/Math"), (0, u "min"), (0, u "(II)I"), (29, .methodref 14 340), (0, .nameAndType 341 342), (0, u "copyOfRangeByte"), (0, u "([BII)[B"), (0, .methodref 14 344), (0, .nameAndType 345 346), (0, u "checkLength"), (0, u "(II)V"), (28, .class_ 376), (0, u "java/util/Arrays$ArrayList"), (68, u "$assertionsDisabled"), (269, u "MIN_ARRAY_SORT_GRAN"), (0, u "I"), (2, u "INSERTIONSORT_THRESHOLD"), (255, .class_ 976), (0, u "java/util/Arrays$ArrayItr")] 52

def k13m0 : Method := { name := "<init>", desc := "()V", sig := { parameters := [], returnType := none }, accessFlags := 2, code := none }
def k13c1 : Code := { maxStack := 4, maxLocals := 2, code := jdk_65_method_131_code, exceptionTable := #[], attributes := #[] }
def k13m1 : Method := { name := "checkLength", desc := "(II)V", sig := { parameters := [.int, .int], returnType := none }, accessFlags := 10, code := some k13c1 }
def k13c2 : Code := { maxStack := 3, maxLocals := 3, code := jdk_65_method_132_code, exceptionTable := #[], attributes := #[] }
def k13m2 : Method := { name := "copyOfRange", desc := "([BII)[B", sig := { parameters := [(.array .byte), .int, .int], returnType := some (.array .byte) }, accessFlags := 9, code := some k13c2 }
def k13c3 : Code := { maxStack := 6, maxLocals := 5, code := jdk_65_method_133_code, exceptionTable := #[], attributes := #[] }
def k13m3 : Method := { name := "copyOfRangeByte", desc := "([BII)[B", sig := { parameters := [(.array .byte), .int, .int], returnType := some (.array .byte) }, accessFlags := 10, code := some k13c3 }
/-- java/util/Arrays -/
def k13 : Class := { plain "java/util/Arrays" (some 0) with
  accessFlags := 49
  interfaces := #[]
  cf := some (fileOf pool13 14 #[.nestMembers #[975, 375, 113, 74]] #[{ accessFlags := 2, nameIndex := 5, descriptorIndex := 6, attributes := #[] }, { accessFlags := 10, nameIndex := 345, descriptorIndex := 346, attributes := #[] }, { accessFlags := 9, nameIndex := 139, descriptorIndex := 342, attributes := #[] }, { accessFlags := 10, nameIndex := 341, descriptorIndex := 342, attributes := #[] }] 49 2 #[] #[{ accessFlags := 26, nameIndex := 715, descriptorIndex := 716, attributes := #[] }, { accessFlags := 26, nameIndex := 719, descriptorIndex := 716, attributes := #[] }, { accessFlags := 4120, nameIndex := 445, descriptorIndex := 117, attributes := #[] }])
  fields := #[{ name := "MIN_ARRAY_SORT_GRAN", type := .int, accessFlags := 26, slot := 0, constantValue := 0 }, { name := "INSERTIONSORT_THRESHOLD", type := .int, accessFlags := 26, slot := 1, constantValue := 0 }, { name := "$assertionsDisabled", type := .boolean, accessFlags := 4120, slot := 2, constantValue := 0 }]
  methods := #[k13m0, k13m1, k13m2, k13m3]
  instanceTypes := #[]
  staticTypes := #[.int, .int, .boolean]
  resolved := Array.replicate 1029 none
  statics := none }

def pool14 : Array CpInfo := pool [(2, .class_ 4), (1, u "java/lang/Object"), (0, u "<init>"), (0, u "()V"), (1, .class_ 10), (1, u "java/lang/System"), (0, u "allowSecurityManager"), (0, u "I"), (16, u "cons"), (0, u "Ljava/io/Console;"), (77, .class_ 110), (1, u "java/lang/System$CallersHolder"), (43, u "initialErrStream"), (0, u "Ljava/io/PrintStream;"), (19, u "security"), (0, u "Ljava/lang/SecurityManager;"), (31, .class_ 209), (0, u "java/lang/System$1"), (7, u "props"), (0, u "Ljava/util/Properties;"), (2, u "lineSeparator"), (0, u "Ljava/lang/String;"), (96, .class_ 321), (1, u "java/lang/System$LoggerFinder"), (5, .class_ 328), (0, u "java/lang/System$Logger"), (67, u "err"), (2, u "out"), (91, u "notSupportedJnuEncoding"), (15, u "in"), (17, u "initialIn"), (0, u "Ljava/io/InputStream;"), (35, u "bootLayer"), (0, u "Ljava/lang/ModuleLayer;"), (99, .class_ 664), (0, u "java/lang/System$2"), (9, u "NEVER"), (2, u "MAYBE"), (49, u "arraycopy"), (0, u "(Ljava/lang/Object;ILjava/lang/Object;II)V"), (72, .class_ 802), (0, u "java/lang/System$Logger$Level")] 31

def k14m0 : Method := { name := "<init>", desc := "()V", sig := { parameters := [], returnType := none }, accessFlags := 2, code := none }
def k14m1 : Method := { name := "arraycopy", desc := "(Ljava/lang/Object;ILjava/lang/Object;II)V", sig := { parameters := [(.object "java/lang/Object"), .int, (.object "java/lang/Object"), .int, .int], returnType := none }, accessFlags := 265, code := none }
/-- java/lang/System -/
def k14 : Class := { plain "java/lang/System" (some 0) with
  accessFlags := 49
  interfaces := #[]
  cf := some (fileOf pool14 8 #[.nestMembers #[319, 327, 801, 108, 663, 208]] #[{ accessFlags := 2, nameIndex := 5, descriptorIndex := 6, attributes := #[] }, { accessFlags := 265, nameIndex := 727, descriptorIndex := 728, attributes := #[] }] 49 2 #[] #[{ accessFlags := 25, nameIndex := 507, descriptorIndex := 526, attributes := #[] }, { accessFlags := 25, nameIndex := 399, descriptorIndex := 155, attributes := #[] }, { accessFlags := 25, nameIndex := 396, descriptorIndex := 155, attributes := #[] }, { accessFlags := 10, nameIndex := 525, descriptorIndex := 526, attributes := #[] }, { accessFlags := 26, nameIndex := 674, descriptorIndex := 12, attributes := #[] }, { accessFlags := 26, nameIndex := 677, descriptorIndex := 12, attributes := #[] }, { accessFlags := 10, nameIndex := 11, descriptorIndex := 12, attributes := #[] }, { accessFlags := 74, nameIndex := 175, descriptorIndex := 176, attributes := #[] }, { accessFlags := 10, nameIndex := 491, descriptorIndex := 222, attributes := #[] }, { accessFlags := 74, nameIndex := 29, descriptorIndex := 30, attributes := #[] }, { accessFlags := 74, nameIndex := 154, descriptorIndex := 155, attributes := #[] }, { accessFlags := 10, nameIndex := 217, descriptorIndex := 218, attributes := #[] }, { accessFlags := 10, nameIndex := 221, descriptorIndex := 222, attributes := #[] }, { accessFlags := 8, nameIndex := 562, descriptorIndex := 563, attributes := #[] }])
  fields := #[{ name := "in", type := (.object "java/io/InputStream"), accessFlags := 25, slot := 0, constantValue := 0 }, { name := "out", type := (.object "java/io/PrintStream"), accessFlags := 25, slot := 1, constantValue := 0 }, { name := "err", type := (.object "java/io/PrintStream"), accessFlags := 25, slot := 2, constantValue := 0 }, { name := "initialIn", type := (.object "java/io/InputStream"), accessFlags := 10, slot := 3, constantValue := 0 }, { name := "NEVER", type := .int, accessFlags := 26, slot := 4, constantValue := 0 }, { name := "MAYBE", type := .int, accessFlags := 26, slot := 5, constantValue := 0 }, { name := "allowSecurityManager", type := .int, accessFlags := 10, slot := 6, constantValue := 0 }, { name := "security", type := (.object "java/lang/SecurityManager"), accessFlags := 74, slot := 7, constantValue := 0 }, { name := "notSupportedJnuEncoding", type := (.object "java/lang/String"), accessFlags := 10, slot := 8, constantValue := 0 }, { name := "cons", type := (.object "java/io/Console"), accessFlags := 74, slot := 9, constantValue := 0 }, { name := "initialErrStream", type := (.object "java/io/PrintStream"), accessFlags := 74, slot := 10, constantValue := 0 }, { name := "props", type := (.object "java/util/Properties"), accessFlags := 10, slot := 11, constantValue := 0 }, { name := "lineSeparator", type := (.object "java/lang/String"), accessFlags := 10, slot := 12, constantValue := 0 }, { name := "bootLayer", type := (.object "java/lang/ModuleLayer"), accessFlags := 8, slot := 13, constantValue := 0 }]
  methods := #[k14m0, k14m1]
  instanceTypes := #[]
  staticTypes := #[(.object "java/io/InputStream"), (.object "java/io/PrintStream"), (.object "java/io/PrintStream"), (.object "java/io/InputStream"), .int, .int, .int, (.object "java/lang/SecurityManager"), (.object "java/lang/String"), (.object "java/io/Console"), (.object "java/io/PrintStream"), (.object "java/util/Properties"), (.object "java/lang/String"), (.object "java/lang/ModuleLayer")]
  resolved := Array.replicate 834 none
  statics := none }

def pool15 : Array CpInfo := pool [(9, u "<init>"), (6, .class_ 18), (1, u "java/lang/Object"), (0, u "()V"), (1, .class_ 23), (1, u "jdk/internal/util/ArraysSupport"), (0, u "LOG2_ARRAY_LONG_INDEX_SCALE"), (0, u "I"), (2, u "U"), (0, u "Ljdk/internal/misc/Unsafe;"), (8, u "BIG_ENDIAN"), (0, u "Z"), (8, u "LOG2_BYTE_BIT_SIZE"), (4, u "LOG2_ARRAY_INT_INDEX_SCALE"), (54, u "JLA"), (0, u "Ljdk/internal/access/JavaLangAccess;"), (11, u "LOG2_ARRAY_BOOLEAN_INDEX_SCALE"), (9, u "LOG2_ARRAY_BYTE_INDEX_SCALE"), (5, u "LOG2_ARRAY_CHAR_INDEX_SCALE"), (5, u "LOG2_ARRAY_SHORT_INDEX_SCALE"), (18, u "LOG2_ARRAY_FLOAT_INDEX_SCALE"), (24, u "LOG2_ARRAY_DOUBLE_INDEX_SCALE"), (89, u "T_BOOLEAN"), (2, u "T_CHAR"), (1, u "T_FLOAT"), (1, u "T_DOUBLE"), (1, u "T_BYTE"), (1, u "T_SHORT"), (1, u "T_INT"), (1, u "T_LONG"), (1, u "SOFT_MAX_ARRAY_LENGTH")] 83

def k15m0 : Method := { name := "<init>", desc := "()V", sig := { parameters := [], returnType := none }, accessFlags := 2, code := none }
/-- jdk/internal/util/ArraysSupport -/
def k15 : Class := { plain "jdk/internal/util/ArraysSupport" (some 0) with
  accessFlags := 33
  interfaces := #[]
  cf := some (fileOf pool15 21 #[] #[{ accessFlags := 2, nameIndex := 9, descriptorIndex := 19, attributes := #[] }] 33 16 #[] #[{ accessFlags := 24, nameIndex := 28, descriptorIndex := 29, attributes := #[] }, { accessFlags := 26, nameIndex := 38, descriptorIndex := 39, attributes := #[] }, { accessFlags := 25, nameIndex := 121, descriptorIndex := 25, attributes := #[] }, { accessFlags := 25, nameIndex := 131, descriptorIndex := 25, attributes := #[] }, { accessFlags := 25, nameIndex := 137, descriptorIndex := 25, attributes := #[] }, { accessFlags := 25, nameIndex := 143, descriptorIndex := 25, attributes := #[] }, { accessFlags := 25, nameIndex := 53, descriptorIndex := 25, attributes := #[] }, { accessFlags := 25, nameIndex := 24, descriptorIndex := 25, attributes := #[] }, { accessFlags := 25, nameIndex := 162, descriptorIndex := 25, attributes := #[] }, { accessFlags := 25, nameIndex := 187, descriptorIndex := 25, attributes := #[] }, { accessFlags := 26, nameIndex := 48, descriptorIndex := 25, attributes := #[] }, { accessFlags := 25, nameIndex := 277, descriptorIndex := 25, attributes := #[] }, { accessFlags := 25, nameIndex := 280, descriptorIndex := 25, attributes := #[] }, { accessFlags := 25, nameIndex := 282, descriptorIndex := 25, attributes := #[] }, { accessFlags := 25, nameIndex := 284, descriptorIndex := 25, attributes := #[] }, { accessFlags := 25, nameIndex := 286, descriptorIndex := 25, attributes := #[] }, { accessFlags := 25, nameIndex := 288, descriptorIndex := 25, attributes := #[] }, { accessFlags := 25, nameIndex := 290, descriptorIndex := 25, attributes := #[] }, { accessFlags := 25, nameIndex := 292, descriptorIndex := 25, attributes := #[] }, { accessFlags := 26, nameIndex := 108, descriptorIndex := 109, attributes := #[] }, { accessFlags := 25, nameIndex := 294, descriptorIndex := 25, attributes := #[] }])
  fields := #[{ name := "U", type := (.object "jdk/internal/misc/Unsafe"), accessFlags := 24, slot := 0, constantValue := 0 }, { name := "BIG_ENDIAN", type := .boolean, accessFlags := 26, slot := 1, constantValue := 0 }, { name := "LOG2_ARRAY_BOOLEAN_INDEX_SCALE", type := .int, accessFlags := 25, slot := 2, constantValue := 0 }, { name := "LOG2_ARRAY_BYTE_INDEX_SCALE", type := .int, accessFlags := 25, slot := 3, constantValue := 0 }, { name := "LOG2_ARRAY_CHAR_INDEX_SCALE", type := .int, accessFlags := 25, slot := 4, constantValue := 0 }, { name := "LOG2_ARRAY_SHORT_INDEX_SCALE", type := .int, accessFlags := 25, slot := 5, constantValue := 0 }, { name := "LOG2_ARRAY_INT_INDEX_SCALE", type := .int, accessFlags := 25, slot := 6, constantValue := 0 }, { name := "LOG2_ARRAY_LONG_INDEX_SCALE", type := .int, accessFlags := 25, slot := 7, constantValue := 0 }, { name := "LOG2_ARRAY_FLOAT_INDEX_SCALE", type := .int, accessFlags := 25, slot := 8, constantValue := 0 }, { name := "LOG2_ARRAY_DOUBLE_INDEX_SCALE", type := .int, accessFlags := 25, slot := 9, constantValue := 0 }, { name := "LOG2_BYTE_BIT_SIZE", type := .int, accessFlags := 26, slot := 10, constantValue := 0 }, { name := "T_BOOLEAN", type := .int, accessFlags := 25, slot := 11, constantValue := 0 }, { name := "T_CHAR", type := .int, accessFlags := 25, slot := 12, constantValue := 0 }, { name := "T_FLOAT", type := .int, accessFlags := 25, slot := 13, constantValue := 0 }, { name := "T_DOUBLE", type := .int, accessFlags := 25, slot := 14, constantValue := 0 }, { name := "T_BYTE", type := .int, accessFlags := 25, slot := 15, constantValue := 0 }, { name := "T_SHORT", type := .int, accessFlags := 25, slot := 16, constantValue := 0 }, { name := "T_INT", type := .int, accessFlags := 25, slot := 17, constantValue := 0 }, { name := "T_LONG", type := .int, accessFlags := 25, slot := 18, constantValue := 0 }, { name := "JLA", type := (.object "jdk/internal/access/JavaLangAccess"), accessFlags := 26, slot := 19, constantValue := 0 }, { name := "SOFT_MAX_ARRAY_LENGTH", type := .int, accessFlags := 25, slot := 20, constantValue := 0 }]
  methods := #[k15m0]
  instanceTypes := #[]
  staticTypes := #[(.object "jdk/internal/misc/Unsafe"), .boolean, .int, .int, .int, .int, .int, .int, .int, .int, .int, .int, .int, .int, .int, .int, .int, .int, .int, (.object "jdk/internal/access/JavaLangAccess"), .int]
  resolved := Array.replicate 378 none
  statics := none }

def pool16 : Array CpInfo := pool [(1, u "java/lang/Cloneable"), (0, .class_ 1), (0, u "java/lang/Object"), (0, .class_ 3)] 3

/-- java/lang/Cloneable -/
def k16 : Class := { plain "java/lang/Cloneable" (some 0) with
  accessFlags := 1537
  interfaces := #[]
  cf := some (fileOf pool16 2 #[] #[] 1537 4 #[] #[])
  fields := #[]
  methods := #[]
  instanceTypes := #[]
  staticTypes := #[]
  resolved := Array.replicate 8 none
  statics := none }

/-- the primitive byte -/
def k17 : Class := { plain "byte" none with kind := .primitive 'B', accessFlags := 0x411 }
/-- [B -/
def k18 : Class := { plain "[B" (some 0) with kind := .array 17 .byte, interfaces := #[16, 2], accessFlags := 1041 }

/-- the primitive char -/
def k19 : Class := { plain "char" none with kind := .primitive 'C', accessFlags := 0x411 }
/-- [C -/
def k20 : Class := { plain "[C" (some 0) with kind := .array 19 .char, interfaces := #[16, 2], accessFlags := 1041 }

/-- the primitive int -/
def k21 : Class := { plain "int" none with kind := .primitive 'I', accessFlags := 0x411 }
/-- [I -/
def k22 : Class := { plain "[I" (some 0) with kind := .array 21 .int, interfaces := #[16, 2], accessFlags := 1041 }

def heap : Heap := #[{ cls := 7, slots := #[.long 0, .int 1, .null, .int 0, .null, .int 0, .int 0], vm := .statics 7 },
  { cls := 10, slots := #[.null, .null, .null], vm := .statics 10 },
  { cls := 11, slots := #[.int 0, .int 8, .int 0, .int 1], vm := .statics 11 }]
def classes : Array Class := #[k0, k1, k2, k3, k4, k5, k6, k7, k8, k9, k10, k11, k12, k13, k14, k15, k16, k17, k18, k19, k20, k21, k22]
def interned : List (Array UInt16 × Addr) := []
def slotsUsed : Nat := 14
def theMethod : MethodId := ⟨1, 5⟩
def args0 : Array Value := #[.int 5, .int 6, .int 7, .int 8, .int 9]
def aboutOver (below : List Frame) : State where
  vm := { classes := classes, interned := interned.toArray }
  heap := heap
  slotsUsed := slotsUsed
  threads := #[{ frames := .invoking theMethod args0 :: below }]
def below0 : List Frame := [.native { method := ⟨0, 0⟩, args := #[] }]
def about1 : State := aboutOver below0
def p0 : Program := .bare "" "" ""
def e0 : Env := launch0.env 0 0 0
theorem w_frames : about1.frames = Frame.invoking theMethod args0 :: below0 := rfl
set_option maxRecDepth 65536 in
theorem w_args : argsFit about1.vm theMethod args0 = true := by decide +kernel
set_option maxRecDepth 65536 in
theorem w_heap : heapFits about1 = true := by decide +kernel
set_option maxRecDepth 65536 in
theorem w_runnable : about1.curStatus? = some .runnable := by decide +kernel
set_option maxRecDepth 65536 in
theorem w_alone : about1.alone = true := by decide +kernel
set_option maxRecDepth 65536 in
theorem w_named : about1.methodNamed? x = some theMethod := by decide +kernel
set_option maxRecDepth 65536 in
theorem w_hears : about1.hears theMethod below0 = true := by decide +kernel
set_option maxRecDepth 65536 in
theorem w_ripe : about1.ripe theMethod args0 below0 = true := by decide +kernel
theorem w_running : about1.status = .running := rfl
set_option maxRecDepth 65536 in
theorem w_room : about1.hasRoom e0.platform room_1 = true :=
  launch0.hasRoom_least _ room_1 (by decide +kernel) (by decide +kernel) (by decide +kernel) (by decide +kernel) (by decide +kernel) (by decide +kernel)
theorem allAtoms_all (ts : List Jvm.Cond) (a : Array Jvm.Value) (st : Jvm.State) : (allAtoms ts).before a st = ts.all (fun c => c.before a st) := by
  induction ts with
  | nil => rfl
  | cons c t ih =>
    show (Jvm.Cond.and c (allAtoms t)).before a st = _
    rw [Jvm.Cond.before_and, ih, List.all_cons]
def words1 : List Jvm.Cond := Jvm.Cond.code x code maxLocals ret :: tables_1
/-- a 'code' word, met by the world's own term for the bytes: nothing is compared byte by byte -/
theorem code_word {y : MethodName} {bytes : ByteArray} {mx : Nat} {rt : Option FieldType} {a : Array Value} {s : State} {m : MethodId} {meth : Method} {c : Code} (h1 : s.methodNamed? y = some m) (h2 : s.vm.method? m = some meth) (h3 : meth.code = some c) (h4 : c.code = bytes)
    (h5 : (c.maxLocals == mx && c.exceptionTable.isEmpty && decide (c.maxStack ≤ mostOperands) && decide (meth.sig.returnType = rt) && !meth.locks && decide (parseMethodDescriptor y.desc = some meth.sig)) = true) : (Jvm.Cond.code y bytes mx rt).before a s = true := by
  simp only [Bool.and_eq_true, beq_iff_eq, Bool.not_eq_true', decide_eq_true_eq] at h5
  obtain ⟨⟨⟨⟨⟨g1, g2⟩, g3⟩, g4⟩, g5⟩, g6⟩ := h5
  simp [Cond.before, Cond.holds, Cond.value, h1, h2, h3, h4, g1, g2, g3, g4, g5, g6]
def isCode : Jvm.Cond → Bool
  | .code _ _ _ _ => true
  | _ => false
theorem all_split {L : List Jvm.Cond} {P : Jvm.Cond → Bool} (h1 : L.all (fun c => isCode c || P c) = true) (h2 : ∀ c ∈ L.filter isCode, P c = true) : L.all P = true := by
  refine List.all_eq_true.mpr fun c hc => ?_
  have h := List.all_eq_true.mp h1 c hc
  rcases Bool.eq_false_or_eq_true (isCode c) with hi | hi
  · exact h2 c (List.mem_filter.mpr ⟨hc, hi⟩)
  · simpa [hi] using h
set_option maxRecDepth 65536 in
theorem w_c0 : (Jvm.Cond.code x code maxLocals ret).before args0 about1 = true := code_word (m := ⟨1, 5⟩) (meth := k1m5) (c := k1c5) (by decide +kernel) rfl rfl rfl (by decide +kernel)
set_option maxRecDepth 65536 in
theorem w_c1 : (Jvm.Cond.code ({ cls := "com/example/wide_weir/wideweir/http/HttpSyntaxTrimWhitespacePinLaw", name := "pick", desc := "(I)C" } : Jvm.MethodName) method_2_code (2 : Nat) (Option.some Jvm.ClassFile.FieldType.char)).before args0 about1 = true := code_word (m := ⟨1, 1⟩) (meth := k1m1) (c := k1c1) (by decide +kernel) rfl rfl rfl (by decide +kernel)
set_option maxRecDepth 65536 in
theorem w_c2 : (Jvm.Cond.code ({ cls := "com/example/wide_weir/wideweir/http/HttpSyntaxTrimWhitespacePinLaw", name := "make", desc := "(ICCCC)Ljava/lang/String;" } : Jvm.MethodName) method_5_code (5 : Nat) (Option.some (Jvm.ClassFile.FieldType.object "java/lang/String"))).before args0 about1 = true := code_word (m := ⟨1, 4⟩) (meth := k1m4) (c := k1c4) (by decide +kernel) rfl rfl rfl (by decide +kernel)
set_option maxRecDepth 65536 in
theorem w_c3 : (Jvm.Cond.code ({ cls := "java/lang/String", name := "<init>", desc := "([C)V" } : Jvm.MethodName) jdk_42_method_3_code (2 : Nat) (Option.none : Option Jvm.ClassFile.FieldType)).before args0 about1 = true := code_word (m := ⟨7, 1⟩) (meth := k7m1) (c := k7c1) (by decide +kernel) rfl rfl rfl (by decide +kernel)
set_option maxRecDepth 65536 in
theorem w_c4 : (Jvm.Cond.code ({ cls := "java/lang/String", name := "<init>", desc := "([CIILjava/lang/Void;)V" } : Jvm.MethodName) jdk_42_method_149_code (6 : Nat) (Option.none : Option Jvm.ClassFile.FieldType)).before args0 about1 = true := code_word (m := ⟨7, 5⟩) (meth := k7m5) (c := k7c5) (by decide +kernel) rfl rfl rfl (by decide +kernel)
set_option maxRecDepth 65536 in
theorem w_c5 : (Jvm.Cond.code ({ cls := "java/lang/Object", name := "<init>", desc := "()V" } : Jvm.MethodName) object_method_1_code (1 : Nat) (Option.none : Option Jvm.ClassFile.FieldType)).before args0 about1 = true := code_word (m := ⟨0, 0⟩) (meth := k0m0) (c := k0c0) (by decide +kernel) rfl rfl rfl (by decide +kernel)
set_option maxRecDepth 65536 in
theorem w_c6 : (Jvm.Cond.code ({ cls := "java/lang/Math", name := "max", desc := "(II)I" } : Jvm.MethodName) jdk_29_method_65_code (2 : Nat) (Option.some Jvm.ClassFile.FieldType.int)).before args0 about1 = true := code_word (m := ⟨8, 1⟩) (meth := k8m1) (c := k8c1) (by decide +kernel) rfl rfl rfl (by decide +kernel)
set_option maxRecDepth 65536 in
theorem w_c7 : (Jvm.Cond.code ({ cls := "com/example/wide_weir/wideweir/http/HttpSyntax", name := "trimWhitespace", desc := "(Ljava/lang/String;)Ljava/lang/String;" } : Jvm.MethodName) prog_33_method_5_code (3 : Nat) (Option.some (Jvm.ClassFile.FieldType.object "java/lang/String"))).before args0 about1 = true := code_word (m := ⟨9, 1⟩) (meth := k9m1) (c := k9c1) (by decide +kernel) rfl rfl rfl (by decide +kernel)
set_option maxRecDepth 65536 in
theorem w_c8 : (Jvm.Cond.code ({ cls := "java/lang/String", name := "length", desc := "()I" } : Jvm.MethodName) jdk_42_method_54_code (1 : Nat) (Option.some Jvm.ClassFile.FieldType.int)).before args0 about1 = true := code_word (m := ⟨7, 2⟩) (meth := k7m2) (c := k7c2) (by decide +kernel) rfl rfl rfl (by decide +kernel)
set_option maxRecDepth 65536 in
theorem w_c9 : (Jvm.Cond.code ({ cls := "java/lang/String", name := "coder", desc := "()B" } : Jvm.MethodName) jdk_42_method_152_code (1 : Nat) (Option.some Jvm.ClassFile.FieldType.byte)).before args0 about1 = true := code_word (m := ⟨7, 7⟩) (meth := k7m7) (c := k7c7) (by decide +kernel) rfl rfl rfl (by decide +kernel)
set_option maxRecDepth 65536 in
theorem w_c10 : (Jvm.Cond.code ({ cls := "java/lang/String", name := "substring", desc := "(II)Ljava/lang/String;" } : Jvm.MethodName) jdk_42_method_92_code (5 : Nat) (Option.some (Jvm.ClassFile.FieldType.object "java/lang/String"))).before args0 about1 = true := code_word (m := ⟨7, 4⟩) (meth := k7m4) (c := k7c4) (by decide +kernel) rfl rfl rfl (by decide +kernel)
set_option maxRecDepth 65536 in
theorem w_c11 : (Jvm.Cond.code ({ cls := "java/lang/String", name := "checkBoundsBeginEnd", desc := "(III)V" } : Jvm.MethodName) jdk_42_method_158_code (3 : Nat) (Option.none : Option Jvm.ClassFile.FieldType)).before args0 about1 = true := code_word (m := ⟨7, 11⟩) (meth := k7m11) (c := k7c11) (by decide +kernel) rfl rfl rfl (by decide +kernel)
set_option maxRecDepth 65536 in
theorem w_c12 : (Jvm.Cond.code ({ cls := "jdk/internal/util/Preconditions", name := "checkFromToIndex", desc := "(IIILjava/util/function/BiFunction;)I" } : Jvm.MethodName) jdk_41_method_12_code (4 : Nat) (Option.some Jvm.ClassFile.FieldType.int)).before args0 about1 = true := code_word (m := ⟨10, 2⟩) (meth := k10m2) (c := k10c2) (by decide +kernel) rfl rfl rfl (by decide +kernel)
set_option maxRecDepth 65536 in
theorem w_c13 : (Jvm.Cond.code ({ cls := "java/lang/StringUTF16", name := "compress", desc := "([CII)[B" } : Jvm.MethodName) jdk_52_method_16_code (6 : Nat) (Option.some (Jvm.ClassFile.FieldType.array Jvm.ClassFile.FieldType.byte))).before args0 about1 = true := code_word (m := ⟨11, 8⟩) (meth := k11m8) (c := k11c8) (by decide +kernel) rfl rfl rfl (by decide +kernel)
set_option maxRecDepth 65536 in
theorem w_c14 : (Jvm.Cond.code ({ cls := "java/lang/StringUTF16", name := "compress", desc := "([CI[BII)I" } : Jvm.MethodName) jdk_52_method_21_code (7 : Nat) (Option.some Jvm.ClassFile.FieldType.int)).before args0 about1 = true := code_word (m := ⟨11, 10⟩) (meth := k11m10) (c := k11c10) (by decide +kernel) rfl rfl rfl (by decide +kernel)
set_option maxRecDepth 65536 in
theorem w_c15 : (Jvm.Cond.code ({ cls := "java/lang/StringUTF16", name := "coderFromArrayLen", desc := "([BI)B" } : Jvm.MethodName) jdk_52_method_15_code (2 : Nat) (Option.some Jvm.ClassFile.FieldType.byte)).before args0 about1 = true := code_word (m := ⟨11, 7⟩) (meth := k11m7) (c := k11c7) (by decide +kernel) rfl rfl rfl (by decide +kernel)
set_option maxRecDepth 65536 in
theorem w_c16 : (Jvm.Cond.code ({ cls := "com/example/wide_weir/wideweir/http/HttpSyntaxTrimWhitespacePinLaw", name := "ws", desc := "(C)Z" } : Jvm.MethodName) method_3_code (1 : Nat) (Option.some Jvm.ClassFile.FieldType.boolean)).before args0 about1 = true := code_word (m := ⟨1, 2⟩) (meth := k1m2) (c := k1c2) (by decide +kernel) rfl rfl rfl (by decide +kernel)
set_option maxRecDepth 65536 in
theorem w_c17 : (Jvm.Cond.code ({ cls := "java/lang/String", name := "charAt", desc := "(I)C" } : Jvm.MethodName) jdk_42_method_56_code (2 : Nat) (Option.some Jvm.ClassFile.FieldType.char)).before args0 about1 = true := code_word (m := ⟨7, 3⟩) (meth := k7m3) (c := k7c3) (by decide +kernel) rfl rfl rfl (by decide +kernel)
set_option maxRecDepth 65536 in
theorem w_c18 : (Jvm.Cond.code ({ cls := "java/lang/String", name := "isLatin1", desc := "()Z" } : Jvm.MethodName) jdk_42_method_154_code (1 : Nat) (Option.some Jvm.ClassFile.FieldType.boolean)).before args0 about1 = true := code_word (m := ⟨7, 8⟩) (meth := k7m8) (c := k7c8) (by decide +kernel) rfl rfl rfl (by decide +kernel)
set_option maxRecDepth 65536 in
theorem w_c19 : (Jvm.Cond.code ({ cls := "java/lang/StringLatin1", name := "charAt", desc := "([BI)C" } : Jvm.MethodName) jdk_43_method_2_code (2 : Nat) (Option.some Jvm.ClassFile.FieldType.char)).before args0 about1 = true := code_word (m := ⟨12, 1⟩) (meth := k12m1) (c := k12c1) (by decide +kernel) rfl rfl rfl (by decide +kernel)
set_option maxRecDepth 65536 in
theorem w_c20 : (Jvm.Cond.code ({ cls := "java/lang/String", name := "checkIndex", desc := "(II)V" } : Jvm.MethodName) jdk_42_method_155_code (2 : Nat) (Option.none : Option Jvm.ClassFile.FieldType)).before args0 about1 = true := code_word (m := ⟨7, 9⟩) (meth := k7m9) (c := k7c9) (by decide +kernel) rfl rfl rfl (by decide +kernel)
set_option maxRecDepth 65536 in
theorem w_c21 : (Jvm.Cond.code ({ cls := "jdk/internal/util/Preconditions", name := "checkIndex", desc := "(IILjava/util/function/BiFunction;)I" } : Jvm.MethodName) jdk_41_method_11_code (3 : Nat) (Option.some Jvm.ClassFile.FieldType.int)).before args0 about1 = true := code_word (m := ⟨10, 1⟩) (meth := k10m1) (c := k10c1) (by decide +kernel) rfl rfl rfl (by decide +kernel)
set_option maxRecDepth 65536 in
theorem w_c22 : (Jvm.Cond.code ({ cls := "java/lang/StringLatin1", name := "newString", desc := "([BII)Ljava/lang/String;" } : Jvm.MethodName) jdk_43_method_47_code (3 : Nat) (Option.some (Jvm.ClassFile.FieldType.object "java/lang/String"))).before args0 about1 = true := code_word (m := ⟨12, 2⟩) (meth := k12m2) (c := k12c2) (by decide +kernel) rfl rfl rfl (by decide +kernel)
set_option maxRecDepth 65536 in
theorem w_c23 : (Jvm.Cond.code ({ cls := "java/util/Arrays", name := "copyOfRange", desc := "([BII)[B" } : Jvm.MethodName) jdk_65_method_132_code (3 : Nat) (Option.some (Jvm.ClassFile.FieldType.array Jvm.ClassFile.FieldType.byte))).before args0 about1 = true := code_word (m := ⟨13, 2⟩) (meth := k13m2) (c := k13c2) (by decide +kernel) rfl rfl rfl (by decide +kernel)
set_option maxRecDepth 65536 in
theorem w_c24 : (Jvm.Cond.code ({ cls := "java/util/Arrays", name := "copyOfRangeByte", desc := "([BII)[B" } : Jvm.MethodName) jdk_65_method_133_code (5 : Nat) (Option.some (Jvm.ClassFile.FieldType.array Jvm.ClassFile.FieldType.byte))).before args0 about1 = true := code_word (m := ⟨13, 3⟩) (meth := k13m3) (c := k13c3) (by decide +kernel) rfl rfl rfl (by decide +kernel)
set_option maxRecDepth 65536 in
theorem w_c25 : (Jvm.Cond.code ({ cls := "java/util/Arrays", name := "checkLength", desc := "(II)V" } : Jvm.MethodName) jdk_65_method_131_code (2 : Nat) (Option.none : Option Jvm.ClassFile.FieldType)).before args0 about1 = true := code_word (m := ⟨13, 1⟩) (meth := k13m1) (c := k13c1) (by decide +kernel) rfl rfl rfl (by decide +kernel)
set_option maxRecDepth 65536 in
theorem w_c26 : (Jvm.Cond.code ({ cls := "java/lang/Math", name := "min", desc := "(II)I" } : Jvm.MethodName) jdk_29_method_69_code (2 : Nat) (Option.some Jvm.ClassFile.FieldType.int)).before args0 about1 = true := code_word (m := ⟨8, 2⟩) (meth := k8m2) (c := k8c2) (by decide +kernel) rfl rfl rfl (by decide +kernel)
set_option maxRecDepth 65536 in
theorem w_c27 : (Jvm.Cond.code ({ cls := "java/lang/String", name := "<init>", desc := "([BB)V" } : Jvm.MethodName) jdk_42_method_151_code (3 : Nat) (Option.none : Option Jvm.ClassFile.FieldType)).before args0 about1 = true := code_word (m := ⟨7, 6⟩) (meth := k7m6) (c := k7c6) (by decide +kernel) rfl rfl rfl (by decide +kernel)
set_option maxRecDepth 65536 in
theorem w_c28 : (Jvm.Cond.code ({ cls := "com/example/wide_weir/wideweir/http/HttpSyntaxTrimWhitespacePinLaw", name := "at", desc := "(ICCCC)C" } : Jvm.MethodName) method_4_code (5 : Nat) (Option.some Jvm.ClassFile.FieldType.char)).before args0 about1 = true := code_word (m := ⟨1, 3⟩) (meth := k1m3) (c := k1c3) (by decide +kernel) rfl rfl rfl (by decide +kernel)
set_option maxRecDepth 65536 in
theorem w_c29 : (Jvm.Cond.code ({ cls := "java/lang/StringUTF16", name := "toBytes", desc := "([CII)[B" } : Jvm.MethodName) jdk_52_method_14_code (5 : Nat) (Option.some (Jvm.ClassFile.FieldType.array Jvm.ClassFile.FieldType.byte))).before args0 about1 = true := code_word (m := ⟨11, 6⟩) (meth := k11m6) (c := k11c6) (by decide +kernel) rfl rfl rfl (by decide +kernel)
set_option maxRecDepth 65536 in
theorem w_c30 : (Jvm.Cond.code ({ cls := "java/lang/StringUTF16", name := "newBytesFor", desc := "(I)[B" } : Jvm.MethodName) jdk_52_method_2_code (1 : Nat) (Option.some (Jvm.ClassFile.FieldType.array Jvm.ClassFile.FieldType.byte))).before args0 about1 = true := code_word (m := ⟨11, 1⟩) (meth := k11m1) (c := k11c1) (by decide +kernel) rfl rfl rfl (by decide +kernel)
set_option maxRecDepth 65536 in
theorem w_c31 : (Jvm.Cond.code ({ cls := "java/lang/StringUTF16", name := "newBytesLength", desc := "(I)I" } : Jvm.MethodName) jdk_52_method_3_code (1 : Nat) (Option.some Jvm.ClassFile.FieldType.int)).before args0 about1 = true := code_word (m := ⟨11, 2⟩) (meth := k11m2) (c := k11c2) (by decide +kernel) rfl rfl rfl (by decide +kernel)
set_option maxRecDepth 65536 in
theorem w_c32 : (Jvm.Cond.code ({ cls := "java/lang/StringUTF16", name := "putChar", desc := "([BII)V" } : Jvm.MethodName) jdk_52_method_4_code (3 : Nat) (Option.none : Option Jvm.ClassFile.FieldType)).before args0 about1 = true := code_word (m := ⟨11, 3⟩) (meth := k11m3) (c := k11c3) (by decide +kernel) rfl rfl rfl (by decide +kernel)
set_option maxRecDepth 65536 in
theorem w_c33 : (Jvm.Cond.code ({ cls := "java/lang/StringUTF16", name := "getChar", desc := "([BI)C" } : Jvm.MethodName) jdk_52_method_5_code (2 : Nat) (Option.some Jvm.ClassFile.FieldType.char)).before args0 about1 = true := code_word (m := ⟨11, 4⟩) (meth := k11m4) (c := k11c4) (by decide +kernel) rfl rfl rfl (by decide +kernel)
set_option maxRecDepth 65536 in
theorem w_c34 : (Jvm.Cond.code ({ cls := "java/lang/StringUTF16", name := "charAt", desc := "([BI)C" } : Jvm.MethodName) jdk_52_method_83_code (2 : Nat) (Option.some Jvm.ClassFile.FieldType.char)).before args0 about1 = true := code_word (m := ⟨11, 13⟩) (meth := k11m13) (c := k11c13) (by decide +kernel) rfl rfl rfl (by decide +kernel)
set_option maxRecDepth 65536 in
theorem w_c35 : (Jvm.Cond.code ({ cls := "java/lang/StringUTF16", name := "checkIndex", desc := "(I[B)V" } : Jvm.MethodName) jdk_52_method_91_code (2 : Nat) (Option.none : Option Jvm.ClassFile.FieldType)).before args0 about1 = true := code_word (m := ⟨11, 14⟩) (meth := k11m14) (c := k11c14) (by decide +kernel) rfl rfl rfl (by decide +kernel)
set_option maxRecDepth 65536 in
theorem w_c36 : (Jvm.Cond.code ({ cls := "java/lang/StringUTF16", name := "length", desc := "([B)I" } : Jvm.MethodName) jdk_52_method_6_code (1 : Nat) (Option.some Jvm.ClassFile.FieldType.int)).before args0 about1 = true := code_word (m := ⟨11, 5⟩) (meth := k11m5) (c := k11c5) (by decide +kernel) rfl rfl rfl (by decide +kernel)
set_option maxRecDepth 65536 in
theorem w_c37 : (Jvm.Cond.code ({ cls := "java/lang/StringUTF16", name := "newString", desc := "([BII)Ljava/lang/String;" } : Jvm.MethodName) jdk_52_method_69_code (5 : Nat) (Option.some (Jvm.ClassFile.FieldType.object "java/lang/String"))).before args0 about1 = true := code_word (m := ⟨11, 12⟩) (meth := k11m12) (c := k11c12) (by decide +kernel) rfl rfl rfl (by decide +kernel)
set_option maxRecDepth 65536 in
theorem w_c38 : (Jvm.Cond.code ({ cls := "java/lang/StringUTF16", name := "compress", desc := "([BII)[B" } : Jvm.MethodName) jdk_52_method_17_code (6 : Nat) (Option.some (Jvm.ClassFile.FieldType.array Jvm.ClassFile.FieldType.byte))).before args0 about1 = true := code_word (m := ⟨11, 9⟩) (meth := k11m9) (c := k11c9) (by decide +kernel) rfl rfl rfl (by decide +kernel)
set_option maxRecDepth 65536 in
theorem w_c39 : (Jvm.Cond.code ({ cls := "java/lang/StringUTF16", name := "compress", desc := "([BI[BII)I" } : Jvm.MethodName) jdk_52_method_22_code (7 : Nat) (Option.some Jvm.ClassFile.FieldType.int)).before args0 about1 = true := code_word (m := ⟨11, 11⟩) (meth := k11m11) (c := k11c11) (by decide +kernel) rfl rfl rfl (by decide +kernel)
set_option maxRecDepth 65536 in
theorem w_c40 : (Jvm.Cond.code ({ cls := "java/lang/StringUTF16", name := "checkBoundsOffCount", desc := "(II[B)V" } : Jvm.MethodName) jdk_52_method_94_code (3 : Nat) (Option.none : Option Jvm.ClassFile.FieldType)).before args0 about1 = true := code_word (m := ⟨11, 15⟩) (meth := k11m15) (c := k11c15) (by decide +kernel) rfl rfl rfl (by decide +kernel)
set_option maxRecDepth 65536 in
theorem w_c41 : (Jvm.Cond.code ({ cls := "java/lang/String", name := "checkBoundsOffCount", desc := "(III)I" } : Jvm.MethodName) jdk_42_method_157_code (3 : Nat) (Option.some Jvm.ClassFile.FieldType.int)).before args0 about1 = true := code_word (m := ⟨7, 10⟩) (meth := k7m10) (c := k7c10) (by decide +kernel) rfl rfl rfl (by decide +kernel)
set_option maxRecDepth 65536 in
theorem w_c42 : (Jvm.Cond.code ({ cls := "jdk/internal/util/Preconditions", name := "checkFromIndexSize", desc := "(IIILjava/util/function/BiFunction;)I" } : Jvm.MethodName) jdk_41_method_13_code (4 : Nat) (Option.some Jvm.ClassFile.FieldType.int)).before args0 about1 = true := code_word (m := ⟨10, 3⟩) (meth := k10m3) (c := k10c3) (by decide +kernel) rfl rfl rfl (by decide +kernel)
def codes1 : List Jvm.Cond := [Jvm.Cond.code x code maxLocals ret, Jvm.Cond.code ({ cls := "com/example/wide_weir/wideweir/http/HttpSyntaxTrimWhitespacePinLaw", name := "pick", desc := "(I)C" } : Jvm.MethodName) method_2_code (2 : Nat) (Option.some Jvm.ClassFile.FieldType.char), Jvm.Cond.code ({ cls := "com/example/wide_weir/wideweir/http/HttpSyntaxTrimWhitespacePinLaw", name := "make", desc := "(ICCCC)Ljava/lang/String;" } : Jvm.MethodName) method_5_code (5 : Nat) (Option.some (Jvm.ClassFile.FieldType.object "java/lang/String")), Jvm.Cond.code ({ cls := "java/lang/String", name := "<init>", desc := "([C)V" } : Jvm.MethodName) jdk_42_method_3_code (2 : Nat) (Option.none : Option Jvm.ClassFile.FieldType), Jvm.Cond.code ({ cls := "java/lang/String", name := "<init>", desc := "([CIILjava/lang/Void;)V" } : Jvm.MethodName) jdk_42_method_149_code (6 : Nat) (Option.none : Option Jvm.ClassFile.FieldType), Jvm.Cond.code ({ cls := "java/lang/Object", name := "<init>", desc := "()V" } : Jvm.MethodName) object_method_1_code (1 : Nat) (Option.none : Option Jvm.ClassFile.FieldType), Jvm.Cond.code ({ cls := "java/lang/Math", name := "max", desc := "(II)I" } : Jvm.MethodName) jdk_29_method_65_code (2 : Nat) (Option.some Jvm.ClassFile.FieldType.int), Jvm.Cond.code ({ cls := "com/example/wide_weir/wideweir/http/HttpSyntax", name := "trimWhitespace", desc := "(Ljava/lang/String;)Ljava/lang/String;" } : Jvm.MethodName) prog_33_method_5_code (3 : Nat) (Option.some (Jvm.ClassFile.FieldType.object "java/lang/String")), Jvm.Cond.code ({ cls := "java/lang/String", name := "length", desc := "()I" } : Jvm.MethodName) jdk_42_method_54_code (1 : Nat) (Option.some Jvm.ClassFile.FieldType.int), Jvm.Cond.code ({ cls := "java/lang/String", name := "coder", desc := "()B" } : Jvm.MethodName) jdk_42_method_152_code (1 : Nat) (Option.some Jvm.ClassFile.FieldType.byte), Jvm.Cond.code ({ cls := "java/lang/String", name := "substring", desc := "(II)Ljava/lang/String;" } : Jvm.MethodName) jdk_42_method_92_code (5 : Nat) (Option.some (Jvm.ClassFile.FieldType.object "java/lang/String")), Jvm.Cond.code ({ cls := "java/lang/String", name := "checkBoundsBeginEnd", desc := "(III)V" } : Jvm.MethodName) jdk_42_method_158_code (3 : Nat) (Option.none : Option Jvm.ClassFile.FieldType), Jvm.Cond.code ({ cls := "jdk/internal/util/Preconditions", name := "checkFromToIndex", desc := "(IIILjava/util/function/BiFunction;)I" } : Jvm.MethodName) jdk_41_method_12_code (4 : Nat) (Option.some Jvm.ClassFile.FieldType.int), Jvm.Cond.code ({ cls := "java/lang/StringUTF16", name := "compress", desc := "([CII)[B" } : Jvm.MethodName) jdk_52_method_16_code (6 : Nat) (Option.some (Jvm.ClassFile.FieldType.array Jvm.ClassFile.FieldType.byte)), Jvm.Cond.code ({ cls := "java/lang/StringUTF16", name := "compress", desc := "([CI[BII)I" } : Jvm.MethodName) jdk_52_method_21_code (7 : Nat) (Option.some Jvm.ClassFile.FieldType.int), Jvm.Cond.code ({ cls := "java/lang/StringUTF16", name := "coderFromArrayLen", desc := "([BI)B" } : Jvm.MethodName) jdk_52_method_15_code (2 : Nat) (Option.some Jvm.ClassFile.FieldType.byte), Jvm.Cond.code ({ cls := "com/example/wide_weir/wideweir/http/HttpSyntaxTrimWhitespacePinLaw", name := "ws", desc := "(C)Z" } : Jvm.MethodName) method_3_code (1 : Nat) (Option.some Jvm.ClassFile.FieldType.boolean), Jvm.Cond.code ({ cls := "java/lang/String", name := "charAt", desc := "(I)C" } : Jvm.MethodName) jdk_42_method_56_code (2 : Nat) (Option.some Jvm.ClassFile.FieldType.char), Jvm.Cond.code ({ cls := "java/lang/String", name := "isLatin1", desc := "()Z" } : Jvm.MethodName) jdk_42_method_154_code (1 : Nat) (Option.some Jvm.ClassFile.FieldType.boolean), Jvm.Cond.code ({ cls := "java/lang/StringLatin1", name := "charAt", desc := "([BI)C" } : Jvm.MethodName) jdk_43_method_2_code (2 : Nat) (Option.some Jvm.ClassFile.FieldType.char), Jvm.Cond.code ({ cls := "java/lang/String", name := "checkIndex", desc := "(II)V" } : Jvm.MethodName) jdk_42_method_155_code (2 : Nat) (Option.none : Option Jvm.ClassFile.FieldType), Jvm.Cond.code ({ cls := "jdk/internal/util/Preconditions", name := "checkIndex", desc := "(IILjava/util/function/BiFunction;)I" } : Jvm.MethodName) jdk_41_method_11_code (3 : Nat) (Option.some Jvm.ClassFile.FieldType.int), Jvm.Cond.code ({ cls := "java/lang/StringLatin1", name := "newString", desc := "([BII)Ljava/lang/String;" } : Jvm.MethodName) jdk_43_method_47_code (3 : Nat) (Option.some (Jvm.ClassFile.FieldType.object "java/lang/String")), Jvm.Cond.code ({ cls := "java/util/Arrays", name := "copyOfRange", desc := "([BII)[B" } : Jvm.MethodName) jdk_65_method_132_code (3 : Nat) (Option.some (Jvm.ClassFile.FieldType.array Jvm.ClassFile.FieldType.byte)), Jvm.Cond.code ({ cls := "java/util/Arrays", name := "copyOfRangeByte", desc := "([BII)[B" } : Jvm.MethodName) jdk_65_method_133_code (5 : Nat) (Option.some (Jvm.ClassFile.FieldType.array Jvm.ClassFile.FieldType.byte)), Jvm.Cond.code ({ cls := "java/util/Arrays", name := "checkLength", desc := "(II)V" } : Jvm.MethodName) jdk_65_method_131_code (2 : Nat) (Option.none : Option Jvm.ClassFile.FieldType), Jvm.Cond.code ({ cls := "java/lang/Math", name := "min", desc := "(II)I" } : Jvm.MethodName) jdk_29_method_69_code (2 : Nat) (Option.some Jvm.ClassFile.FieldType.int), Jvm.Cond.code ({ cls := "java/lang/String", name := "<init>", desc := "([BB)V" } : Jvm.MethodName) jdk_42_method_151_code (3 : Nat) (Option.none : Option Jvm.ClassFile.FieldType), Jvm.Cond.code ({ cls := "com/example/wide_weir/wideweir/http/HttpSyntaxTrimWhitespacePinLaw", name := "at", desc := "(ICCCC)C" } : Jvm.MethodName) method_4_code (5 : Nat) (Option.some Jvm.ClassFile.FieldType.char), Jvm.Cond.code ({ cls := "java/lang/StringUTF16", name := "toBytes", desc := "([CII)[B" } : Jvm.MethodName) jdk_52_method_14_code (5 : Nat) (Option.some (Jvm.ClassFile.FieldType.array Jvm.ClassFile.FieldType.byte)), Jvm.Cond.code ({ cls := "java/lang/StringUTF16", name := "newBytesFor", desc := "(I)[B" } : Jvm.MethodName) jdk_52_method_2_code (1 : Nat) (Option.some (Jvm.ClassFile.FieldType.array Jvm.ClassFile.FieldType.byte)), Jvm.Cond.code ({ cls := "java/lang/StringUTF16", name := "newBytesLength", desc := "(I)I" } : Jvm.MethodName) jdk_52_method_3_code (1 : Nat) (Option.some Jvm.ClassFile.FieldType.int), Jvm.Cond.code ({ cls := "java/lang/StringUTF16", name := "putChar", desc := "([BII)V" } : Jvm.MethodName) jdk_52_method_4_code (3 : Nat) (Option.none : Option Jvm.ClassFile.FieldType), Jvm.Cond.code ({ cls := "java/lang/StringUTF16", name := "getChar", desc := "([BI)C" } : Jvm.MethodName) jdk_52_method_5_code (2 : Nat) (Option.some Jvm.ClassFile.FieldType.char), Jvm.Cond.code ({ cls := "java/lang/StringUTF16", name := "charAt", desc := "([BI)C" } : Jvm.MethodName) jdk_52_method_83_code (2 : Nat) (Option.some Jvm.ClassFile.FieldType.char), Jvm.Cond.code ({ cls := "java/lang/StringUTF16", name := "checkIndex", desc := "(I[B)V" } : Jvm.MethodName) jdk_52_method_91_code (2 : Nat) (Option.none : Option Jvm.ClassFile.FieldType), Jvm.Cond.code ({ cls := "java/lang/StringUTF16", name := "length", desc := "([B)I" } : Jvm.MethodName) jdk_52_method_6_code (1 : Nat) (Option.some Jvm.ClassFile.FieldType.int), Jvm.Cond.code ({ cls := "java/lang/StringUTF16", name := "newString", desc := "([BII)Ljava/lang/String;" } : Jvm.MethodName) jdk_52_method_69_code (5 : Nat) (Option.some (Jvm.ClassFile.FieldType.object "java/lang/String")), Jvm.Cond.code ({ cls := "java/lang/StringUTF16", name := "compress", desc := "([BII)[B" } : Jvm.MethodName) jdk_52_method_17_code (6 : Nat) (Option.some (Jvm.ClassFile.FieldType.array Jvm.ClassFile.FieldType.byte)), Jvm.Cond.code ({ cls := "java/lang/StringUTF16", name := "compress", desc := "([BI[BII)I" } : Jvm.MethodName) jdk_52_method_22_code (7 : Nat) (Option.some Jvm.ClassFile.FieldType.int), Jvm.Cond.code ({ cls := "java/lang/StringUTF16", name := "checkBoundsOffCount", desc := "(II[B)V" } : Jvm.MethodName) jdk_52_method_94_code (3 : Nat) (Option.none : Option Jvm.ClassFile.FieldType), Jvm.Cond.code ({ cls := "java/lang/String", name := "checkBoundsOffCount", desc := "(III)I" } : Jvm.MethodName) jdk_42_method_157_code (3 : Nat) (Option.some Jvm.ClassFile.FieldType.int), Jvm.Cond.code ({ cls := "jdk/internal/util/Preconditions", name := "checkFromIndexSize", desc := "(IIILjava/util/function/BiFunction;)I" } : Jvm.MethodName) jdk_41_method_13_code (4 : Nat) (Option.some Jvm.ClassFile.FieldType.int)]
set_option maxRecDepth 65536 in
theorem codes_eq : words1.filter isCode = codes1 := rfl
theorem w_codes : ∀ c ∈ words1.filter isCode, c.before args0 about1 = true := by
  rw [codes_eq]
  intro c hc
  simp only [codes1, List.mem_cons, List.not_mem_nil, or_false] at hc
  rcases hc with rfl | rfl | rfl | rfl | rfl | rfl | rfl | rfl | rfl | rfl | rfl | rfl | rfl | rfl | rfl | rfl | rfl | rfl | rfl | rfl | rfl | rfl | rfl | rfl | rfl | rfl | rfl | rfl | rfl | rfl | rfl | rfl | rfl | rfl | rfl | rfl | rfl | rfl | rfl | rfl | rfl | rfl | rfl
  · exact w_c0
  · exact w_c1
  · exact w_c2
  · exact w_c3
  · exact w_c4
  · exact w_c5
  · exact w_c6
  · exact w_c7
  · exact w_c8
  · exact w_c9
  · exact w_c10
  · exact w_c11
  · exact w_c12
  · exact w_c13
  · exact w_c14
  · exact w_c15
  · exact w_c16
  · exact w_c17
  · exact w_c18
  · exact w_c19
  · exact w_c20
  · exact w_c21
  · exact w_c22
  · exact w_c23
  · exact w_c24
  · exact w_c25
  · exact w_c26
  · exact w_c27
  · exact w_c28
  · exact w_c29
  · exact w_c30
  · exact w_c31
  · exact w_c32
  · exact w_c33
  · exact w_c34
  · exact w_c35
  · exact w_c36
  · exact w_c37
  · exact w_c38
  · exact w_c39
  · exact w_c40
  · exact w_c41
  · exact w_c42
set_option maxRecDepth 65536 in
theorem w_t1 : (words1.take 24).all (fun c => isCode c || c.before args0 about1) = true := by decide +kernel
set_option maxRecDepth 65536 in
theorem w_t2 : ((words1.drop 24).take 24).all (fun c => isCode c || c.before args0 about1) = true := by decide +kernel
set_option maxRecDepth 65536 in
theorem w_t3 : (((words1.drop 24).drop 24).take 24).all (fun c => isCode c || c.before args0 about1) = true := by decide +kernel
set_option maxRecDepth 65536 in
theorem w_t4 : ((((words1.drop 24).drop 24).drop 24).take 24).all (fun c => isCode c || c.before args0 about1) = true := by decide +kernel
set_option maxRecDepth 65536 in
theorem w_t5 : (((((words1.drop 24).drop 24).drop 24).drop 24).take 24).all (fun c => isCode c || c.before args0 about1) = true := by decide +kernel
set_option maxRecDepth 65536 in
theorem w_t6 : ((((((words1.drop 24).drop 24).drop 24).drop 24).drop 24).take 24).all (fun c => isCode c || c.before args0 about1) = true := by decide +kernel
set_option maxRecDepth 65536 in
theorem w_t7 : (((((((words1.drop 24).drop 24).drop 24).drop 24).drop 24).drop 24).take 24).all (fun c => isCode c || c.before args0 about1) = true := by decide +kernel
set_option maxRecDepth 65536 in
theorem w_t8 : (((((((words1.drop 24).drop 24).drop 24).drop 24).drop 24).drop 24).drop 24).all (fun c => isCode c || c.before args0 about1) = true := by decide +kernel
theorem w_tables : (allAtoms (Jvm.Cond.code x code maxLocals ret :: tables_1)).before args0 about1 = true := by
  rw [allAtoms_all]
  show words1.all (fun c => c.before args0 about1) = true
  refine all_split ?_ w_codes
  rw [← List.take_append_drop 24 words1, List.all_append, w_t1, ← List.take_append_drop 24 (words1.drop 24), List.all_append, w_t2, ← List.take_append_drop 24 ((words1.drop 24).drop 24), List.all_append, w_t3, ← List.take_append_drop 24 (((words1.drop 24).drop 24).drop 24), List.all_append, w_t4, ← List.take_append_drop 24 ((((words1.drop 24).drop 24).drop 24).drop 24), List.all_append, w_t5, ← List.take_append_drop 24 (((((words1.drop 24).drop 24).drop 24).drop 24).drop 24), List.all_append, w_t6, ← List.take_append_drop 24 ((((((words1.drop 24).drop 24).drop 24).drop 24).drop 24).drop 24), List.all_append, w_t7, w_t8]
  rfl
set_option maxRecDepth 65536 in
theorem w_rest : rest_1_c.before args0 about1 = true := by decide +kernel
set_option maxRecDepth 65536 in
theorem w_case : (Jvm.Cond.and given_1 narrow_1).before args0 about1 = true := by decide +kernel
set_option maxRecDepth 65536 in
theorem w_consts : constsHeld consts_1 about1 := Jvm.Lit.constsHeldB_iff.mp (by decide +kernel)
theorem w_applies : (headSpec (Jvm.Cond.code x code maxLocals ret :: tables_1) room_1).applies x e0.platform about1 = true :=
  (Spec.applies_iff w_frames).mpr ⟨w_running, w_runnable, w_alone, w_named, w_hears, w_ripe, w_room, w_tables⟩
theorem atStart : AtStart classFile x code maxLocals ret World_1 tables_1 room_1 Calls_1 rest_1 Pre_1 launch0 p0 e0 about1 theMethod args0 below0 :=
  ⟨lists_1, trivial, launch0.admits_env _ _ _, launch0.least_env, fairChoices_fair.cas, fairChoices_fair.clock, w_frames, w_args, w_heap, w_applies, ⟨w_consts, trivial⟩, w_rest, w_case⟩
end start1
theorem witness_1 : WitnessClaimed_1 := ⟨start1.p0, start1.e0, start1.about1, start1.theMethod, start1.args0, start1.below0, start1.atStart⟩
end Jvm.Pilot.@@N@@
