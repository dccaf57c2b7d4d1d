import JvmDerived
import JvmDerived.Pilot.@@N@@Statement
import JvmDerived.Pilot.@@N@@Code
set_option linter.unusedVariables false
set_option linter.unusedSimpArgs false
namespace Jvm.OwnKit
open Sem ClassFile Op Lib Jvm.Stand Jvm.Free Jvm.LawKit Jvm.RoadKit
section Own
variable {p : Program} {l : Launch} {e : Env} {R : Room} {s s0 : State} {m : MethodId} {args : Array Value} {below : List Frame} {meth : Method} {c : Code} {T : State} {locs : List Loc} {cells slots : Nat} {Z : State} {a0 : Array Value} {h : Heap}
/-- a walk comes to its return; Q says what it leaves; En is the frame's word -/
def Done (En : State → Outcome → State → List Loc → Nat → Nat → Prop) (p : Program) (e : Env) (below : List Frame) (s : State) (R : Room) (Q : Option Value → Heap → Vm → List Loc → Prop) (U : State) : Prop :=
  ∃ s₂ o, Steps p.tables e below U s₂ ∧ s₂.status = .running ∧ Ended s₂ below o ∧ ∃ v L, o = .returned v ∧ Q v s₂.heap s₂.vm L ∧ En s o s₂ L R.cells R.slots
variable {En : State → Outcome → State → List Loc → Nat → Nat → Prop} {Q : Option Value → Heap → Vm → List Loc → Prop} {U U' : State}
theorem Done.step (k : ∀ t, Steps p.tables e below U' t → Steps p.tables e below U t) (h : Done En p e below s R Q U') : Done En p e below s R Q U := by
  obtain ⟨s₂, o, h1, r⟩ := h
  exact ⟨s₂, o, k _ h1, r⟩
theorem Done.go (k : Steps p.tables e below U U') (h : Done En p e below s R Q U') : Done En p e below s R Q U := by
  obtain ⟨s₂, o, h1, r⟩ := h
  exact ⟨s₂, o, k.trans h1, r⟩
/-- the method may be left here -/
def Leaves (En : State → Outcome → State → List Loc → Nat → Nat → Prop) (e : Env) (below : List Frame) (s : State) (m : MethodId) (meth : Method) (T : State) (locs : List Loc) (R : Room) : Prop :=
  ∀ v : Option Value, (meth.sig.returnType = none → v = none) → ∃ fs, (∀ (f : JFrame) (acts : List Action), f.method = m → f.locked = none → f.entered = [] → (doReturn e (T.setTop f) acts v).1 = T.setFrames fs) ∧
    (T.setFrames fs).status = .running ∧ Ended (T.setFrames fs) below (.returned v) ∧ En s (.returned v) (T.setFrames fs) locs R.cells R.slots
theorem leavesF (X : Stand p l e R s m args below meth c T locs cells slots) (hlk : meth.locks = false) (hc : cells ≤ R.cells) (hs : slots ≤ R.slots) : Leaves FrameEnd e below s m meth T locs R := by
  intro v hv
  obtain ⟨fs, hr, hrun, hended, hW, hsame⟩ := X.leave hv hlk
  exact ⟨fs, hr, hrun, hended, ⟨_, rfl⟩, hW, hsame.mono hc hs⟩
theorem leavesW {vm0 : Vm} (X : Stand p l e R (s.setVm vm0) m args below meth c T locs cells slots) {n : Nat} (hS : s.Since vm0 n) (hn : n ≤ T.heap.size) (hlk : meth.locks = false) (hc : cells ≤ R.cells) (hs : slots ≤ R.slots) : Leaves ReturnedEndW e below s m meth T locs R := by
  intro v hv
  obtain ⟨fs, hr, hrun, hended, h1, h2, h3, h4⟩ := X.leaveW hS hn hv hlk
  exact ⟨fs, hr, hrun, hended, h1, h2, h3, h4.mono hc hs⟩
theorem Done.retI (Lv : Leaves En e below s0 m meth T locs R) (X : Stand p l e R s m args below meth c T locs cells slots) (hx : p.tables.exec = Jvm.exec) {pc : Nat} {Ls : Array Slot} {z : Int32} {rest : List Value} (hret : meth.sig.returnType = some .int) (hd : decode c.code pc = .ok (.ireturn, 1))
    (hq : Q (some (.int z)) T.heap T.vm locs) : Done En p e below s0 R Q (T.setTop (mkF m pc Ls (.int z :: rest))) := by
  obtain ⟨fs, hr, hrun, hended, hE⟩ := Lv (some (.int z)) (fun h => by rw [hret] at h; cases h)
  exact ⟨_, _, retOut X hx hret rfl (Or.inl ⟨rfl, Or.inl rfl, z, rfl⟩) hd hr, hrun, hended, _, _, rfl, hq, hE⟩
theorem Done.retJ (Lv : Leaves En e below s0 m meth T locs R) (X : Stand p l e R s m args below meth c T locs cells slots) (hx : p.tables.exec = Jvm.exec) {pc : Nat} {Ls : Array Slot} {z : Int64} {rest : List Value} (hret : meth.sig.returnType = some .long) (hd : decode c.code pc = .ok (.lreturn, 1))
    (hq : Q (some (.long z)) T.heap T.vm locs) : Done En p e below s0 R Q (T.setTop (mkF m pc Ls (.long z :: rest))) := by
  obtain ⟨fs, hr, hrun, hended, hE⟩ := Lv (some (.long z)) (fun h => by rw [hret] at h; cases h)
  exact ⟨_, _, retOut X hx hret rfl (Or.inr (Or.inl ⟨rfl, rfl, z, rfl⟩)) hd hr, hrun, hended, _, _, rfl, hq, hE⟩
theorem Done.retD (Lv : Leaves En e below s0 m meth T locs R) (X : Stand p l e R s m args below meth c T locs cells slots) (hx : p.tables.exec = Jvm.exec) {pc : Nat} {Ls : Array Slot} {z : UInt64} {rest : List Value} (hret : meth.sig.returnType = some .double) (hd : decode c.code pc = .ok (.dreturn, 1))
    (hq : Q (some (.double z)) T.heap T.vm locs) : Done En p e below s0 R Q (T.setTop (mkF m pc Ls (.double z :: rest))) := by
  obtain ⟨fs, hr, hrun, hended, hE⟩ := Lv (some (.double z)) (fun h => by rw [hret] at h; cases h)
  exact ⟨_, _, retOut X hx hret rfl (Or.inr (Or.inr (Or.inl ⟨rfl, rfl, z, rfl⟩))) hd hr, hrun, hended, _, _, rfl, hq, hE⟩
theorem Done.retA (Lv : Leaves En e below s0 m meth T locs R) (X : Stand p l e R s m args below meth c T locs cells slots) (hx : p.tables.exec = Jvm.exec) {pc : Nat} {Ls : Array Slot} {w : Value} {t : FieldType} {rest : List Value} (hret : meth.sig.returnType = some t) (ht : t.isReference = true) (hw : w.isRef = true) (hd : decode c.code pc = .ok (.areturn, 1))
    (hq : Q (some w) T.heap T.vm locs) : Done En p e below s0 R Q (T.setTop (mkF m pc Ls (w :: rest))) := by
  obtain ⟨fs, hr, hrun, hended, hE⟩ := Lv (some w) (fun h => by rw [hret] at h; cases h)
  have hn : narrow t w = w := by rcases ref_cases hw with rfl | ⟨a, rfl⟩ <;> cases t <;> rfl
  exact ⟨_, _, retOut X hx hret hn (Or.inr (Or.inr (Or.inr (Or.inr ⟨rfl, ht, hw⟩)))) hd hr, hrun, hended, _, _, rfl, hq, hE⟩
theorem Done.retN (Lv : Leaves En e below s0 m meth T locs R) (X : Stand p l e R s m args below meth c T locs cells slots) (hx : p.tables.exec = Jvm.exec) {pc : Nat} {Ls : Array Slot} {z : Int32} {t : FieldType} {rest : List Value} (hret : meth.sig.returnType = some t) (ht : t = .boolean ∨ t = .byte ∨ t = .char ∨ t = .short) (hd : decode c.code pc = .ok (.ireturn, 1))
    (hq : Q (some (.int (nar t z))) T.heap T.vm locs) : Done En p e below s0 R Q (T.setTop (mkF m pc Ls (.int z :: rest))) := by
  obtain ⟨fs, hr, hrun, hended, hE⟩ := Lv (some (.int (nar t z))) (fun h => by rw [hret] at h; cases h)
  exact ⟨_, _, Jvm.RoadKit.retN X hx hret ht hd hr, hrun, hended, _, _, rfl, hq, hE⟩
theorem Done.retV (Lv : Leaves En e below s0 m meth T locs R) (X : Stand p l e R s m args below meth c T locs cells slots) (hx : p.tables.exec = Jvm.exec) {pc : Nat} {Ls : Array Slot} (hret : meth.sig.returnType = none) (hd : decode c.code pc = .ok (.return_, 1))
    (hq : Q none T.heap T.vm locs) : Done En p e below s0 R Q (T.setTop (mkF m pc Ls [])) := by
  obtain ⟨fs, hr, hrun, hended, hE⟩ := Lv none (fun _ => rfl)
  exact ⟨_, _, X.returnOut hx hret hd hr, hrun, hended, _, _, rfl, hq, hE⟩
/-- a body's contract: from the arguments as' and the heap h0 it returns, and Q holds; PV is asked of the tables -/
def Ctr (En : State → Outcome → State → List Loc → Nat → Nat → Prop) (l : Launch) (Z : State) (y : MethodName) (code : ByteArray) (ml : Nat) (rt : Option FieldType) (ws : List Jvm.Cond) (rm : Room) (as' : Array Value) (h0 : Heap) (PV : Vm → Prop) (Q : Option Value → Heap → Vm → List Loc → Prop) : Prop :=
  MetFree l y (head1 (Jvm.Cond.code y code ml rt :: ws) rm) (fun a U => a = as' ∧ Z.Warmed39 U.vm ∧ U.heap = h0 ∧ PV U.vm) (fun _ _ _ _ _ => True) (fun _ U o U' => ∃ v L, o = .returned v ∧ Q v U'.heap U'.vm L ∧ En U o U' L rm.cells rm.slots)
abbrev TrueV : Vm → Prop := fun _ => True
theorem Ctr.intro {y : MethodName} {code : ByteArray} {ml : Nat} {rt : Option FieldType} {ws : List Jvm.Cond} {rm : Room} {as' : Array Value} {h0 : Heap} {PV : Vm → Prop} {Ls : Array Slot} (hpl : plainFor y = true) (hf : ∀ m, entryFrame m as' ml = mkF m 0 Ls [])
    (body : ∀ (p : Program) (e : Env) (s : State) (m : MethodId) (below : List Frame) (meth : Method) (c : Code) (T : State), p.tables.exec = Jvm.exec → c.code = code → c.maxLocals = ml → s.vm.findClass y.cls = some m.cls → meth.name = y.name → meth.sig.returnType = rt → meth.locks = false → Z.Warmed39 s.vm → PV s.vm → s.heap = h0 → T.heap = h0 →
      Stand p l e rm s m as' below meth c T [] 0 0 → Done En p e below s rm Q (T.setTop (mkF m 0 Ls []))) : Ctr En l Z y code ml rt ws rm as' h0 PV Q := by
  refine MetFree.of_bodySF hpl hisR ?_
  intro p e s m args below meth c s₁ Bd hml0 hP hK
  obtain ⟨rfl, hZ, hh, hV⟩ := hP
  have X0 : Stand p l e rm s m args below meth c s₁ [] 0 0 := Stand.of_body Bd
  have e0 : s₁.heap = h0 := by rw [← hh, Bd.state]; rfl
  obtain ⟨s₂, o, h1, r⟩ := body p e s m below meth c s₁ Bd.exec Bd.bytes hml0 (findClass_of_methodNamed Bd.named) (name_of_methodNamed Bd.named Bd.method).1 Bd.returns Bd.notSynchronized hZ hV hh e0 X0
  exact ⟨s₂, o, castTop (hf m) h1, r⟩
variable {Qc : Option Value → Heap → Vm → List Loc → Prop}
theorem Ctr.back {y : MethodName} {bytes : ByteArray} {maxL : Nat} {ret : Option FieldType} {rm : Room} {len W : Nat} {as' : Array Value} {PV : Vm → Prop} (hM : Ctr FrameEnd l Z y bytes maxL ret [] rm as' h PV Qc)
    (hZ : Z.Warmed39 s.vm) (hV : ∀ vm', s.WarmedH vm' → PV vm') (wc : (Jvm.Cond.code y bytes maxL ret).before a0 Z = true) (wz : (Jvm.Cond.initialized y.cls).before a0 Z = true) (hf : rm.frames + 1 ≤ R.frames) (hl : W + (maxL + 11) + rm.locals ≤ R.locals) :
    Back l R p e below s args y len W (fun A a => a = as' ∧ A.U.heap = h ∧ A.cells + rm.cells ≤ R.cells ∧ A.slots + rm.slots ≤ R.slots)
      (fun A _ v B => ∃ L, Qc v B.U.heap B.U.vm L ∧ B.locs = A.locs ++ L ∧ B.cells = A.cells + rm.cells ∧ B.slots = A.slots + rm.slots) :=
  Back.of_free (bytes := bytes) (maxL := maxL) (ret := ret) (E := fun _ _ o t L k n => k = rm.cells ∧ n = rm.slots ∧ ∃ v, o = .returned v ∧ Qc v t.heap t.vm L) hM hf hl
    (fun m meth c A a Y hp => have hU : Z.Warmed39 A.U.vm := wtrans hZ Y.warmed
      ⟨by show (Cond.and _ .tt).before a A.U = true; rw [Cond.before_and, mv hU wc]; rfl, mv hU wc, mv hU wz, hp.2.2.1, hp.2.2.2⟩)
    (fun m meth c A a g mk Y hp => ⟨hp.1, wtrans hZ Y.warmed, hp.2.1, hV _ Y.warmed⟩) (fun _ _ _ _ _ _ _ _ _ => trivial)
    (fun _ _ _ _ ⟨v, L, h1, h2, h3⟩ => ⟨L, _, _, h3, rfl, rfl, v, h1, h2⟩)
    (fun m meth c A a g mk v t L k n Y hp _ _ ⟨e1, e2, v', e3, e4⟩ => by cases e3; subst e1 e2; exact ⟨L, e4, rfl, rfl, rfl⟩)
theorem Ctr.backW {y : MethodName} {bytes : ByteArray} {maxL : Nat} {ret : Option FieldType} {rm : Room} {len W : Nat} {as' : Array Value} {PV : Vm → Prop} (hM : Ctr ReturnedEndW l Z y bytes maxL ret [] rm as' h PV Qc)
    (hZ : Z.Warmed39 s.vm) (hV : ∀ vm', s.WarmedH vm' → PV vm') (wc : (Jvm.Cond.code y bytes maxL ret).before a0 Z = true) (wz : (Jvm.Cond.initialized y.cls).before a0 Z = true) (hf : rm.frames + 1 ≤ R.frames) (hl : W + (maxL + 11) + rm.locals ≤ R.locals) :
    BackS l R p e below s args y len W (fun A a => a = as' ∧ A.U.heap = h ∧ A.cells + rm.cells ≤ R.cells ∧ A.slots + rm.slots ≤ R.slots)
      (fun A _ v B => ∃ L, Qc v B.U.heap B.U.vm L ∧ B.locs = A.locs ++ L ∧ B.cells = A.cells + rm.cells ∧ B.slots = A.slots + rm.slots) :=
  BackS.of_freeW (bytes := bytes) (maxL := maxL) (ret := ret) (E := fun _ _ o t L k n => k = rm.cells ∧ n = rm.slots ∧ ∃ v, o = .returned v ∧ Qc v t.heap t.vm L) hM hf hl
    (fun m meth c A a Y hp => have hU : Z.Warmed39 A.U.vm := wtrans hZ Y.warmed
      ⟨by show (Cond.and _ .tt).before a A.U = true; rw [Cond.before_and, mv hU wc]; rfl, mv hU wc, mv hU wz, hp.2.2.1, hp.2.2.2⟩)
    (fun m meth c A a g mk Y hp => ⟨hp.1, wtrans hZ Y.warmed, hp.2.1, hV _ Y.warmed⟩) (fun _ _ _ _ _ _ _ _ _ => trivial)
    (fun _ _ _ _ ⟨v, L, h1, h2, h3⟩ => ⟨L, _, _, h3, rfl, rfl, v, h1, h2⟩)
    (fun m meth c A a g mk v t L k n Y hp _ _ ⟨e1, e2, v', e3, e4⟩ => by cases e3; subst e1 e2; exact ⟨L, e4, rfl, rfl, rfl⟩)
theorem wAt {ws : List Jvm.Cond} (hw : ∀ d ∈ ws, d.before a0 Z = true) (k : Nat) {d : Jvm.Cond} (q : ws[k]? = some d) : d.before a0 Z = true := hw _ (List.mem_of_getElem? q)
theorem int_eq_v {first s : State} {o : Option Outcome} {idx : List Nat} {t : Term} {k : Int32} (q : (Jvm.Cond.eq t (.int k)).value args first o s idx = some true) : t.eval args first o idx s = some (.int k) := by
  cases ht : t.eval args first o idx s with
  | none => simp [Cond.value, ht] at q
  | some x => cases x <;> simp [Cond.value, Term.eval, ht] at q ⊢; exact q
/-- a truth value as the JVM returns it -/
def bP (P : Prop) [Decidable P] : Int32 := if P then 1 else 0
theorem bP_t {P : Prop} [Decidable P] (q : P) : bP P = 1 := if_pos q
theorem bP_f {P : Prop} [Decidable P] (q : ¬ P) : bP P = 0 := if_neg q
/-- what a law leaves: it returns 1, and wrote in new cells alone -/
def LawQ (n0 : Nat) : Option Value → Heap → Vm → List Loc → Prop := fun v _ _ L => v = some (.int 1) ∧ Fr n0 L
/-- what a body leaves that writes and makes nothing -/
def PureQ (r : Option Value) (h0 : Heap) : Option Value → Heap → Vm → List Loc → Prop := fun v h _ L => v = r ∧ h = h0 ∧ L = []
/-- what a constructor leaves of which no more is wanted: it wrote in ws and in new cells alone -/
def QW (n0 : Nat) (h0 : Heap) (ws : List Addr) : Option Value → Heap → Vm → List Loc → Prop := fun v h _ L => v = none ∧ Fr n0 L ∧ Keep h0 h ws
section Calls
variable {own C : String} {index : Nat} {y z : MethodName} {bytes : ByteArray} {maxL : Nat} {ret : Option FieldType} {rm : Room} {as' : Array Value} {PV : Vm → Prop} {g : JFrame} {r : Option Value}
theorem Done.callS (X : Stand p l e R s m args below meth c T locs cells slots) (hx : p.tables.exec = Jvm.exec) (hZ : Z.Warmed39 s.vm) (hown : s.vm.findClass own = some m.cls)
    (w1 : (Jvm.Cond.methodLink own index y).before a0 Z = true) (w2 : (Jvm.Cond.static y).before a0 Z = true) (w3 : (Jvm.Cond.initialized y.cls).before a0 Z = true) (w4 : (Jvm.Cond.code y bytes maxL ret).before a0 Z = true)
    (hy : y.cls ≠ "java/lang/invoke/MethodHandle" ∧ y.cls ≠ "java/lang/invoke/VarHandle") (hM : Ctr FrameEnd l Z y bytes maxL ret [] rm as' h PV Qc) (hV : ∀ vm', s.WarmedH vm' → PV vm') (eT : T.heap = h)
    (hg : g.method = m) (hsize : g.locals.size = c.maxLocals) (argsL rest : List Value) (W : Nat) (hlen : ∀ sig, parseMethodDescriptor y.desc = some sig → argsL.length = sig.parameters.length)
    (hstack : g.stack = argsL.reverse ++ rest) (has : argsL.toArray = as') (hW : 2 * g.monitorRoom + (rest.map fun v => v.category).sum ≤ W) (hdg : decode c.code g.pc = .ok (.invokestatic index, 3))
    (hf : rm.frames + 1 ≤ R.frames) (hl : W + (maxL + 11) + rm.locals ≤ R.locals) (hc : cells + rm.cells ≤ R.cells) (hs : slots + rm.slots ≤ R.slots)
    (k : ∀ (T' : State) (v : Option Value) (L : List Loc), Stand p l e R s m args below meth c T' (locs ++ L) (cells + rm.cells) (slots + rm.slots) → Qc v T'.heap T'.vm L → Done En p e below s0 R Q (T'.setTop { g with pc := g.pc + 3, stack := v.toList ++ rest })) :
    Done En p e below s0 R Q (T.setTop g) := by
  subst has
  obtain ⟨v, vm₁, ⟨T', L', k', n'⟩, -, X', ⟨L, hq, e1, e2, e3⟩, st⟩ := Jvm.LawKit.callS X hx (y := y) hown (mvT hZ w1) (mvT hZ w2) (mvT hZ w3) (mvT hZ w4) hy (hM.back (W := W) hZ hV w4 w3 hf hl) hg hsize (argsL := argsL) (rest := rest) hlen hstack hW hdg (fun _ _ => ⟨rfl, eT, hc, hs⟩)
  dsimp only [Pt.U, Pt.locs, Pt.cells, Pt.slots] at X' e1 e2 e3 st hq
  subst e1 e2 e3
  exact Done.step st (k _ _ _ X' hq)
theorem Done.callSP (X : Stand p l e R s m args below meth c T locs cells slots) (hx : p.tables.exec = Jvm.exec) (hZ : Z.Warmed39 s.vm) (hown : s.vm.findClass own = some m.cls)
    (w1 : (Jvm.Cond.methodLink own index y).before a0 Z = true) (w2 : (Jvm.Cond.static y).before a0 Z = true) (w3 : (Jvm.Cond.initialized y.cls).before a0 Z = true) (w4 : (Jvm.Cond.code y bytes maxL ret).before a0 Z = true)
    (hy : y.cls ≠ "java/lang/invoke/MethodHandle" ∧ y.cls ≠ "java/lang/invoke/VarHandle") (hM : Ctr FrameEnd l Z y bytes maxL ret [] rm as' h TrueV (PureQ r h)) (eT : T.heap = h)
    (hg : g.method = m) (hsize : g.locals.size = c.maxLocals) (argsL rest : List Value) (W : Nat) (hlen : ∀ sig, parseMethodDescriptor y.desc = some sig → argsL.length = sig.parameters.length)
    (hstack : g.stack = argsL.reverse ++ rest) (has : argsL.toArray = as') (hW : 2 * g.monitorRoom + (rest.map fun v => v.category).sum ≤ W) (hdg : decode c.code g.pc = .ok (.invokestatic index, 3))
    (hf : rm.frames + 1 ≤ R.frames) (hl : W + (maxL + 11) + rm.locals ≤ R.locals) (hc : cells ≤ R.cells) (hs : slots ≤ R.slots) (rc : rm.cells = 0) (rs : rm.slots = 0)
    (k : ∀ (T' : State), Stand p l e R s m args below meth c T' locs cells slots → T'.heap = h → Done En p e below s0 R Q (T'.setTop { g with pc := g.pc + 3, stack := r.toList ++ rest })) :
    Done En p e below s0 R Q (T.setTop g) := by
  refine Done.callS X hx hZ hown w1 w2 w3 w4 hy hM (fun _ _ => trivial) eT hg hsize argsL rest W hlen hstack has hW hdg hf hl (by rw [rc]; exact hc) (by rw [rs]; exact hs) ?_
  intro T' v L X' q
  obtain ⟨rfl, e1, rfl⟩ := q
  rw [List.append_nil, rc, rs] at X'
  exact k T' X' e1
theorem Done.callI (X : Stand p l e R s m args below meth c T locs cells slots) (hx : p.tables.exec = Jvm.exec) (hZ : Z.Warmed39 s.vm) (hy1 : y.name = "<init>") (hown : s.vm.findClass own = some m.cls)
    (w1 : (Jvm.Cond.methodLink own index y).before a0 Z = true) (w2 : (Jvm.Cond.instanceMethod y).before a0 Z = true) (w3 : (Jvm.Cond.initialized y.cls).before a0 Z = true) (w4 : (Jvm.Cond.code y bytes maxL none).before a0 Z = true)
    (hy : y.cls ≠ "java/lang/invoke/MethodHandle" ∧ y.cls ≠ "java/lang/invoke/VarHandle") (hM : Ctr FrameEnd l Z y bytes maxL none [] rm as' h PV Qc) (hV : ∀ vm', s.WarmedH vm' → PV vm') (eT : T.heap = h)
    (hg : g.method = m) (hsize : g.locals.size = c.maxLocals) (a : Addr) (argsL rest : List Value) (W : Nat) (hlen : ∀ sig, parseMethodDescriptor y.desc = some sig → argsL.length = sig.parameters.length)
    (hstack : g.stack = argsL.reverse ++ .ref a :: rest) (has : (Value.ref a :: argsL).toArray = as') (hW : 2 * g.monitorRoom + (rest.map fun v => v.category).sum ≤ W) (hdg : decode c.code g.pc = .ok (.invokespecial index, 3))
    (hf : rm.frames + 1 ≤ R.frames) (hl : W + (maxL + 11) + rm.locals ≤ R.locals) (hc : cells + rm.cells ≤ R.cells) (hs : slots + rm.slots ≤ R.slots)
    (k : ∀ (T' : State) (v : Option Value) (L : List Loc), Stand p l e R s m args below meth c T' (locs ++ L) (cells + rm.cells) (slots + rm.slots) → Qc v T'.heap T'.vm L → Done En p e below s0 R Q (T'.setTop { g with pc := g.pc + 3, stack := v.toList ++ rest })) :
    Done En p e below s0 R Q (T.setTop g) := by
  subst has
  obtain ⟨v, vm₁, ⟨T', L', k', n'⟩, -, X', ⟨L, hq, e1, e2, e3⟩, st⟩ := X.specialBack hx (y := y) hy1 hown (mvT hZ w1) (mvT hZ w2) (mvT hZ w4) hy (hM.back (W := W) hZ hV w4 w3 hf hl) hg hsize (Steps.refl _) (a := a) (argsL := argsL) (rest := rest) hlen hstack hW hdg (fun _ _ => ⟨rfl, eT, hc, hs⟩)
  dsimp only [Pt.U, Pt.locs, Pt.cells, Pt.slots] at X' e1 e2 e3 st hq
  subst e1 e2 e3
  exact Done.go st (k _ _ _ X' hq)
theorem Done.callV (X : Stand p l e R s m args below meth c T locs cells slots) (hx : p.tables.exec = Jvm.exec) (hZ : Z.Warmed39 s.vm) (hown : s.vm.findClass own = some m.cls)
    (w1 : (Jvm.Cond.methodLink own index y).before a0 Z = true) (w2 : (Jvm.Cond.declares y).before a0 Z = true) (hnf : NotFace s y) (w5 : (Jvm.Cond.selects C y z).before a0 Z = true) (w6 : (Jvm.Cond.instanceMethod z).before a0 Z = true)
    (w3 : (Jvm.Cond.initialized z.cls).before a0 Z = true) (w4 : (Jvm.Cond.code z bytes maxL ret).before a0 Z = true)
    (hy : y.cls ≠ "java/lang/invoke/MethodHandle" ∧ y.cls ≠ "java/lang/invoke/VarHandle") (hM : Ctr FrameEnd l Z z bytes maxL ret [] rm as' h PV Qc) (hV : ∀ vm', s.WarmedH vm' → PV vm') (eT : T.heap = h) {b : Addr} (E : Exa Z h b C)
    (hg : g.method = m) (hsize : g.locals.size = c.maxLocals) (argsL rest : List Value) (W : Nat) (hlen : ∀ sig, parseMethodDescriptor y.desc = some sig → argsL.length = sig.parameters.length)
    (hstack : g.stack = argsL.reverse ++ .ref b :: rest) (has : (Value.ref b :: argsL).toArray = as') (hW : 2 * g.monitorRoom + (rest.map fun v => v.category).sum ≤ W) (hdg : decode c.code g.pc = .ok (.invokevirtual index, 3))
    (hf : rm.frames + 1 ≤ R.frames) (hl : W + (maxL + 11) + rm.locals ≤ R.locals) (hc : cells + rm.cells ≤ R.cells) (hs : slots + rm.slots ≤ R.slots)
    (k : ∀ (T' : State) (v : Option Value) (L : List Loc), Stand p l e R s m args below meth c T' (locs ++ L) (cells + rm.cells) (slots + rm.slots) → Qc v T'.heap T'.vm L → Done En p e below s0 R Q (T'.setTop { g with pc := g.pc + 3, stack := v.toList ++ rest })) :
    Done En p e below s0 R Q (T.setTop g) := by
  subst has
  obtain ⟨cq, kq, qa, qb, qc⟩ := isOf (T := T) hZ eT E
  obtain ⟨v, vm₁, ⟨T', L', k', n'⟩, -, X', ⟨L, hq, e1, e2, e3⟩, st⟩ := X.virtualBack hx (y := y) (z := z) hown (mvT hZ w1) (mvT hZ w2) hnf (mvT hZ w5) (mvT hZ w6) hy (hM.back (W := W) hZ hV w4 w3 hf hl) qa qc hg hsize (Steps.refl _) (argsL := argsL) (rest := rest) hlen hstack hW hdg (fun _ _ => ⟨rfl, eT, hc, hs⟩)
  dsimp only [Pt.U, Pt.locs, Pt.cells, Pt.slots] at X' e1 e2 e3 st hq
  subst e1 e2 e3
  exact Done.go st (k _ _ _ X' hq)
theorem Done.callVP (X : Stand p l e R s m args below meth c T locs cells slots) (hx : p.tables.exec = Jvm.exec) (hZ : Z.Warmed39 s.vm) (hown : s.vm.findClass own = some m.cls)
    (w1 : (Jvm.Cond.methodLink own index y).before a0 Z = true) (w2 : (Jvm.Cond.declares y).before a0 Z = true) (hnf : NotFace s y) (w5 : (Jvm.Cond.selects C y z).before a0 Z = true) (w6 : (Jvm.Cond.instanceMethod z).before a0 Z = true)
    (w3 : (Jvm.Cond.initialized z.cls).before a0 Z = true) (w4 : (Jvm.Cond.code z bytes maxL ret).before a0 Z = true)
    (hy : y.cls ≠ "java/lang/invoke/MethodHandle" ∧ y.cls ≠ "java/lang/invoke/VarHandle") (hM : Ctr FrameEnd l Z z bytes maxL ret [] rm as' h TrueV (PureQ r h)) (eT : T.heap = h) {b : Addr} (E : Exa Z h b C)
    (hg : g.method = m) (hsize : g.locals.size = c.maxLocals) (argsL rest : List Value) (W : Nat) (hlen : ∀ sig, parseMethodDescriptor y.desc = some sig → argsL.length = sig.parameters.length)
    (hstack : g.stack = argsL.reverse ++ .ref b :: rest) (has : (Value.ref b :: argsL).toArray = as') (hW : 2 * g.monitorRoom + (rest.map fun v => v.category).sum ≤ W) (hdg : decode c.code g.pc = .ok (.invokevirtual index, 3))
    (hf : rm.frames + 1 ≤ R.frames) (hl : W + (maxL + 11) + rm.locals ≤ R.locals) (hc : cells ≤ R.cells) (hs : slots ≤ R.slots) (rc : rm.cells = 0) (rs : rm.slots = 0)
    (k : ∀ (T' : State), Stand p l e R s m args below meth c T' locs cells slots → T'.heap = h → Done En p e below s0 R Q (T'.setTop { g with pc := g.pc + 3, stack := r.toList ++ rest })) :
    Done En p e below s0 R Q (T.setTop g) := by
  refine Done.callV X hx hZ hown w1 w2 hnf w5 w6 w3 w4 hy hM (fun _ _ => trivial) eT E hg hsize argsL rest W hlen hstack has hW hdg hf hl (by rw [rc]; exact hc) (by rw [rs]; exact hs) ?_
  intro T' v L X' q
  obtain ⟨rfl, e1, rfl⟩ := q
  rw [List.append_nil, rc, rs] at X'
  exact k T' X' e1
/-- calls that a law of the library or of a paste pays -/
theorem Done.callIB {nc ns W : Nat} {Qh : Option Value → Heap → List Loc → Prop} (X : Stand p l e R s m args below meth c T locs cells slots) (hx : p.tables.exec = Jvm.exec) (hZ : Z.Warmed39 s.vm) (hy1 : y.name = "<init>") (hown : s.vm.findClass own = some m.cls)
    (w1 : (Jvm.Cond.methodLink own index y).before a0 Z = true) (w2 : (Jvm.Cond.instanceMethod y).before a0 Z = true) (w4 : (Jvm.Cond.code y bytes maxL none).before a0 Z = true)
    (hy : y.cls ≠ "java/lang/invoke/MethodHandle" ∧ y.cls ≠ "java/lang/invoke/VarHandle")
    (hK : Back l R p e below s args y 3 W (fun A a => a = as' ∧ A.U.heap = h ∧ A.cells + nc ≤ R.cells ∧ A.slots + ns ≤ R.slots) (fun A _ v B => ∃ L, Qh v B.U.heap L ∧ B.locs = A.locs ++ L ∧ B.cells = A.cells + nc ∧ B.slots = A.slots + ns)) (eT : T.heap = h)
    (hg : g.method = m) (hsize : g.locals.size = c.maxLocals) (a : Addr) (argsL rest : List Value) (hlen : ∀ sig, parseMethodDescriptor y.desc = some sig → argsL.length = sig.parameters.length)
    (hstack : g.stack = argsL.reverse ++ .ref a :: rest) (has : (Value.ref a :: argsL).toArray = as') (hW : 2 * g.monitorRoom + (rest.map fun v => v.category).sum ≤ W) (hdg : decode c.code g.pc = .ok (.invokespecial index, 3))
    (hc : cells + nc ≤ R.cells) (hs : slots + ns ≤ R.slots)
    (k : ∀ (T' : State) (v : Option Value) (L : List Loc), Stand p l e R s m args below meth c T' (locs ++ L) (cells + nc) (slots + ns) → Qh v T'.heap L → Done En p e below s0 R Q (T'.setTop { g with pc := g.pc + 3, stack := v.toList ++ rest })) :
    Done En p e below s0 R Q (T.setTop g) := by
  subst has
  obtain ⟨v, vm₁, ⟨T', L', k', n'⟩, -, X', ⟨L, hq, e1, e2, e3⟩, st⟩ := X.specialBack hx (y := y) hy1 hown (mvT hZ w1) (mvT hZ w2) (mvT hZ w4) hy hK hg hsize (Steps.refl _) (a := a) (argsL := argsL) (rest := rest) hlen hstack hW hdg (fun _ _ => ⟨rfl, eT, hc, hs⟩)
  dsimp only [Pt.U, Pt.locs, Pt.cells, Pt.slots] at X' e1 e2 e3 st hq
  subst e1 e2 e3
  exact Done.go st (k _ _ _ X' hq)
theorem Done.callVB {nc ns W : Nat} {Qh : Option Value → Heap → List Loc → Prop} (X : Stand p l e R s m args below meth c T locs cells slots) (hx : p.tables.exec = Jvm.exec) (hZ : Z.Warmed39 s.vm) (hown : s.vm.findClass own = some m.cls)
    (w1 : (Jvm.Cond.methodLink own index y).before a0 Z = true) (w2 : (Jvm.Cond.declares y).before a0 Z = true) (hnf : NotFace s y) (w5 : (Jvm.Cond.selects C y z).before a0 Z = true) (w6 : (Jvm.Cond.instanceMethod z).before a0 Z = true)
    (hy : y.cls ≠ "java/lang/invoke/MethodHandle" ∧ y.cls ≠ "java/lang/invoke/VarHandle")
    (hK : Back l R p e below s args z 3 W (fun A a => a = as' ∧ A.U.heap = h ∧ A.cells + nc ≤ R.cells ∧ A.slots + ns ≤ R.slots) (fun A _ v B => ∃ L, Qh v B.U.heap L ∧ B.locs = A.locs ++ L ∧ B.cells = A.cells + nc ∧ B.slots = A.slots + ns)) (eT : T.heap = h) {b : Addr} (E : Exa Z h b C)
    (hg : g.method = m) (hsize : g.locals.size = c.maxLocals) (argsL rest : List Value) (hlen : ∀ sig, parseMethodDescriptor y.desc = some sig → argsL.length = sig.parameters.length)
    (hstack : g.stack = argsL.reverse ++ .ref b :: rest) (has : (Value.ref b :: argsL).toArray = as') (hW : 2 * g.monitorRoom + (rest.map fun v => v.category).sum ≤ W) (hdg : decode c.code g.pc = .ok (.invokevirtual index, 3))
    (hc : cells + nc ≤ R.cells) (hs : slots + ns ≤ R.slots)
    (k : ∀ (T' : State) (v : Option Value) (L : List Loc), Stand p l e R s m args below meth c T' (locs ++ L) (cells + nc) (slots + ns) → Qh v T'.heap L → Done En p e below s0 R Q (T'.setTop { g with pc := g.pc + 3, stack := v.toList ++ rest })) :
    Done En p e below s0 R Q (T.setTop g) := by
  subst has
  obtain ⟨cq, kq, qa, qb, qc⟩ := isOf (T := T) hZ eT E
  obtain ⟨v, vm₁, ⟨T', L', k', n'⟩, -, X', ⟨L, hq, e1, e2, e3⟩, st⟩ := X.virtualBack hx (y := y) (z := z) hown (mvT hZ w1) (mvT hZ w2) hnf (mvT hZ w5) (mvT hZ w6) hy hK qa qc hg hsize (Steps.refl _) (argsL := argsL) (rest := rest) hlen hstack hW hdg (fun _ _ => ⟨rfl, eT, hc, hs⟩)
  dsimp only [Pt.U, Pt.locs, Pt.cells, Pt.slots] at X' e1 e2 e3 st hq
  subst e1 e2 e3
  exact Done.go st (k _ _ _ X' hq)
/-- the three calls of a callee that may load literals -/
theorem Done.callSW {vm0 : Vm} {k0 : Nat} (X : Stand p l e R (s.setVm vm0) m args below meth c T locs cells slots) (hx : p.tables.exec = Jvm.exec) (hZ : Z.Warmed39 vm0) (hown : vm0.findClass own = some m.cls) (hS : s.Since vm0 k0) (hk : k0 ≤ h.size)
    (w1 : (Jvm.Cond.methodLink own index y).before a0 Z = true) (w2 : (Jvm.Cond.static y).before a0 Z = true) (w3 : (Jvm.Cond.initialized y.cls).before a0 Z = true) (w4 : (Jvm.Cond.code y bytes maxL ret).before a0 Z = true)
    (hy : y.cls ≠ "java/lang/invoke/MethodHandle" ∧ y.cls ≠ "java/lang/invoke/VarHandle") (hM : Ctr ReturnedEndW l Z y bytes maxL ret [] rm as' h PV Qc) (hV : ∀ vm', (s.setVm vm0).WarmedH vm' → PV vm') (eT : T.heap = h)
    (hg : g.method = m) (hsize : g.locals.size = c.maxLocals) (argsL rest : List Value) (W : Nat) (hlen : ∀ sig, parseMethodDescriptor y.desc = some sig → argsL.length = sig.parameters.length)
    (hstack : g.stack = argsL.reverse ++ rest) (has : argsL.toArray = as') (hW : 2 * g.monitorRoom + (rest.map fun v => v.category).sum ≤ W) (hdg : decode c.code g.pc = .ok (.invokestatic index, 3))
    (hf : rm.frames + 1 ≤ R.frames) (hl : W + (maxL + 11) + rm.locals ≤ R.locals) (hc : cells + rm.cells ≤ R.cells) (hs : slots + rm.slots ≤ R.slots)
    (k : ∀ (T' : State) (v : Option Value) (L : List Loc), Stand p l e R (s.setVm T'.vm) m args below meth c T' (locs ++ L) (cells + rm.cells) (slots + rm.slots) → s.Since T'.vm T'.heap.size → Z.Warmed39 T'.vm → T'.vm.findClass own = some m.cls → (s.setVm vm0).Warmed39 T'.vm → Qc v T'.heap T'.vm L →
      Done En p e below s0 R Q (T'.setTop { g with pc := g.pc + 3, stack := v.toList ++ rest })) :
    Done En p e below s0 R Q (T.setTop g) := by
  subst has eT
  obtain ⟨v, vm₁, ⟨T', L', k', n'⟩, hW1, X', hS', hgr, ⟨L, hq, e1, e2, e3⟩, st⟩ := callSS (s := s.setVm vm0) X hx (y := y) hown (mvT (s := s.setVm vm0) hZ w1) (mvT (s := s.setVm vm0) hZ w2) (mvT (s := s.setVm vm0) hZ w3) (mvT (s := s.setVm vm0) hZ w4) hy (hM.backW (s := s.setVm vm0) (W := W) hZ hV w4 w3 hf hl) hg hsize (argsL := argsL) (rest := rest) hlen hstack hW hdg (fun _ _ => ⟨rfl, rfl, hc, hs⟩)
  dsimp only [Pt.U, Pt.locs, Pt.cells, Pt.slots] at X' e1 e2 e3 st hq hS' hgr
  subst e1 e2 e3
  exact Done.go st (k T' v L X' (hS.trans hS' (Nat.le_trans hk hgr)) (State.Warmed39.trans (t := s.setVm vm0) hZ hS'.1) (by rw [hS'.1.alike.findClass]; exact hown) hS'.1 hq)
theorem Done.callIW {vm0 : Vm} {k0 : Nat} (X : Stand p l e R (s.setVm vm0) m args below meth c T locs cells slots) (hx : p.tables.exec = Jvm.exec) (hZ : Z.Warmed39 vm0) (hy1 : y.name = "<init>") (hown : vm0.findClass own = some m.cls) (hS : s.Since vm0 k0) (hk : k0 ≤ h.size)
    (w1 : (Jvm.Cond.methodLink own index y).before a0 Z = true) (w2 : (Jvm.Cond.instanceMethod y).before a0 Z = true) (w3 : (Jvm.Cond.initialized y.cls).before a0 Z = true) (w4 : (Jvm.Cond.code y bytes maxL none).before a0 Z = true)
    (hy : y.cls ≠ "java/lang/invoke/MethodHandle" ∧ y.cls ≠ "java/lang/invoke/VarHandle") (hM : Ctr ReturnedEndW l Z y bytes maxL none [] rm as' h PV Qc) (hV : ∀ vm', (s.setVm vm0).WarmedH vm' → PV vm') (eT : T.heap = h)
    (hg : g.method = m) (hsize : g.locals.size = c.maxLocals) (a : Addr) (argsL rest : List Value) (W : Nat) (hlen : ∀ sig, parseMethodDescriptor y.desc = some sig → argsL.length = sig.parameters.length)
    (hstack : g.stack = argsL.reverse ++ .ref a :: rest) (has : (Value.ref a :: argsL).toArray = as') (hW : 2 * g.monitorRoom + (rest.map fun v => v.category).sum ≤ W) (hdg : decode c.code g.pc = .ok (.invokespecial index, 3))
    (hf : rm.frames + 1 ≤ R.frames) (hl : W + (maxL + 11) + rm.locals ≤ R.locals) (hc : cells + rm.cells ≤ R.cells) (hs : slots + rm.slots ≤ R.slots)
    (k : ∀ (T' : State) (v : Option Value) (L : List Loc), Stand p l e R (s.setVm T'.vm) m args below meth c T' (locs ++ L) (cells + rm.cells) (slots + rm.slots) → s.Since T'.vm T'.heap.size → Z.Warmed39 T'.vm → T'.vm.findClass own = some m.cls → (s.setVm vm0).Warmed39 T'.vm → Qc v T'.heap T'.vm L →
      Done En p e below s0 R Q (T'.setTop { g with pc := g.pc + 3, stack := v.toList ++ rest })) :
    Done En p e below s0 R Q (T.setTop g) := by
  subst has eT
  obtain ⟨v, vm₁, ⟨T', L', k', n'⟩, hW1, X', hS', hgr, ⟨L, hq, e1, e2, e3⟩, st⟩ := specialBackS (s := s.setVm vm0) X hx (y := y) hy1 hown (mvT (s := s.setVm vm0) hZ w1) (mvT (s := s.setVm vm0) hZ w2) (mvT (s := s.setVm vm0) hZ w4) hy (hM.backW (s := s.setVm vm0) (W := W) hZ hV w4 w3 hf hl) hg hsize (Steps.refl _) (a := a) (argsL := argsL) (rest := rest) hlen hstack hW hdg (fun _ _ => ⟨rfl, rfl, hc, hs⟩)
  dsimp only [Pt.U, Pt.locs, Pt.cells, Pt.slots] at X' e1 e2 e3 st hq hS' hgr
  subst e1 e2 e3
  exact Done.go st (k T' v L X' (hS.trans hS' (Nat.le_trans hk hgr)) (State.Warmed39.trans (t := s.setVm vm0) hZ hS'.1) (by rw [hS'.1.alike.findClass]; exact hown) hS'.1 hq)
end Calls
end Own
end Jvm.OwnKit
@@BLOCK:NumsL.lean.txt@@
namespace Jvm.Pilot.@@N@@
open Jvm Jvm.ClassFile Sem Op Lib Jvm.Free Jvm.Stand Jvm.LawKit Jvm.RoadKit Jvm.OwnKit Bundle Jvm.Pilot.@@N@@.Jvm.D
abbrev oI (x : Int32) : Slot := .val (.int x)
abbrev oJ (x : Int64) : Slot := .val (.long x)
abbrev oR (x : Addr) : Slot := .val (.ref x)
theorem own_up (cs : List Int32) (h : ∀ c ∈ cs, ¬ c < 0 ∧ ¬ (255 : Int32) < c) : ∀ c ∈ cs, ¬ c < 0 ∧ ¬ (65535 : Int32) < c := fun c hc => ⟨(h c hc).1, fun q => (h c hc).2 (by rw [Int32.lt_iff_toInt_lt] at q ⊢; have e1 : (65535 : Int32).toInt = 65535 := rfl; have e2 : (255 : Int32).toInt = 255 := rfl; omega)⟩
theorem own_toInt16 (x : Int32) : x.toUInt32.toUInt16.toUInt32.toInt32.toInt = x.toInt % 65536 := by
  have h : (x.toUInt32.toUInt16.toUInt32.toInt32).toBitVec.toNat = x.toBitVec.toNat % 65536 := by simp
  have h2 : (x.toUInt32.toUInt16.toUInt32.toInt32).toBitVec.toNat < 65536 := by rw [h]; exact Nat.mod_lt _ (by decide)
  have e1 : (x.toUInt32.toUInt16.toUInt32.toInt32).toInt = ((x.toUInt32.toUInt16.toUInt32.toInt32).toBitVec.toNat : Int) := by
    rw [← Int32.toInt_toBitVec, BitVec.toInt_eq_toNat_of_lt (by omega)]
  rw [e1, h, ← Int32.toInt_toBitVec, BitVec.toInt_eq_toNat_bmod, Int.bmod_def]
  split <;> omega
theorem own_nar {c : Int32} (h0 : ¬ c < 0) (h1 : ¬ (65535 : Int32) < c) : nar .char c = c := by
  have e0 : c.toUInt32.toUInt16.toUInt32.toInt32 = c := by
    apply Int32.toInt_inj.mp
    rw [own_toInt16]
    rw [Int32.lt_iff_toInt_lt] at h0 h1
    have z : (0 : Int32).toInt = 0 := rfl
    have y : (65535 : Int32).toInt = 65535 := rfl
    omega
  exact e0
theorem eq_v {args : Array Value} {first s : State} {o : Option Outcome} {idx : List Nat} {t : Term} {k z : Int32} (q : t.eval args first o idx s = some (.int z)) : (Jvm.Cond.eq t (.int k)).value args first o s idx = some (decide (z = k)) := by simp [Cond.value, Term.eval, q]
theorem own_wS0 {a0 : Array Value} {Z : State} (hw : ∀ d ∈ tables_1, d.before a0 Z = true) : ∀ d ∈ Bundle.stringAtoms, d.before a0 Z = true := fun d hd => hw d ((by decide +kernel : ∀ d ∈ Bundle.stringAtoms, d ∈ tables_1) d hd)
def QZ (Z : State) (n0 : Nat) (h0 : Heap) (xx : Addr) (v : Option Value) (h : Heap) (vm : Vm) (L : List Loc) : Prop := v = none ∧ Fr n0 L ∧ Keep h0 h [xx] ∧ ∃ (aa bb : Addr) (kk : ClassId), IB Z vm [""] ∧ Lit (Z.setVm vm) "java/lang/String" 7 aa ∧ Fld Z h aa "java/lang/String" "value" "[B" (.ref bb) ∧ Fld Z h aa "java/lang/String" "coder" "B" (.int (0 : Int32)) ∧ Arv Z h bb kk .byte (0 : Int32) [] (.int 0) ∧ aa ≠ xx ∧ bb ≠ xx ∧ Exa Z h xx "java/lang/String" ∧ Fld Z h xx "java/lang/String" "value" "[B" (.ref bb) ∧ Fld Z h xx "java/lang/String" "coder" "B" (.int (0 : Int32))
def QZ1 (Z : State) (n0 : Nat) (h0 : Heap) (xx bb : Addr) (v : Option Value) (h : Heap) (vm : Vm) (L : List Loc) : Prop := v = none ∧ Fr n0 L ∧ Keep h0 h [xx] ∧ Exa Z h xx "java/lang/String" ∧ Fld Z h xx "java/lang/String" "value" "[B" (.ref bb) ∧ Fld Z h xx "java/lang/String" "coder" "B" (.int (0 : Int32))
theorem own_emp : (∀ c ∈ "".toList, c.toNat < 256) ∧ "".toList.map (fun c => Value.int (Jvm.Lit.byteI c.toNat.toUInt16)) = [] := ⟨fun c hc => by simp at hc, rfl⟩
theorem own_ib {p : Program} {l : Launch} {e : Env} {R : Room} {s : State} {m : MethodId} {args : Array Value} {below : List Frame} {meth : Method} {c : Code} {T : State} {locs : List Loc} {cells slots : Nat} {Z : State} {vm0 : Vm} {Ts : List String} (X : Stand p l e R (s.setVm vm0) m args below meth c T locs cells slots) (I : IB Z vm0 Ts) : IB Z T.vm Ts := by
  have hi : T.vm.interned = vm0.interned := X.warmed.interned_eq
  obtain ⟨more, h1, h2⟩ := I
  exact ⟨more, hi.trans h1, h2⟩
theorem own_litS {s Z : State} {vm : Vm} {own : String} {i : Nat} {a : Addr} (L : Lit (s.setVm vm) own i a) : Lit (Z.setVm vm) own i a := L
theorem own_lit {p : Program} {l : Launch} {e : Env} {R : Room} {s : State} {m : MethodId} {args : Array Value} {below : List Frame} {meth : Method} {c : Code} {T : State} {locs : List Loc} {cells slots : Nat} {Z : State} {vm0 : Vm} {own : String} {i : Nat} {a : Addr} (X : Stand p l e R (s.setVm vm0) m args below meth c T locs cells slots) (L : Lit (s.setVm vm0) own i a) : Lit (Z.setVm T.vm) own i a :=
  own_litS (L.stays X.warmed.wide)
theorem own_ibV {s : State} {Z : State} {vm0 vm' : Vm} {Ts : List String} (I : IB Z vm0 Ts) (hW : (s.setVm vm0).WarmedH vm') : IB Z vm' Ts := by
  have hi : vm'.interned = vm0.interned := hW.interned_eq
  obtain ⟨more, h1, h2⟩ := I
  exact ⟨more, hi.trans h1, h2⟩
theorem own_litV {s Z : State} {vm0 vm' : Vm} {own : String} {i : Nat} {a : Addr} (L : Lit (Z.setVm vm0) own i a) (hW : (s.setVm vm0).WarmedH vm') : Lit (Z.setVm vm') own i a :=
  own_litS (s := s) ((own_litS L).stays hW.wide)
theorem own_litW {s Z : State} {vm0 vm' : Vm} {own : String} {i : Nat} {a : Addr} (L : Lit (Z.setVm vm0) own i a) (hW : (s.setVm vm0).Warmed39 vm') : Lit (Z.setVm vm') own i a :=
  own_litS (s := s) ((own_litS L).stays hW)
theorem pn_java_lang_String : plainName "java/lang/String" = true := by first | (simp [plainName, overriddenIn]; done) | decide +kernel
theorem d4_0 : decode jdk_42_method_149_code 0 = .ok (.aload_n 0, 1) := by decide +kernel
theorem d4_1 : decode jdk_42_method_149_code 1 = .ok (.invokespecial 1, 3) := by decide +kernel
theorem d4_4 : decode jdk_42_method_149_code 4 = .ok (.iload_n 3, 1) := by decide +kernel
theorem d4_5 : decode jdk_42_method_149_code 5 = .ok (.ifCond .ne 22, 3) := by decide +kernel
theorem d4_8 : decode jdk_42_method_149_code 8 = .ok (.aload_n 0, 1) := by decide +kernel
theorem d4_9 : decode jdk_42_method_149_code 9 = .ok (.ldc 7, 2) := by decide +kernel
theorem d4_11 : decode jdk_42_method_149_code 11 = .ok (.getfield 9, 3) := by decide +kernel
theorem d4_14 : decode jdk_42_method_149_code 14 = .ok (.putfield 9, 3) := by decide +kernel
theorem d4_17 : decode jdk_42_method_149_code 17 = .ok (.aload_n 0, 1) := by decide +kernel
theorem d4_18 : decode jdk_42_method_149_code 18 = .ok (.ldc 7, 2) := by decide +kernel
theorem d4_20 : decode jdk_42_method_149_code 20 = .ok (.getfield 15, 3) := by decide +kernel
theorem d4_23 : decode jdk_42_method_149_code 23 = .ok (.putfield 15, 3) := by decide +kernel
theorem d4_26 : decode jdk_42_method_149_code 26 = .ok (.return_, 1) := by decide +kernel
set_option maxRecDepth 65536 in
set_option maxHeartbeats 40000000 in
theorem rmZ4 (l : Launch) (Z : State) (a0 : Array Value) (hw : ∀ d ∈ tables_1, d.before a0 Z = true) (ws : List Jvm.Cond) (xx cA : Addr) (h0 : Heap) (n0 : Nat) (Z0 : n0 ≤ h0.size) (Ex : Exa Z h0 xx "java/lang/String") (Fv : Fld Z h0 xx "java/lang/String" "value" "[B" .null) (Fc : Fld Z h0 xx "java/lang/String" "coder" "B" (.int (0 : Int32))) (gx : n0 ≤ xx) (O0 : Old Z n0 h0) (hh : Jvm.Lit.constHeld Z "java/lang/String" 7) (hcw : Jvm.Lit.compactW.before a0 Z = true) :
    Ctr ReturnedEndW l Z (⟨"java/lang/String", "<init>", "([CIILjava/lang/Void;)V"⟩ : MethodName) jdk_42_method_149_code 6 none ws ({ frames := 1, cells := 2, slots := 4, locals := 12 } : Room) #[(.ref xx), (.ref cA), (.int (0 : Int32)), (.int (0 : Int32)), .null] h0 (fun vm => IB Z vm []) (QZ Z n0 h0 xx) := by
  refine Ctr.intro (plainFor_of_name pn_java_lang_String) (Ls := #[.val (.ref xx), .val (.ref cA), .val (.int (0 : Int32)), .val (.int (0 : Int32)), .val .null, .unset]) (fun m => by first | (simp [entryFrame, mkF, argsToLocals, Value.category]; done) | rfl) ?_
  intro p e s m below meth c T0 hx hby hml hown hnm hret hlk hZ hV hsh e0 X0
  have N0 := Fr.nil n0
  have hS : s.Since s.vm 0 := (State.WarmedH.refl s).since 0
  have hk : 0 ≤ h0.size := Nat.zero_le _
  have X0 : Stand p l e ({ frames := 1, cells := 2, slots := 4, locals := 12 } : Room) (s.setVm s.vm) m #[(.ref xx), (.ref cA), (.int (0 : Int32)), (.int (0 : Int32)), .null] below meth c T0 [] 0 0 := X0
  have hZ : Z.Warmed39 (s.setVm s.vm).vm := hZ
  have hown : (s.setVm s.vm).vm.findClass "java/lang/String" = some m.cls := hown
  have own_wS := own_wS0 hw
  show Done _ p e below s _ _ (T0.setTop (mkF m 0 #[oR xx, oR cA, oI (0 : Int32), oI (0 : Int32), .val .null, .unset] []))
  refine Done.step (fun _ => XS.aloadN X0.here hx rfl (hb hby d4_0) rfl rfl) ?_
  show Done _ p e below s _ _ (T0.setTop (mkF m 1 #[oR xx, oR cA, oI (0 : Int32), oI (0 : Int32), .val .null, .unset] [(.ref xx)]))
  obtain ⟨T1, X1, e1, st1⟩ := initO X0 hx hZ hown (wAt hw 20 rfl) (wAt hw 21 rfl) (wAt hw 22 rfl) e0 (g := (mkF m 1 #[oR xx, oR cA, oI (0 : Int32), oI (0 : Int32), .val .null, .unset] [(.ref xx)])) rfl (by rw [hml]; rfl) rfl (hb hby d4_1) (by decide) (W := 0) (by show 2 * 0 + _ ≤ _; exact Nat.le_of_eq rfl) (by decide)
  refine Done.step st1 ?_
  show Done _ p e below s _ _ (T1.setTop (mkF m 4 #[oR xx, oR cA, oI (0 : Int32), oI (0 : Int32), .val .null, .unset] []))
  refine Done.step (fun _ => XS.iloadN X1.here hx rfl (hb hby d4_4) rfl) ?_
  show Done _ p e below s _ _ (T1.setTop (mkF m 5 #[oR xx, oR cA, oI (0 : Int32), oI (0 : Int32), .val .null, .unset] [(.int (0 : Int32))]))
  refine Done.step (fun _ => XS.ifNo X1.here hx rfl (hb hby d4_5) rfl (XT.i0_ne_f rfl)) ?_
  show Done _ p e below s _ _ (T1.setTop (mkF m 8 #[oR xx, oR cA, oI (0 : Int32), oI (0 : Int32), .val .null, .unset] []))
  refine Done.step (fun _ => XS.aloadN X1.here hx rfl (hb hby d4_8) rfl rfl) ?_
  show Done _ p e below s _ _ (T1.setTop (mkF m 9 #[oR xx, oR cA, oI (0 : Int32), oI (0 : Int32), .val .null, .unset] [(.ref xx)]))
  obtain ⟨aa, T2, h2, k2, bb, kk, X2, e2, E2, hS, hk, hZ, hown, EA, FA2, FA1, FB, la, lb, IBn, LTn, hwh, st2⟩ := ldcSVd X1 hx hZ hown (wAt hw 23 rfl) own_wS e1 hS hk (Fr.nil _) (hsh ▸ O0.2.2) hV (List.not_mem_nil) hh hcw own_emp (z := (0 : Int32)) (by decide) (by decide) (g := (mkF m 9 #[oR xx, oR cA, oI (0 : Int32), oI (0 : Int32), .val .null, .unset] [(.ref xx)])) rfl (hb hby d4_9) (n := 0) (by decide) (by decide) (by decide) (by decide)
  have K2 := (Keep.refl h0 [xx]).ext E2
  have Zs2 := Nat.le_trans Z0 E2.1
  refine Done.step st2 ?_
  have f3 := (Fv.ext E2)
  have nax : aa ≠ xx := FA1.ne f3 (by simp)
  have f4 := (Ex.ext E2)
  have nbx : bb ≠ xx := Ne.symm (f4.neArv FB (wAt hw 10 rfl))
  show Done _ p e below s _ _ (T2.setTop (mkF m 11 #[oR xx, oR cA, oI (0 : Int32), oI (0 : Int32), .val .null, .unset] [(.ref aa), (.ref xx)]))
  obtain ⟨T5, X5, e5, st5⟩ := getF X2 hx hZ hown (host := "") (Or.inl (wAt hw 29 rfl)) Via.refl e2 FA1 (g := (mkF m 11 #[oR xx, oR cA, oI (0 : Int32), oI (0 : Int32), .val .null, .unset] [(.ref aa), (.ref xx)])) rfl rfl (hb hby d4_11)
  refine Done.step st5 ?_
  show Done _ p e below s _ _ (T5.setTop (mkF m 14 #[oR xx, oR cA, oI (0 : Int32), oI (0 : Int32), .val .null, .unset] [(.ref bb), (.ref xx)]))
  obtain ⟨T6, h6, X6, e6, W6, st6⟩ := putF X5 hx hZ hown (host := "") (Or.inl (wAt hw 29 rfl)) Via.refl e5 f3 f4 (Or.inr ⟨(wAt hw 25 rfl), rfl, hnm⟩) (wAt hw 10 rfl) (ty := (.array .byte)) (by decide) rfl rfl (g := (mkF m 14 #[oR xx, oR cA, oI (0 : Int32), oI (0 : Int32), .val .null, .unset] [(.ref bb), (.ref xx)])) rfl rfl (hb hby d4_14)
  have F6 := f3.same W6
  have N6 := Fr.snoc X6 N0 gx
  have Zs6 := Nat.le_trans Zs2 (Keep.of_wr W6).1
  have hk := Nat.le_trans hk (Keep.of_wr W6).1
  have K6 := K2.wr W6 (Or.inl (List.mem_of_getElem? (i := 0) rfl))
  refine Done.step st6 ?_
  show Done _ p e below s _ _ (T6.setTop (mkF m 17 #[oR xx, oR cA, oI (0 : Int32), oI (0 : Int32), .val .null, .unset] []))
  refine Done.step (fun _ => XS.aloadN X6.here hx rfl (hb hby d4_17) rfl rfl) ?_
  show Done _ p e below s _ _ (T6.setTop (mkF m 18 #[oR xx, oR cA, oI (0 : Int32), oI (0 : Int32), .val .null, .unset] [(.ref xx)]))
  refine Done.step (ldcAgain X6 hx hZ hown (wAt hw 23 rfl) LTn (g := (mkF m 18 #[oR xx, oR cA, oI (0 : Int32), oI (0 : Int32), .val .null, .unset] [(.ref xx)])) rfl (hb hby d4_18)) ?_
  show Done _ p e below s _ _ (T6.setTop (mkF m 20 #[oR xx, oR cA, oI (0 : Int32), oI (0 : Int32), .val .null, .unset] [(.ref aa), (.ref xx)]))
  have f8 := (FA2.other W6 (Or.inl nax))
  obtain ⟨T7, X7, e7, st7⟩ := getF X6 hx hZ hown (host := "") (Or.inl (wAt hw 30 rfl)) Via.refl e6 f8 (g := (mkF m 20 #[oR xx, oR cA, oI (0 : Int32), oI (0 : Int32), .val .null, .unset] [(.ref aa), (.ref xx)])) rfl rfl (hb hby d4_20)
  refine Done.step st7 ?_
  show Done _ p e below s _ _ (T7.setTop (mkF m 23 #[oR xx, oR cA, oI (0 : Int32), oI (0 : Int32), .val .null, .unset] [(.int (0 : Int32)), (.ref xx)]))
  have f10 := ((Fc.ext E2).other W6 (Or.inr (slot_ne (Or.inr (wAt hw 26 rfl)) (Or.inr (wAt hw 25 rfl)) (by decide) (t := .byte) (t' := (.array .byte)) (by decide) (by decide))))
  have f11 := (f4.wr W6)
  obtain ⟨T9, h9, X9, e9, W9, st9⟩ := putFN X7 hx hZ hown (wAt hw 30 rfl) Via.refl e7 f10 f11 (Or.inr ⟨(wAt hw 26 rfl), rfl, hnm⟩) (wAt hw 10 rfl) (ty := .byte) (v' := (.int (nar .byte (0 : Int32)))) (by decide) rfl (fits_nar_byte _) (g := (mkF m 23 #[oR xx, oR cA, oI (0 : Int32), oI (0 : Int32), .val .null, .unset] [(.int (0 : Int32)), (.ref xx)])) rfl rfl (hb hby d4_23)
  have F9 := f10.same W9
  have N9 := Fr.snoc X9 N6 gx
  have Zs9 := Nat.le_trans Zs6 (Keep.of_wr W9).1
  have hk := Nat.le_trans hk (Keep.of_wr W9).1
  have K9 := K6.wr W9 (Or.inl (List.mem_of_getElem? (i := 0) rfl))
  refine Done.step st9 ?_
  show Done _ p e below s _ _ (T9.setTop (mkF m 26 #[oR xx, oR cA, oI (0 : Int32), oI (0 : Int32), .val .null, .unset] []))
  have f12 := (f11.wr W9)
  have f13 := (F6.other W9 (Or.inr (slot_ne (Or.inr (wAt hw 25 rfl)) (Or.inr (wAt hw 26 rfl)) (by decide) (t := (.array .byte)) (t' := .byte) (by decide) (by decide))))
  have f14 := ((FA1.other W6 (Or.inl nax)).other W9 (Or.inl nax))
  have f15 := (f8.other W9 (Or.inl nax))
  have f16 := ((FB.other W6 nbx).other W9 nbx)
  refine Done.retV (leavesW X9 hS (by first | exact hk | (rw [e9]; exact hk)) hlk (by decide) (by decide)) X9 hx hret (hb hby d4_26) ?_
  rw [e9]
  exact ⟨rfl, N9, K9, aa, bb, kk, (own_ib X9 IBn), (own_lit X9 LTn), f14, f15, f16, nax, nbx, f12, f13, F9⟩
theorem d3_0 : decode jdk_42_method_3_code 0 = .ok (.aload_n 0, 1) := by decide +kernel
theorem d3_1 : decode jdk_42_method_3_code 1 = .ok (.aload_n 1, 1) := by decide +kernel
theorem d3_2 : decode jdk_42_method_3_code 2 = .ok (.iconst 0, 1) := by decide +kernel
theorem d3_3 : decode jdk_42_method_3_code 3 = .ok (.aload_n 1, 1) := by decide +kernel
theorem d3_4 : decode jdk_42_method_3_code 4 = .ok (.arraylength, 1) := by decide +kernel
theorem d3_5 : decode jdk_42_method_3_code 5 = .ok (.aconst_null, 1) := by decide +kernel
theorem d3_6 : decode jdk_42_method_3_code 6 = .ok (.invokespecial 27, 3) := by decide +kernel
theorem pd_0 : parseMethodDescriptor "([CIILjava/lang/Void;)V" = some ⟨[(.array .char), .int, .int, (.object "java/lang/Void")], none⟩ := by decide +kernel
theorem d3_9 : decode jdk_42_method_3_code 9 = .ok (.return_, 1) := by decide +kernel
set_option maxRecDepth 65536 in
set_option maxHeartbeats 40000000 in
theorem rmZ (l : Launch) (Z : State) (a0 : Array Value) (hw : ∀ d ∈ tables_1, d.before a0 Z = true) (ws : List Jvm.Cond) (xx cA : Addr) (kc : ClassId) (h0 : Heap) (n0 : Nat) (Z0 : n0 ≤ h0.size) (VA : Arv Z h0 cA kc .char (0 : Int32) [] (.int (0 : Int32))) (Ex : Exa Z h0 xx "java/lang/String") (Fv : Fld Z h0 xx "java/lang/String" "value" "[B" .null) (Fc : Fld Z h0 xx "java/lang/String" "coder" "B" (.int (0 : Int32))) (gx : n0 ≤ xx) (O0 : Old Z n0 h0) (hh : Jvm.Lit.constHeld Z "java/lang/String" 7) (hcw : Jvm.Lit.compactW.before a0 Z = true) :
    Ctr ReturnedEndW l Z (⟨"java/lang/String", "<init>", "([C)V"⟩ : MethodName) jdk_42_method_3_code 2 none ws ({ frames := 2, cells := 2, slots := 4, locals := 34 } : Room) #[(.ref xx), (.ref cA)] h0 (fun vm => IB Z vm []) (QZ Z n0 h0 xx) := by
  refine Ctr.intro (plainFor_of_name pn_java_lang_String) (Ls := #[.val (.ref xx), .val (.ref cA)]) (fun m => by first | (simp [entryFrame, mkF, argsToLocals, Value.category]; done) | rfl) ?_
  intro p e s m below meth c T0 hx hby hml hown hnm hret hlk hZ hV hsh e0 X0
  have N0 := Fr.nil n0
  have hS : s.Since s.vm 0 := (State.WarmedH.refl s).since 0
  have hk : 0 ≤ h0.size := Nat.zero_le _
  have X0 : Stand p l e ({ frames := 2, cells := 2, slots := 4, locals := 34 } : Room) (s.setVm s.vm) m #[(.ref xx), (.ref cA)] below meth c T0 [] 0 0 := X0
  have hZ : Z.Warmed39 (s.setVm s.vm).vm := hZ
  have hown : (s.setVm s.vm).vm.findClass "java/lang/String" = some m.cls := hown
  show Done _ p e below s _ _ (T0.setTop (mkF m 0 #[oR xx, oR cA] []))
  refine Done.step (fun _ => XS.aloadN X0.here hx rfl (hb hby d3_0) rfl rfl) ?_
  show Done _ p e below s _ _ (T0.setTop (mkF m 1 #[oR xx, oR cA] [(.ref xx)]))
  refine Done.step (fun _ => XS.aloadN X0.here hx rfl (hb hby d3_1) rfl rfl) ?_
  show Done _ p e below s _ _ (T0.setTop (mkF m 2 #[oR xx, oR cA] [(.ref cA), (.ref xx)]))
  refine Done.step (fun _ => XT.iconstV X0.here hx rfl (0 : Int32) (hb hby d3_2) (by decide)) ?_
  show Done _ p e below s _ _ (T0.setTop (mkF m 3 #[oR xx, oR cA] [(.int (0 : Int32)), (.ref cA), (.ref xx)]))
  refine Done.step (fun _ => XS.aloadN X0.here hx rfl (hb hby d3_3) rfl rfl) ?_
  show Done _ p e below s _ _ (T0.setTop (mkF m 4 #[oR xx, oR cA] [(.ref cA), (.int (0 : Int32)), (.ref cA), (.ref xx)]))
  obtain ⟨cl1, Ar1, q1, S1, Nn1, H1, G1⟩ := id VA
  refine Done.step (X0.arraylength hx (by first | exact Ar1.1 | (rw [e0]; exact Ar1.1)) (State.isArrayOf_alike hZ.alike Ar1.2.1) (g := (mkF m 4 #[oR xx, oR cA] [(.ref cA), (.int (0 : Int32)), (.ref cA), (.ref xx)])) rfl rfl (hb hby d3_4)) ?_
  rw [len_of S1 Nn1]
  show Done _ p e below s _ _ (T0.setTop (mkF m 5 #[oR xx, oR cA] [(.int (0 : Int32)), (.int (0 : Int32)), (.ref cA), (.ref xx)]))
  refine Done.step (fun _ => XS.aconstNull X0.here hx rfl (hb hby d3_5)) ?_
  show Done _ p e below s _ _ (T0.setTop (mkF m 6 #[oR xx, oR cA] [.null, (.int (0 : Int32)), (.int (0 : Int32)), (.ref cA), (.ref xx)]))
  refine Done.callIW X0 hx hZ rfl hown hS hk (wAt hw 16 rfl) (wAt hw 17 rfl) (wAt hw 11 rfl) (wAt hw 19 rfl) (by decide) (rmZ4 l Z a0 hw [] xx cA h0 n0 Z0 Ex Fv Fc gx O0 hh hcw) (fun vm' hW => own_ibV hV hW) e0 (g := (mkF m 6 #[oR xx, oR cA] [.null, (.int (0 : Int32)), (.int (0 : Int32)), (.ref cA), (.ref xx)])) rfl (by rw [hml]; rfl) xx [(.ref cA), (.int (0 : Int32)), (.int (0 : Int32)), .null] [] 0 (lenOf pd_0 rfl) rfl rfl (by show 2 * 0 + _ ≤ _; exact Nat.le_of_eq rfl) (hb hby d3_6) (by decide) (by decide) (by decide) (by decide) ?_
  intro T2 v2 L2 X2 hS hZ hown hW2 q2
  have hk := Nat.le_refl T2.heap.size
  obtain ⟨rfl, Nq2, K2q, aaq, bbq, kkq, IBqq, LTqq, FAvq, FAcq, FBqq, naxq, nbxq, Exqq, Fvqq, Fcqq⟩ := q2
  have N2 := Fr.app N0 Nq2
  have Zs2 := Nat.le_trans Z0 K2q.1
  have K2 := (Keep.refl h0 [xx]).trans K2q (allS (Or.inl (List.mem_of_getElem? (i := 0) rfl)) all0)
  show Done _ p e below s _ _ (T2.setTop (mkF m 9 #[oR xx, oR cA] []))
  exact Done.retV (leavesW X2 hS (by first | exact hk | (rw [rfl]; exact hk)) hlk (by decide) (by decide)) X2 hx hret (hb hby d3_9) ⟨rfl, N2, K2, aaq, bbq, kkq, (own_ib X2 IBqq), (own_lit X2 (own_litS LTqq)), FAvq, FAcq, FBqq, naxq, nbxq, Exqq, Fvqq, Fcqq⟩
def own_hi (c : Int32) : Int32 := nar .byte ((c >>> ((0 : Int32) &&& 31)).toInt8.toInt32)
def own_lo (c : Int32) : Int32 := nar .byte ((c >>> ((8 : Int32) &&& 31)).toInt8.toInt32)
def own_by (c : Int32) : Int32 := nar .byte (c.toInt8.toInt32)
def own_join (a b : Int32) : Int32 := nar .char ((((a &&& (255 : Int32)) <<< ((0 : Int32) &&& 31)) ||| ((b &&& (255 : Int32)) <<< ((8 : Int32) &&& 31))).toUInt32.toUInt16.toUInt32.toInt32)
theorem own_m255 (x : Int32) : (x &&& (255 : Int32)).toInt = x.toInt % 2 ^ 8 := Jvm.Kit.i32_mask x _ (k := 8) (by decide) (by decide)
theorem own_b8 (x : Int32) : (x.toInt8.toInt32).toInt % 256 = x.toInt % 256 := by
  rw [Int8.toInt_toInt32, Int32.toInt_toInt8]; exact Int.bmod_emod (m := 2 ^ 8)
theorem own_nn {A : Int32} (h0 : 0 ≤ A.toInt) : A.toBitVec.toNat = A.toInt.toNat := by
  rw [← Int32.toInt_toBitVec, BitVec.toInt_eq_toNat_bmod] at *
  rw [Int.bmod_def] at *
  split at * <;> omega
theorem own_or {A B : Int32} (hA : 0 ≤ A.toInt) (hA2 : A.toInt < 256) (hB : 0 ≤ B.toInt) (hB2 : B.toInt < 256) : ((A <<< ((0 : Int32) &&& 31)) ||| (B <<< ((8 : Int32) &&& 31))).toInt = A.toInt + B.toInt * 256 := by
  have a1 := own_nn hA
  have b1 := own_nn hB
  have e0 : A <<< ((0 : Int32) &&& 31) = A := by
    apply Int32.toBitVec_inj.mp; rw [Int32.toBitVec_shiftLeft]; show A.toBitVec <<< (0 : Nat) = _; simp
  have e : ((A <<< ((0 : Int32) &&& 31)) ||| (B <<< ((8 : Int32) &&& 31))).toBitVec.toNat = A.toInt.toNat + B.toInt.toNat * 256 := by
    rw [e0, Int32.toBitVec_or, Int32.toBitVec_shiftLeft]
    show (A.toBitVec ||| (B.toBitVec <<< (8 : Nat))).toNat = _
    rw [BitVec.toNat_or, BitVec.toNat_shiftLeft, a1, b1, Nat.shiftLeft_eq, Nat.mod_eq_of_lt (by omega), Nat.or_comm]
    rw [← Nat.shiftLeft_eq, ← Nat.shiftLeft_add_eq_or_of_lt (by omega : A.toInt.toNat < 2 ^ 8), Nat.shiftLeft_eq]
    omega
  rw [← Int32.toInt_toBitVec, BitVec.toInt_eq_toNat_of_lt (by omega), e]
  omega
theorem own_jn {c : Int32} (h : ¬ c < 0 ∧ ¬ (65535 : Int32) < c) : own_join (own_hi c) (own_lo c) = c := by
  obtain ⟨h0, h1⟩ := h
  have z : (0 : Int32).toInt = 0 := rfl
  have y : (65535 : Int32).toInt = 65535 := rfl
  rw [Int32.lt_iff_toInt_lt] at h0 h1
  have s0 : (c >>> ((0 : Int32) &&& 31)).toInt = c.toInt := by
    have : c >>> ((0 : Int32) &&& 31) = c := by apply Int32.toBitVec_inj.mp; rw [Int32.toBitVec_shiftRight]; show c.toBitVec.sshiftRight (0 : Nat) = _; simp
    rw [this]
  have s8 : (c >>> ((8 : Int32) &&& 31)).toInt = c.toInt / 256 := by
    rw [← Int32.toInt_toBitVec, Int32.toBitVec_shiftRight]; show (c.toBitVec.sshiftRight (8 : Nat)).toInt = _
    rw [BitVec.toInt_sshiftRight, Int32.toInt_toBitVec, Int.shiftRight_eq_div_pow]; rfl
  have A : (own_hi c &&& (255 : Int32)).toInt = c.toInt % 256 := by
    rw [own_m255]; unfold own_hi; show (Int8.toInt32 (Int32.toInt8 (Int8.toInt32 (Int32.toInt8 _)))).toInt % 256 = _
    rw [own_b8, own_b8, s0]
  have B : (own_lo c &&& (255 : Int32)).toInt = c.toInt / 256 % 256 := by
    rw [own_m255]; unfold own_lo; show (Int8.toInt32 (Int32.toInt8 (Int8.toInt32 (Int32.toInt8 _)))).toInt % 256 = _
    rw [own_b8, own_b8, s8]
  apply Int32.toInt_inj.mp
  unfold own_join
  show (Int32.toUInt32 _).toUInt16.toUInt32.toInt32.toInt = _
  rw [own_toInt16, own_toInt16, own_or (by omega) (by omega) (by omega) (by omega), A, B]
  omega
theorem own_jb {c : Int32} (h : ¬ c < 0 ∧ ¬ (255 : Int32) < c) : own_by c &&& (255 : Int32) = c := by
  obtain ⟨h0, h1⟩ := h
  have z : (0 : Int32).toInt = 0 := rfl
  have y : (255 : Int32).toInt = 255 := rfl
  rw [Int32.lt_iff_toInt_lt] at h0 h1
  apply Int32.toInt_inj.mp
  rw [own_m255]; unfold own_by; show (Int8.toInt32 (Int32.toInt8 (Int8.toInt32 (Int32.toInt8 _)))).toInt % 256 = _
  rw [own_b8, own_b8]; omega
theorem own_wide {c : Int32} (h : ¬ c < 0 ∧ ¬ (255 : Int32) < c) : ¬ c < 0 ∧ ¬ (65535 : Int32) < c := by
  have y : (255 : Int32).toInt = 255 := rfl
  have y2 : (65535 : Int32).toInt = 65535 := rfl
  rw [Int32.lt_iff_toInt_lt, Int32.lt_iff_toInt_lt] at *; omega
theorem own_c255 {c : Int32} (h : ¬ c < 0 ∧ ¬ (255 : Int32) < c) : c.toUInt32.toUInt16.toUInt32.toInt32 = c := own_nar (own_wide h).1 (own_wide h).2
theorem own_narI (x : Int32) : nar .char (x.toUInt32.toUInt16.toUInt32.toInt32) = x.toUInt32.toUInt16.toUInt32.toInt32 := by
  have h := own_toInt16 x
  have z : (0 : Int32).toInt = 0 := rfl
  have y : (65535 : Int32).toInt = 65535 := rfl
  refine own_nar ?_ ?_ <;> rw [Int32.lt_iff_toInt_lt, h] <;> omega
theorem own_big {c : Int32} (h : ¬ c < 0 ∧ ¬ (65535 : Int32) < c) (g : (255 : Int32) < c) : (255 : Int32) < own_join (own_hi c) (own_lo c) := by
  rw [own_jn h]; exact g
theorem pn_java_lang_StringUTF16 : plainName "java/lang/StringUTF16" = true := by first | (simp [plainName, overriddenIn]; done) | decide +kernel
theorem d25_0 : decode jdk_52_method_4_code 0 = .ok (.getstatic 44, 3) := by decide +kernel
theorem d25_3 : decode jdk_52_method_4_code 3 = .ok (.ifCond .ne 25, 3) := by decide +kernel
theorem d25_28 : decode jdk_52_method_4_code 28 = .ok (.iload_n 1, 1) := by decide +kernel
theorem d25_29 : decode jdk_52_method_4_code 29 = .ok (.iconst 1, 1) := by decide +kernel
theorem d25_30 : decode jdk_52_method_4_code 30 = .ok (.ishl, 1) := by decide +kernel
theorem d25_31 : decode jdk_52_method_4_code 31 = .ok (.istore_n 1, 1) := by decide +kernel
theorem d25_32 : decode jdk_52_method_4_code 32 = .ok (.aload_n 0, 1) := by decide +kernel
theorem d25_33 : decode jdk_52_method_4_code 33 = .ok (.iload_n 1, 1) := by decide +kernel
theorem d25_34 : decode jdk_52_method_4_code 34 = .ok (.iinc 1 1, 3) := by decide +kernel
theorem d25_37 : decode jdk_52_method_4_code 37 = .ok (.iload_n 2, 1) := by decide +kernel
theorem d25_38 : decode jdk_52_method_4_code 38 = .ok (.getstatic 59, 3) := by decide +kernel
theorem d25_41 : decode jdk_52_method_4_code 41 = .ok (.ishr, 1) := by decide +kernel
theorem d25_42 : decode jdk_52_method_4_code 42 = .ok (.i2b, 1) := by decide +kernel
theorem d25_43 : decode jdk_52_method_4_code 43 = .ok (.bastore, 1) := by decide +kernel
theorem d25_44 : decode jdk_52_method_4_code 44 = .ok (.aload_n 0, 1) := by decide +kernel
theorem d25_45 : decode jdk_52_method_4_code 45 = .ok (.iload_n 1, 1) := by decide +kernel
theorem d25_46 : decode jdk_52_method_4_code 46 = .ok (.iload_n 2, 1) := by decide +kernel
theorem d25_47 : decode jdk_52_method_4_code 47 = .ok (.getstatic 63, 3) := by decide +kernel
theorem d25_50 : decode jdk_52_method_4_code 50 = .ok (.ishr, 1) := by decide +kernel
theorem d25_51 : decode jdk_52_method_4_code 51 = .ok (.i2b, 1) := by decide +kernel
theorem d25_52 : decode jdk_52_method_4_code 52 = .ok (.bastore, 1) := by decide +kernel
theorem d25_53 : decode jdk_52_method_4_code 53 = .ok (.return_, 1) := by decide +kernel
set_option maxRecDepth 65536 in
set_option maxHeartbeats 40000000 in
theorem up_10 (l : Launch) (Z : State) (a0 : Array Value) (hw : ∀ d ∈ tables_1, d.before a0 Z = true) (ws : List Jvm.Cond) (bA : Addr) (kb : ClassId) (p0 p1 cv : Int32) (h0 : Heap) (n0 : Nat) (Z0 : n0 ≤ h0.size) (O0 : Old Z n0 h0) (SA : Sta Z Z.heap "java/lang/StringUTF16" "$assertionsDisabled" "Z" (.int (1 : Int32))) (SH : Sta Z Z.heap "java/lang/StringUTF16" "HI_BYTE_SHIFT" "I" (.int (0 : Int32))) (SL : Sta Z Z.heap "java/lang/StringUTF16" "LO_BYTE_SHIFT" "I" (.int (8 : Int32))) (VB : Arv Z h0 bA kb .byte (2 : Int32) [(.int p0), (.int p1)] (.int (0 : Int32))) (gb : n0 ≤ bA) :
    Ctr FrameEnd l Z (⟨"java/lang/StringUTF16", "putChar", "([BII)V"⟩ : MethodName) jdk_52_method_4_code 3 none ws ({ frames := 0, cells := 0, slots := 0, locals := 0 } : Room) #[(.ref bA), (.int (0 : Int32)), (.int cv)] h0 TrueV (fun v h _ L => v = none ∧ Fr n0 L ∧ Keep h0 h [bA] ∧ Arv Z h bA kb .byte (2 : Int32) [(.int (own_hi cv)), (.int (own_lo cv))] (.int (0 : Int32))) := by
  refine Ctr.intro (plainFor_of_name pn_java_lang_StringUTF16) (Ls := #[.val (.ref bA), .val (.int (0 : Int32)), .val (.int cv)]) (fun m => by first | (simp [entryFrame, mkF, argsToLocals, Value.category]; done) | rfl) ?_
  intro p e s m below meth c T0 hx hby hml hown hnm hret hlk hZ hV hsh e0 X0
  have N0 := Fr.nil n0
  show Done _ p e below s _ _ (T0.setTop (mkF m 0 #[oR bA, oI (0 : Int32), oI cv] []))
  obtain ⟨T1, X1, e1, st1⟩ := getS2 X0 hx hZ hown (host := "") (Or.inl (wAt hw 108 rfl)) Via.refl e0 (SA.ext O0.2) (g := (mkF m 0 #[oR bA, oI (0 : Int32), oI cv] [])) rfl (hb hby d25_0)
  refine Done.step st1 ?_
  show Done _ p e below s _ _ (T1.setTop (mkF m 3 #[oR bA, oI (0 : Int32), oI cv] [(.int (1 : Int32))]))
  refine Done.step (fun _ => XS.ifYes X1.here hx rfl (pc0 := 3) (pc' := 28) rfl (hb hby d25_3) rfl (XT.i0_ne_t (by decide)) (by decide) (by decide)) ?_
  show Done _ p e below s _ _ (T1.setTop (mkF m 28 #[oR bA, oI (0 : Int32), oI cv] []))
  refine Done.step (fun _ => XS.iloadN X1.here hx rfl (hb hby d25_28) rfl) ?_
  show Done _ p e below s _ _ (T1.setTop (mkF m 29 #[oR bA, oI (0 : Int32), oI cv] [(.int (0 : Int32))]))
  refine Done.step (fun _ => XT.iconstV X1.here hx rfl (1 : Int32) (hb hby d25_29) (by decide)) ?_
  show Done _ p e below s _ _ (T1.setTop (mkF m 30 #[oR bA, oI (0 : Int32), oI cv] [(.int (1 : Int32)), (.int (0 : Int32))]))
  refine Done.step (fun _ => XT.ishl X1.here hx rfl (hb hby d25_30) rfl) ?_
  show Done _ p e below s _ _ (T1.setTop (mkF m 31 #[oR bA, oI (0 : Int32), oI cv] [(.int (0 : Int32))]))
  refine Done.step (fun _ => XS.istoreN X1.here hx rfl (hb hby d25_31) rfl (l' := #[oR bA, oI (0 : Int32), oI cv]) rfl) ?_
  show Done _ p e below s _ _ (T1.setTop (mkF m 32 #[oR bA, oI (0 : Int32), oI cv] []))
  refine Done.step (fun _ => XS.aloadN X1.here hx rfl (hb hby d25_32) rfl rfl) ?_
  show Done _ p e below s _ _ (T1.setTop (mkF m 33 #[oR bA, oI (0 : Int32), oI cv] [(.ref bA)]))
  refine Done.step (fun _ => XS.iloadN X1.here hx rfl (hb hby d25_33) rfl) ?_
  show Done _ p e below s _ _ (T1.setTop (mkF m 34 #[oR bA, oI (0 : Int32), oI cv] [(.int (0 : Int32)), (.ref bA)]))
  refine Done.step (fun _ => XS.iinc X1.here hx rfl (hb hby d25_34) rfl (l' := #[oR bA, oI (1 : Int32), oI cv]) rfl) ?_
  show Done _ p e below s _ _ (T1.setTop (mkF m 37 #[oR bA, oI (1 : Int32), oI cv] [(.int (0 : Int32)), (.ref bA)]))
  refine Done.step (fun _ => XS.iloadN X1.here hx rfl (hb hby d25_37) rfl) ?_
  show Done _ p e below s _ _ (T1.setTop (mkF m 38 #[oR bA, oI (1 : Int32), oI cv] [(.int cv), (.int (0 : Int32)), (.ref bA)]))
  obtain ⟨T2, X2, e2, st2⟩ := getS2 X1 hx hZ hown (host := "") (Or.inl (wAt hw 109 rfl)) Via.refl e1 (SH.ext O0.2) (g := (mkF m 38 #[oR bA, oI (1 : Int32), oI cv] [(.int cv), (.int (0 : Int32)), (.ref bA)])) rfl (hb hby d25_38)
  refine Done.step st2 ?_
  show Done _ p e below s _ _ (T2.setTop (mkF m 41 #[oR bA, oI (1 : Int32), oI cv] [(.int (0 : Int32)), (.int cv), (.int (0 : Int32)), (.ref bA)]))
  refine Done.step (fun _ => XT.ishr X2.here hx rfl (hb hby d25_41) rfl) ?_
  show Done _ p e below s _ _ (T2.setTop (mkF m 42 #[oR bA, oI (1 : Int32), oI cv] [(.int (cv >>> ((0 : Int32) &&& 31))), (.int (0 : Int32)), (.ref bA)]))
  refine Done.step (fun _ => XT.i2b X2.here hx rfl (hb hby d25_42) rfl) ?_
  show Done _ p e below s _ _ (T2.setTop (mkF m 43 #[oR bA, oI (1 : Int32), oI cv] [(.int ((cv >>> ((0 : Int32) &&& 31)).toInt8.toInt32)), (.int (0 : Int32)), (.ref bA)]))
  obtain ⟨cl3, Ar3, q3, S3, Nn3, H3, G3⟩ := id VB
  have hin3 : ¬ ((0 : Int32) < 0 ∨ cl3.slots.size ≤ ((0 : Int32)).toNatClampNeg) := inb_of S3 ⟨by decide, by decide⟩
  obtain ⟨T3, h3, X3, e3, W3, st3⟩ := stB X2 hx hZ e2 Ar3 (j := (0 : Int32)) hin3 (g := (mkF m 43 #[oR bA, oI (1 : Int32), oI cv] [(.int ((cv >>> ((0 : Int32) &&& 31)).toInt8.toInt32)), (.int (0 : Int32)), (.ref bA)])) rfl rfl (hb hby d25_43)
  have V3 := Arv.set Ar3 q3 S3 Nn3 H3 G3 (fits_nar_byte _) W3 0 rfl (Nat.le_of_ble_eq_true rfl)
  have N3 := Fr.snoc X3 N0 gb
  have Zs3 := Nat.le_trans Z0 (Keep.of_wr W3).1
  have K3 := (Keep.refl h0 [bA]).wr W3 (Or.inl (List.mem_of_getElem? (i := 0) rfl))
  refine Done.step st3 ?_
  show Done _ p e below s _ _ (T3.setTop (mkF m 44 #[oR bA, oI (1 : Int32), oI cv] []))
  refine Done.step (fun _ => XS.aloadN X3.here hx rfl (hb hby d25_44) rfl rfl) ?_
  show Done _ p e below s _ _ (T3.setTop (mkF m 45 #[oR bA, oI (1 : Int32), oI cv] [(.ref bA)]))
  refine Done.step (fun _ => XS.iloadN X3.here hx rfl (hb hby d25_45) rfl) ?_
  show Done _ p e below s _ _ (T3.setTop (mkF m 46 #[oR bA, oI (1 : Int32), oI cv] [(.int (1 : Int32)), (.ref bA)]))
  refine Done.step (fun _ => XS.iloadN X3.here hx rfl (hb hby d25_46) rfl) ?_
  show Done _ p e below s _ _ (T3.setTop (mkF m 47 #[oR bA, oI (1 : Int32), oI cv] [(.int cv), (.int (1 : Int32)), (.ref bA)]))
  have f5 := (O0.wr W3 gb)
  obtain ⟨T4, X4, e4, st4⟩ := getS2 X3 hx hZ hown (host := "") (Or.inl (wAt hw 110 rfl)) Via.refl e3 (SL.ext f5.2) (g := (mkF m 47 #[oR bA, oI (1 : Int32), oI cv] [(.int cv), (.int (1 : Int32)), (.ref bA)])) rfl (hb hby d25_47)
  refine Done.step st4 ?_
  show Done _ p e below s _ _ (T4.setTop (mkF m 50 #[oR bA, oI (1 : Int32), oI cv] [(.int (8 : Int32)), (.int cv), (.int (1 : Int32)), (.ref bA)]))
  refine Done.step (fun _ => XT.ishr X4.here hx rfl (hb hby d25_50) rfl) ?_
  show Done _ p e below s _ _ (T4.setTop (mkF m 51 #[oR bA, oI (1 : Int32), oI cv] [(.int (cv >>> ((8 : Int32) &&& 31))), (.int (1 : Int32)), (.ref bA)]))
  refine Done.step (fun _ => XT.i2b X4.here hx rfl (hb hby d25_51) rfl) ?_
  show Done _ p e below s _ _ (T4.setTop (mkF m 52 #[oR bA, oI (1 : Int32), oI cv] [(.int ((cv >>> ((8 : Int32) &&& 31)).toInt8.toInt32)), (.int (1 : Int32)), (.ref bA)]))
  obtain ⟨cl6, Ar6, q6, S6, Nn6, H6, G6⟩ := id V3
  have hin6 : ¬ ((1 : Int32) < 0 ∨ cl6.slots.size ≤ ((1 : Int32)).toNatClampNeg) := inb_of S6 ⟨by decide, by decide⟩
  obtain ⟨T6, h6, X6, e6, W6, st6⟩ := stB X4 hx hZ e4 Ar6 (j := (1 : Int32)) hin6 (g := (mkF m 52 #[oR bA, oI (1 : Int32), oI cv] [(.int ((cv >>> ((8 : Int32) &&& 31)).toInt8.toInt32)), (.int (1 : Int32)), (.ref bA)])) rfl rfl (hb hby d25_52)
  have V6 := Arv.set Ar6 q6 S6 Nn6 H6 G6 (fits_nar_byte _) W6 1 rfl (Nat.le_of_ble_eq_true rfl)
  have N6 := Fr.snoc X6 N3 gb
  have Zs6 := Nat.le_trans Zs3 (Keep.of_wr W6).1
  have K6 := K3.wr W6 (Or.inl (List.mem_of_getElem? (i := 0) rfl))
  refine Done.step st6 ?_
  show Done _ p e below s _ _ (T6.setTop (mkF m 53 #[oR bA, oI (1 : Int32), oI cv] []))
  refine Done.retV (leavesF X6 hlk (by decide) (by decide)) X6 hx hret (hb hby d25_53) ?_
  rw [e6]
  exact ⟨rfl, N6, K6, V6⟩
theorem d26_0 : decode jdk_52_method_5_code 0 = .ok (.getstatic 44, 3) := by decide +kernel
theorem d26_3 : decode jdk_52_method_5_code 3 = .ok (.ifCond .ne 25, 3) := by decide +kernel
theorem d26_28 : decode jdk_52_method_5_code 28 = .ok (.iload_n 1, 1) := by decide +kernel
theorem d26_29 : decode jdk_52_method_5_code 29 = .ok (.iconst 1, 1) := by decide +kernel
theorem d26_30 : decode jdk_52_method_5_code 30 = .ok (.ishl, 1) := by decide +kernel
theorem d26_31 : decode jdk_52_method_5_code 31 = .ok (.istore_n 1, 1) := by decide +kernel
theorem d26_32 : decode jdk_52_method_5_code 32 = .ok (.aload_n 0, 1) := by decide +kernel
theorem d26_33 : decode jdk_52_method_5_code 33 = .ok (.iload_n 1, 1) := by decide +kernel
theorem d26_34 : decode jdk_52_method_5_code 34 = .ok (.iinc 1 1, 3) := by decide +kernel
theorem d26_37 : decode jdk_52_method_5_code 37 = .ok (.baload, 1) := by decide +kernel
theorem d26_38 : decode jdk_52_method_5_code 38 = .ok (.sipush 255, 3) := by decide +kernel
theorem d26_41 : decode jdk_52_method_5_code 41 = .ok (.iand, 1) := by decide +kernel
theorem d26_42 : decode jdk_52_method_5_code 42 = .ok (.getstatic 59, 3) := by decide +kernel
theorem d26_45 : decode jdk_52_method_5_code 45 = .ok (.ishl, 1) := by decide +kernel
theorem d26_46 : decode jdk_52_method_5_code 46 = .ok (.aload_n 0, 1) := by decide +kernel
theorem d26_47 : decode jdk_52_method_5_code 47 = .ok (.iload_n 1, 1) := by decide +kernel
theorem d26_48 : decode jdk_52_method_5_code 48 = .ok (.baload, 1) := by decide +kernel
theorem d26_49 : decode jdk_52_method_5_code 49 = .ok (.sipush 255, 3) := by decide +kernel
theorem d26_52 : decode jdk_52_method_5_code 52 = .ok (.iand, 1) := by decide +kernel
theorem d26_53 : decode jdk_52_method_5_code 53 = .ok (.getstatic 63, 3) := by decide +kernel
theorem d26_56 : decode jdk_52_method_5_code 56 = .ok (.ishl, 1) := by decide +kernel
theorem d26_57 : decode jdk_52_method_5_code 57 = .ok (.ior, 1) := by decide +kernel
theorem d26_58 : decode jdk_52_method_5_code 58 = .ok (.i2c, 1) := by decide +kernel
theorem d26_59 : decode jdk_52_method_5_code 59 = .ok (.ireturn, 1) := by decide +kernel
set_option maxRecDepth 65536 in
set_option maxHeartbeats 40000000 in
theorem ug_10 (l : Launch) (Z : State) (a0 : Array Value) (hw : ∀ d ∈ tables_1, d.before a0 Z = true) (ws : List Jvm.Cond) (bA : Addr) (kb : ClassId) (p0 p1 : Int32) (h0 : Heap) (n0 : Nat) (Z0 : n0 ≤ h0.size) (O0 : Old Z n0 h0) (SA : Sta Z Z.heap "java/lang/StringUTF16" "$assertionsDisabled" "Z" (.int (1 : Int32))) (SH : Sta Z Z.heap "java/lang/StringUTF16" "HI_BYTE_SHIFT" "I" (.int (0 : Int32))) (SL : Sta Z Z.heap "java/lang/StringUTF16" "LO_BYTE_SHIFT" "I" (.int (8 : Int32))) (VB : Arv Z h0 bA kb .byte (2 : Int32) [(.int p0), (.int p1)] (.int (0 : Int32))) :
    Ctr FrameEnd l Z (⟨"java/lang/StringUTF16", "getChar", "([BI)C"⟩ : MethodName) jdk_52_method_5_code 2 (some .char) ws ({ frames := 0, cells := 0, slots := 0, locals := 0 } : Room) #[(.ref bA), (.int (0 : Int32))] h0 TrueV (PureQ (some (.int (own_join p0 p1))) h0) := by
  refine Ctr.intro (plainFor_of_name pn_java_lang_StringUTF16) (Ls := #[.val (.ref bA), .val (.int (0 : Int32))]) (fun m => by first | (simp [entryFrame, mkF, argsToLocals, Value.category]; done) | rfl) ?_
  intro p e s m below meth c T0 hx hby hml hown hnm hret hlk hZ hV hsh e0 X0
  have N0 := Fr.nil n0
  show Done _ p e below s _ _ (T0.setTop (mkF m 0 #[oR bA, oI (0 : Int32)] []))
  obtain ⟨T1, X1, e1, st1⟩ := getS2 X0 hx hZ hown (host := "") (Or.inl (wAt hw 108 rfl)) Via.refl e0 (SA.ext O0.2) (g := (mkF m 0 #[oR bA, oI (0 : Int32)] [])) rfl (hb hby d26_0)
  refine Done.step st1 ?_
  show Done _ p e below s _ _ (T1.setTop (mkF m 3 #[oR bA, oI (0 : Int32)] [(.int (1 : Int32))]))
  refine Done.step (fun _ => XS.ifYes X1.here hx rfl (pc0 := 3) (pc' := 28) rfl (hb hby d26_3) rfl (XT.i0_ne_t (by decide)) (by decide) (by decide)) ?_
  show Done _ p e below s _ _ (T1.setTop (mkF m 28 #[oR bA, oI (0 : Int32)] []))
  refine Done.step (fun _ => XS.iloadN X1.here hx rfl (hb hby d26_28) rfl) ?_
  show Done _ p e below s _ _ (T1.setTop (mkF m 29 #[oR bA, oI (0 : Int32)] [(.int (0 : Int32))]))
  refine Done.step (fun _ => XT.iconstV X1.here hx rfl (1 : Int32) (hb hby d26_29) (by decide)) ?_
  show Done _ p e below s _ _ (T1.setTop (mkF m 30 #[oR bA, oI (0 : Int32)] [(.int (1 : Int32)), (.int (0 : Int32))]))
  refine Done.step (fun _ => XT.ishl X1.here hx rfl (hb hby d26_30) rfl) ?_
  show Done _ p e below s _ _ (T1.setTop (mkF m 31 #[oR bA, oI (0 : Int32)] [(.int (0 : Int32))]))
  refine Done.step (fun _ => XS.istoreN X1.here hx rfl (hb hby d26_31) rfl (l' := #[oR bA, oI (0 : Int32)]) rfl) ?_
  show Done _ p e below s _ _ (T1.setTop (mkF m 32 #[oR bA, oI (0 : Int32)] []))
  refine Done.step (fun _ => XS.aloadN X1.here hx rfl (hb hby d26_32) rfl rfl) ?_
  show Done _ p e below s _ _ (T1.setTop (mkF m 33 #[oR bA, oI (0 : Int32)] [(.ref bA)]))
  refine Done.step (fun _ => XS.iloadN X1.here hx rfl (hb hby d26_33) rfl) ?_
  show Done _ p e below s _ _ (T1.setTop (mkF m 34 #[oR bA, oI (0 : Int32)] [(.int (0 : Int32)), (.ref bA)]))
  refine Done.step (fun _ => XS.iinc X1.here hx rfl (hb hby d26_34) rfl (l' := #[oR bA, oI (1 : Int32)]) rfl) ?_
  show Done _ p e below s _ _ (T1.setTop (mkF m 37 #[oR bA, oI (1 : Int32)] [(.int (0 : Int32)), (.ref bA)]))
  obtain ⟨cl2, Ar2, q2, S2, Nn2, H2, G2⟩ := id VB
  have hin2 : ¬ ((0 : Int32) < 0 ∨ cl2.slots.size ≤ ((0 : Int32)).toNatClampNeg) := inb_of S2 ⟨by decide, by decide⟩
  have hat2 := Has.at H2 hin2 (v := (.int p0)) rfl
  refine Done.step (X1.baloadBytes hx (j := (0 : Int32)) (v := (.int p0)) (by first | exact Ar2.1 | (rw [e1]; exact Ar2.1)) (State.isArrayOf_alike hZ.alike Ar2.2.1) Ar2.2.2 hin2 hat2 (g := (mkF m 37 #[oR bA, oI (1 : Int32)] [(.int (0 : Int32)), (.ref bA)])) rfl rfl (hb hby d26_37)) ?_
  show Done _ p e below s _ _ (T1.setTop (mkF m 38 #[oR bA, oI (1 : Int32)] [(.int p0)]))
  refine Done.step (fun _ => XT.sipushV X1.here hx rfl (255 : Int32) (hb hby d26_38) (by decide)) ?_
  show Done _ p e below s _ _ (T1.setTop (mkF m 41 #[oR bA, oI (1 : Int32)] [(.int (255 : Int32)), (.int p0)]))
  refine Done.step (fun _ => XS.iand X1.here hx rfl (hb hby d26_41) rfl) ?_
  show Done _ p e below s _ _ (T1.setTop (mkF m 42 #[oR bA, oI (1 : Int32)] [(.int (p0 &&& (255 : Int32)))]))
  obtain ⟨T3, X3, e3, st3⟩ := getS2 X1 hx hZ hown (host := "") (Or.inl (wAt hw 109 rfl)) Via.refl e1 (SH.ext O0.2) (g := (mkF m 42 #[oR bA, oI (1 : Int32)] [(.int (p0 &&& (255 : Int32)))])) rfl (hb hby d26_42)
  refine Done.step st3 ?_
  show Done _ p e below s _ _ (T3.setTop (mkF m 45 #[oR bA, oI (1 : Int32)] [(.int (0 : Int32)), (.int (p0 &&& (255 : Int32)))]))
  refine Done.step (fun _ => XT.ishl X3.here hx rfl (hb hby d26_45) rfl) ?_
  show Done _ p e below s _ _ (T3.setTop (mkF m 46 #[oR bA, oI (1 : Int32)] [(.int ((p0 &&& (255 : Int32)) <<< ((0 : Int32) &&& 31)))]))
  refine Done.step (fun _ => XS.aloadN X3.here hx rfl (hb hby d26_46) rfl rfl) ?_
  show Done _ p e below s _ _ (T3.setTop (mkF m 47 #[oR bA, oI (1 : Int32)] [(.ref bA), (.int ((p0 &&& (255 : Int32)) <<< ((0 : Int32) &&& 31)))]))
  refine Done.step (fun _ => XS.iloadN X3.here hx rfl (hb hby d26_47) rfl) ?_
  show Done _ p e below s _ _ (T3.setTop (mkF m 48 #[oR bA, oI (1 : Int32)] [(.int (1 : Int32)), (.ref bA), (.int ((p0 &&& (255 : Int32)) <<< ((0 : Int32) &&& 31)))]))
  obtain ⟨cl4, Ar4, q4, S4, Nn4, H4, G4⟩ := id VB
  have hin4 : ¬ ((1 : Int32) < 0 ∨ cl4.slots.size ≤ ((1 : Int32)).toNatClampNeg) := inb_of S4 ⟨by decide, by decide⟩
  have hat4 := Has.at H4 hin4 (v := (.int p1)) rfl
  refine Done.step (X3.baloadBytes hx (j := (1 : Int32)) (v := (.int p1)) (by first | exact Ar4.1 | (rw [e3]; exact Ar4.1)) (State.isArrayOf_alike hZ.alike Ar4.2.1) Ar4.2.2 hin4 hat4 (g := (mkF m 48 #[oR bA, oI (1 : Int32)] [(.int (1 : Int32)), (.ref bA), (.int ((p0 &&& (255 : Int32)) <<< ((0 : Int32) &&& 31)))])) rfl rfl (hb hby d26_48)) ?_
  show Done _ p e below s _ _ (T3.setTop (mkF m 49 #[oR bA, oI (1 : Int32)] [(.int p1), (.int ((p0 &&& (255 : Int32)) <<< ((0 : Int32) &&& 31)))]))
  refine Done.step (fun _ => XT.sipushV X3.here hx rfl (255 : Int32) (hb hby d26_49) (by decide)) ?_
  show Done _ p e below s _ _ (T3.setTop (mkF m 52 #[oR bA, oI (1 : Int32)] [(.int (255 : Int32)), (.int p1), (.int ((p0 &&& (255 : Int32)) <<< ((0 : Int32) &&& 31)))]))
  refine Done.step (fun _ => XS.iand X3.here hx rfl (hb hby d26_52) rfl) ?_
  show Done _ p e below s _ _ (T3.setTop (mkF m 53 #[oR bA, oI (1 : Int32)] [(.int (p1 &&& (255 : Int32))), (.int ((p0 &&& (255 : Int32)) <<< ((0 : Int32) &&& 31)))]))
  obtain ⟨T5, X5, e5, st5⟩ := getS2 X3 hx hZ hown (host := "") (Or.inl (wAt hw 110 rfl)) Via.refl e3 (SL.ext O0.2) (g := (mkF m 53 #[oR bA, oI (1 : Int32)] [(.int (p1 &&& (255 : Int32))), (.int ((p0 &&& (255 : Int32)) <<< ((0 : Int32) &&& 31)))])) rfl (hb hby d26_53)
  refine Done.step st5 ?_
  show Done _ p e below s _ _ (T5.setTop (mkF m 56 #[oR bA, oI (1 : Int32)] [(.int (8 : Int32)), (.int (p1 &&& (255 : Int32))), (.int ((p0 &&& (255 : Int32)) <<< ((0 : Int32) &&& 31)))]))
  refine Done.step (fun _ => XT.ishl X5.here hx rfl (hb hby d26_56) rfl) ?_
  show Done _ p e below s _ _ (T5.setTop (mkF m 57 #[oR bA, oI (1 : Int32)] [(.int ((p1 &&& (255 : Int32)) <<< ((8 : Int32) &&& 31))), (.int ((p0 &&& (255 : Int32)) <<< ((0 : Int32) &&& 31)))]))
  refine Done.step (fun _ => XT.ior X5.here hx rfl (hb hby d26_57) rfl) ?_
  show Done _ p e below s _ _ (T5.setTop (mkF m 58 #[oR bA, oI (1 : Int32)] [(.int (((p0 &&& (255 : Int32)) <<< ((0 : Int32) &&& 31)) ||| ((p1 &&& (255 : Int32)) <<< ((8 : Int32) &&& 31))))]))
  refine Done.step (fun _ => XT.i2c X5.here hx rfl (hb hby d26_58) rfl) ?_
  show Done _ p e below s _ _ (T5.setTop (mkF m 59 #[oR bA, oI (1 : Int32)] [(.int ((((p0 &&& (255 : Int32)) <<< ((0 : Int32) &&& 31)) ||| ((p1 &&& (255 : Int32)) <<< ((8 : Int32) &&& 31))).toUInt32.toUInt16.toUInt32.toInt32))]))
  exact Done.retN (leavesF X5 hlk (by decide) (by decide)) X5 hx (t := .char) hret (by simp) (hb hby d26_59) ⟨rfl, e5, rfl⟩
def Q5_2 (Z : State) (n0 : Nat) (h0 : Heap) (bA : Addr) (kb : ClassId) (c0 c1 : Int32) (v : Option Value) (h : Heap) (_ : Vm) (L : List Loc) : Prop := Fr n0 L ∧ Keep h0 h [bA] ∧ ((v = some (.int (2 : Int32)) ∧ (¬ (255 : Int32) < c0 ∧ ¬ (255 : Int32) < c1) ∧ Arv Z h bA kb .byte (2 : Int32) [(.int (own_by c0)), (.int (own_by c1))] (.int (0 : Int32))) ∨ (v = some (.int (0 : Int32)) ∧ (255 : Int32) < c0) ∨ (v = some (.int (1 : Int32)) ∧ (255 : Int32) < c1))
theorem d21_0 : decode jdk_52_method_21_code 0 = .ok (.iconst 0, 1) := by decide +kernel
theorem d21_1 : decode jdk_52_method_21_code 1 = .ok (.istore 5, 2) := by decide +kernel
theorem d21_3 : decode jdk_52_method_21_code 3 = .ok (.iload 5, 2) := by decide +kernel
theorem d21_5 : decode jdk_52_method_21_code 5 = .ok (.iload 4, 2) := by decide +kernel
theorem d21_7 : decode jdk_52_method_21_code 7 = .ok (.if_icmp .ge 37, 3) := by decide +kernel
theorem d21_10 : decode jdk_52_method_21_code 10 = .ok (.aload_n 0, 1) := by decide +kernel
theorem d21_11 : decode jdk_52_method_21_code 11 = .ok (.iload_n 1, 1) := by decide +kernel
theorem d21_12 : decode jdk_52_method_21_code 12 = .ok (.caload, 1) := by decide +kernel
theorem d21_13 : decode jdk_52_method_21_code 13 = .ok (.istore 6, 2) := by decide +kernel
theorem d21_15 : decode jdk_52_method_21_code 15 = .ok (.iload 6, 2) := by decide +kernel
theorem d21_17 : decode jdk_52_method_21_code 17 = .ok (.sipush 255, 3) := by decide +kernel
theorem d21_20 : decode jdk_52_method_21_code 20 = .ok (.if_icmp .le 6, 3) := by decide +kernel
theorem d21_23 : decode jdk_52_method_21_code 23 = .ok (.iload 5, 2) := by decide +kernel
theorem d21_25 : decode jdk_52_method_21_code 25 = .ok (.ireturn, 1) := by decide +kernel
theorem d21_26 : decode jdk_52_method_21_code 26 = .ok (.aload_n 2, 1) := by decide +kernel
theorem d21_27 : decode jdk_52_method_21_code 27 = .ok (.iload_n 3, 1) := by decide +kernel
theorem d21_28 : decode jdk_52_method_21_code 28 = .ok (.iload 6, 2) := by decide +kernel
theorem d21_30 : decode jdk_52_method_21_code 30 = .ok (.i2b, 1) := by decide +kernel
theorem d21_31 : decode jdk_52_method_21_code 31 = .ok (.bastore, 1) := by decide +kernel
theorem d21_32 : decode jdk_52_method_21_code 32 = .ok (.iinc 1 1, 3) := by decide +kernel
theorem d21_35 : decode jdk_52_method_21_code 35 = .ok (.iinc 3 1, 3) := by decide +kernel
theorem d21_38 : decode jdk_52_method_21_code 38 = .ok (.iinc 5 1, 3) := by decide +kernel
theorem d21_41 : decode jdk_52_method_21_code 41 = .ok (.goto (-38), 3) := by decide +kernel
theorem d21_44 : decode jdk_52_method_21_code 44 = .ok (.iload 4, 2) := by decide +kernel
theorem d21_46 : decode jdk_52_method_21_code 46 = .ok (.ireturn, 1) := by decide +kernel
set_option maxRecDepth 65536 in
set_option maxHeartbeats 40000000 in
theorem u5_2 (l : Launch) (Z : State) (a0 : Array Value) (hw : ∀ d ∈ tables_1, d.before a0 Z = true) (ws : List Jvm.Cond) (cA bA : Addr) (kc kb : ClassId) (c0 c1 : Int32) (h0 : Heap) (n0 : Nat) (Z0 : n0 ≤ h0.size) (VA : Arv Z h0 cA kc .char (2 : Int32) [(.int c0), (.int c1)] (.int (0 : Int32))) (VB : Arv Z h0 bA kb .byte (2 : Int32) [(.int (0 : Int32)), (.int (0 : Int32))] (.int (0 : Int32))) (gb : n0 ≤ bA) (nab : cA ≠ bA) :
    Ctr FrameEnd l Z (⟨"java/lang/StringUTF16", "compress", "([CI[BII)I"⟩ : MethodName) jdk_52_method_21_code 7 (some .int) ws ({ frames := 0, cells := 0, slots := 0, locals := 0 } : Room) #[(.ref cA), (.int (0 : Int32)), (.ref bA), (.int (0 : Int32)), (.int (2 : Int32))] h0 TrueV (Q5_2 Z n0 h0 bA kb c0 c1) := by
  refine Ctr.intro (plainFor_of_name pn_java_lang_StringUTF16) (Ls := #[.val (.ref cA), .val (.int (0 : Int32)), .val (.ref bA), .val (.int (0 : Int32)), .val (.int (2 : Int32)), .unset, .unset]) (fun m => by first | (simp [entryFrame, mkF, argsToLocals, Value.category]; done) | rfl) ?_
  intro p e s m below meth c T0 hx hby hml hown hnm hret hlk hZ hV hsh e0 X0
  have N0 := Fr.nil n0
  show Done _ p e below s _ _ (T0.setTop (mkF m 0 #[oR cA, oI (0 : Int32), oR bA, oI (0 : Int32), oI (2 : Int32), .unset, .unset] []))
  refine Done.step (fun _ => XT.iconstV X0.here hx rfl (0 : Int32) (hb hby d21_0) (by decide)) ?_
  show Done _ p e below s _ _ (T0.setTop (mkF m 1 #[oR cA, oI (0 : Int32), oR bA, oI (0 : Int32), oI (2 : Int32), .unset, .unset] [(.int (0 : Int32))]))
  refine Done.step (fun _ => XS.istore X0.here hx rfl (hb hby d21_1) rfl (l' := #[oR cA, oI (0 : Int32), oR bA, oI (0 : Int32), oI (2 : Int32), oI (0 : Int32), .unset]) rfl) ?_
  show Done _ p e below s _ _ (T0.setTop (mkF m 3 #[oR cA, oI (0 : Int32), oR bA, oI (0 : Int32), oI (2 : Int32), oI (0 : Int32), .unset] []))
  refine Done.step (fun _ => XS.iload X0.here hx rfl (hb hby d21_3) rfl) ?_
  show Done _ p e below s _ _ (T0.setTop (mkF m 5 #[oR cA, oI (0 : Int32), oR bA, oI (0 : Int32), oI (2 : Int32), oI (0 : Int32), .unset] [(.int (0 : Int32))]))
  refine Done.step (fun _ => XS.iload X0.here hx rfl (hb hby d21_5) rfl) ?_
  show Done _ p e below s _ _ (T0.setTop (mkF m 7 #[oR cA, oI (0 : Int32), oR bA, oI (0 : Int32), oI (2 : Int32), oI (0 : Int32), .unset] [(.int (2 : Int32)), (.int (0 : Int32))]))
  refine Done.step (fun _ => XS.icmpNo X0.here hx rfl (hb hby d21_7) rfl (XT.ii_ge_f (by decide))) ?_
  show Done _ p e below s _ _ (T0.setTop (mkF m 10 #[oR cA, oI (0 : Int32), oR bA, oI (0 : Int32), oI (2 : Int32), oI (0 : Int32), .unset] []))
  refine Done.step (fun _ => XS.aloadN X0.here hx rfl (hb hby d21_10) rfl rfl) ?_
  show Done _ p e below s _ _ (T0.setTop (mkF m 11 #[oR cA, oI (0 : Int32), oR bA, oI (0 : Int32), oI (2 : Int32), oI (0 : Int32), .unset] [(.ref cA)]))
  refine Done.step (fun _ => XS.iloadN X0.here hx rfl (hb hby d21_11) rfl) ?_
  show Done _ p e below s _ _ (T0.setTop (mkF m 12 #[oR cA, oI (0 : Int32), oR bA, oI (0 : Int32), oI (2 : Int32), oI (0 : Int32), .unset] [(.int (0 : Int32)), (.ref cA)]))
  obtain ⟨cl1, Ar1, q1, S1, Nn1, H1, G1⟩ := id VA
  have hin1 : ¬ ((0 : Int32) < 0 ∨ cl1.slots.size ≤ ((0 : Int32)).toNatClampNeg) := inb_of S1 ⟨by decide, by decide⟩
  have hat1 := Has.at H1 hin1 (v := (.int c0)) rfl
  refine Done.step (X0.caload hx (j := (0 : Int32)) (v := (.int c0)) (by first | exact Ar1.1 | (rw [e0]; exact Ar1.1)) (State.isArrayOf_alike hZ.alike Ar1.2.1) Ar1.2.2 hin1 hat1 (g := (mkF m 12 #[oR cA, oI (0 : Int32), oR bA, oI (0 : Int32), oI (2 : Int32), oI (0 : Int32), .unset] [(.int (0 : Int32)), (.ref cA)])) rfl rfl (hb hby d21_12)) ?_
  show Done _ p e below s _ _ (T0.setTop (mkF m 13 #[oR cA, oI (0 : Int32), oR bA, oI (0 : Int32), oI (2 : Int32), oI (0 : Int32), .unset] [(.int c0)]))
  refine Done.step (fun _ => XS.istore X0.here hx rfl (hb hby d21_13) rfl (l' := #[oR cA, oI (0 : Int32), oR bA, oI (0 : Int32), oI (2 : Int32), oI (0 : Int32), oI c0]) rfl) ?_
  show Done _ p e below s _ _ (T0.setTop (mkF m 15 #[oR cA, oI (0 : Int32), oR bA, oI (0 : Int32), oI (2 : Int32), oI (0 : Int32), oI c0] []))
  refine Done.step (fun _ => XS.iload X0.here hx rfl (hb hby d21_15) rfl) ?_
  show Done _ p e below s _ _ (T0.setTop (mkF m 17 #[oR cA, oI (0 : Int32), oR bA, oI (0 : Int32), oI (2 : Int32), oI (0 : Int32), oI c0] [(.int c0)]))
  refine Done.step (fun _ => XT.sipushV X0.here hx rfl (255 : Int32) (hb hby d21_17) (by decide)) ?_
  show Done _ p e below s _ _ (T0.setTop (mkF m 20 #[oR cA, oI (0 : Int32), oR bA, oI (0 : Int32), oI (2 : Int32), oI (0 : Int32), oI c0] [(.int (255 : Int32)), (.int c0)]))
  by_cases hc2 : (255 : Int32) < c0
  · refine Done.step (fun _ => XS.icmpNo X0.here hx rfl (hb hby d21_20) rfl (XT.ii_le_f hc2)) ?_
    show Done _ p e below s _ _ (T0.setTop (mkF m 23 #[oR cA, oI (0 : Int32), oR bA, oI (0 : Int32), oI (2 : Int32), oI (0 : Int32), oI c0] []))
    refine Done.step (fun _ => XS.iload X0.here hx rfl (hb hby d21_23) rfl) ?_
    show Done _ p e below s _ _ (T0.setTop (mkF m 25 #[oR cA, oI (0 : Int32), oR bA, oI (0 : Int32), oI (2 : Int32), oI (0 : Int32), oI c0] [(.int (0 : Int32))]))
    refine Done.retI (leavesF X0 hlk (by decide) (by decide)) X0 hx hret (hb hby d21_25) ?_
    rw [e0]
    exact ⟨N0, (Keep.refl h0 [bA]), Or.inr (Or.inl ⟨rfl, hc2⟩)⟩
  · refine Done.step (fun _ => XS.icmpYes X0.here hx rfl (pc0 := 20) (pc' := 26) rfl (hb hby d21_20) rfl (XT.ii_le_t hc2) (by decide) (by decide)) ?_
    show Done _ p e below s _ _ (T0.setTop (mkF m 26 #[oR cA, oI (0 : Int32), oR bA, oI (0 : Int32), oI (2 : Int32), oI (0 : Int32), oI c0] []))
    refine Done.step (fun _ => XS.aloadN X0.here hx rfl (hb hby d21_26) rfl rfl) ?_
    show Done _ p e below s _ _ (T0.setTop (mkF m 27 #[oR cA, oI (0 : Int32), oR bA, oI (0 : Int32), oI (2 : Int32), oI (0 : Int32), oI c0] [(.ref bA)]))
    refine Done.step (fun _ => XS.iloadN X0.here hx rfl (hb hby d21_27) rfl) ?_
    show Done _ p e below s _ _ (T0.setTop (mkF m 28 #[oR cA, oI (0 : Int32), oR bA, oI (0 : Int32), oI (2 : Int32), oI (0 : Int32), oI c0] [(.int (0 : Int32)), (.ref bA)]))
    refine Done.step (fun _ => XS.iload X0.here hx rfl (hb hby d21_28) rfl) ?_
    show Done _ p e below s _ _ (T0.setTop (mkF m 30 #[oR cA, oI (0 : Int32), oR bA, oI (0 : Int32), oI (2 : Int32), oI (0 : Int32), oI c0] [(.int c0), (.int (0 : Int32)), (.ref bA)]))
    refine Done.step (fun _ => XT.i2b X0.here hx rfl (hb hby d21_30) rfl) ?_
    show Done _ p e below s _ _ (T0.setTop (mkF m 31 #[oR cA, oI (0 : Int32), oR bA, oI (0 : Int32), oI (2 : Int32), oI (0 : Int32), oI c0] [(.int (c0.toInt8.toInt32)), (.int (0 : Int32)), (.ref bA)]))
    obtain ⟨cl3, Ar3, q3, S3, Nn3, H3, G3⟩ := id VB
    have hin3 : ¬ ((0 : Int32) < 0 ∨ cl3.slots.size ≤ ((0 : Int32)).toNatClampNeg) := inb_of S3 ⟨by decide, by decide⟩
    obtain ⟨T3, h3, X3, e3, W3, st3⟩ := stB X0 hx hZ e0 Ar3 (j := (0 : Int32)) hin3 (g := (mkF m 31 #[oR cA, oI (0 : Int32), oR bA, oI (0 : Int32), oI (2 : Int32), oI (0 : Int32), oI c0] [(.int (c0.toInt8.toInt32)), (.int (0 : Int32)), (.ref bA)])) rfl rfl (hb hby d21_31)
    have V3 := Arv.set Ar3 q3 S3 Nn3 H3 G3 (fits_nar_byte _) W3 0 rfl (Nat.le_of_ble_eq_true rfl)
    have N3 := Fr.snoc X3 N0 gb
    have Zs3 := Nat.le_trans Z0 (Keep.of_wr W3).1
    have K3 := (Keep.refl h0 [bA]).wr W3 (Or.inl (List.mem_of_getElem? (i := 0) rfl))
    refine Done.step st3 ?_
    show Done _ p e below s _ _ (T3.setTop (mkF m 32 #[oR cA, oI (0 : Int32), oR bA, oI (0 : Int32), oI (2 : Int32), oI (0 : Int32), oI c0] []))
    refine Done.step (fun _ => XS.iinc X3.here hx rfl (hb hby d21_32) rfl (l' := #[oR cA, oI (1 : Int32), oR bA, oI (0 : Int32), oI (2 : Int32), oI (0 : Int32), oI c0]) rfl) ?_
    show Done _ p e below s _ _ (T3.setTop (mkF m 35 #[oR cA, oI (1 : Int32), oR bA, oI (0 : Int32), oI (2 : Int32), oI (0 : Int32), oI c0] []))
    refine Done.step (fun _ => XS.iinc X3.here hx rfl (hb hby d21_35) rfl (l' := #[oR cA, oI (1 : Int32), oR bA, oI (1 : Int32), oI (2 : Int32), oI (0 : Int32), oI c0]) rfl) ?_
    show Done _ p e below s _ _ (T3.setTop (mkF m 38 #[oR cA, oI (1 : Int32), oR bA, oI (1 : Int32), oI (2 : Int32), oI (0 : Int32), oI c0] []))
    refine Done.step (fun _ => XS.iinc X3.here hx rfl (hb hby d21_38) rfl (l' := #[oR cA, oI (1 : Int32), oR bA, oI (1 : Int32), oI (2 : Int32), oI (1 : Int32), oI c0]) rfl) ?_
    show Done _ p e below s _ _ (T3.setTop (mkF m 41 #[oR cA, oI (1 : Int32), oR bA, oI (1 : Int32), oI (2 : Int32), oI (1 : Int32), oI c0] []))
    refine Done.step (fun _ => XS.goto X3.here hx rfl (pc0 := 41) (pc' := 3) rfl (hb hby d21_41) (by decide) (by decide)) ?_
    show Done _ p e below s _ _ (T3.setTop (mkF m 3 #[oR cA, oI (1 : Int32), oR bA, oI (1 : Int32), oI (2 : Int32), oI (1 : Int32), oI c0] []))
    refine Done.step (fun _ => XS.iload X3.here hx rfl (hb hby d21_3) rfl) ?_
    show Done _ p e below s _ _ (T3.setTop (mkF m 5 #[oR cA, oI (1 : Int32), oR bA, oI (1 : Int32), oI (2 : Int32), oI (1 : Int32), oI c0] [(.int (1 : Int32))]))
    refine Done.step (fun _ => XS.iload X3.here hx rfl (hb hby d21_5) rfl) ?_
    show Done _ p e below s _ _ (T3.setTop (mkF m 7 #[oR cA, oI (1 : Int32), oR bA, oI (1 : Int32), oI (2 : Int32), oI (1 : Int32), oI c0] [(.int (2 : Int32)), (.int (1 : Int32))]))
    refine Done.step (fun _ => XS.icmpNo X3.here hx rfl (hb hby d21_7) rfl (XT.ii_ge_f (by decide))) ?_
    show Done _ p e below s _ _ (T3.setTop (mkF m 10 #[oR cA, oI (1 : Int32), oR bA, oI (1 : Int32), oI (2 : Int32), oI (1 : Int32), oI c0] []))
    refine Done.step (fun _ => XS.aloadN X3.here hx rfl (hb hby d21_10) rfl rfl) ?_
    show Done _ p e below s _ _ (T3.setTop (mkF m 11 #[oR cA, oI (1 : Int32), oR bA, oI (1 : Int32), oI (2 : Int32), oI (1 : Int32), oI c0] [(.ref cA)]))
    refine Done.step (fun _ => XS.iloadN X3.here hx rfl (hb hby d21_11) rfl) ?_
    show Done _ p e below s _ _ (T3.setTop (mkF m 12 #[oR cA, oI (1 : Int32), oR bA, oI (1 : Int32), oI (2 : Int32), oI (1 : Int32), oI c0] [(.int (1 : Int32)), (.ref cA)]))
    have f5 := (VA.other W3 nab)
    obtain ⟨cl4, Ar4, q4, S4, Nn4, H4, G4⟩ := id f5
    have hin4 : ¬ ((1 : Int32) < 0 ∨ cl4.slots.size ≤ ((1 : Int32)).toNatClampNeg) := inb_of S4 ⟨by decide, by decide⟩
    have hat4 := Has.at H4 hin4 (v := (.int c1)) rfl
    refine Done.step (X3.caload hx (j := (1 : Int32)) (v := (.int c1)) (by first | exact Ar4.1 | (rw [e3]; exact Ar4.1)) (State.isArrayOf_alike hZ.alike Ar4.2.1) Ar4.2.2 hin4 hat4 (g := (mkF m 12 #[oR cA, oI (1 : Int32), oR bA, oI (1 : Int32), oI (2 : Int32), oI (1 : Int32), oI c0] [(.int (1 : Int32)), (.ref cA)])) rfl rfl (hb hby d21_12)) ?_
    show Done _ p e below s _ _ (T3.setTop (mkF m 13 #[oR cA, oI (1 : Int32), oR bA, oI (1 : Int32), oI (2 : Int32), oI (1 : Int32), oI c0] [(.int c1)]))
    refine Done.step (fun _ => XS.istore X3.here hx rfl (hb hby d21_13) rfl (l' := #[oR cA, oI (1 : Int32), oR bA, oI (1 : Int32), oI (2 : Int32), oI (1 : Int32), oI c1]) rfl) ?_
    show Done _ p e below s _ _ (T3.setTop (mkF m 15 #[oR cA, oI (1 : Int32), oR bA, oI (1 : Int32), oI (2 : Int32), oI (1 : Int32), oI c1] []))
    refine Done.step (fun _ => XS.iload X3.here hx rfl (hb hby d21_15) rfl) ?_
    show Done _ p e below s _ _ (T3.setTop (mkF m 17 #[oR cA, oI (1 : Int32), oR bA, oI (1 : Int32), oI (2 : Int32), oI (1 : Int32), oI c1] [(.int c1)]))
    refine Done.step (fun _ => XT.sipushV X3.here hx rfl (255 : Int32) (hb hby d21_17) (by decide)) ?_
    show Done _ p e below s _ _ (T3.setTop (mkF m 20 #[oR cA, oI (1 : Int32), oR bA, oI (1 : Int32), oI (2 : Int32), oI (1 : Int32), oI c1] [(.int (255 : Int32)), (.int c1)]))
    by_cases hc6 : (255 : Int32) < c1
    · refine Done.step (fun _ => XS.icmpNo X3.here hx rfl (hb hby d21_20) rfl (XT.ii_le_f hc6)) ?_
      show Done _ p e below s _ _ (T3.setTop (mkF m 23 #[oR cA, oI (1 : Int32), oR bA, oI (1 : Int32), oI (2 : Int32), oI (1 : Int32), oI c1] []))
      refine Done.step (fun _ => XS.iload X3.here hx rfl (hb hby d21_23) rfl) ?_
      show Done _ p e below s _ _ (T3.setTop (mkF m 25 #[oR cA, oI (1 : Int32), oR bA, oI (1 : Int32), oI (2 : Int32), oI (1 : Int32), oI c1] [(.int (1 : Int32))]))
      refine Done.retI (leavesF X3 hlk (by decide) (by decide)) X3 hx hret (hb hby d21_25) ?_
      rw [e3]
      exact ⟨N3, K3, Or.inr (Or.inr ⟨rfl, hc6⟩)⟩
    · refine Done.step (fun _ => XS.icmpYes X3.here hx rfl (pc0 := 20) (pc' := 26) rfl (hb hby d21_20) rfl (XT.ii_le_t hc6) (by decide) (by decide)) ?_
      show Done _ p e below s _ _ (T3.setTop (mkF m 26 #[oR cA, oI (1 : Int32), oR bA, oI (1 : Int32), oI (2 : Int32), oI (1 : Int32), oI c1] []))
      refine Done.step (fun _ => XS.aloadN X3.here hx rfl (hb hby d21_26) rfl rfl) ?_
      show Done _ p e below s _ _ (T3.setTop (mkF m 27 #[oR cA, oI (1 : Int32), oR bA, oI (1 : Int32), oI (2 : Int32), oI (1 : Int32), oI c1] [(.ref bA)]))
      refine Done.step (fun _ => XS.iloadN X3.here hx rfl (hb hby d21_27) rfl) ?_
      show Done _ p e below s _ _ (T3.setTop (mkF m 28 #[oR cA, oI (1 : Int32), oR bA, oI (1 : Int32), oI (2 : Int32), oI (1 : Int32), oI c1] [(.int (1 : Int32)), (.ref bA)]))
      refine Done.step (fun _ => XS.iload X3.here hx rfl (hb hby d21_28) rfl) ?_
      show Done _ p e below s _ _ (T3.setTop (mkF m 30 #[oR cA, oI (1 : Int32), oR bA, oI (1 : Int32), oI (2 : Int32), oI (1 : Int32), oI c1] [(.int c1), (.int (1 : Int32)), (.ref bA)]))
      refine Done.step (fun _ => XT.i2b X3.here hx rfl (hb hby d21_30) rfl) ?_
      show Done _ p e below s _ _ (T3.setTop (mkF m 31 #[oR cA, oI (1 : Int32), oR bA, oI (1 : Int32), oI (2 : Int32), oI (1 : Int32), oI c1] [(.int (c1.toInt8.toInt32)), (.int (1 : Int32)), (.ref bA)]))
      obtain ⟨cl7, Ar7, q7, S7, Nn7, H7, G7⟩ := id V3
      have hin7 : ¬ ((1 : Int32) < 0 ∨ cl7.slots.size ≤ ((1 : Int32)).toNatClampNeg) := inb_of S7 ⟨by decide, by decide⟩
      obtain ⟨T7, h7, X7, e7, W7, st7⟩ := stB X3 hx hZ e3 Ar7 (j := (1 : Int32)) hin7 (g := (mkF m 31 #[oR cA, oI (1 : Int32), oR bA, oI (1 : Int32), oI (2 : Int32), oI (1 : Int32), oI c1] [(.int (c1.toInt8.toInt32)), (.int (1 : Int32)), (.ref bA)])) rfl rfl (hb hby d21_31)
      have V7 := Arv.set Ar7 q7 S7 Nn7 H7 G7 (fits_nar_byte _) W7 1 rfl (Nat.le_of_ble_eq_true rfl)
      have N7 := Fr.snoc X7 N3 gb
      have Zs7 := Nat.le_trans Zs3 (Keep.of_wr W7).1
      have K7 := K3.wr W7 (Or.inl (List.mem_of_getElem? (i := 0) rfl))
      refine Done.step st7 ?_
      show Done _ p e below s _ _ (T7.setTop (mkF m 32 #[oR cA, oI (1 : Int32), oR bA, oI (1 : Int32), oI (2 : Int32), oI (1 : Int32), oI c1] []))
      refine Done.step (fun _ => XS.iinc X7.here hx rfl (hb hby d21_32) rfl (l' := #[oR cA, oI (2 : Int32), oR bA, oI (1 : Int32), oI (2 : Int32), oI (1 : Int32), oI c1]) rfl) ?_
      show Done _ p e below s _ _ (T7.setTop (mkF m 35 #[oR cA, oI (2 : Int32), oR bA, oI (1 : Int32), oI (2 : Int32), oI (1 : Int32), oI c1] []))
      refine Done.step (fun _ => XS.iinc X7.here hx rfl (hb hby d21_35) rfl (l' := #[oR cA, oI (2 : Int32), oR bA, oI (2 : Int32), oI (2 : Int32), oI (1 : Int32), oI c1]) rfl) ?_
      show Done _ p e below s _ _ (T7.setTop (mkF m 38 #[oR cA, oI (2 : Int32), oR bA, oI (2 : Int32), oI (2 : Int32), oI (1 : Int32), oI c1] []))
      refine Done.step (fun _ => XS.iinc X7.here hx rfl (hb hby d21_38) rfl (l' := #[oR cA, oI (2 : Int32), oR bA, oI (2 : Int32), oI (2 : Int32), oI (2 : Int32), oI c1]) rfl) ?_
      show Done _ p e below s _ _ (T7.setTop (mkF m 41 #[oR cA, oI (2 : Int32), oR bA, oI (2 : Int32), oI (2 : Int32), oI (2 : Int32), oI c1] []))
      refine Done.step (fun _ => XS.goto X7.here hx rfl (pc0 := 41) (pc' := 3) rfl (hb hby d21_41) (by decide) (by decide)) ?_
      show Done _ p e below s _ _ (T7.setTop (mkF m 3 #[oR cA, oI (2 : Int32), oR bA, oI (2 : Int32), oI (2 : Int32), oI (2 : Int32), oI c1] []))
      refine Done.step (fun _ => XS.iload X7.here hx rfl (hb hby d21_3) rfl) ?_
      show Done _ p e below s _ _ (T7.setTop (mkF m 5 #[oR cA, oI (2 : Int32), oR bA, oI (2 : Int32), oI (2 : Int32), oI (2 : Int32), oI c1] [(.int (2 : Int32))]))
      refine Done.step (fun _ => XS.iload X7.here hx rfl (hb hby d21_5) rfl) ?_
      show Done _ p e below s _ _ (T7.setTop (mkF m 7 #[oR cA, oI (2 : Int32), oR bA, oI (2 : Int32), oI (2 : Int32), oI (2 : Int32), oI c1] [(.int (2 : Int32)), (.int (2 : Int32))]))
      refine Done.step (fun _ => XS.icmpYes X7.here hx rfl (pc0 := 7) (pc' := 44) rfl (hb hby d21_7) rfl (XT.ii_ge_t (by decide)) (by decide) (by decide)) ?_
      show Done _ p e below s _ _ (T7.setTop (mkF m 44 #[oR cA, oI (2 : Int32), oR bA, oI (2 : Int32), oI (2 : Int32), oI (2 : Int32), oI c1] []))
      refine Done.step (fun _ => XS.iload X7.here hx rfl (hb hby d21_44) rfl) ?_
      show Done _ p e below s _ _ (T7.setTop (mkF m 46 #[oR cA, oI (2 : Int32), oR bA, oI (2 : Int32), oI (2 : Int32), oI (2 : Int32), oI c1] [(.int (2 : Int32))]))
      refine Done.retI (leavesF X7 hlk (by decide) (by decide)) X7 hx hret (hb hby d21_46) ?_
      rw [e7]
      exact ⟨N7, K7, Or.inl ⟨rfl, ⟨hc2, hc6⟩, V7⟩⟩
theorem d24_0 : decode jdk_52_method_3_code 0 = .ok (.iload_n 0, 1) := by decide +kernel
theorem d24_1 : decode jdk_52_method_3_code 1 = .ok (.ifCond .ge 11, 3) := by decide +kernel
theorem d24_12 : decode jdk_52_method_3_code 12 = .ok (.iload_n 0, 1) := by decide +kernel
theorem d24_13 : decode jdk_52_method_3_code 13 = .ok (.ldc 20, 2) := by decide +kernel
theorem d24_15 : decode jdk_52_method_3_code 15 = .ok (.if_icmp .lt 40, 3) := by decide +kernel
theorem d24_55 : decode jdk_52_method_3_code 55 = .ok (.iload_n 0, 1) := by decide +kernel
theorem d24_56 : decode jdk_52_method_3_code 56 = .ok (.iconst 1, 1) := by decide +kernel
theorem d24_57 : decode jdk_52_method_3_code 57 = .ok (.ishl, 1) := by decide +kernel
theorem d24_58 : decode jdk_52_method_3_code 58 = .ok (.ireturn, 1) := by decide +kernel
set_option maxRecDepth 65536 in
set_option maxHeartbeats 40000000 in
theorem ul_2 (l : Launch) (Z : State) (a0 : Array Value) (hw : ∀ d ∈ tables_1, d.before a0 Z = true) (ws : List Jvm.Cond)  (h0 : Heap) (n0 : Nat) (Z0 : n0 ≤ h0.size)  :
    Ctr FrameEnd l Z (⟨"java/lang/StringUTF16", "newBytesLength", "(I)I"⟩ : MethodName) jdk_52_method_3_code 1 (some .int) ws ({ frames := 0, cells := 0, slots := 0, locals := 0 } : Room) #[(.int (2 : Int32))] h0 TrueV (PureQ (some (.int (4 : Int32))) h0) := by
  refine Ctr.intro (plainFor_of_name pn_java_lang_StringUTF16) (Ls := #[.val (.int (2 : Int32))]) (fun m => by first | (simp [entryFrame, mkF, argsToLocals, Value.category]; done) | rfl) ?_
  intro p e s m below meth c T0 hx hby hml hown hnm hret hlk hZ hV hsh e0 X0
  have N0 := Fr.nil n0
  show Done _ p e below s _ _ (T0.setTop (mkF m 0 #[oI (2 : Int32)] []))
  refine Done.step (fun _ => XS.iloadN X0.here hx rfl (hb hby d24_0) rfl) ?_
  show Done _ p e below s _ _ (T0.setTop (mkF m 1 #[oI (2 : Int32)] [(.int (2 : Int32))]))
  refine Done.step (fun _ => XS.ifYes X0.here hx rfl (pc0 := 1) (pc' := 12) rfl (hb hby d24_1) rfl (XT.i0_ge_t (by decide)) (by decide) (by decide)) ?_
  show Done _ p e below s _ _ (T0.setTop (mkF m 12 #[oI (2 : Int32)] []))
  refine Done.step (fun _ => XS.iloadN X0.here hx rfl (hb hby d24_12) rfl) ?_
  show Done _ p e below s _ _ (T0.setTop (mkF m 13 #[oI (2 : Int32)] [(.int (2 : Int32))]))
  refine Done.step (fun _ => Stand.ldcI X0 hx hown (mvT hZ (wAt hw 104 rfl)) (g := (mkF m 13 #[oI (2 : Int32)] [(.int (2 : Int32))])) rfl (hb hby d24_13)) ?_
  show Done _ p e below s _ _ (T0.setTop (mkF m 15 #[oI (2 : Int32)] [(.int (1073741823 : Int32)), (.int (2 : Int32))]))
  refine Done.step (fun _ => XS.icmpYes X0.here hx rfl (pc0 := 15) (pc' := 55) rfl (hb hby d24_15) rfl (XT.ii_lt_t (by decide)) (by decide) (by decide)) ?_
  show Done _ p e below s _ _ (T0.setTop (mkF m 55 #[oI (2 : Int32)] []))
  refine Done.step (fun _ => XS.iloadN X0.here hx rfl (hb hby d24_55) rfl) ?_
  show Done _ p e below s _ _ (T0.setTop (mkF m 56 #[oI (2 : Int32)] [(.int (2 : Int32))]))
  refine Done.step (fun _ => XT.iconstV X0.here hx rfl (1 : Int32) (hb hby d24_56) (by decide)) ?_
  show Done _ p e below s _ _ (T0.setTop (mkF m 57 #[oI (2 : Int32)] [(.int (1 : Int32)), (.int (2 : Int32))]))
  refine Done.step (fun _ => XT.ishl X0.here hx rfl (hb hby d24_57) rfl) ?_
  show Done _ p e below s _ _ (T0.setTop (mkF m 58 #[oI (2 : Int32)] [(.int (4 : Int32))]))
  exact Done.retI (leavesF X0 hlk (by decide) (by decide)) X0 hx hret (hb hby d24_58) ⟨rfl, e0, rfl⟩
theorem d23_0 : decode jdk_52_method_2_code 0 = .ok (.iload_n 0, 1) := by decide +kernel
theorem d23_1 : decode jdk_52_method_2_code 1 = .ok (.invokestatic 11, 3) := by decide +kernel
theorem pd_1 : parseMethodDescriptor "(I)I" = some ⟨[.int], some .int⟩ := by decide +kernel
theorem d23_4 : decode jdk_52_method_2_code 4 = .ok (.newarray .byte, 2) := by decide +kernel
theorem d23_6 : decode jdk_52_method_2_code 6 = .ok (.areturn, 1) := by decide +kernel
set_option maxRecDepth 65536 in
set_option maxHeartbeats 40000000 in
theorem uf_2 (l : Launch) (Z : State) (a0 : Array Value) (hw : ∀ d ∈ tables_1, d.before a0 Z = true) (ws : List Jvm.Cond)  (h0 : Heap) (n0 : Nat) (Z0 : n0 ≤ h0.size)  :
    Ctr FrameEnd l Z (⟨"java/lang/StringUTF16", "newBytesFor", "(I)[B"⟩ : MethodName) jdk_52_method_2_code 1 (some (.array .byte)) ws ({ frames := 1, cells := 1, slots := 4, locals := 12 } : Room) #[(.int (2 : Int32))] h0 TrueV (fun v h _ L => ∃ (b : Addr) (kb : ClassId), v = some (.ref b) ∧ Fr n0 L ∧ Keep h0 h [] ∧ h0.size ≤ b ∧ Arv Z h b kb .byte (4 : Int32) [(.int (0 : Int32)), (.int (0 : Int32)), (.int (0 : Int32)), (.int (0 : Int32))] (.int (0 : Int32))) := by
  refine Ctr.intro (plainFor_of_name pn_java_lang_StringUTF16) (Ls := #[.val (.int (2 : Int32))]) (fun m => by first | (simp [entryFrame, mkF, argsToLocals, Value.category]; done) | rfl) ?_
  intro p e s m below meth c T0 hx hby hml hown hnm hret hlk hZ hV hsh e0 X0
  have N0 := Fr.nil n0
  show Done _ p e below s _ _ (T0.setTop (mkF m 0 #[oI (2 : Int32)] []))
  refine Done.step (fun _ => XS.iloadN X0.here hx rfl (hb hby d23_0) rfl) ?_
  show Done _ p e below s _ _ (T0.setTop (mkF m 1 #[oI (2 : Int32)] [(.int (2 : Int32))]))
  refine Done.callSP X0 hx hZ hown (wAt hw 101 rfl) (wAt hw 102 rfl) (wAt hw 90 rfl) (wAt hw 103 rfl) (by decide) (ul_2 l Z a0 hw [] h0 n0 Z0) e0 (g := (mkF m 1 #[oI (2 : Int32)] [(.int (2 : Int32))])) rfl (by rw [hml]; rfl) [(.int (2 : Int32))] [] 0 (lenOf pd_1 rfl) rfl rfl (by show 2 * 0 + _ ≤ _; exact Nat.le_of_eq rfl) (hb hby d23_1) (by decide) (by decide) (by decide) (by decide) rfl rfl ?_
  intro T1 X1 e1
  show Done _ p e below s _ _ (T1.setTop (mkF m 4 #[oI (2 : Int32)] [(.int (4 : Int32))]))
  obtain ⟨T2, h2, k2, X2, e2, E2, A2, st2⟩ := newP X1 hx hZ (wAt hw 24 rfl) e1 (g := (mkF m 4 #[oI (2 : Int32)] [(.int (4 : Int32))])) rfl (hb hby d23_4) rfl (by decide) (cap := 4) (by decide) (by decide) (by decide) (by decide)
  obtain ⟨b2, g2⟩ : ∃ z, z = h0.size := ⟨_, rfl⟩
  rw [← g2] at A2 st2
  have n0_b2 : n0 ≤ b2 := by rw [g2]; exact Z0
  have sz_b2 : h0.size ≤ b2 := by rw [g2]; exact (Keep.refl h0 []).1
  have K2 := (Keep.refl h0 []).ext E2
  have Zs2 := Nat.le_trans Z0 E2.1
  have V_b2 : Arv Z h2 b2 k2 .byte (4 : Int32) [(.int (0 : Int32)), (.int (0 : Int32)), (.int (0 : Int32)), (.int (0 : Int32))] (.int (0 : Int32)) := (Arv.new A2 (by decide)).pad (pad_rep [] (.int (0 : Int32)) 4)
  refine Done.step st2 ?_
  show Done _ p e below s _ _ (T2.setTop (mkF m 6 #[oI (2 : Int32)] [(.ref b2)]))
  refine Done.retA (leavesF X2 hlk (by decide) (by decide)) X2 hx hret rfl rfl (hb hby d23_6) ?_
  rw [e2]
  exact ⟨b2, k2, rfl, N0, K2, sz_b2, V_b2⟩
set_option maxRecDepth 65536 in
set_option maxHeartbeats 40000000 in
theorem up_20 (l : Launch) (Z : State) (a0 : Array Value) (hw : ∀ d ∈ tables_1, d.before a0 Z = true) (ws : List Jvm.Cond) (bA : Addr) (kb : ClassId) (p0 p1 p2 p3 cv : Int32) (h0 : Heap) (n0 : Nat) (Z0 : n0 ≤ h0.size) (O0 : Old Z n0 h0) (SA : Sta Z Z.heap "java/lang/StringUTF16" "$assertionsDisabled" "Z" (.int (1 : Int32))) (SH : Sta Z Z.heap "java/lang/StringUTF16" "HI_BYTE_SHIFT" "I" (.int (0 : Int32))) (SL : Sta Z Z.heap "java/lang/StringUTF16" "LO_BYTE_SHIFT" "I" (.int (8 : Int32))) (VB : Arv Z h0 bA kb .byte (4 : Int32) [(.int p0), (.int p1), (.int p2), (.int p3)] (.int (0 : Int32))) (gb : n0 ≤ bA) :
    Ctr FrameEnd l Z (⟨"java/lang/StringUTF16", "putChar", "([BII)V"⟩ : MethodName) jdk_52_method_4_code 3 none ws ({ frames := 0, cells := 0, slots := 0, locals := 0 } : Room) #[(.ref bA), (.int (0 : Int32)), (.int cv)] h0 TrueV (fun v h _ L => v = none ∧ Fr n0 L ∧ Keep h0 h [bA] ∧ Arv Z h bA kb .byte (4 : Int32) [(.int (own_hi cv)), (.int (own_lo cv)), (.int p2), (.int p3)] (.int (0 : Int32))) := by
  refine Ctr.intro (plainFor_of_name pn_java_lang_StringUTF16) (Ls := #[.val (.ref bA), .val (.int (0 : Int32)), .val (.int cv)]) (fun m => by first | (simp [entryFrame, mkF, argsToLocals, Value.category]; done) | rfl) ?_
  intro p e s m below meth c T0 hx hby hml hown hnm hret hlk hZ hV hsh e0 X0
  have N0 := Fr.nil n0
  show Done _ p e below s _ _ (T0.setTop (mkF m 0 #[oR bA, oI (0 : Int32), oI cv] []))
  obtain ⟨T1, X1, e1, st1⟩ := getS2 X0 hx hZ hown (host := "") (Or.inl (wAt hw 108 rfl)) Via.refl e0 (SA.ext O0.2) (g := (mkF m 0 #[oR bA, oI (0 : Int32), oI cv] [])) rfl (hb hby d25_0)
  refine Done.step st1 ?_
  show Done _ p e below s _ _ (T1.setTop (mkF m 3 #[oR bA, oI (0 : Int32), oI cv] [(.int (1 : Int32))]))
  refine Done.step (fun _ => XS.ifYes X1.here hx rfl (pc0 := 3) (pc' := 28) rfl (hb hby d25_3) rfl (XT.i0_ne_t (by decide)) (by decide) (by decide)) ?_
  show Done _ p e below s _ _ (T1.setTop (mkF m 28 #[oR bA, oI (0 : Int32), oI cv] []))
  refine Done.step (fun _ => XS.iloadN X1.here hx rfl (hb hby d25_28) rfl) ?_
  show Done _ p e below s _ _ (T1.setTop (mkF m 29 #[oR bA, oI (0 : Int32), oI cv] [(.int (0 : Int32))]))
  refine Done.step (fun _ => XT.iconstV X1.here hx rfl (1 : Int32) (hb hby d25_29) (by decide)) ?_
  show Done _ p e below s _ _ (T1.setTop (mkF m 30 #[oR bA, oI (0 : Int32), oI cv] [(.int (1 : Int32)), (.int (0 : Int32))]))
  refine Done.step (fun _ => XT.ishl X1.here hx rfl (hb hby d25_30) rfl) ?_
  show Done _ p e below s _ _ (T1.setTop (mkF m 31 #[oR bA, oI (0 : Int32), oI cv] [(.int (0 : Int32))]))
  refine Done.step (fun _ => XS.istoreN X1.here hx rfl (hb hby d25_31) rfl (l' := #[oR bA, oI (0 : Int32), oI cv]) rfl) ?_
  show Done _ p e below s _ _ (T1.setTop (mkF m 32 #[oR bA, oI (0 : Int32), oI cv] []))
  refine Done.step (fun _ => XS.aloadN X1.here hx rfl (hb hby d25_32) rfl rfl) ?_
  show Done _ p e below s _ _ (T1.setTop (mkF m 33 #[oR bA, oI (0 : Int32), oI cv] [(.ref bA)]))
  refine Done.step (fun _ => XS.iloadN X1.here hx rfl (hb hby d25_33) rfl) ?_
  show Done _ p e below s _ _ (T1.setTop (mkF m 34 #[oR bA, oI (0 : Int32), oI cv] [(.int (0 : Int32)), (.ref bA)]))
  refine Done.step (fun _ => XS.iinc X1.here hx rfl (hb hby d25_34) rfl (l' := #[oR bA, oI (1 : Int32), oI cv]) rfl) ?_
  show Done _ p e below s _ _ (T1.setTop (mkF m 37 #[oR bA, oI (1 : Int32), oI cv] [(.int (0 : Int32)), (.ref bA)]))
  refine Done.step (fun _ => XS.iloadN X1.here hx rfl (hb hby d25_37) rfl) ?_
  show Done _ p e below s _ _ (T1.setTop (mkF m 38 #[oR bA, oI (1 : Int32), oI cv] [(.int cv), (.int (0 : Int32)), (.ref bA)]))
  obtain ⟨T2, X2, e2, st2⟩ := getS2 X1 hx hZ hown (host := "") (Or.inl (wAt hw 109 rfl)) Via.refl e1 (SH.ext O0.2) (g := (mkF m 38 #[oR bA, oI (1 : Int32), oI cv] [(.int cv), (.int (0 : Int32)), (.ref bA)])) rfl (hb hby d25_38)
  refine Done.step st2 ?_
  show Done _ p e below s _ _ (T2.setTop (mkF m 41 #[oR bA, oI (1 : Int32), oI cv] [(.int (0 : Int32)), (.int cv), (.int (0 : Int32)), (.ref bA)]))
  refine Done.step (fun _ => XT.ishr X2.here hx rfl (hb hby d25_41) rfl) ?_
  show Done _ p e below s _ _ (T2.setTop (mkF m 42 #[oR bA, oI (1 : Int32), oI cv] [(.int (cv >>> ((0 : Int32) &&& 31))), (.int (0 : Int32)), (.ref bA)]))
  refine Done.step (fun _ => XT.i2b X2.here hx rfl (hb hby d25_42) rfl) ?_
  show Done _ p e below s _ _ (T2.setTop (mkF m 43 #[oR bA, oI (1 : Int32), oI cv] [(.int ((cv >>> ((0 : Int32) &&& 31)).toInt8.toInt32)), (.int (0 : Int32)), (.ref bA)]))
  obtain ⟨cl3, Ar3, q3, S3, Nn3, H3, G3⟩ := id VB
  have hin3 : ¬ ((0 : Int32) < 0 ∨ cl3.slots.size ≤ ((0 : Int32)).toNatClampNeg) := inb_of S3 ⟨by decide, by decide⟩
  obtain ⟨T3, h3, X3, e3, W3, st3⟩ := stB X2 hx hZ e2 Ar3 (j := (0 : Int32)) hin3 (g := (mkF m 43 #[oR bA, oI (1 : Int32), oI cv] [(.int ((cv >>> ((0 : Int32) &&& 31)).toInt8.toInt32)), (.int (0 : Int32)), (.ref bA)])) rfl rfl (hb hby d25_43)
  have V3 := Arv.set Ar3 q3 S3 Nn3 H3 G3 (fits_nar_byte _) W3 0 rfl (Nat.le_of_ble_eq_true rfl)
  have N3 := Fr.snoc X3 N0 gb
  have Zs3 := Nat.le_trans Z0 (Keep.of_wr W3).1
  have K3 := (Keep.refl h0 [bA]).wr W3 (Or.inl (List.mem_of_getElem? (i := 0) rfl))
  refine Done.step st3 ?_
  show Done _ p e below s _ _ (T3.setTop (mkF m 44 #[oR bA, oI (1 : Int32), oI cv] []))
  refine Done.step (fun _ => XS.aloadN X3.here hx rfl (hb hby d25_44) rfl rfl) ?_
  show Done _ p e below s _ _ (T3.setTop (mkF m 45 #[oR bA, oI (1 : Int32), oI cv] [(.ref bA)]))
  refine Done.step (fun _ => XS.iloadN X3.here hx rfl (hb hby d25_45) rfl) ?_
  show Done _ p e below s _ _ (T3.setTop (mkF m 46 #[oR bA, oI (1 : Int32), oI cv] [(.int (1 : Int32)), (.ref bA)]))
  refine Done.step (fun _ => XS.iloadN X3.here hx rfl (hb hby d25_46) rfl) ?_
  show Done _ p e below s _ _ (T3.setTop (mkF m 47 #[oR bA, oI (1 : Int32), oI cv] [(.int cv), (.int (1 : Int32)), (.ref bA)]))
  have f5 := (O0.wr W3 gb)
  obtain ⟨T4, X4, e4, st4⟩ := getS2 X3 hx hZ hown (host := "") (Or.inl (wAt hw 110 rfl)) Via.refl e3 (SL.ext f5.2) (g := (mkF m 47 #[oR bA, oI (1 : Int32), oI cv] [(.int cv), (.int (1 : Int32)), (.ref bA)])) rfl (hb hby d25_47)
  refine Done.step st4 ?_
  show Done _ p e below s _ _ (T4.setTop (mkF m 50 #[oR bA, oI (1 : Int32), oI cv] [(.int (8 : Int32)), (.int cv), (.int (1 : Int32)), (.ref bA)]))
  refine Done.step (fun _ => XT.ishr X4.here hx rfl (hb hby d25_50) rfl) ?_
  show Done _ p e below s _ _ (T4.setTop (mkF m 51 #[oR bA, oI (1 : Int32), oI cv] [(.int (cv >>> ((8 : Int32) &&& 31))), (.int (1 : Int32)), (.ref bA)]))
  refine Done.step (fun _ => XT.i2b X4.here hx rfl (hb hby d25_51) rfl) ?_
  show Done _ p e below s _ _ (T4.setTop (mkF m 52 #[oR bA, oI (1 : Int32), oI cv] [(.int ((cv >>> ((8 : Int32) &&& 31)).toInt8.toInt32)), (.int (1 : Int32)), (.ref bA)]))
  obtain ⟨cl6, Ar6, q6, S6, Nn6, H6, G6⟩ := id V3
  have hin6 : ¬ ((1 : Int32) < 0 ∨ cl6.slots.size ≤ ((1 : Int32)).toNatClampNeg) := inb_of S6 ⟨by decide, by decide⟩
  obtain ⟨T6, h6, X6, e6, W6, st6⟩ := stB X4 hx hZ e4 Ar6 (j := (1 : Int32)) hin6 (g := (mkF m 52 #[oR bA, oI (1 : Int32), oI cv] [(.int ((cv >>> ((8 : Int32) &&& 31)).toInt8.toInt32)), (.int (1 : Int32)), (.ref bA)])) rfl rfl (hb hby d25_52)
  have V6 := Arv.set Ar6 q6 S6 Nn6 H6 G6 (fits_nar_byte _) W6 1 rfl (Nat.le_of_ble_eq_true rfl)
  have N6 := Fr.snoc X6 N3 gb
  have Zs6 := Nat.le_trans Zs3 (Keep.of_wr W6).1
  have K6 := K3.wr W6 (Or.inl (List.mem_of_getElem? (i := 0) rfl))
  refine Done.step st6 ?_
  show Done _ p e below s _ _ (T6.setTop (mkF m 53 #[oR bA, oI (1 : Int32), oI cv] []))
  refine Done.retV (leavesF X6 hlk (by decide) (by decide)) X6 hx hret (hb hby d25_53) ?_
  rw [e6]
  exact ⟨rfl, N6, K6, V6⟩
set_option maxRecDepth 65536 in
set_option maxHeartbeats 40000000 in
theorem ug_20 (l : Launch) (Z : State) (a0 : Array Value) (hw : ∀ d ∈ tables_1, d.before a0 Z = true) (ws : List Jvm.Cond) (bA : Addr) (kb : ClassId) (p0 p1 p2 p3 : Int32) (h0 : Heap) (n0 : Nat) (Z0 : n0 ≤ h0.size) (O0 : Old Z n0 h0) (SA : Sta Z Z.heap "java/lang/StringUTF16" "$assertionsDisabled" "Z" (.int (1 : Int32))) (SH : Sta Z Z.heap "java/lang/StringUTF16" "HI_BYTE_SHIFT" "I" (.int (0 : Int32))) (SL : Sta Z Z.heap "java/lang/StringUTF16" "LO_BYTE_SHIFT" "I" (.int (8 : Int32))) (VB : Arv Z h0 bA kb .byte (4 : Int32) [(.int p0), (.int p1), (.int p2), (.int p3)] (.int (0 : Int32))) :
    Ctr FrameEnd l Z (⟨"java/lang/StringUTF16", "getChar", "([BI)C"⟩ : MethodName) jdk_52_method_5_code 2 (some .char) ws ({ frames := 0, cells := 0, slots := 0, locals := 0 } : Room) #[(.ref bA), (.int (0 : Int32))] h0 TrueV (PureQ (some (.int (own_join p0 p1))) h0) := by
  refine Ctr.intro (plainFor_of_name pn_java_lang_StringUTF16) (Ls := #[.val (.ref bA), .val (.int (0 : Int32))]) (fun m => by first | (simp [entryFrame, mkF, argsToLocals, Value.category]; done) | rfl) ?_
  intro p e s m below meth c T0 hx hby hml hown hnm hret hlk hZ hV hsh e0 X0
  have N0 := Fr.nil n0
  show Done _ p e below s _ _ (T0.setTop (mkF m 0 #[oR bA, oI (0 : Int32)] []))
  obtain ⟨T1, X1, e1, st1⟩ := getS2 X0 hx hZ hown (host := "") (Or.inl (wAt hw 108 rfl)) Via.refl e0 (SA.ext O0.2) (g := (mkF m 0 #[oR bA, oI (0 : Int32)] [])) rfl (hb hby d26_0)
  refine Done.step st1 ?_
  show Done _ p e below s _ _ (T1.setTop (mkF m 3 #[oR bA, oI (0 : Int32)] [(.int (1 : Int32))]))
  refine Done.step (fun _ => XS.ifYes X1.here hx rfl (pc0 := 3) (pc' := 28) rfl (hb hby d26_3) rfl (XT.i0_ne_t (by decide)) (by decide) (by decide)) ?_
  show Done _ p e below s _ _ (T1.setTop (mkF m 28 #[oR bA, oI (0 : Int32)] []))
  refine Done.step (fun _ => XS.iloadN X1.here hx rfl (hb hby d26_28) rfl) ?_
  show Done _ p e below s _ _ (T1.setTop (mkF m 29 #[oR bA, oI (0 : Int32)] [(.int (0 : Int32))]))
  refine Done.step (fun _ => XT.iconstV X1.here hx rfl (1 : Int32) (hb hby d26_29) (by decide)) ?_
  show Done _ p e below s _ _ (T1.setTop (mkF m 30 #[oR bA, oI (0 : Int32)] [(.int (1 : Int32)), (.int (0 : Int32))]))
  refine Done.step (fun _ => XT.ishl X1.here hx rfl (hb hby d26_30) rfl) ?_
  show Done _ p e below s _ _ (T1.setTop (mkF m 31 #[oR bA, oI (0 : Int32)] [(.int (0 : Int32))]))
  refine Done.step (fun _ => XS.istoreN X1.here hx rfl (hb hby d26_31) rfl (l' := #[oR bA, oI (0 : Int32)]) rfl) ?_
  show Done _ p e below s _ _ (T1.setTop (mkF m 32 #[oR bA, oI (0 : Int32)] []))
  refine Done.step (fun _ => XS.aloadN X1.here hx rfl (hb hby d26_32) rfl rfl) ?_
  show Done _ p e below s _ _ (T1.setTop (mkF m 33 #[oR bA, oI (0 : Int32)] [(.ref bA)]))
  refine Done.step (fun _ => XS.iloadN X1.here hx rfl (hb hby d26_33) rfl) ?_
  show Done _ p e below s _ _ (T1.setTop (mkF m 34 #[oR bA, oI (0 : Int32)] [(.int (0 : Int32)), (.ref bA)]))
  refine Done.step (fun _ => XS.iinc X1.here hx rfl (hb hby d26_34) rfl (l' := #[oR bA, oI (1 : Int32)]) rfl) ?_
  show Done _ p e below s _ _ (T1.setTop (mkF m 37 #[oR bA, oI (1 : Int32)] [(.int (0 : Int32)), (.ref bA)]))
  obtain ⟨cl2, Ar2, q2, S2, Nn2, H2, G2⟩ := id VB
  have hin2 : ¬ ((0 : Int32) < 0 ∨ cl2.slots.size ≤ ((0 : Int32)).toNatClampNeg) := inb_of S2 ⟨by decide, by decide⟩
  have hat2 := Has.at H2 hin2 (v := (.int p0)) rfl
  refine Done.step (X1.baloadBytes hx (j := (0 : Int32)) (v := (.int p0)) (by first | exact Ar2.1 | (rw [e1]; exact Ar2.1)) (State.isArrayOf_alike hZ.alike Ar2.2.1) Ar2.2.2 hin2 hat2 (g := (mkF m 37 #[oR bA, oI (1 : Int32)] [(.int (0 : Int32)), (.ref bA)])) rfl rfl (hb hby d26_37)) ?_
  show Done _ p e below s _ _ (T1.setTop (mkF m 38 #[oR bA, oI (1 : Int32)] [(.int p0)]))
  refine Done.step (fun _ => XT.sipushV X1.here hx rfl (255 : Int32) (hb hby d26_38) (by decide)) ?_
  show Done _ p e below s _ _ (T1.setTop (mkF m 41 #[oR bA, oI (1 : Int32)] [(.int (255 : Int32)), (.int p0)]))
  refine Done.step (fun _ => XS.iand X1.here hx rfl (hb hby d26_41) rfl) ?_
  show Done _ p e below s _ _ (T1.setTop (mkF m 42 #[oR bA, oI (1 : Int32)] [(.int (p0 &&& (255 : Int32)))]))
  obtain ⟨T3, X3, e3, st3⟩ := getS2 X1 hx hZ hown (host := "") (Or.inl (wAt hw 109 rfl)) Via.refl e1 (SH.ext O0.2) (g := (mkF m 42 #[oR bA, oI (1 : Int32)] [(.int (p0 &&& (255 : Int32)))])) rfl (hb hby d26_42)
  refine Done.step st3 ?_
  show Done _ p e below s _ _ (T3.setTop (mkF m 45 #[oR bA, oI (1 : Int32)] [(.int (0 : Int32)), (.int (p0 &&& (255 : Int32)))]))
  refine Done.step (fun _ => XT.ishl X3.here hx rfl (hb hby d26_45) rfl) ?_
  show Done _ p e below s _ _ (T3.setTop (mkF m 46 #[oR bA, oI (1 : Int32)] [(.int ((p0 &&& (255 : Int32)) <<< ((0 : Int32) &&& 31)))]))
  refine Done.step (fun _ => XS.aloadN X3.here hx rfl (hb hby d26_46) rfl rfl) ?_
  show Done _ p e below s _ _ (T3.setTop (mkF m 47 #[oR bA, oI (1 : Int32)] [(.ref bA), (.int ((p0 &&& (255 : Int32)) <<< ((0 : Int32) &&& 31)))]))
  refine Done.step (fun _ => XS.iloadN X3.here hx rfl (hb hby d26_47) rfl) ?_
  show Done _ p e below s _ _ (T3.setTop (mkF m 48 #[oR bA, oI (1 : Int32)] [(.int (1 : Int32)), (.ref bA), (.int ((p0 &&& (255 : Int32)) <<< ((0 : Int32) &&& 31)))]))
  obtain ⟨cl4, Ar4, q4, S4, Nn4, H4, G4⟩ := id VB
  have hin4 : ¬ ((1 : Int32) < 0 ∨ cl4.slots.size ≤ ((1 : Int32)).toNatClampNeg) := inb_of S4 ⟨by decide, by decide⟩
  have hat4 := Has.at H4 hin4 (v := (.int p1)) rfl
  refine Done.step (X3.baloadBytes hx (j := (1 : Int32)) (v := (.int p1)) (by first | exact Ar4.1 | (rw [e3]; exact Ar4.1)) (State.isArrayOf_alike hZ.alike Ar4.2.1) Ar4.2.2 hin4 hat4 (g := (mkF m 48 #[oR bA, oI (1 : Int32)] [(.int (1 : Int32)), (.ref bA), (.int ((p0 &&& (255 : Int32)) <<< ((0 : Int32) &&& 31)))])) rfl rfl (hb hby d26_48)) ?_
  show Done _ p e below s _ _ (T3.setTop (mkF m 49 #[oR bA, oI (1 : Int32)] [(.int p1), (.int ((p0 &&& (255 : Int32)) <<< ((0 : Int32) &&& 31)))]))
  refine Done.step (fun _ => XT.sipushV X3.here hx rfl (255 : Int32) (hb hby d26_49) (by decide)) ?_
  show Done _ p e below s _ _ (T3.setTop (mkF m 52 #[oR bA, oI (1 : Int32)] [(.int (255 : Int32)), (.int p1), (.int ((p0 &&& (255 : Int32)) <<< ((0 : Int32) &&& 31)))]))
  refine Done.step (fun _ => XS.iand X3.here hx rfl (hb hby d26_52) rfl) ?_
  show Done _ p e below s _ _ (T3.setTop (mkF m 53 #[oR bA, oI (1 : Int32)] [(.int (p1 &&& (255 : Int32))), (.int ((p0 &&& (255 : Int32)) <<< ((0 : Int32) &&& 31)))]))
  obtain ⟨T5, X5, e5, st5⟩ := getS2 X3 hx hZ hown (host := "") (Or.inl (wAt hw 110 rfl)) Via.refl e3 (SL.ext O0.2) (g := (mkF m 53 #[oR bA, oI (1 : Int32)] [(.int (p1 &&& (255 : Int32))), (.int ((p0 &&& (255 : Int32)) <<< ((0 : Int32) &&& 31)))])) rfl (hb hby d26_53)
  refine Done.step st5 ?_
  show Done _ p e below s _ _ (T5.setTop (mkF m 56 #[oR bA, oI (1 : Int32)] [(.int (8 : Int32)), (.int (p1 &&& (255 : Int32))), (.int ((p0 &&& (255 : Int32)) <<< ((0 : Int32) &&& 31)))]))
  refine Done.step (fun _ => XT.ishl X5.here hx rfl (hb hby d26_56) rfl) ?_
  show Done _ p e below s _ _ (T5.setTop (mkF m 57 #[oR bA, oI (1 : Int32)] [(.int ((p1 &&& (255 : Int32)) <<< ((8 : Int32) &&& 31))), (.int ((p0 &&& (255 : Int32)) <<< ((0 : Int32) &&& 31)))]))
  refine Done.step (fun _ => XT.ior X5.here hx rfl (hb hby d26_57) rfl) ?_
  show Done _ p e below s _ _ (T5.setTop (mkF m 58 #[oR bA, oI (1 : Int32)] [(.int (((p0 &&& (255 : Int32)) <<< ((0 : Int32) &&& 31)) ||| ((p1 &&& (255 : Int32)) <<< ((8 : Int32) &&& 31))))]))
  refine Done.step (fun _ => XT.i2c X5.here hx rfl (hb hby d26_58) rfl) ?_
  show Done _ p e below s _ _ (T5.setTop (mkF m 59 #[oR bA, oI (1 : Int32)] [(.int ((((p0 &&& (255 : Int32)) <<< ((0 : Int32) &&& 31)) ||| ((p1 &&& (255 : Int32)) <<< ((8 : Int32) &&& 31))).toUInt32.toUInt16.toUInt32.toInt32))]))
  exact Done.retN (leavesF X5 hlk (by decide) (by decide)) X5 hx (t := .char) hret (by simp) (hb hby d26_59) ⟨rfl, e5, rfl⟩
set_option maxRecDepth 65536 in
set_option maxHeartbeats 40000000 in
theorem up_21 (l : Launch) (Z : State) (a0 : Array Value) (hw : ∀ d ∈ tables_1, d.before a0 Z = true) (ws : List Jvm.Cond) (bA : Addr) (kb : ClassId) (p0 p1 p2 p3 cv : Int32) (h0 : Heap) (n0 : Nat) (Z0 : n0 ≤ h0.size) (O0 : Old Z n0 h0) (SA : Sta Z Z.heap "java/lang/StringUTF16" "$assertionsDisabled" "Z" (.int (1 : Int32))) (SH : Sta Z Z.heap "java/lang/StringUTF16" "HI_BYTE_SHIFT" "I" (.int (0 : Int32))) (SL : Sta Z Z.heap "java/lang/StringUTF16" "LO_BYTE_SHIFT" "I" (.int (8 : Int32))) (VB : Arv Z h0 bA kb .byte (4 : Int32) [(.int p0), (.int p1), (.int p2), (.int p3)] (.int (0 : Int32))) (gb : n0 ≤ bA) :
    Ctr FrameEnd l Z (⟨"java/lang/StringUTF16", "putChar", "([BII)V"⟩ : MethodName) jdk_52_method_4_code 3 none ws ({ frames := 0, cells := 0, slots := 0, locals := 0 } : Room) #[(.ref bA), (.int (1 : Int32)), (.int cv)] h0 TrueV (fun v h _ L => v = none ∧ Fr n0 L ∧ Keep h0 h [bA] ∧ Arv Z h bA kb .byte (4 : Int32) [(.int p0), (.int p1), (.int (own_hi cv)), (.int (own_lo cv))] (.int (0 : Int32))) := by
  refine Ctr.intro (plainFor_of_name pn_java_lang_StringUTF16) (Ls := #[.val (.ref bA), .val (.int (1 : Int32)), .val (.int cv)]) (fun m => by first | (simp [entryFrame, mkF, argsToLocals, Value.category]; done) | rfl) ?_
  intro p e s m below meth c T0 hx hby hml hown hnm hret hlk hZ hV hsh e0 X0
  have N0 := Fr.nil n0
  show Done _ p e below s _ _ (T0.setTop (mkF m 0 #[oR bA, oI (1 : Int32), oI cv] []))
  obtain ⟨T1, X1, e1, st1⟩ := getS2 X0 hx hZ hown (host := "") (Or.inl (wAt hw 108 rfl)) Via.refl e0 (SA.ext O0.2) (g := (mkF m 0 #[oR bA, oI (1 : Int32), oI cv] [])) rfl (hb hby d25_0)
  refine Done.step st1 ?_
  show Done _ p e below s _ _ (T1.setTop (mkF m 3 #[oR bA, oI (1 : Int32), oI cv] [(.int (1 : Int32))]))
  refine Done.step (fun _ => XS.ifYes X1.here hx rfl (pc0 := 3) (pc' := 28) rfl (hb hby d25_3) rfl (XT.i0_ne_t (by decide)) (by decide) (by decide)) ?_
  show Done _ p e below s _ _ (T1.setTop (mkF m 28 #[oR bA, oI (1 : Int32), oI cv] []))
  refine Done.step (fun _ => XS.iloadN X1.here hx rfl (hb hby d25_28) rfl) ?_
  show Done _ p e below s _ _ (T1.setTop (mkF m 29 #[oR bA, oI (1 : Int32), oI cv] [(.int (1 : Int32))]))
  refine Done.step (fun _ => XT.iconstV X1.here hx rfl (1 : Int32) (hb hby d25_29) (by decide)) ?_
  show Done _ p e below s _ _ (T1.setTop (mkF m 30 #[oR bA, oI (1 : Int32), oI cv] [(.int (1 : Int32)), (.int (1 : Int32))]))
  refine Done.step (fun _ => XT.ishl X1.here hx rfl (hb hby d25_30) rfl) ?_
  show Done _ p e below s _ _ (T1.setTop (mkF m 31 #[oR bA, oI (1 : Int32), oI cv] [(.int (2 : Int32))]))
  refine Done.step (fun _ => XS.istoreN X1.here hx rfl (hb hby d25_31) rfl (l' := #[oR bA, oI (2 : Int32), oI cv]) rfl) ?_
  show Done _ p e below s _ _ (T1.setTop (mkF m 32 #[oR bA, oI (2 : Int32), oI cv] []))
  refine Done.step (fun _ => XS.aloadN X1.here hx rfl (hb hby d25_32) rfl rfl) ?_
  show Done _ p e below s _ _ (T1.setTop (mkF m 33 #[oR bA, oI (2 : Int32), oI cv] [(.ref bA)]))
  refine Done.step (fun _ => XS.iloadN X1.here hx rfl (hb hby d25_33) rfl) ?_
  show Done _ p e below s _ _ (T1.setTop (mkF m 34 #[oR bA, oI (2 : Int32), oI cv] [(.int (2 : Int32)), (.ref bA)]))
  refine Done.step (fun _ => XS.iinc X1.here hx rfl (hb hby d25_34) rfl (l' := #[oR bA, oI (3 : Int32), oI cv]) rfl) ?_
  show Done _ p e below s _ _ (T1.setTop (mkF m 37 #[oR bA, oI (3 : Int32), oI cv] [(.int (2 : Int32)), (.ref bA)]))
  refine Done.step (fun _ => XS.iloadN X1.here hx rfl (hb hby d25_37) rfl) ?_
  show Done _ p e below s _ _ (T1.setTop (mkF m 38 #[oR bA, oI (3 : Int32), oI cv] [(.int cv), (.int (2 : Int32)), (.ref bA)]))
  obtain ⟨T2, X2, e2, st2⟩ := getS2 X1 hx hZ hown (host := "") (Or.inl (wAt hw 109 rfl)) Via.refl e1 (SH.ext O0.2) (g := (mkF m 38 #[oR bA, oI (3 : Int32), oI cv] [(.int cv), (.int (2 : Int32)), (.ref bA)])) rfl (hb hby d25_38)
  refine Done.step st2 ?_
  show Done _ p e below s _ _ (T2.setTop (mkF m 41 #[oR bA, oI (3 : Int32), oI cv] [(.int (0 : Int32)), (.int cv), (.int (2 : Int32)), (.ref bA)]))
  refine Done.step (fun _ => XT.ishr X2.here hx rfl (hb hby d25_41) rfl) ?_
  show Done _ p e below s _ _ (T2.setTop (mkF m 42 #[oR bA, oI (3 : Int32), oI cv] [(.int (cv >>> ((0 : Int32) &&& 31))), (.int (2 : Int32)), (.ref bA)]))
  refine Done.step (fun _ => XT.i2b X2.here hx rfl (hb hby d25_42) rfl) ?_
  show Done _ p e below s _ _ (T2.setTop (mkF m 43 #[oR bA, oI (3 : Int32), oI cv] [(.int ((cv >>> ((0 : Int32) &&& 31)).toInt8.toInt32)), (.int (2 : Int32)), (.ref bA)]))
  obtain ⟨cl3, Ar3, q3, S3, Nn3, H3, G3⟩ := id VB
  have hin3 : ¬ ((2 : Int32) < 0 ∨ cl3.slots.size ≤ ((2 : Int32)).toNatClampNeg) := inb_of S3 ⟨by decide, by decide⟩
  obtain ⟨T3, h3, X3, e3, W3, st3⟩ := stB X2 hx hZ e2 Ar3 (j := (2 : Int32)) hin3 (g := (mkF m 43 #[oR bA, oI (3 : Int32), oI cv] [(.int ((cv >>> ((0 : Int32) &&& 31)).toInt8.toInt32)), (.int (2 : Int32)), (.ref bA)])) rfl rfl (hb hby d25_43)
  have V3 := Arv.set Ar3 q3 S3 Nn3 H3 G3 (fits_nar_byte _) W3 2 rfl (Nat.le_of_ble_eq_true rfl)
  have N3 := Fr.snoc X3 N0 gb
  have Zs3 := Nat.le_trans Z0 (Keep.of_wr W3).1
  have K3 := (Keep.refl h0 [bA]).wr W3 (Or.inl (List.mem_of_getElem? (i := 0) rfl))
  refine Done.step st3 ?_
  show Done _ p e below s _ _ (T3.setTop (mkF m 44 #[oR bA, oI (3 : Int32), oI cv] []))
  refine Done.step (fun _ => XS.aloadN X3.here hx rfl (hb hby d25_44) rfl rfl) ?_
  show Done _ p e below s _ _ (T3.setTop (mkF m 45 #[oR bA, oI (3 : Int32), oI cv] [(.ref bA)]))
  refine Done.step (fun _ => XS.iloadN X3.here hx rfl (hb hby d25_45) rfl) ?_
  show Done _ p e below s _ _ (T3.setTop (mkF m 46 #[oR bA, oI (3 : Int32), oI cv] [(.int (3 : Int32)), (.ref bA)]))
  refine Done.step (fun _ => XS.iloadN X3.here hx rfl (hb hby d25_46) rfl) ?_
  show Done _ p e below s _ _ (T3.setTop (mkF m 47 #[oR bA, oI (3 : Int32), oI cv] [(.int cv), (.int (3 : Int32)), (.ref bA)]))
  have f5 := (O0.wr W3 gb)
  obtain ⟨T4, X4, e4, st4⟩ := getS2 X3 hx hZ hown (host := "") (Or.inl (wAt hw 110 rfl)) Via.refl e3 (SL.ext f5.2) (g := (mkF m 47 #[oR bA, oI (3 : Int32), oI cv] [(.int cv), (.int (3 : Int32)), (.ref bA)])) rfl (hb hby d25_47)
  refine Done.step st4 ?_
  show Done _ p e below s _ _ (T4.setTop (mkF m 50 #[oR bA, oI (3 : Int32), oI cv] [(.int (8 : Int32)), (.int cv), (.int (3 : Int32)), (.ref bA)]))
  refine Done.step (fun _ => XT.ishr X4.here hx rfl (hb hby d25_50) rfl) ?_
  show Done _ p e below s _ _ (T4.setTop (mkF m 51 #[oR bA, oI (3 : Int32), oI cv] [(.int (cv >>> ((8 : Int32) &&& 31))), (.int (3 : Int32)), (.ref bA)]))
  refine Done.step (fun _ => XT.i2b X4.here hx rfl (hb hby d25_51) rfl) ?_
  show Done _ p e below s _ _ (T4.setTop (mkF m 52 #[oR bA, oI (3 : Int32), oI cv] [(.int ((cv >>> ((8 : Int32) &&& 31)).toInt8.toInt32)), (.int (3 : Int32)), (.ref bA)]))
  obtain ⟨cl6, Ar6, q6, S6, Nn6, H6, G6⟩ := id V3
  have hin6 : ¬ ((3 : Int32) < 0 ∨ cl6.slots.size ≤ ((3 : Int32)).toNatClampNeg) := inb_of S6 ⟨by decide, by decide⟩
  obtain ⟨T6, h6, X6, e6, W6, st6⟩ := stB X4 hx hZ e4 Ar6 (j := (3 : Int32)) hin6 (g := (mkF m 52 #[oR bA, oI (3 : Int32), oI cv] [(.int ((cv >>> ((8 : Int32) &&& 31)).toInt8.toInt32)), (.int (3 : Int32)), (.ref bA)])) rfl rfl (hb hby d25_52)
  have V6 := Arv.set Ar6 q6 S6 Nn6 H6 G6 (fits_nar_byte _) W6 3 rfl (Nat.le_of_ble_eq_true rfl)
  have N6 := Fr.snoc X6 N3 gb
  have Zs6 := Nat.le_trans Zs3 (Keep.of_wr W6).1
  have K6 := K3.wr W6 (Or.inl (List.mem_of_getElem? (i := 0) rfl))
  refine Done.step st6 ?_
  show Done _ p e below s _ _ (T6.setTop (mkF m 53 #[oR bA, oI (3 : Int32), oI cv] []))
  refine Done.retV (leavesF X6 hlk (by decide) (by decide)) X6 hx hret (hb hby d25_53) ?_
  rw [e6]
  exact ⟨rfl, N6, K6, V6⟩
set_option maxRecDepth 65536 in
set_option maxHeartbeats 40000000 in
theorem ug_21 (l : Launch) (Z : State) (a0 : Array Value) (hw : ∀ d ∈ tables_1, d.before a0 Z = true) (ws : List Jvm.Cond) (bA : Addr) (kb : ClassId) (p0 p1 p2 p3 : Int32) (h0 : Heap) (n0 : Nat) (Z0 : n0 ≤ h0.size) (O0 : Old Z n0 h0) (SA : Sta Z Z.heap "java/lang/StringUTF16" "$assertionsDisabled" "Z" (.int (1 : Int32))) (SH : Sta Z Z.heap "java/lang/StringUTF16" "HI_BYTE_SHIFT" "I" (.int (0 : Int32))) (SL : Sta Z Z.heap "java/lang/StringUTF16" "LO_BYTE_SHIFT" "I" (.int (8 : Int32))) (VB : Arv Z h0 bA kb .byte (4 : Int32) [(.int p0), (.int p1), (.int p2), (.int p3)] (.int (0 : Int32))) :
    Ctr FrameEnd l Z (⟨"java/lang/StringUTF16", "getChar", "([BI)C"⟩ : MethodName) jdk_52_method_5_code 2 (some .char) ws ({ frames := 0, cells := 0, slots := 0, locals := 0 } : Room) #[(.ref bA), (.int (1 : Int32))] h0 TrueV (PureQ (some (.int (own_join p2 p3))) h0) := by
  refine Ctr.intro (plainFor_of_name pn_java_lang_StringUTF16) (Ls := #[.val (.ref bA), .val (.int (1 : Int32))]) (fun m => by first | (simp [entryFrame, mkF, argsToLocals, Value.category]; done) | rfl) ?_
  intro p e s m below meth c T0 hx hby hml hown hnm hret hlk hZ hV hsh e0 X0
  have N0 := Fr.nil n0
  show Done _ p e below s _ _ (T0.setTop (mkF m 0 #[oR bA, oI (1 : Int32)] []))
  obtain ⟨T1, X1, e1, st1⟩ := getS2 X0 hx hZ hown (host := "") (Or.inl (wAt hw 108 rfl)) Via.refl e0 (SA.ext O0.2) (g := (mkF m 0 #[oR bA, oI (1 : Int32)] [])) rfl (hb hby d26_0)
  refine Done.step st1 ?_
  show Done _ p e below s _ _ (T1.setTop (mkF m 3 #[oR bA, oI (1 : Int32)] [(.int (1 : Int32))]))
  refine Done.step (fun _ => XS.ifYes X1.here hx rfl (pc0 := 3) (pc' := 28) rfl (hb hby d26_3) rfl (XT.i0_ne_t (by decide)) (by decide) (by decide)) ?_
  show Done _ p e below s _ _ (T1.setTop (mkF m 28 #[oR bA, oI (1 : Int32)] []))
  refine Done.step (fun _ => XS.iloadN X1.here hx rfl (hb hby d26_28) rfl) ?_
  show Done _ p e below s _ _ (T1.setTop (mkF m 29 #[oR bA, oI (1 : Int32)] [(.int (1 : Int32))]))
  refine Done.step (fun _ => XT.iconstV X1.here hx rfl (1 : Int32) (hb hby d26_29) (by decide)) ?_
  show Done _ p e below s _ _ (T1.setTop (mkF m 30 #[oR bA, oI (1 : Int32)] [(.int (1 : Int32)), (.int (1 : Int32))]))
  refine Done.step (fun _ => XT.ishl X1.here hx rfl (hb hby d26_30) rfl) ?_
  show Done _ p e below s _ _ (T1.setTop (mkF m 31 #[oR bA, oI (1 : Int32)] [(.int (2 : Int32))]))
  refine Done.step (fun _ => XS.istoreN X1.here hx rfl (hb hby d26_31) rfl (l' := #[oR bA, oI (2 : Int32)]) rfl) ?_
  show Done _ p e below s _ _ (T1.setTop (mkF m 32 #[oR bA, oI (2 : Int32)] []))
  refine Done.step (fun _ => XS.aloadN X1.here hx rfl (hb hby d26_32) rfl rfl) ?_
  show Done _ p e below s _ _ (T1.setTop (mkF m 33 #[oR bA, oI (2 : Int32)] [(.ref bA)]))
  refine Done.step (fun _ => XS.iloadN X1.here hx rfl (hb hby d26_33) rfl) ?_
  show Done _ p e below s _ _ (T1.setTop (mkF m 34 #[oR bA, oI (2 : Int32)] [(.int (2 : Int32)), (.ref bA)]))
  refine Done.step (fun _ => XS.iinc X1.here hx rfl (hb hby d26_34) rfl (l' := #[oR bA, oI (3 : Int32)]) rfl) ?_
  show Done _ p e below s _ _ (T1.setTop (mkF m 37 #[oR bA, oI (3 : Int32)] [(.int (2 : Int32)), (.ref bA)]))
  obtain ⟨cl2, Ar2, q2, S2, Nn2, H2, G2⟩ := id VB
  have hin2 : ¬ ((2 : Int32) < 0 ∨ cl2.slots.size ≤ ((2 : Int32)).toNatClampNeg) := inb_of S2 ⟨by decide, by decide⟩
  have hat2 := Has.at H2 hin2 (v := (.int p2)) rfl
  refine Done.step (X1.baloadBytes hx (j := (2 : Int32)) (v := (.int p2)) (by first | exact Ar2.1 | (rw [e1]; exact Ar2.1)) (State.isArrayOf_alike hZ.alike Ar2.2.1) Ar2.2.2 hin2 hat2 (g := (mkF m 37 #[oR bA, oI (3 : Int32)] [(.int (2 : Int32)), (.ref bA)])) rfl rfl (hb hby d26_37)) ?_
  show Done _ p e below s _ _ (T1.setTop (mkF m 38 #[oR bA, oI (3 : Int32)] [(.int p2)]))
  refine Done.step (fun _ => XT.sipushV X1.here hx rfl (255 : Int32) (hb hby d26_38) (by decide)) ?_
  show Done _ p e below s _ _ (T1.setTop (mkF m 41 #[oR bA, oI (3 : Int32)] [(.int (255 : Int32)), (.int p2)]))
  refine Done.step (fun _ => XS.iand X1.here hx rfl (hb hby d26_41) rfl) ?_
  show Done _ p e below s _ _ (T1.setTop (mkF m 42 #[oR bA, oI (3 : Int32)] [(.int (p2 &&& (255 : Int32)))]))
  obtain ⟨T3, X3, e3, st3⟩ := getS2 X1 hx hZ hown (host := "") (Or.inl (wAt hw 109 rfl)) Via.refl e1 (SH.ext O0.2) (g := (mkF m 42 #[oR bA, oI (3 : Int32)] [(.int (p2 &&& (255 : Int32)))])) rfl (hb hby d26_42)
  refine Done.step st3 ?_
  show Done _ p e below s _ _ (T3.setTop (mkF m 45 #[oR bA, oI (3 : Int32)] [(.int (0 : Int32)), (.int (p2 &&& (255 : Int32)))]))
  refine Done.step (fun _ => XT.ishl X3.here hx rfl (hb hby d26_45) rfl) ?_
  show Done _ p e below s _ _ (T3.setTop (mkF m 46 #[oR bA, oI (3 : Int32)] [(.int ((p2 &&& (255 : Int32)) <<< ((0 : Int32) &&& 31)))]))
  refine Done.step (fun _ => XS.aloadN X3.here hx rfl (hb hby d26_46) rfl rfl) ?_
  show Done _ p e below s _ _ (T3.setTop (mkF m 47 #[oR bA, oI (3 : Int32)] [(.ref bA), (.int ((p2 &&& (255 : Int32)) <<< ((0 : Int32) &&& 31)))]))
  refine Done.step (fun _ => XS.iloadN X3.here hx rfl (hb hby d26_47) rfl) ?_
  show Done _ p e below s _ _ (T3.setTop (mkF m 48 #[oR bA, oI (3 : Int32)] [(.int (3 : Int32)), (.ref bA), (.int ((p2 &&& (255 : Int32)) <<< ((0 : Int32) &&& 31)))]))
  obtain ⟨cl4, Ar4, q4, S4, Nn4, H4, G4⟩ := id VB
  have hin4 : ¬ ((3 : Int32) < 0 ∨ cl4.slots.size ≤ ((3 : Int32)).toNatClampNeg) := inb_of S4 ⟨by decide, by decide⟩
  have hat4 := Has.at H4 hin4 (v := (.int p3)) rfl
  refine Done.step (X3.baloadBytes hx (j := (3 : Int32)) (v := (.int p3)) (by first | exact Ar4.1 | (rw [e3]; exact Ar4.1)) (State.isArrayOf_alike hZ.alike Ar4.2.1) Ar4.2.2 hin4 hat4 (g := (mkF m 48 #[oR bA, oI (3 : Int32)] [(.int (3 : Int32)), (.ref bA), (.int ((p2 &&& (255 : Int32)) <<< ((0 : Int32) &&& 31)))])) rfl rfl (hb hby d26_48)) ?_
  show Done _ p e below s _ _ (T3.setTop (mkF m 49 #[oR bA, oI (3 : Int32)] [(.int p3), (.int ((p2 &&& (255 : Int32)) <<< ((0 : Int32) &&& 31)))]))
  refine Done.step (fun _ => XT.sipushV X3.here hx rfl (255 : Int32) (hb hby d26_49) (by decide)) ?_
  show Done _ p e below s _ _ (T3.setTop (mkF m 52 #[oR bA, oI (3 : Int32)] [(.int (255 : Int32)), (.int p3), (.int ((p2 &&& (255 : Int32)) <<< ((0 : Int32) &&& 31)))]))
  refine Done.step (fun _ => XS.iand X3.here hx rfl (hb hby d26_52) rfl) ?_
  show Done _ p e below s _ _ (T3.setTop (mkF m 53 #[oR bA, oI (3 : Int32)] [(.int (p3 &&& (255 : Int32))), (.int ((p2 &&& (255 : Int32)) <<< ((0 : Int32) &&& 31)))]))
  obtain ⟨T5, X5, e5, st5⟩ := getS2 X3 hx hZ hown (host := "") (Or.inl (wAt hw 110 rfl)) Via.refl e3 (SL.ext O0.2) (g := (mkF m 53 #[oR bA, oI (3 : Int32)] [(.int (p3 &&& (255 : Int32))), (.int ((p2 &&& (255 : Int32)) <<< ((0 : Int32) &&& 31)))])) rfl (hb hby d26_53)
  refine Done.step st5 ?_
  show Done _ p e below s _ _ (T5.setTop (mkF m 56 #[oR bA, oI (3 : Int32)] [(.int (8 : Int32)), (.int (p3 &&& (255 : Int32))), (.int ((p2 &&& (255 : Int32)) <<< ((0 : Int32) &&& 31)))]))
  refine Done.step (fun _ => XT.ishl X5.here hx rfl (hb hby d26_56) rfl) ?_
  show Done _ p e below s _ _ (T5.setTop (mkF m 57 #[oR bA, oI (3 : Int32)] [(.int ((p3 &&& (255 : Int32)) <<< ((8 : Int32) &&& 31))), (.int ((p2 &&& (255 : Int32)) <<< ((0 : Int32) &&& 31)))]))
  refine Done.step (fun _ => XT.ior X5.here hx rfl (hb hby d26_57) rfl) ?_
  show Done _ p e below s _ _ (T5.setTop (mkF m 58 #[oR bA, oI (3 : Int32)] [(.int (((p2 &&& (255 : Int32)) <<< ((0 : Int32) &&& 31)) ||| ((p3 &&& (255 : Int32)) <<< ((8 : Int32) &&& 31))))]))
  refine Done.step (fun _ => XT.i2c X5.here hx rfl (hb hby d26_58) rfl) ?_
  show Done _ p e below s _ _ (T5.setTop (mkF m 59 #[oR bA, oI (3 : Int32)] [(.int ((((p2 &&& (255 : Int32)) <<< ((0 : Int32) &&& 31)) ||| ((p3 &&& (255 : Int32)) <<< ((8 : Int32) &&& 31))).toUInt32.toUInt16.toUInt32.toInt32))]))
  exact Done.retN (leavesF X5 hlk (by decide) (by decide)) X5 hx (t := .char) hret (by simp) (hb hby d26_59) ⟨rfl, e5, rfl⟩
theorem d22_0 : decode jdk_52_method_14_code 0 = .ok (.iload_n 2, 1) := by decide +kernel
theorem d22_1 : decode jdk_52_method_14_code 1 = .ok (.invokestatic 107, 3) := by decide +kernel
theorem pd_2 : parseMethodDescriptor "(I)[B" = some ⟨[.int], some (.array .byte)⟩ := by decide +kernel
theorem d22_4 : decode jdk_52_method_14_code 4 = .ok (.astore_n 3, 1) := by decide +kernel
theorem d22_5 : decode jdk_52_method_14_code 5 = .ok (.iconst 0, 1) := by decide +kernel
theorem d22_6 : decode jdk_52_method_14_code 6 = .ok (.istore 4, 2) := by decide +kernel
theorem d22_8 : decode jdk_52_method_14_code 8 = .ok (.iload 4, 2) := by decide +kernel
theorem d22_10 : decode jdk_52_method_14_code 10 = .ok (.iload_n 2, 1) := by decide +kernel
theorem d22_11 : decode jdk_52_method_14_code 11 = .ok (.if_icmp .ge 21, 3) := by decide +kernel
theorem d22_14 : decode jdk_52_method_14_code 14 = .ok (.aload_n 3, 1) := by decide +kernel
theorem d22_15 : decode jdk_52_method_14_code 15 = .ok (.iload 4, 2) := by decide +kernel
theorem d22_17 : decode jdk_52_method_14_code 17 = .ok (.aload_n 0, 1) := by decide +kernel
theorem d22_18 : decode jdk_52_method_14_code 18 = .ok (.iload_n 1, 1) := by decide +kernel
theorem d22_19 : decode jdk_52_method_14_code 19 = .ok (.caload, 1) := by decide +kernel
theorem d22_20 : decode jdk_52_method_14_code 20 = .ok (.invokestatic 111, 3) := by decide +kernel
theorem pd_3 : parseMethodDescriptor "([BII)V" = some ⟨[(.array .byte), .int, .int], none⟩ := by decide +kernel
theorem d22_23 : decode jdk_52_method_14_code 23 = .ok (.iinc 1 1, 3) := by decide +kernel
theorem d22_26 : decode jdk_52_method_14_code 26 = .ok (.iinc 4 1, 3) := by decide +kernel
theorem d22_29 : decode jdk_52_method_14_code 29 = .ok (.goto (-21), 3) := by decide +kernel
theorem d22_32 : decode jdk_52_method_14_code 32 = .ok (.aload_n 3, 1) := by decide +kernel
theorem d22_33 : decode jdk_52_method_14_code 33 = .ok (.areturn, 1) := by decide +kernel
set_option maxRecDepth 65536 in
set_option maxHeartbeats 40000000 in
theorem ut_2 (l : Launch) (Z : State) (a0 : Array Value) (hw : ∀ d ∈ tables_1, d.before a0 Z = true) (ws : List Jvm.Cond) (cA : Addr) (kc : ClassId) (c0 c1 : Int32) (h0 : Heap) (n0 : Nat) (Z0 : n0 ≤ h0.size) (O0 : Old Z n0 h0) (SA : Sta Z Z.heap "java/lang/StringUTF16" "$assertionsDisabled" "Z" (.int (1 : Int32))) (SH : Sta Z Z.heap "java/lang/StringUTF16" "HI_BYTE_SHIFT" "I" (.int (0 : Int32))) (SL : Sta Z Z.heap "java/lang/StringUTF16" "LO_BYTE_SHIFT" "I" (.int (8 : Int32))) (VA : Arv Z h0 cA kc .char (2 : Int32) [(.int c0), (.int c1)] (.int (0 : Int32))) :
    Ctr FrameEnd l Z (⟨"java/lang/StringUTF16", "toBytes", "([CII)[B"⟩ : MethodName) jdk_52_method_14_code 5 (some (.array .byte)) ws ({ frames := 2, cells := 1, slots := 4, locals := 27 } : Room) #[(.ref cA), (.int (0 : Int32)), (.int (2 : Int32))] h0 TrueV (fun v h _ L => ∃ (b : Addr) (kb : ClassId), v = some (.ref b) ∧ Fr n0 L ∧ Keep h0 h [] ∧ h0.size ≤ b ∧ Arv Z h b kb .byte (4 : Int32) [(.int (own_hi c0)), (.int (own_lo c0)), (.int (own_hi c1)), (.int (own_lo c1))] (.int (0 : Int32))) := by
  refine Ctr.intro (plainFor_of_name pn_java_lang_StringUTF16) (Ls := #[.val (.ref cA), .val (.int (0 : Int32)), .val (.int (2 : Int32)), .unset, .unset]) (fun m => by first | (simp [entryFrame, mkF, argsToLocals, Value.category]; done) | rfl) ?_
  intro p e s m below meth c T0 hx hby hml hown hnm hret hlk hZ hV hsh e0 X0
  have N0 := Fr.nil n0
  show Done _ p e below s _ _ (T0.setTop (mkF m 0 #[oR cA, oI (0 : Int32), oI (2 : Int32), .unset, .unset] []))
  refine Done.step (fun _ => XS.iloadN X0.here hx rfl (hb hby d22_0) rfl) ?_
  show Done _ p e below s _ _ (T0.setTop (mkF m 1 #[oR cA, oI (0 : Int32), oI (2 : Int32), .unset, .unset] [(.int (2 : Int32))]))
  refine Done.callS X0 hx hZ hown (wAt hw 98 rfl) (wAt hw 99 rfl) (wAt hw 90 rfl) (wAt hw 100 rfl) (by decide) (uf_2 l Z a0 hw [] h0 n0 Z0) (fun _ _ => trivial) e0 (g := (mkF m 1 #[oR cA, oI (0 : Int32), oI (2 : Int32), .unset, .unset] [(.int (2 : Int32))])) rfl (by rw [hml]; rfl) [(.int (2 : Int32))] [] 0 (lenOf pd_2 rfl) rfl rfl (by show 2 * 0 + _ ≤ _; exact Nat.le_of_eq rfl) (hb hby d22_1) (by decide) (by decide) (by decide) (by decide) ?_
  intro T1 v1 L1 X1 q1
  obtain ⟨bA, kb, rfl, Nq1, K1q, szb, VBn⟩ := q1
  have N1 := Fr.app N0 Nq1
  have Zs1 := Nat.le_trans Z0 K1q.1
  have K1 := (Keep.refl h0 []).trans K1q all0
  show Done _ p e below s _ _ (T1.setTop (mkF m 4 #[oR cA, oI (0 : Int32), oI (2 : Int32), .unset, .unset] [(.ref bA)]))
  have sz_bA : h0.size ≤ bA := szb
  have n0_bA : n0 ≤ bA := Nat.le_trans Z0 szb
  have nab : cA ≠ bA := Nat.ne_of_lt (Nat.lt_of_lt_of_le VA.lt szb)
  refine Done.step (fun _ => XS.astoreN X1.here hx rfl (hb hby d22_4) rfl rfl (l' := #[oR cA, oI (0 : Int32), oI (2 : Int32), oR bA, .unset]) rfl) ?_
  show Done _ p e below s _ _ (T1.setTop (mkF m 5 #[oR cA, oI (0 : Int32), oI (2 : Int32), oR bA, .unset] []))
  refine Done.step (fun _ => XT.iconstV X1.here hx rfl (0 : Int32) (hb hby d22_5) (by decide)) ?_
  show Done _ p e below s _ _ (T1.setTop (mkF m 6 #[oR cA, oI (0 : Int32), oI (2 : Int32), oR bA, .unset] [(.int (0 : Int32))]))
  refine Done.step (fun _ => XS.istore X1.here hx rfl (hb hby d22_6) rfl (l' := #[oR cA, oI (0 : Int32), oI (2 : Int32), oR bA, oI (0 : Int32)]) rfl) ?_
  show Done _ p e below s _ _ (T1.setTop (mkF m 8 #[oR cA, oI (0 : Int32), oI (2 : Int32), oR bA, oI (0 : Int32)] []))
  refine Done.step (fun _ => XS.iload X1.here hx rfl (hb hby d22_8) rfl) ?_
  show Done _ p e below s _ _ (T1.setTop (mkF m 10 #[oR cA, oI (0 : Int32), oI (2 : Int32), oR bA, oI (0 : Int32)] [(.int (0 : Int32))]))
  refine Done.step (fun _ => XS.iloadN X1.here hx rfl (hb hby d22_10) rfl) ?_
  show Done _ p e below s _ _ (T1.setTop (mkF m 11 #[oR cA, oI (0 : Int32), oI (2 : Int32), oR bA, oI (0 : Int32)] [(.int (2 : Int32)), (.int (0 : Int32))]))
  refine Done.step (fun _ => XS.icmpNo X1.here hx rfl (hb hby d22_11) rfl (XT.ii_ge_f (by decide))) ?_
  show Done _ p e below s _ _ (T1.setTop (mkF m 14 #[oR cA, oI (0 : Int32), oI (2 : Int32), oR bA, oI (0 : Int32)] []))
  refine Done.step (fun _ => XS.aloadN X1.here hx rfl (hb hby d22_14) rfl rfl) ?_
  show Done _ p e below s _ _ (T1.setTop (mkF m 15 #[oR cA, oI (0 : Int32), oI (2 : Int32), oR bA, oI (0 : Int32)] [(.ref bA)]))
  refine Done.step (fun _ => XS.iload X1.here hx rfl (hb hby d22_15) rfl) ?_
  show Done _ p e below s _ _ (T1.setTop (mkF m 17 #[oR cA, oI (0 : Int32), oI (2 : Int32), oR bA, oI (0 : Int32)] [(.int (0 : Int32)), (.ref bA)]))
  refine Done.step (fun _ => XS.aloadN X1.here hx rfl (hb hby d22_17) rfl rfl) ?_
  show Done _ p e below s _ _ (T1.setTop (mkF m 18 #[oR cA, oI (0 : Int32), oI (2 : Int32), oR bA, oI (0 : Int32)] [(.ref cA), (.int (0 : Int32)), (.ref bA)]))
  refine Done.step (fun _ => XS.iloadN X1.here hx rfl (hb hby d22_18) rfl) ?_
  show Done _ p e below s _ _ (T1.setTop (mkF m 19 #[oR cA, oI (0 : Int32), oI (2 : Int32), oR bA, oI (0 : Int32)] [(.int (0 : Int32)), (.ref cA), (.int (0 : Int32)), (.ref bA)]))
  have f3 := (VA.keep K1q nin0)
  obtain ⟨cl2, Ar2, q2, S2, Nn2, H2, G2⟩ := id f3
  have hin2 : ¬ ((0 : Int32) < 0 ∨ cl2.slots.size ≤ ((0 : Int32)).toNatClampNeg) := inb_of S2 ⟨by decide, by decide⟩
  have hat2 := Has.at H2 hin2 (v := (.int c0)) rfl
  refine Done.step (X1.caload hx (j := (0 : Int32)) (v := (.int c0)) (by first | exact Ar2.1 | (rw [rfl]; exact Ar2.1)) (State.isArrayOf_alike hZ.alike Ar2.2.1) Ar2.2.2 hin2 hat2 (g := (mkF m 19 #[oR cA, oI (0 : Int32), oI (2 : Int32), oR bA, oI (0 : Int32)] [(.int (0 : Int32)), (.ref cA), (.int (0 : Int32)), (.ref bA)])) rfl rfl (hb hby d22_19)) ?_
  show Done _ p e below s _ _ (T1.setTop (mkF m 20 #[oR cA, oI (0 : Int32), oI (2 : Int32), oR bA, oI (0 : Int32)] [(.int c0), (.int (0 : Int32)), (.ref bA)]))
  have f4 := (O0.keep K1q all0)
  refine Done.callS X1 hx hZ hown (wAt hw 105 rfl) (wAt hw 106 rfl) (wAt hw 90 rfl) (wAt hw 107 rfl) (by decide) (up_20 l Z a0 hw [] bA kb (0 : Int32) (0 : Int32) (0 : Int32) (0 : Int32) c0 T1.heap n0 Zs1 f4 SA SH SL VBn n0_bA) (fun _ _ => trivial) rfl (g := (mkF m 20 #[oR cA, oI (0 : Int32), oI (2 : Int32), oR bA, oI (0 : Int32)] [(.int c0), (.int (0 : Int32)), (.ref bA)])) rfl (by rw [hml]; rfl) [(.ref bA), (.int (0 : Int32)), (.int c0)] [] 0 (lenOf pd_3 rfl) rfl rfl (by show 2 * 0 + _ ≤ _; exact Nat.le_of_eq rfl) (hb hby d22_20) (by decide) (by decide) (by decide) (by decide) ?_
  intro T5 v5 L5 X5 q5
  obtain ⟨rfl, Nq5, K5q, VB0⟩ := q5
  have N5 := Fr.app N1 Nq5
  have Zs5 := Nat.le_trans Zs1 K5q.1
  have K5 := K1.trans K5q (allS (Or.inr sz_bA) all0)
  show Done _ p e below s _ _ (T5.setTop (mkF m 23 #[oR cA, oI (0 : Int32), oI (2 : Int32), oR bA, oI (0 : Int32)] []))
  refine Done.step (fun _ => XS.iinc X5.here hx rfl (hb hby d22_23) rfl (l' := #[oR cA, oI (1 : Int32), oI (2 : Int32), oR bA, oI (0 : Int32)]) rfl) ?_
  show Done _ p e below s _ _ (T5.setTop (mkF m 26 #[oR cA, oI (1 : Int32), oI (2 : Int32), oR bA, oI (0 : Int32)] []))
  refine Done.step (fun _ => XS.iinc X5.here hx rfl (hb hby d22_26) rfl (l' := #[oR cA, oI (1 : Int32), oI (2 : Int32), oR bA, oI (1 : Int32)]) rfl) ?_
  show Done _ p e below s _ _ (T5.setTop (mkF m 29 #[oR cA, oI (1 : Int32), oI (2 : Int32), oR bA, oI (1 : Int32)] []))
  refine Done.step (fun _ => XS.goto X5.here hx rfl (pc0 := 29) (pc' := 8) rfl (hb hby d22_29) (by decide) (by decide)) ?_
  show Done _ p e below s _ _ (T5.setTop (mkF m 8 #[oR cA, oI (1 : Int32), oI (2 : Int32), oR bA, oI (1 : Int32)] []))
  refine Done.step (fun _ => XS.iload X5.here hx rfl (hb hby d22_8) rfl) ?_
  show Done _ p e below s _ _ (T5.setTop (mkF m 10 #[oR cA, oI (1 : Int32), oI (2 : Int32), oR bA, oI (1 : Int32)] [(.int (1 : Int32))]))
  refine Done.step (fun _ => XS.iloadN X5.here hx rfl (hb hby d22_10) rfl) ?_
  show Done _ p e below s _ _ (T5.setTop (mkF m 11 #[oR cA, oI (1 : Int32), oI (2 : Int32), oR bA, oI (1 : Int32)] [(.int (2 : Int32)), (.int (1 : Int32))]))
  refine Done.step (fun _ => XS.icmpNo X5.here hx rfl (hb hby d22_11) rfl (XT.ii_ge_f (by decide))) ?_
  show Done _ p e below s _ _ (T5.setTop (mkF m 14 #[oR cA, oI (1 : Int32), oI (2 : Int32), oR bA, oI (1 : Int32)] []))
  refine Done.step (fun _ => XS.aloadN X5.here hx rfl (hb hby d22_14) rfl rfl) ?_
  show Done _ p e below s _ _ (T5.setTop (mkF m 15 #[oR cA, oI (1 : Int32), oI (2 : Int32), oR bA, oI (1 : Int32)] [(.ref bA)]))
  refine Done.step (fun _ => XS.iload X5.here hx rfl (hb hby d22_15) rfl) ?_
  show Done _ p e below s _ _ (T5.setTop (mkF m 17 #[oR cA, oI (1 : Int32), oI (2 : Int32), oR bA, oI (1 : Int32)] [(.int (1 : Int32)), (.ref bA)]))
  refine Done.step (fun _ => XS.aloadN X5.here hx rfl (hb hby d22_17) rfl rfl) ?_
  show Done _ p e below s _ _ (T5.setTop (mkF m 18 #[oR cA, oI (1 : Int32), oI (2 : Int32), oR bA, oI (1 : Int32)] [(.ref cA), (.int (1 : Int32)), (.ref bA)]))
  refine Done.step (fun _ => XS.iloadN X5.here hx rfl (hb hby d22_18) rfl) ?_
  show Done _ p e below s _ _ (T5.setTop (mkF m 19 #[oR cA, oI (1 : Int32), oI (2 : Int32), oR bA, oI (1 : Int32)] [(.int (1 : Int32)), (.ref cA), (.int (1 : Int32)), (.ref bA)]))
  have f7 := (f3.keep K5q (ninS nab nin0))
  obtain ⟨cl6, Ar6, q6, S6, Nn6, H6, G6⟩ := id f7
  have hin6 : ¬ ((1 : Int32) < 0 ∨ cl6.slots.size ≤ ((1 : Int32)).toNatClampNeg) := inb_of S6 ⟨by decide, by decide⟩
  have hat6 := Has.at H6 hin6 (v := (.int c1)) rfl
  refine Done.step (X5.caload hx (j := (1 : Int32)) (v := (.int c1)) (by first | exact Ar6.1 | (rw [rfl]; exact Ar6.1)) (State.isArrayOf_alike hZ.alike Ar6.2.1) Ar6.2.2 hin6 hat6 (g := (mkF m 19 #[oR cA, oI (1 : Int32), oI (2 : Int32), oR bA, oI (1 : Int32)] [(.int (1 : Int32)), (.ref cA), (.int (1 : Int32)), (.ref bA)])) rfl rfl (hb hby d22_19)) ?_
  show Done _ p e below s _ _ (T5.setTop (mkF m 20 #[oR cA, oI (1 : Int32), oI (2 : Int32), oR bA, oI (1 : Int32)] [(.int c1), (.int (1 : Int32)), (.ref bA)]))
  have f8 := (f4.keep K5q (allS n0_bA all0))
  refine Done.callS X5 hx hZ hown (wAt hw 105 rfl) (wAt hw 106 rfl) (wAt hw 90 rfl) (wAt hw 107 rfl) (by decide) (up_21 l Z a0 hw [] bA kb (own_hi c0) (own_lo c0) (0 : Int32) (0 : Int32) c1 T5.heap n0 Zs5 f8 SA SH SL VB0 n0_bA) (fun _ _ => trivial) rfl (g := (mkF m 20 #[oR cA, oI (1 : Int32), oI (2 : Int32), oR bA, oI (1 : Int32)] [(.int c1), (.int (1 : Int32)), (.ref bA)])) rfl (by rw [hml]; rfl) [(.ref bA), (.int (1 : Int32)), (.int c1)] [] 0 (lenOf pd_3 rfl) rfl rfl (by show 2 * 0 + _ ≤ _; exact Nat.le_of_eq rfl) (hb hby d22_20) (by decide) (by decide) (by decide) (by decide) ?_
  intro T9 v9 L9 X9 q9
  obtain ⟨rfl, Nq9, K9q, VB1⟩ := q9
  have N9 := Fr.app N5 Nq9
  have Zs9 := Nat.le_trans Zs5 K9q.1
  have K9 := K5.trans K9q (allS (Or.inr sz_bA) all0)
  show Done _ p e below s _ _ (T9.setTop (mkF m 23 #[oR cA, oI (1 : Int32), oI (2 : Int32), oR bA, oI (1 : Int32)] []))
  refine Done.step (fun _ => XS.iinc X9.here hx rfl (hb hby d22_23) rfl (l' := #[oR cA, oI (2 : Int32), oI (2 : Int32), oR bA, oI (1 : Int32)]) rfl) ?_
  show Done _ p e below s _ _ (T9.setTop (mkF m 26 #[oR cA, oI (2 : Int32), oI (2 : Int32), oR bA, oI (1 : Int32)] []))
  refine Done.step (fun _ => XS.iinc X9.here hx rfl (hb hby d22_26) rfl (l' := #[oR cA, oI (2 : Int32), oI (2 : Int32), oR bA, oI (2 : Int32)]) rfl) ?_
  show Done _ p e below s _ _ (T9.setTop (mkF m 29 #[oR cA, oI (2 : Int32), oI (2 : Int32), oR bA, oI (2 : Int32)] []))
  refine Done.step (fun _ => XS.goto X9.here hx rfl (pc0 := 29) (pc' := 8) rfl (hb hby d22_29) (by decide) (by decide)) ?_
  show Done _ p e below s _ _ (T9.setTop (mkF m 8 #[oR cA, oI (2 : Int32), oI (2 : Int32), oR bA, oI (2 : Int32)] []))
  refine Done.step (fun _ => XS.iload X9.here hx rfl (hb hby d22_8) rfl) ?_
  show Done _ p e below s _ _ (T9.setTop (mkF m 10 #[oR cA, oI (2 : Int32), oI (2 : Int32), oR bA, oI (2 : Int32)] [(.int (2 : Int32))]))
  refine Done.step (fun _ => XS.iloadN X9.here hx rfl (hb hby d22_10) rfl) ?_
  show Done _ p e below s _ _ (T9.setTop (mkF m 11 #[oR cA, oI (2 : Int32), oI (2 : Int32), oR bA, oI (2 : Int32)] [(.int (2 : Int32)), (.int (2 : Int32))]))
  refine Done.step (fun _ => XS.icmpYes X9.here hx rfl (pc0 := 11) (pc' := 32) rfl (hb hby d22_11) rfl (XT.ii_ge_t (by decide)) (by decide) (by decide)) ?_
  show Done _ p e below s _ _ (T9.setTop (mkF m 32 #[oR cA, oI (2 : Int32), oI (2 : Int32), oR bA, oI (2 : Int32)] []))
  refine Done.step (fun _ => XS.aloadN X9.here hx rfl (hb hby d22_32) rfl rfl) ?_
  show Done _ p e below s _ _ (T9.setTop (mkF m 33 #[oR cA, oI (2 : Int32), oI (2 : Int32), oR bA, oI (2 : Int32)] [(.ref bA)]))
  exact Done.retA (leavesF X9 hlk (by decide) (by decide)) X9 hx hret rfl rfl (hb hby d22_33) ⟨bA, kb, rfl, N9, K9, sz_bA, VB1⟩
theorem d20_0 : decode jdk_52_method_16_code 0 = .ok (.iload_n 2, 1) := by decide +kernel
theorem d20_1 : decode jdk_52_method_16_code 1 = .ok (.newarray .byte, 2) := by decide +kernel
theorem d20_3 : decode jdk_52_method_16_code 3 = .ok (.astore_n 3, 1) := by decide +kernel
theorem d20_4 : decode jdk_52_method_16_code 4 = .ok (.aload_n 0, 1) := by decide +kernel
theorem d20_5 : decode jdk_52_method_16_code 5 = .ok (.iload_n 1, 1) := by decide +kernel
theorem d20_6 : decode jdk_52_method_16_code 6 = .ok (.aload_n 3, 1) := by decide +kernel
theorem d20_7 : decode jdk_52_method_16_code 7 = .ok (.iconst 0, 1) := by decide +kernel
theorem d20_8 : decode jdk_52_method_16_code 8 = .ok (.iload_n 2, 1) := by decide +kernel
theorem d20_9 : decode jdk_52_method_16_code 9 = .ok (.invokestatic 115, 3) := by decide +kernel
theorem pd_4 : parseMethodDescriptor "([CI[BII)I" = some ⟨[(.array .char), .int, (.array .byte), .int, .int], some .int⟩ := by decide +kernel
theorem d20_12 : decode jdk_52_method_16_code 12 = .ok (.istore 4, 2) := by decide +kernel
theorem d20_14 : decode jdk_52_method_16_code 14 = .ok (.iload 4, 2) := by decide +kernel
theorem d20_16 : decode jdk_52_method_16_code 16 = .ok (.iload_n 2, 1) := by decide +kernel
theorem d20_17 : decode jdk_52_method_16_code 17 = .ok (.if_icmp .eq 40, 3) := by decide +kernel
theorem d20_57 : decode jdk_52_method_16_code 57 = .ok (.aload_n 3, 1) := by decide +kernel
theorem d20_58 : decode jdk_52_method_16_code 58 = .ok (.areturn, 1) := by decide +kernel
theorem d20_20 : decode jdk_52_method_16_code 20 = .ok (.aload_n 0, 1) := by decide +kernel
theorem d20_21 : decode jdk_52_method_16_code 21 = .ok (.iload_n 1, 1) := by decide +kernel
theorem d20_22 : decode jdk_52_method_16_code 22 = .ok (.iload_n 2, 1) := by decide +kernel
theorem d20_23 : decode jdk_52_method_16_code 23 = .ok (.invokestatic 119, 3) := by decide +kernel
theorem pd_5 : parseMethodDescriptor "([CII)[B" = some ⟨[(.array .char), .int, .int], some (.array .byte)⟩ := by decide +kernel
theorem d20_26 : decode jdk_52_method_16_code 26 = .ok (.astore 5, 2) := by decide +kernel
theorem d20_28 : decode jdk_52_method_16_code 28 = .ok (.aload 5, 2) := by decide +kernel
theorem d20_30 : decode jdk_52_method_16_code 30 = .ok (.iload 4, 2) := by decide +kernel
theorem d20_32 : decode jdk_52_method_16_code 32 = .ok (.invokestatic 71, 3) := by decide +kernel
theorem pd_6 : parseMethodDescriptor "([BI)C" = some ⟨[(.array .byte), .int], some .char⟩ := by decide +kernel
theorem d20_35 : decode jdk_52_method_16_code 35 = .ok (.sipush 255, 3) := by decide +kernel
theorem d20_38 : decode jdk_52_method_16_code 38 = .ok (.if_icmp .gt 16, 3) := by decide +kernel
theorem d20_54 : decode jdk_52_method_16_code 54 = .ok (.aload 5, 2) := by decide +kernel
theorem d20_56 : decode jdk_52_method_16_code 56 = .ok (.areturn, 1) := by decide +kernel
set_option maxRecDepth 65536 in
set_option maxHeartbeats 40000000 in
theorem u3_2 (l : Launch) (Z : State) (a0 : Array Value) (hw : ∀ d ∈ tables_1, d.before a0 Z = true) (ws : List Jvm.Cond) (cA : Addr) (kc : ClassId) (c0 c1 : Int32) (h0 : Heap) (n0 : Nat) (Z0 : n0 ≤ h0.size) (O0 : Old Z n0 h0) (SA : Sta Z Z.heap "java/lang/StringUTF16" "$assertionsDisabled" "Z" (.int (1 : Int32))) (SH : Sta Z Z.heap "java/lang/StringUTF16" "HI_BYTE_SHIFT" "I" (.int (0 : Int32))) (SL : Sta Z Z.heap "java/lang/StringUTF16" "LO_BYTE_SHIFT" "I" (.int (8 : Int32))) (VA : Arv Z h0 cA kc .char (2 : Int32) [(.int c0), (.int c1)] (.int (0 : Int32))) (hb0 : ¬ c0 < 0 ∧ ¬ (65535 : Int32) < c0) (hb1 : ¬ c1 < 0 ∧ ¬ (65535 : Int32) < c1) :
    Ctr FrameEnd l Z (⟨"java/lang/StringUTF16", "compress", "([CII)[B"⟩ : MethodName) jdk_52_method_16_code 6 (some (.array .byte)) ws ({ frames := 3, cells := 2, slots := 6, locals := 49 } : Room) #[(.ref cA), (.int (0 : Int32)), (.int (2 : Int32))] h0 TrueV (fun v h _ L => ∃ (b : Addr) (kb : ClassId), v = some (.ref b) ∧ Fr n0 L ∧ Keep h0 h [] ∧ h0.size ≤ b ∧ (((¬ (255 : Int32) < c0 ∧ ¬ (255 : Int32) < c1) ∧ Arv Z h b kb .byte (2 : Int32) [(.int (own_by c0)), (.int (own_by c1))] (.int (0 : Int32))) ∨ (¬ (¬ (255 : Int32) < c0 ∧ ¬ (255 : Int32) < c1) ∧ Arv Z h b kb .byte (4 : Int32) [(.int (own_hi c0)), (.int (own_lo c0)), (.int (own_hi c1)), (.int (own_lo c1))] (.int (0 : Int32))))) := by
  refine Ctr.intro (plainFor_of_name pn_java_lang_StringUTF16) (Ls := #[.val (.ref cA), .val (.int (0 : Int32)), .val (.int (2 : Int32)), .unset, .unset, .unset]) (fun m => by first | (simp [entryFrame, mkF, argsToLocals, Value.category]; done) | rfl) ?_
  intro p e s m below meth c T0 hx hby hml hown hnm hret hlk hZ hV hsh e0 X0
  have N0 := Fr.nil n0
  show Done _ p e below s _ _ (T0.setTop (mkF m 0 #[oR cA, oI (0 : Int32), oI (2 : Int32), .unset, .unset, .unset] []))
  refine Done.step (fun _ => XS.iloadN X0.here hx rfl (hb hby d20_0) rfl) ?_
  show Done _ p e below s _ _ (T0.setTop (mkF m 1 #[oR cA, oI (0 : Int32), oI (2 : Int32), .unset, .unset, .unset] [(.int (2 : Int32))]))
  obtain ⟨T1, h1, k1, X1, e1, E1, A1, st1⟩ := newP X0 hx hZ (wAt hw 24 rfl) e0 (g := (mkF m 1 #[oR cA, oI (0 : Int32), oI (2 : Int32), .unset, .unset, .unset] [(.int (2 : Int32))])) rfl (hb hby d20_1) rfl (by decide) (cap := 2) (by decide) (by decide) (by decide) (by decide)
  obtain ⟨b1, g1⟩ : ∃ z, z = h0.size := ⟨_, rfl⟩
  rw [← g1] at A1 st1
  have ne_cA_b1 : cA ≠ b1 := by rw [g1]; exact Nat.ne_of_lt VA.lt
  have n0_b1 : n0 ≤ b1 := by rw [g1]; exact Z0
  have sz_b1 : h0.size ≤ b1 := by rw [g1]; exact (Keep.refl h0 []).1
  have K1 := (Keep.refl h0 []).ext E1
  have Zs1 := Nat.le_trans Z0 E1.1
  have V_b1 : Arv Z h1 b1 k1 .byte (2 : Int32) [(.int (0 : Int32)), (.int (0 : Int32))] (.int (0 : Int32)) := (Arv.new A1 (by decide)).pad (pad_rep [] (.int (0 : Int32)) 2)
  refine Done.step st1 ?_
  show Done _ p e below s _ _ (T1.setTop (mkF m 3 #[oR cA, oI (0 : Int32), oI (2 : Int32), .unset, .unset, .unset] [(.ref b1)]))
  refine Done.step (fun _ => XS.astoreN X1.here hx rfl (hb hby d20_3) rfl rfl (l' := #[oR cA, oI (0 : Int32), oI (2 : Int32), oR b1, .unset, .unset]) rfl) ?_
  show Done _ p e below s _ _ (T1.setTop (mkF m 4 #[oR cA, oI (0 : Int32), oI (2 : Int32), oR b1, .unset, .unset] []))
  refine Done.step (fun _ => XS.aloadN X1.here hx rfl (hb hby d20_4) rfl rfl) ?_
  show Done _ p e below s _ _ (T1.setTop (mkF m 5 #[oR cA, oI (0 : Int32), oI (2 : Int32), oR b1, .unset, .unset] [(.ref cA)]))
  refine Done.step (fun _ => XS.iloadN X1.here hx rfl (hb hby d20_5) rfl) ?_
  show Done _ p e below s _ _ (T1.setTop (mkF m 6 #[oR cA, oI (0 : Int32), oI (2 : Int32), oR b1, .unset, .unset] [(.int (0 : Int32)), (.ref cA)]))
  refine Done.step (fun _ => XS.aloadN X1.here hx rfl (hb hby d20_6) rfl rfl) ?_
  show Done _ p e below s _ _ (T1.setTop (mkF m 7 #[oR cA, oI (0 : Int32), oI (2 : Int32), oR b1, .unset, .unset] [(.ref b1), (.int (0 : Int32)), (.ref cA)]))
  refine Done.step (fun _ => XT.iconstV X1.here hx rfl (0 : Int32) (hb hby d20_7) (by decide)) ?_
  show Done _ p e below s _ _ (T1.setTop (mkF m 8 #[oR cA, oI (0 : Int32), oI (2 : Int32), oR b1, .unset, .unset] [(.int (0 : Int32)), (.ref b1), (.int (0 : Int32)), (.ref cA)]))
  refine Done.step (fun _ => XS.iloadN X1.here hx rfl (hb hby d20_8) rfl) ?_
  show Done _ p e below s _ _ (T1.setTop (mkF m 9 #[oR cA, oI (0 : Int32), oI (2 : Int32), oR b1, .unset, .unset] [(.int (2 : Int32)), (.int (0 : Int32)), (.ref b1), (.int (0 : Int32)), (.ref cA)]))
  have f3 := (VA.ext E1)
  refine Done.callS X1 hx hZ hown (wAt hw 92 rfl) (wAt hw 93 rfl) (wAt hw 90 rfl) (wAt hw 94 rfl) (by decide) (u5_2 l Z a0 hw [] cA b1 kc k1 c0 c1 h1 n0 Zs1 f3 V_b1 n0_b1 ne_cA_b1) (fun _ _ => trivial) e1 (g := (mkF m 9 #[oR cA, oI (0 : Int32), oI (2 : Int32), oR b1, .unset, .unset] [(.int (2 : Int32)), (.int (0 : Int32)), (.ref b1), (.int (0 : Int32)), (.ref cA)])) rfl (by rw [hml]; rfl) [(.ref cA), (.int (0 : Int32)), (.ref b1), (.int (0 : Int32)), (.int (2 : Int32))] [] 0 (lenOf pd_4 rfl) rfl rfl (by show 2 * 0 + _ ≤ _; exact Nat.le_of_eq rfl) (hb hby d20_9) (by decide) (by decide) (by decide) (by decide) ?_
  intro T2 v2 L2 X2 q2
  obtain ⟨Nq2, K2q, q2⟩ := q2
  have N2 := Fr.app N0 Nq2
  have Zs2 := Nat.le_trans Zs1 K2q.1
  have K2 := K1.trans K2q (allS (Or.inr sz_b1) all0)
  rcases q2 with ⟨rfl, hsm, VBs⟩ | ⟨rfl, hbg⟩ | ⟨rfl, hbg⟩
  · show Done _ p e below s _ _ (T2.setTop (mkF m 12 #[oR cA, oI (0 : Int32), oI (2 : Int32), oR b1, .unset, .unset] [(.int (2 : Int32))]))
    refine Done.step (fun _ => XS.istore X2.here hx rfl (hb hby d20_12) rfl (l' := #[oR cA, oI (0 : Int32), oI (2 : Int32), oR b1, oI (2 : Int32), .unset]) rfl) ?_
    show Done _ p e below s _ _ (T2.setTop (mkF m 14 #[oR cA, oI (0 : Int32), oI (2 : Int32), oR b1, oI (2 : Int32), .unset] []))
    refine Done.step (fun _ => XS.iload X2.here hx rfl (hb hby d20_14) rfl) ?_
    show Done _ p e below s _ _ (T2.setTop (mkF m 16 #[oR cA, oI (0 : Int32), oI (2 : Int32), oR b1, oI (2 : Int32), .unset] [(.int (2 : Int32))]))
    refine Done.step (fun _ => XS.iloadN X2.here hx rfl (hb hby d20_16) rfl) ?_
    show Done _ p e below s _ _ (T2.setTop (mkF m 17 #[oR cA, oI (0 : Int32), oI (2 : Int32), oR b1, oI (2 : Int32), .unset] [(.int (2 : Int32)), (.int (2 : Int32))]))
    refine Done.step (fun _ => XS.icmpYes X2.here hx rfl (pc0 := 17) (pc' := 57) rfl (hb hby d20_17) rfl (XT.ii_eq_t rfl) (by decide) (by decide)) ?_
    show Done _ p e below s _ _ (T2.setTop (mkF m 57 #[oR cA, oI (0 : Int32), oI (2 : Int32), oR b1, oI (2 : Int32), .unset] []))
    refine Done.step (fun _ => XS.aloadN X2.here hx rfl (hb hby d20_57) rfl rfl) ?_
    show Done _ p e below s _ _ (T2.setTop (mkF m 58 #[oR cA, oI (0 : Int32), oI (2 : Int32), oR b1, oI (2 : Int32), .unset] [(.ref b1)]))
    exact Done.retA (leavesF X2 hlk (by decide) (by decide)) X2 hx hret rfl rfl (hb hby d20_58) ⟨b1, k1, rfl, N2, K2, sz_b1, Or.inl ⟨hsm, VBs⟩⟩
  · show Done _ p e below s _ _ (T2.setTop (mkF m 12 #[oR cA, oI (0 : Int32), oI (2 : Int32), oR b1, .unset, .unset] [(.int (0 : Int32))]))
    refine Done.step (fun _ => XS.istore X2.here hx rfl (hb hby d20_12) rfl (l' := #[oR cA, oI (0 : Int32), oI (2 : Int32), oR b1, oI (0 : Int32), .unset]) rfl) ?_
    show Done _ p e below s _ _ (T2.setTop (mkF m 14 #[oR cA, oI (0 : Int32), oI (2 : Int32), oR b1, oI (0 : Int32), .unset] []))
    refine Done.step (fun _ => XS.iload X2.here hx rfl (hb hby d20_14) rfl) ?_
    show Done _ p e below s _ _ (T2.setTop (mkF m 16 #[oR cA, oI (0 : Int32), oI (2 : Int32), oR b1, oI (0 : Int32), .unset] [(.int (0 : Int32))]))
    refine Done.step (fun _ => XS.iloadN X2.here hx rfl (hb hby d20_16) rfl) ?_
    show Done _ p e below s _ _ (T2.setTop (mkF m 17 #[oR cA, oI (0 : Int32), oI (2 : Int32), oR b1, oI (0 : Int32), .unset] [(.int (2 : Int32)), (.int (0 : Int32))]))
    refine Done.step (fun _ => XS.icmpNo X2.here hx rfl (hb hby d20_17) rfl (XT.ii_eq_f (by decide))) ?_
    show Done _ p e below s _ _ (T2.setTop (mkF m 20 #[oR cA, oI (0 : Int32), oI (2 : Int32), oR b1, oI (0 : Int32), .unset] []))
    refine Done.step (fun _ => XS.aloadN X2.here hx rfl (hb hby d20_20) rfl rfl) ?_
    show Done _ p e below s _ _ (T2.setTop (mkF m 21 #[oR cA, oI (0 : Int32), oI (2 : Int32), oR b1, oI (0 : Int32), .unset] [(.ref cA)]))
    refine Done.step (fun _ => XS.iloadN X2.here hx rfl (hb hby d20_21) rfl) ?_
    show Done _ p e below s _ _ (T2.setTop (mkF m 22 #[oR cA, oI (0 : Int32), oI (2 : Int32), oR b1, oI (0 : Int32), .unset] [(.int (0 : Int32)), (.ref cA)]))
    refine Done.step (fun _ => XS.iloadN X2.here hx rfl (hb hby d20_22) rfl) ?_
    show Done _ p e below s _ _ (T2.setTop (mkF m 23 #[oR cA, oI (0 : Int32), oI (2 : Int32), oR b1, oI (0 : Int32), .unset] [(.int (2 : Int32)), (.int (0 : Int32)), (.ref cA)]))
    have f4 := ((O0.ext E1).keep K2q (allS n0_b1 all0))
    have f5 := (f3.keep K2q (ninS ne_cA_b1 nin0))
    refine Done.callS X2 hx hZ hown (wAt hw 95 rfl) (wAt hw 96 rfl) (wAt hw 90 rfl) (wAt hw 97 rfl) (by decide) (ut_2 l Z a0 hw [] cA kc c0 c1 T2.heap n0 Zs2 f4 SA SH SL f5) (fun _ _ => trivial) rfl (g := (mkF m 23 #[oR cA, oI (0 : Int32), oI (2 : Int32), oR b1, oI (0 : Int32), .unset] [(.int (2 : Int32)), (.int (0 : Int32)), (.ref cA)])) rfl (by rw [hml]; rfl) [(.ref cA), (.int (0 : Int32)), (.int (2 : Int32))] [] 0 (lenOf pd_5 rfl) rfl rfl (by show 2 * 0 + _ ≤ _; exact Nat.le_of_eq rfl) (hb hby d20_23) (by decide) (by decide) (by decide) (by decide) ?_
    intro T6 v6 L6 X6 q6
    obtain ⟨bU, ku, rfl, Nq6, K6q, szu, VU⟩ := q6
    have N6 := Fr.app N2 Nq6
    have Zs6 := Nat.le_trans Zs2 K6q.1
    have K6 := K2.trans K6q all0
    show Done _ p e below s _ _ (T6.setTop (mkF m 26 #[oR cA, oI (0 : Int32), oI (2 : Int32), oR b1, oI (0 : Int32), .unset] [(.ref bU)]))
    have sz_bU : h0.size ≤ bU := Nat.le_trans K2.1 szu
    refine Done.step (fun _ => XS.astore X6.here hx rfl (hb hby d20_26) rfl rfl (l' := #[oR cA, oI (0 : Int32), oI (2 : Int32), oR b1, oI (0 : Int32), oR bU]) rfl) ?_
    show Done _ p e below s _ _ (T6.setTop (mkF m 28 #[oR cA, oI (0 : Int32), oI (2 : Int32), oR b1, oI (0 : Int32), oR bU] []))
    refine Done.step (fun _ => XS.aload X6.here hx rfl (hb hby d20_28) rfl rfl) ?_
    show Done _ p e below s _ _ (T6.setTop (mkF m 30 #[oR cA, oI (0 : Int32), oI (2 : Int32), oR b1, oI (0 : Int32), oR bU] [(.ref bU)]))
    refine Done.step (fun _ => XS.iload X6.here hx rfl (hb hby d20_30) rfl) ?_
    show Done _ p e below s _ _ (T6.setTop (mkF m 32 #[oR cA, oI (0 : Int32), oI (2 : Int32), oR b1, oI (0 : Int32), oR bU] [(.int (0 : Int32)), (.ref bU)]))
    have f7 := (f4.keep K6q all0)
    refine Done.callSP X6 hx hZ hown (wAt hw 111 rfl) (wAt hw 112 rfl) (wAt hw 90 rfl) (wAt hw 113 rfl) (by decide) (ug_20 l Z a0 hw [] bU ku (own_hi c0) (own_lo c0) (own_hi c1) (own_lo c1) T6.heap n0 Zs6 f7 SA SH SL VU) rfl (g := (mkF m 32 #[oR cA, oI (0 : Int32), oI (2 : Int32), oR b1, oI (0 : Int32), oR bU] [(.int (0 : Int32)), (.ref bU)])) rfl (by rw [hml]; rfl) [(.ref bU), (.int (0 : Int32))] [] 0 (lenOf pd_6 rfl) rfl rfl (by show 2 * 0 + _ ≤ _; exact Nat.le_of_eq rfl) (hb hby d20_32) (by decide) (by decide) (by decide) (by decide) rfl rfl ?_
    intro T8 X8 e8
    show Done _ p e below s _ _ (T8.setTop (mkF m 35 #[oR cA, oI (0 : Int32), oI (2 : Int32), oR b1, oI (0 : Int32), oR bU] [(.int (own_join (own_hi c0) (own_lo c0)))]))
    refine Done.step (fun _ => XT.sipushV X8.here hx rfl (255 : Int32) (hb hby d20_35) (by decide)) ?_
    show Done _ p e below s _ _ (T8.setTop (mkF m 38 #[oR cA, oI (0 : Int32), oI (2 : Int32), oR b1, oI (0 : Int32), oR bU] [(.int (255 : Int32)), (.int (own_join (own_hi c0) (own_lo c0)))]))
    refine Done.step (fun _ => XS.icmpYes X8.here hx rfl (pc0 := 38) (pc' := 54) rfl (hb hby d20_38) rfl (XT.ii_gt_t (own_big hb0 hbg)) (by decide) (by decide)) ?_
    show Done _ p e below s _ _ (T8.setTop (mkF m 54 #[oR cA, oI (0 : Int32), oI (2 : Int32), oR b1, oI (0 : Int32), oR bU] []))
    refine Done.step (fun _ => XS.aload X8.here hx rfl (hb hby d20_54) rfl rfl) ?_
    show Done _ p e below s _ _ (T8.setTop (mkF m 56 #[oR cA, oI (0 : Int32), oI (2 : Int32), oR b1, oI (0 : Int32), oR bU] [(.ref bU)]))
    refine Done.retA (leavesF X8 hlk (by decide) (by decide)) X8 hx hret rfl rfl (hb hby d20_56) ?_
    rw [e8]
    exact ⟨bU, ku, rfl, N6, K6, sz_bU, Or.inr ⟨(fun q => q.1 hbg), VU⟩⟩
  · show Done _ p e below s _ _ (T2.setTop (mkF m 12 #[oR cA, oI (0 : Int32), oI (2 : Int32), oR b1, .unset, .unset] [(.int (1 : Int32))]))
    refine Done.step (fun _ => XS.istore X2.here hx rfl (hb hby d20_12) rfl (l' := #[oR cA, oI (0 : Int32), oI (2 : Int32), oR b1, oI (1 : Int32), .unset]) rfl) ?_
    show Done _ p e below s _ _ (T2.setTop (mkF m 14 #[oR cA, oI (0 : Int32), oI (2 : Int32), oR b1, oI (1 : Int32), .unset] []))
    refine Done.step (fun _ => XS.iload X2.here hx rfl (hb hby d20_14) rfl) ?_
    show Done _ p e below s _ _ (T2.setTop (mkF m 16 #[oR cA, oI (0 : Int32), oI (2 : Int32), oR b1, oI (1 : Int32), .unset] [(.int (1 : Int32))]))
    refine Done.step (fun _ => XS.iloadN X2.here hx rfl (hb hby d20_16) rfl) ?_
    show Done _ p e below s _ _ (T2.setTop (mkF m 17 #[oR cA, oI (0 : Int32), oI (2 : Int32), oR b1, oI (1 : Int32), .unset] [(.int (2 : Int32)), (.int (1 : Int32))]))
    refine Done.step (fun _ => XS.icmpNo X2.here hx rfl (hb hby d20_17) rfl (XT.ii_eq_f (by decide))) ?_
    show Done _ p e below s _ _ (T2.setTop (mkF m 20 #[oR cA, oI (0 : Int32), oI (2 : Int32), oR b1, oI (1 : Int32), .unset] []))
    refine Done.step (fun _ => XS.aloadN X2.here hx rfl (hb hby d20_20) rfl rfl) ?_
    show Done _ p e below s _ _ (T2.setTop (mkF m 21 #[oR cA, oI (0 : Int32), oI (2 : Int32), oR b1, oI (1 : Int32), .unset] [(.ref cA)]))
    refine Done.step (fun _ => XS.iloadN X2.here hx rfl (hb hby d20_21) rfl) ?_
    show Done _ p e below s _ _ (T2.setTop (mkF m 22 #[oR cA, oI (0 : Int32), oI (2 : Int32), oR b1, oI (1 : Int32), .unset] [(.int (0 : Int32)), (.ref cA)]))
    refine Done.step (fun _ => XS.iloadN X2.here hx rfl (hb hby d20_22) rfl) ?_
    show Done _ p e below s _ _ (T2.setTop (mkF m 23 #[oR cA, oI (0 : Int32), oI (2 : Int32), oR b1, oI (1 : Int32), .unset] [(.int (2 : Int32)), (.int (0 : Int32)), (.ref cA)]))
    have f9 := ((O0.ext E1).keep K2q (allS n0_b1 all0))
    have f10 := (f3.keep K2q (ninS ne_cA_b1 nin0))
    refine Done.callS X2 hx hZ hown (wAt hw 95 rfl) (wAt hw 96 rfl) (wAt hw 90 rfl) (wAt hw 97 rfl) (by decide) (ut_2 l Z a0 hw [] cA kc c0 c1 T2.heap n0 Zs2 f9 SA SH SL f10) (fun _ _ => trivial) rfl (g := (mkF m 23 #[oR cA, oI (0 : Int32), oI (2 : Int32), oR b1, oI (1 : Int32), .unset] [(.int (2 : Int32)), (.int (0 : Int32)), (.ref cA)])) rfl (by rw [hml]; rfl) [(.ref cA), (.int (0 : Int32)), (.int (2 : Int32))] [] 0 (lenOf pd_5 rfl) rfl rfl (by show 2 * 0 + _ ≤ _; exact Nat.le_of_eq rfl) (hb hby d20_23) (by decide) (by decide) (by decide) (by decide) ?_
    intro T11 v11 L11 X11 q11
    obtain ⟨bU, ku, rfl, Nq11, K11q, szu, VU⟩ := q11
    have N11 := Fr.app N2 Nq11
    have Zs11 := Nat.le_trans Zs2 K11q.1
    have K11 := K2.trans K11q all0
    show Done _ p e below s _ _ (T11.setTop (mkF m 26 #[oR cA, oI (0 : Int32), oI (2 : Int32), oR b1, oI (1 : Int32), .unset] [(.ref bU)]))
    have sz_bU : h0.size ≤ bU := Nat.le_trans K2.1 szu
    refine Done.step (fun _ => XS.astore X11.here hx rfl (hb hby d20_26) rfl rfl (l' := #[oR cA, oI (0 : Int32), oI (2 : Int32), oR b1, oI (1 : Int32), oR bU]) rfl) ?_
    show Done _ p e below s _ _ (T11.setTop (mkF m 28 #[oR cA, oI (0 : Int32), oI (2 : Int32), oR b1, oI (1 : Int32), oR bU] []))
    refine Done.step (fun _ => XS.aload X11.here hx rfl (hb hby d20_28) rfl rfl) ?_
    show Done _ p e below s _ _ (T11.setTop (mkF m 30 #[oR cA, oI (0 : Int32), oI (2 : Int32), oR b1, oI (1 : Int32), oR bU] [(.ref bU)]))
    refine Done.step (fun _ => XS.iload X11.here hx rfl (hb hby d20_30) rfl) ?_
    show Done _ p e below s _ _ (T11.setTop (mkF m 32 #[oR cA, oI (0 : Int32), oI (2 : Int32), oR b1, oI (1 : Int32), oR bU] [(.int (1 : Int32)), (.ref bU)]))
    have f12 := (f9.keep K11q all0)
    refine Done.callSP X11 hx hZ hown (wAt hw 111 rfl) (wAt hw 112 rfl) (wAt hw 90 rfl) (wAt hw 113 rfl) (by decide) (ug_21 l Z a0 hw [] bU ku (own_hi c0) (own_lo c0) (own_hi c1) (own_lo c1) T11.heap n0 Zs11 f12 SA SH SL VU) rfl (g := (mkF m 32 #[oR cA, oI (0 : Int32), oI (2 : Int32), oR b1, oI (1 : Int32), oR bU] [(.int (1 : Int32)), (.ref bU)])) rfl (by rw [hml]; rfl) [(.ref bU), (.int (1 : Int32))] [] 0 (lenOf pd_6 rfl) rfl rfl (by show 2 * 0 + _ ≤ _; exact Nat.le_of_eq rfl) (hb hby d20_32) (by decide) (by decide) (by decide) (by decide) rfl rfl ?_
    intro T13 X13 e13
    show Done _ p e below s _ _ (T13.setTop (mkF m 35 #[oR cA, oI (0 : Int32), oI (2 : Int32), oR b1, oI (1 : Int32), oR bU] [(.int (own_join (own_hi c1) (own_lo c1)))]))
    refine Done.step (fun _ => XT.sipushV X13.here hx rfl (255 : Int32) (hb hby d20_35) (by decide)) ?_
    show Done _ p e below s _ _ (T13.setTop (mkF m 38 #[oR cA, oI (0 : Int32), oI (2 : Int32), oR b1, oI (1 : Int32), oR bU] [(.int (255 : Int32)), (.int (own_join (own_hi c1) (own_lo c1)))]))
    refine Done.step (fun _ => XS.icmpYes X13.here hx rfl (pc0 := 38) (pc' := 54) rfl (hb hby d20_38) rfl (XT.ii_gt_t (own_big hb1 hbg)) (by decide) (by decide)) ?_
    show Done _ p e below s _ _ (T13.setTop (mkF m 54 #[oR cA, oI (0 : Int32), oI (2 : Int32), oR b1, oI (1 : Int32), oR bU] []))
    refine Done.step (fun _ => XS.aload X13.here hx rfl (hb hby d20_54) rfl rfl) ?_
    show Done _ p e below s _ _ (T13.setTop (mkF m 56 #[oR cA, oI (0 : Int32), oI (2 : Int32), oR b1, oI (1 : Int32), oR bU] [(.ref bU)]))
    refine Done.retA (leavesF X13 hlk (by decide) (by decide)) X13 hx hret rfl rfl (hb hby d20_56) ?_
    rw [e13]
    exact ⟨bU, ku, rfl, N11, K11, sz_bU, Or.inr ⟨(fun q => q.2 hbg), VU⟩⟩
theorem d27_0 : decode jdk_52_method_15_code 0 = .ok (.iload_n 1, 1) := by decide +kernel
theorem d27_1 : decode jdk_52_method_15_code 1 = .ok (.aload_n 0, 1) := by decide +kernel
theorem d27_2 : decode jdk_52_method_15_code 2 = .ok (.arraylength, 1) := by decide +kernel
theorem d27_3 : decode jdk_52_method_15_code 3 = .ok (.isub, 1) := by decide +kernel
theorem d27_4 : decode jdk_52_method_15_code 4 = .ok (.bipush 31, 2) := by decide +kernel
theorem d27_6 : decode jdk_52_method_15_code 6 = .ok (.iushr, 1) := by decide +kernel
theorem d27_7 : decode jdk_52_method_15_code 7 = .ok (.i2b, 1) := by decide +kernel
theorem d27_8 : decode jdk_52_method_15_code 8 = .ok (.ireturn, 1) := by decide +kernel
set_option maxRecDepth 65536 in
set_option maxHeartbeats 40000000 in
theorem uc_20 (l : Launch) (Z : State) (a0 : Array Value) (hw : ∀ d ∈ tables_1, d.before a0 Z = true) (ws : List Jvm.Cond) (bA : Addr) (kb : ClassId) (p0 p1 : Int32) (h0 : Heap) (n0 : Nat) (Z0 : n0 ≤ h0.size) (VB : Arv Z h0 bA kb .byte (2 : Int32) [(.int p0), (.int p1)] (.int (0 : Int32))) :
    Ctr FrameEnd l Z (⟨"java/lang/StringUTF16", "coderFromArrayLen", "([BI)B"⟩ : MethodName) jdk_52_method_15_code 2 (some .byte) ws ({ frames := 0, cells := 0, slots := 0, locals := 0 } : Room) #[(.ref bA), (.int (2 : Int32))] h0 TrueV (PureQ (some (.int (0 : Int32))) h0) := by
  refine Ctr.intro (plainFor_of_name pn_java_lang_StringUTF16) (Ls := #[.val (.ref bA), .val (.int (2 : Int32))]) (fun m => by first | (simp [entryFrame, mkF, argsToLocals, Value.category]; done) | rfl) ?_
  intro p e s m below meth c T0 hx hby hml hown hnm hret hlk hZ hV hsh e0 X0
  have N0 := Fr.nil n0
  show Done _ p e below s _ _ (T0.setTop (mkF m 0 #[oR bA, oI (2 : Int32)] []))
  refine Done.step (fun _ => XS.iloadN X0.here hx rfl (hb hby d27_0) rfl) ?_
  show Done _ p e below s _ _ (T0.setTop (mkF m 1 #[oR bA, oI (2 : Int32)] [(.int (2 : Int32))]))
  refine Done.step (fun _ => XS.aloadN X0.here hx rfl (hb hby d27_1) rfl rfl) ?_
  show Done _ p e below s _ _ (T0.setTop (mkF m 2 #[oR bA, oI (2 : Int32)] [(.ref bA), (.int (2 : Int32))]))
  obtain ⟨cl1, Ar1, q1, S1, Nn1, H1, G1⟩ := id VB
  refine Done.step (X0.arraylength hx (by first | exact Ar1.1 | (rw [e0]; exact Ar1.1)) (State.isArrayOf_alike hZ.alike Ar1.2.1) (g := (mkF m 2 #[oR bA, oI (2 : Int32)] [(.ref bA), (.int (2 : Int32))])) rfl rfl (hb hby d27_2)) ?_
  rw [len_of S1 Nn1]
  show Done _ p e below s _ _ (T0.setTop (mkF m 3 #[oR bA, oI (2 : Int32)] [(.int (2 : Int32)), (.int (2 : Int32))]))
  refine Done.step (fun _ => XS.isub X0.here hx rfl (hb hby d27_3) rfl) ?_
  show Done _ p e below s _ _ (T0.setTop (mkF m 4 #[oR bA, oI (2 : Int32)] [(.int (0 : Int32))]))
  refine Done.step (fun _ => XT.bipushV X0.here hx rfl (31 : Int32) (hb hby d27_4) (by decide)) ?_
  show Done _ p e below s _ _ (T0.setTop (mkF m 6 #[oR bA, oI (2 : Int32)] [(.int (31 : Int32)), (.int (0 : Int32))]))
  refine Done.step (fun _ => XT.iushr X0.here hx rfl (hb hby d27_6) rfl) ?_
  show Done _ p e below s _ _ (T0.setTop (mkF m 7 #[oR bA, oI (2 : Int32)] [(.int (0 : Int32))]))
  refine Done.step (fun _ => XT.i2b X0.here hx rfl (hb hby d27_7) rfl) ?_
  show Done _ p e below s _ _ (T0.setTop (mkF m 8 #[oR bA, oI (2 : Int32)] [(.int (0 : Int32))]))
  exact Done.retN (leavesF X0 hlk (by decide) (by decide)) X0 hx (t := .byte) hret (by simp) (hb hby d27_8) ⟨rfl, e0, rfl⟩
set_option maxRecDepth 65536 in
set_option maxHeartbeats 40000000 in
theorem uc_21 (l : Launch) (Z : State) (a0 : Array Value) (hw : ∀ d ∈ tables_1, d.before a0 Z = true) (ws : List Jvm.Cond) (bA : Addr) (kb : ClassId) (p0 p1 p2 p3 : Int32) (h0 : Heap) (n0 : Nat) (Z0 : n0 ≤ h0.size) (VB : Arv Z h0 bA kb .byte (4 : Int32) [(.int p0), (.int p1), (.int p2), (.int p3)] (.int (0 : Int32))) :
    Ctr FrameEnd l Z (⟨"java/lang/StringUTF16", "coderFromArrayLen", "([BI)B"⟩ : MethodName) jdk_52_method_15_code 2 (some .byte) ws ({ frames := 0, cells := 0, slots := 0, locals := 0 } : Room) #[(.ref bA), (.int (2 : Int32))] h0 TrueV (PureQ (some (.int (1 : Int32))) h0) := by
  refine Ctr.intro (plainFor_of_name pn_java_lang_StringUTF16) (Ls := #[.val (.ref bA), .val (.int (2 : Int32))]) (fun m => by first | (simp [entryFrame, mkF, argsToLocals, Value.category]; done) | rfl) ?_
  intro p e s m below meth c T0 hx hby hml hown hnm hret hlk hZ hV hsh e0 X0
  have N0 := Fr.nil n0
  show Done _ p e below s _ _ (T0.setTop (mkF m 0 #[oR bA, oI (2 : Int32)] []))
  refine Done.step (fun _ => XS.iloadN X0.here hx rfl (hb hby d27_0) rfl) ?_
  show Done _ p e below s _ _ (T0.setTop (mkF m 1 #[oR bA, oI (2 : Int32)] [(.int (2 : Int32))]))
  refine Done.step (fun _ => XS.aloadN X0.here hx rfl (hb hby d27_1) rfl rfl) ?_
  show Done _ p e below s _ _ (T0.setTop (mkF m 2 #[oR bA, oI (2 : Int32)] [(.ref bA), (.int (2 : Int32))]))
  obtain ⟨cl1, Ar1, q1, S1, Nn1, H1, G1⟩ := id VB
  refine Done.step (X0.arraylength hx (by first | exact Ar1.1 | (rw [e0]; exact Ar1.1)) (State.isArrayOf_alike hZ.alike Ar1.2.1) (g := (mkF m 2 #[oR bA, oI (2 : Int32)] [(.ref bA), (.int (2 : Int32))])) rfl rfl (hb hby d27_2)) ?_
  rw [len_of S1 Nn1]
  show Done _ p e below s _ _ (T0.setTop (mkF m 3 #[oR bA, oI (2 : Int32)] [(.int (4 : Int32)), (.int (2 : Int32))]))
  refine Done.step (fun _ => XS.isub X0.here hx rfl (hb hby d27_3) rfl) ?_
  show Done _ p e below s _ _ (T0.setTop (mkF m 4 #[oR bA, oI (2 : Int32)] [(.int (-2 : Int32))]))
  refine Done.step (fun _ => XT.bipushV X0.here hx rfl (31 : Int32) (hb hby d27_4) (by decide)) ?_
  show Done _ p e below s _ _ (T0.setTop (mkF m 6 #[oR bA, oI (2 : Int32)] [(.int (31 : Int32)), (.int (-2 : Int32))]))
  refine Done.step (fun _ => XT.iushr X0.here hx rfl (hb hby d27_6) rfl) ?_
  show Done _ p e below s _ _ (T0.setTop (mkF m 7 #[oR bA, oI (2 : Int32)] [(.int (1 : Int32))]))
  refine Done.step (fun _ => XT.i2b X0.here hx rfl (hb hby d27_7) rfl) ?_
  show Done _ p e below s _ _ (T0.setTop (mkF m 8 #[oR bA, oI (2 : Int32)] [(.int (1 : Int32))]))
  exact Done.retN (leavesF X0 hlk (by decide) (by decide)) X0 hx (t := .byte) hret (by simp) (hb hby d27_8) ⟨rfl, e0, rfl⟩
theorem d4_27 : decode jdk_42_method_149_code 27 = .ok (.getstatic 38, 3) := by decide +kernel
theorem d4_30 : decode jdk_42_method_149_code 30 = .ok (.ifCond .eq 28, 3) := by decide +kernel
theorem d4_33 : decode jdk_42_method_149_code 33 = .ok (.aload_n 1, 1) := by decide +kernel
theorem d4_34 : decode jdk_42_method_149_code 34 = .ok (.iload_n 2, 1) := by decide +kernel
theorem d4_35 : decode jdk_42_method_149_code 35 = .ok (.iload_n 3, 1) := by decide +kernel
theorem d4_36 : decode jdk_42_method_149_code 36 = .ok (.invokestatic 177, 3) := by decide +kernel
theorem d4_39 : decode jdk_42_method_149_code 39 = .ok (.astore 5, 2) := by decide +kernel
theorem d4_41 : decode jdk_42_method_149_code 41 = .ok (.aload_n 0, 1) := by decide +kernel
theorem d4_42 : decode jdk_42_method_149_code 42 = .ok (.aload 5, 2) := by decide +kernel
theorem d4_44 : decode jdk_42_method_149_code 44 = .ok (.iload_n 3, 1) := by decide +kernel
theorem d4_45 : decode jdk_42_method_149_code 45 = .ok (.invokestatic 47, 3) := by decide +kernel
theorem pd_7 : parseMethodDescriptor "([BI)B" = some ⟨[(.array .byte), .int], some .byte⟩ := by decide +kernel
theorem d4_48 : decode jdk_42_method_149_code 48 = .ok (.putfield 15, 3) := by decide +kernel
theorem d4_51 : decode jdk_42_method_149_code 51 = .ok (.aload_n 0, 1) := by decide +kernel
theorem d4_52 : decode jdk_42_method_149_code 52 = .ok (.aload 5, 2) := by decide +kernel
theorem d4_54 : decode jdk_42_method_149_code 54 = .ok (.putfield 9, 3) := by decide +kernel
theorem d4_57 : decode jdk_42_method_149_code 57 = .ok (.return_, 1) := by decide +kernel
set_option maxRecDepth 65536 in
set_option maxHeartbeats 40000000 in
theorem u4_2 (l : Launch) (Z : State) (a0 : Array Value) (hw : ∀ d ∈ tables_1, d.before a0 Z = true) (ws : List Jvm.Cond) (xx cA : Addr) (kc : ClassId) (c0 c1 : Int32) (z : Int32) (h0 : Heap) (n0 : Nat) (Z0 : n0 ≤ h0.size) (Ex : Exa Z h0 xx "java/lang/String") (Fv : Fld Z h0 xx "java/lang/String" "value" "[B" .null) (Fc : Fld Z h0 xx "java/lang/String" "coder" "B" (.int (0 : Int32))) (gx : n0 ≤ xx) (O0 : Old Z n0 h0) (SC : Sta Z Z.heap "java/lang/String" "COMPACT_STRINGS" "Z" (.int z)) (hz : ¬ z = 0) (SA : Sta Z Z.heap "java/lang/StringUTF16" "$assertionsDisabled" "Z" (.int (1 : Int32))) (SH : Sta Z Z.heap "java/lang/StringUTF16" "HI_BYTE_SHIFT" "I" (.int (0 : Int32))) (SL : Sta Z Z.heap "java/lang/StringUTF16" "LO_BYTE_SHIFT" "I" (.int (8 : Int32))) (VA : Arv Z h0 cA kc .char (2 : Int32) [(.int c0), (.int c1)] (.int (0 : Int32))) (ncx : cA ≠ xx) (hb0 : ¬ c0 < 0 ∧ ¬ (65535 : Int32) < c0) (hb1 : ¬ c1 < 0 ∧ ¬ (65535 : Int32) < c1) :
    Ctr FrameEnd l Z (⟨"java/lang/String", "<init>", "([CIILjava/lang/Void;)V"⟩ : MethodName) jdk_42_method_149_code 6 none ws ({ frames := 4, cells := 2, slots := 6, locals := 68 } : Room) #[(.ref xx), (.ref cA), (.int (0 : Int32)), (.int (2 : Int32)), .null] h0 TrueV (fun v h _ L => v = none ∧ Fr n0 L ∧ Keep h0 h [xx] ∧ ∃ (b : Addr) (kb : ClassId), h0.size ≤ b ∧ Exa Z h xx "java/lang/String" ∧ Fld Z h xx "java/lang/String" "value" "[B" (.ref b) ∧ (((¬ (255 : Int32) < c0 ∧ ¬ (255 : Int32) < c1) ∧ Fld Z h xx "java/lang/String" "coder" "B" (.int (0 : Int32)) ∧ Arv Z h b kb .byte (2 : Int32) [(.int (own_by c0)), (.int (own_by c1))] (.int (0 : Int32))) ∨ (¬ (¬ (255 : Int32) < c0 ∧ ¬ (255 : Int32) < c1) ∧ Fld Z h xx "java/lang/String" "coder" "B" (.int (1 : Int32)) ∧ Arv Z h b kb .byte (4 : Int32) [(.int (own_hi c0)), (.int (own_lo c0)), (.int (own_hi c1)), (.int (own_lo c1))] (.int (0 : Int32))))) := by
  refine Ctr.intro (plainFor_of_name pn_java_lang_String) (Ls := #[.val (.ref xx), .val (.ref cA), .val (.int (0 : Int32)), .val (.int (2 : Int32)), .val .null, .unset]) (fun m => by first | (simp [entryFrame, mkF, argsToLocals, Value.category]; done) | rfl) ?_
  intro p e s m below meth c T0 hx hby hml hown hnm hret hlk hZ hV hsh e0 X0
  have N0 := Fr.nil n0
  show Done _ p e below s _ _ (T0.setTop (mkF m 0 #[oR xx, oR cA, oI (0 : Int32), oI (2 : Int32), .val .null, .unset] []))
  refine Done.step (fun _ => XS.aloadN X0.here hx rfl (hb hby d4_0) rfl rfl) ?_
  show Done _ p e below s _ _ (T0.setTop (mkF m 1 #[oR xx, oR cA, oI (0 : Int32), oI (2 : Int32), .val .null, .unset] [(.ref xx)]))
  obtain ⟨T1, X1, e1, st1⟩ := initO X0 hx hZ hown (wAt hw 20 rfl) (wAt hw 21 rfl) (wAt hw 22 rfl) e0 (g := (mkF m 1 #[oR xx, oR cA, oI (0 : Int32), oI (2 : Int32), .val .null, .unset] [(.ref xx)])) rfl (by rw [hml]; rfl) rfl (hb hby d4_1) (by decide) (W := 0) (by show 2 * 0 + _ ≤ _; exact Nat.le_of_eq rfl) (by decide)
  refine Done.step st1 ?_
  show Done _ p e below s _ _ (T1.setTop (mkF m 4 #[oR xx, oR cA, oI (0 : Int32), oI (2 : Int32), .val .null, .unset] []))
  refine Done.step (fun _ => XS.iloadN X1.here hx rfl (hb hby d4_4) rfl) ?_
  show Done _ p e below s _ _ (T1.setTop (mkF m 5 #[oR xx, oR cA, oI (0 : Int32), oI (2 : Int32), .val .null, .unset] [(.int (2 : Int32))]))
  refine Done.step (fun _ => XS.ifYes X1.here hx rfl (pc0 := 5) (pc' := 27) rfl (hb hby d4_5) rfl (XT.i0_ne_t (by decide)) (by decide) (by decide)) ?_
  show Done _ p e below s _ _ (T1.setTop (mkF m 27 #[oR xx, oR cA, oI (0 : Int32), oI (2 : Int32), .val .null, .unset] []))
  obtain ⟨T2, X2, e2, st2⟩ := getS2 X1 hx hZ hown (host := "") (Or.inl (wAt hw 45 rfl)) Via.refl e1 (SC.ext O0.2) (g := (mkF m 27 #[oR xx, oR cA, oI (0 : Int32), oI (2 : Int32), .val .null, .unset] [])) rfl (hb hby d4_27)
  refine Done.step st2 ?_
  show Done _ p e below s _ _ (T2.setTop (mkF m 30 #[oR xx, oR cA, oI (0 : Int32), oI (2 : Int32), .val .null, .unset] [(.int z)]))
  refine Done.step (fun _ => XS.ifNo X2.here hx rfl (hb hby d4_30) rfl (XT.i0_eq_f hz)) ?_
  show Done _ p e below s _ _ (T2.setTop (mkF m 33 #[oR xx, oR cA, oI (0 : Int32), oI (2 : Int32), .val .null, .unset] []))
  refine Done.step (fun _ => XS.aloadN X2.here hx rfl (hb hby d4_33) rfl rfl) ?_
  show Done _ p e below s _ _ (T2.setTop (mkF m 34 #[oR xx, oR cA, oI (0 : Int32), oI (2 : Int32), .val .null, .unset] [(.ref cA)]))
  refine Done.step (fun _ => XS.iloadN X2.here hx rfl (hb hby d4_34) rfl) ?_
  show Done _ p e below s _ _ (T2.setTop (mkF m 35 #[oR xx, oR cA, oI (0 : Int32), oI (2 : Int32), .val .null, .unset] [(.int (0 : Int32)), (.ref cA)]))
  refine Done.step (fun _ => XS.iloadN X2.here hx rfl (hb hby d4_35) rfl) ?_
  show Done _ p e below s _ _ (T2.setTop (mkF m 36 #[oR xx, oR cA, oI (0 : Int32), oI (2 : Int32), .val .null, .unset] [(.int (2 : Int32)), (.int (0 : Int32)), (.ref cA)]))
  refine Done.callS X2 hx hZ hown (wAt hw 88 rfl) (wAt hw 89 rfl) (wAt hw 90 rfl) (wAt hw 91 rfl) (by decide) (u3_2 l Z a0 hw [] cA kc c0 c1 h0 n0 Z0 O0 SA SH SL VA hb0 hb1) (fun _ _ => trivial) e2 (g := (mkF m 36 #[oR xx, oR cA, oI (0 : Int32), oI (2 : Int32), .val .null, .unset] [(.int (2 : Int32)), (.int (0 : Int32)), (.ref cA)])) rfl (by rw [hml]; rfl) [(.ref cA), (.int (0 : Int32)), (.int (2 : Int32))] [] 0 (lenOf pd_5 rfl) rfl rfl (by show 2 * 0 + _ ≤ _; exact Nat.le_of_eq rfl) (hb hby d4_36) (by decide) (by decide) (by decide) (by decide) ?_
  intro T3 v3 L3 X3 q3
  obtain ⟨bU, ku, rfl, Nq3, K3q, szu, q3⟩ := q3
  have szu : h0.size ≤ bU := Nat.le_trans (Keep.refl h0 [xx]).1 szu
  have N3 := Fr.app N0 Nq3
  have Zs3 := Nat.le_trans Z0 K3q.1
  have K3 := (Keep.refl h0 [xx]).trans K3q all0
  have nbx : bU ≠ xx := Nat.ne_of_gt (Nat.lt_of_lt_of_le Ex.lt szu)
  rcases q3 with ⟨hsm, VU⟩ | ⟨hsm, VU⟩
  · show Done _ p e below s _ _ (T3.setTop (mkF m 39 #[oR xx, oR cA, oI (0 : Int32), oI (2 : Int32), .val .null, .unset] [(.ref bU)]))
    refine Done.step (fun _ => XS.astore X3.here hx rfl (hb hby d4_39) rfl rfl (l' := #[oR xx, oR cA, oI (0 : Int32), oI (2 : Int32), .val .null, oR bU]) rfl) ?_
    show Done _ p e below s _ _ (T3.setTop (mkF m 41 #[oR xx, oR cA, oI (0 : Int32), oI (2 : Int32), .val .null, oR bU] []))
    refine Done.step (fun _ => XS.aloadN X3.here hx rfl (hb hby d4_41) rfl rfl) ?_
    show Done _ p e below s _ _ (T3.setTop (mkF m 42 #[oR xx, oR cA, oI (0 : Int32), oI (2 : Int32), .val .null, oR bU] [(.ref xx)]))
    refine Done.step (fun _ => XS.aload X3.here hx rfl (hb hby d4_42) rfl rfl) ?_
    show Done _ p e below s _ _ (T3.setTop (mkF m 44 #[oR xx, oR cA, oI (0 : Int32), oI (2 : Int32), .val .null, oR bU] [(.ref bU), (.ref xx)]))
    refine Done.step (fun _ => XS.iloadN X3.here hx rfl (hb hby d4_44) rfl) ?_
    show Done _ p e below s _ _ (T3.setTop (mkF m 45 #[oR xx, oR cA, oI (0 : Int32), oI (2 : Int32), .val .null, oR bU] [(.int (2 : Int32)), (.ref bU), (.ref xx)]))
    refine Done.callSP X3 hx hZ hown (wAt hw 114 rfl) (wAt hw 115 rfl) (wAt hw 90 rfl) (wAt hw 116 rfl) (by decide) (uc_20 l Z a0 hw [] bU ku (own_by c0) (own_by c1) T3.heap n0 Zs3 VU) rfl (g := (mkF m 45 #[oR xx, oR cA, oI (0 : Int32), oI (2 : Int32), .val .null, oR bU] [(.int (2 : Int32)), (.ref bU), (.ref xx)])) rfl (by rw [hml]; rfl) [(.ref bU), (.int (2 : Int32))] [(.ref xx)] 1 (lenOf pd_7 rfl) rfl rfl (by show 2 * 0 + _ ≤ _; exact Nat.le_of_eq rfl) (hb hby d4_45) (by decide) (by decide) (by decide) (by decide) rfl rfl ?_
    intro T4 X4 e4
    show Done _ p e below s _ _ (T4.setTop (mkF m 48 #[oR xx, oR cA, oI (0 : Int32), oI (2 : Int32), .val .null, oR bU] [(.int (0 : Int32)), (.ref xx)]))
    have f6 := (Fc.keep K3q nin0)
    have f7 := (Ex.keep K3q)
    obtain ⟨T5, h5, X5, e5, W5, st5⟩ := putFN X4 hx hZ hown (wAt hw 30 rfl) Via.refl e4 f6 f7 (Or.inr ⟨(wAt hw 26 rfl), rfl, hnm⟩) (wAt hw 10 rfl) (ty := .byte) (v' := (.int (nar .byte (0 : Int32)))) (by decide) rfl (fits_nar_byte _) (g := (mkF m 48 #[oR xx, oR cA, oI (0 : Int32), oI (2 : Int32), .val .null, oR bU] [(.int (0 : Int32)), (.ref xx)])) rfl rfl (hb hby d4_48)
    have F5 := f6.same W5
    have N5 := Fr.snoc X5 N3 gx
    have Zs5 := Nat.le_trans Zs3 (Keep.of_wr W5).1
    have K5 := K3.wr W5 (Or.inl (List.mem_of_getElem? (i := 0) rfl))
    refine Done.step st5 ?_
    show Done _ p e below s _ _ (T5.setTop (mkF m 51 #[oR xx, oR cA, oI (0 : Int32), oI (2 : Int32), .val .null, oR bU] []))
    refine Done.step (fun _ => XS.aloadN X5.here hx rfl (hb hby d4_51) rfl rfl) ?_
    show Done _ p e below s _ _ (T5.setTop (mkF m 52 #[oR xx, oR cA, oI (0 : Int32), oI (2 : Int32), .val .null, oR bU] [(.ref xx)]))
    refine Done.step (fun _ => XS.aload X5.here hx rfl (hb hby d4_52) rfl rfl) ?_
    show Done _ p e below s _ _ (T5.setTop (mkF m 54 #[oR xx, oR cA, oI (0 : Int32), oI (2 : Int32), .val .null, oR bU] [(.ref bU), (.ref xx)]))
    have f9 := ((Fv.keep K3q nin0).other W5 (Or.inr (slot_ne (Or.inr (wAt hw 25 rfl)) (Or.inr (wAt hw 26 rfl)) (by decide) (t := (.array .byte)) (t' := .byte) (by decide) (by decide))))
    have f10 := (f7.wr W5)
    obtain ⟨T8, h8, X8, e8, W8, st8⟩ := putF X5 hx hZ hown (host := "") (Or.inl (wAt hw 29 rfl)) Via.refl e5 f9 f10 (Or.inr ⟨(wAt hw 25 rfl), rfl, hnm⟩) (wAt hw 10 rfl) (ty := (.array .byte)) (by decide) rfl rfl (g := (mkF m 54 #[oR xx, oR cA, oI (0 : Int32), oI (2 : Int32), .val .null, oR bU] [(.ref bU), (.ref xx)])) rfl rfl (hb hby d4_54)
    have F8 := f9.same W8
    have N8 := Fr.snoc X8 N5 gx
    have Zs8 := Nat.le_trans Zs5 (Keep.of_wr W8).1
    have K8 := K5.wr W8 (Or.inl (List.mem_of_getElem? (i := 0) rfl))
    refine Done.step st8 ?_
    show Done _ p e below s _ _ (T8.setTop (mkF m 57 #[oR xx, oR cA, oI (0 : Int32), oI (2 : Int32), .val .null, oR bU] []))
    have f11 := (f10.wr W8)
    have f12 := (F5.other W8 (Or.inr (slot_ne (Or.inr (wAt hw 26 rfl)) (Or.inr (wAt hw 25 rfl)) (by decide) (t := .byte) (t' := (.array .byte)) (by decide) (by decide))))
    have f13 := ((VU.other W5 nbx).other W8 nbx)
    refine Done.retV (leavesF X8 hlk (by decide) (by decide)) X8 hx hret (hb hby d4_57) ?_
    rw [e8]
    exact ⟨rfl, N8, K8, bU, ku, szu, f11, F8, Or.inl ⟨hsm, f12, f13⟩⟩
  · show Done _ p e below s _ _ (T3.setTop (mkF m 39 #[oR xx, oR cA, oI (0 : Int32), oI (2 : Int32), .val .null, .unset] [(.ref bU)]))
    refine Done.step (fun _ => XS.astore X3.here hx rfl (hb hby d4_39) rfl rfl (l' := #[oR xx, oR cA, oI (0 : Int32), oI (2 : Int32), .val .null, oR bU]) rfl) ?_
    show Done _ p e below s _ _ (T3.setTop (mkF m 41 #[oR xx, oR cA, oI (0 : Int32), oI (2 : Int32), .val .null, oR bU] []))
    refine Done.step (fun _ => XS.aloadN X3.here hx rfl (hb hby d4_41) rfl rfl) ?_
    show Done _ p e below s _ _ (T3.setTop (mkF m 42 #[oR xx, oR cA, oI (0 : Int32), oI (2 : Int32), .val .null, oR bU] [(.ref xx)]))
    refine Done.step (fun _ => XS.aload X3.here hx rfl (hb hby d4_42) rfl rfl) ?_
    show Done _ p e below s _ _ (T3.setTop (mkF m 44 #[oR xx, oR cA, oI (0 : Int32), oI (2 : Int32), .val .null, oR bU] [(.ref bU), (.ref xx)]))
    refine Done.step (fun _ => XS.iloadN X3.here hx rfl (hb hby d4_44) rfl) ?_
    show Done _ p e below s _ _ (T3.setTop (mkF m 45 #[oR xx, oR cA, oI (0 : Int32), oI (2 : Int32), .val .null, oR bU] [(.int (2 : Int32)), (.ref bU), (.ref xx)]))
    refine Done.callSP X3 hx hZ hown (wAt hw 114 rfl) (wAt hw 115 rfl) (wAt hw 90 rfl) (wAt hw 116 rfl) (by decide) (uc_21 l Z a0 hw [] bU ku (own_hi c0) (own_lo c0) (own_hi c1) (own_lo c1) T3.heap n0 Zs3 VU) rfl (g := (mkF m 45 #[oR xx, oR cA, oI (0 : Int32), oI (2 : Int32), .val .null, oR bU] [(.int (2 : Int32)), (.ref bU), (.ref xx)])) rfl (by rw [hml]; rfl) [(.ref bU), (.int (2 : Int32))] [(.ref xx)] 1 (lenOf pd_7 rfl) rfl rfl (by show 2 * 0 + _ ≤ _; exact Nat.le_of_eq rfl) (hb hby d4_45) (by decide) (by decide) (by decide) (by decide) rfl rfl ?_
    intro T14 X14 e14
    show Done _ p e below s _ _ (T14.setTop (mkF m 48 #[oR xx, oR cA, oI (0 : Int32), oI (2 : Int32), .val .null, oR bU] [(.int (1 : Int32)), (.ref xx)]))
    have f16 := (Fc.keep K3q nin0)
    have f17 := (Ex.keep K3q)
    obtain ⟨T15, h15, X15, e15, W15, st15⟩ := putFN X14 hx hZ hown (wAt hw 30 rfl) Via.refl e14 f16 f17 (Or.inr ⟨(wAt hw 26 rfl), rfl, hnm⟩) (wAt hw 10 rfl) (ty := .byte) (v' := (.int (nar .byte (1 : Int32)))) (by decide) rfl (fits_nar_byte _) (g := (mkF m 48 #[oR xx, oR cA, oI (0 : Int32), oI (2 : Int32), .val .null, oR bU] [(.int (1 : Int32)), (.ref xx)])) rfl rfl (hb hby d4_48)
    have F15 := f16.same W15
    have N15 := Fr.snoc X15 N3 gx
    have Zs15 := Nat.le_trans Zs3 (Keep.of_wr W15).1
    have K15 := K3.wr W15 (Or.inl (List.mem_of_getElem? (i := 0) rfl))
    refine Done.step st15 ?_
    show Done _ p e below s _ _ (T15.setTop (mkF m 51 #[oR xx, oR cA, oI (0 : Int32), oI (2 : Int32), .val .null, oR bU] []))
    refine Done.step (fun _ => XS.aloadN X15.here hx rfl (hb hby d4_51) rfl rfl) ?_
    show Done _ p e below s _ _ (T15.setTop (mkF m 52 #[oR xx, oR cA, oI (0 : Int32), oI (2 : Int32), .val .null, oR bU] [(.ref xx)]))
    refine Done.step (fun _ => XS.aload X15.here hx rfl (hb hby d4_52) rfl rfl) ?_
    show Done _ p e below s _ _ (T15.setTop (mkF m 54 #[oR xx, oR cA, oI (0 : Int32), oI (2 : Int32), .val .null, oR bU] [(.ref bU), (.ref xx)]))
    have f19 := ((Fv.keep K3q nin0).other W15 (Or.inr (slot_ne (Or.inr (wAt hw 25 rfl)) (Or.inr (wAt hw 26 rfl)) (by decide) (t := (.array .byte)) (t' := .byte) (by decide) (by decide))))
    have f20 := (f17.wr W15)
    obtain ⟨T18, h18, X18, e18, W18, st18⟩ := putF X15 hx hZ hown (host := "") (Or.inl (wAt hw 29 rfl)) Via.refl e15 f19 f20 (Or.inr ⟨(wAt hw 25 rfl), rfl, hnm⟩) (wAt hw 10 rfl) (ty := (.array .byte)) (by decide) rfl rfl (g := (mkF m 54 #[oR xx, oR cA, oI (0 : Int32), oI (2 : Int32), .val .null, oR bU] [(.ref bU), (.ref xx)])) rfl rfl (hb hby d4_54)
    have F18 := f19.same W18
    have N18 := Fr.snoc X18 N15 gx
    have Zs18 := Nat.le_trans Zs15 (Keep.of_wr W18).1
    have K18 := K15.wr W18 (Or.inl (List.mem_of_getElem? (i := 0) rfl))
    refine Done.step st18 ?_
    show Done _ p e below s _ _ (T18.setTop (mkF m 57 #[oR xx, oR cA, oI (0 : Int32), oI (2 : Int32), .val .null, oR bU] []))
    have f21 := (f20.wr W18)
    have f22 := (F15.other W18 (Or.inr (slot_ne (Or.inr (wAt hw 26 rfl)) (Or.inr (wAt hw 25 rfl)) (by decide) (t := .byte) (t' := (.array .byte)) (by decide) (by decide))))
    have f23 := ((VU.other W15 nbx).other W18 nbx)
    refine Done.retV (leavesF X18 hlk (by decide) (by decide)) X18 hx hret (hb hby d4_57) ?_
    rw [e18]
    exact ⟨rfl, N18, K18, bU, ku, szu, f21, F18, Or.inr ⟨hsm, f22, f23⟩⟩
set_option maxRecDepth 65536 in
set_option maxHeartbeats 40000000 in
theorem un_2 (l : Launch) (Z : State) (a0 : Array Value) (hw : ∀ d ∈ tables_1, d.before a0 Z = true) (ws : List Jvm.Cond) (xx cA : Addr) (kc : ClassId) (c0 c1 : Int32) (z : Int32) (h0 : Heap) (n0 : Nat) (Z0 : n0 ≤ h0.size) (Ex : Exa Z h0 xx "java/lang/String") (Fv : Fld Z h0 xx "java/lang/String" "value" "[B" .null) (Fc : Fld Z h0 xx "java/lang/String" "coder" "B" (.int (0 : Int32))) (gx : n0 ≤ xx) (O0 : Old Z n0 h0) (SC : Sta Z Z.heap "java/lang/String" "COMPACT_STRINGS" "Z" (.int z)) (hz : ¬ z = 0) (SA : Sta Z Z.heap "java/lang/StringUTF16" "$assertionsDisabled" "Z" (.int (1 : Int32))) (SH : Sta Z Z.heap "java/lang/StringUTF16" "HI_BYTE_SHIFT" "I" (.int (0 : Int32))) (SL : Sta Z Z.heap "java/lang/StringUTF16" "LO_BYTE_SHIFT" "I" (.int (8 : Int32))) (VA : Arv Z h0 cA kc .char (2 : Int32) [(.int c0), (.int c1)] (.int (0 : Int32))) (ncx : cA ≠ xx) (hb0 : ¬ c0 < 0 ∧ ¬ (65535 : Int32) < c0) (hb1 : ¬ c1 < 0 ∧ ¬ (65535 : Int32) < c1) :
    Ctr FrameEnd l Z (⟨"java/lang/String", "<init>", "([C)V"⟩ : MethodName) jdk_42_method_3_code 2 none ws ({ frames := 5, cells := 2, slots := 6, locals := 87 } : Room) #[(.ref xx), (.ref cA)] h0 TrueV (fun v h _ L => v = none ∧ Fr n0 L ∧ Keep h0 h [xx] ∧ ∃ (b : Addr) (kb : ClassId), h0.size ≤ b ∧ Exa Z h xx "java/lang/String" ∧ Fld Z h xx "java/lang/String" "value" "[B" (.ref b) ∧ (((¬ (255 : Int32) < c0 ∧ ¬ (255 : Int32) < c1) ∧ Fld Z h xx "java/lang/String" "coder" "B" (.int (0 : Int32)) ∧ Arv Z h b kb .byte (2 : Int32) [(.int (own_by c0)), (.int (own_by c1))] (.int (0 : Int32))) ∨ (¬ (¬ (255 : Int32) < c0 ∧ ¬ (255 : Int32) < c1) ∧ Fld Z h xx "java/lang/String" "coder" "B" (.int (1 : Int32)) ∧ Arv Z h b kb .byte (4 : Int32) [(.int (own_hi c0)), (.int (own_lo c0)), (.int (own_hi c1)), (.int (own_lo c1))] (.int (0 : Int32))))) := by
  refine Ctr.intro (plainFor_of_name pn_java_lang_String) (Ls := #[.val (.ref xx), .val (.ref cA)]) (fun m => by first | (simp [entryFrame, mkF, argsToLocals, Value.category]; done) | rfl) ?_
  intro p e s m below meth c T0 hx hby hml hown hnm hret hlk hZ hV hsh e0 X0
  have N0 := Fr.nil n0
  show Done _ p e below s _ _ (T0.setTop (mkF m 0 #[oR xx, oR cA] []))
  refine Done.step (fun _ => XS.aloadN X0.here hx rfl (hb hby d3_0) rfl rfl) ?_
  show Done _ p e below s _ _ (T0.setTop (mkF m 1 #[oR xx, oR cA] [(.ref xx)]))
  refine Done.step (fun _ => XS.aloadN X0.here hx rfl (hb hby d3_1) rfl rfl) ?_
  show Done _ p e below s _ _ (T0.setTop (mkF m 2 #[oR xx, oR cA] [(.ref cA), (.ref xx)]))
  refine Done.step (fun _ => XT.iconstV X0.here hx rfl (0 : Int32) (hb hby d3_2) (by decide)) ?_
  show Done _ p e below s _ _ (T0.setTop (mkF m 3 #[oR xx, oR cA] [(.int (0 : Int32)), (.ref cA), (.ref xx)]))
  refine Done.step (fun _ => XS.aloadN X0.here hx rfl (hb hby d3_3) rfl rfl) ?_
  show Done _ p e below s _ _ (T0.setTop (mkF m 4 #[oR xx, oR cA] [(.ref cA), (.int (0 : Int32)), (.ref cA), (.ref xx)]))
  obtain ⟨cl1, Ar1, q1, S1, Nn1, H1, G1⟩ := id VA
  refine Done.step (X0.arraylength hx (by first | exact Ar1.1 | (rw [e0]; exact Ar1.1)) (State.isArrayOf_alike hZ.alike Ar1.2.1) (g := (mkF m 4 #[oR xx, oR cA] [(.ref cA), (.int (0 : Int32)), (.ref cA), (.ref xx)])) rfl rfl (hb hby d3_4)) ?_
  rw [len_of S1 Nn1]
  show Done _ p e below s _ _ (T0.setTop (mkF m 5 #[oR xx, oR cA] [(.int (2 : Int32)), (.int (0 : Int32)), (.ref cA), (.ref xx)]))
  refine Done.step (fun _ => XS.aconstNull X0.here hx rfl (hb hby d3_5)) ?_
  show Done _ p e below s _ _ (T0.setTop (mkF m 6 #[oR xx, oR cA] [.null, (.int (2 : Int32)), (.int (0 : Int32)), (.ref cA), (.ref xx)]))
  refine Done.callI X0 hx hZ rfl hown (wAt hw 16 rfl) (wAt hw 17 rfl) (wAt hw 11 rfl) (wAt hw 19 rfl) (by decide) (u4_2 l Z a0 hw [] xx cA kc c0 c1 z h0 n0 Z0 Ex Fv Fc gx O0 SC hz SA SH SL VA ncx hb0 hb1) (fun _ _ => trivial) e0 (g := (mkF m 6 #[oR xx, oR cA] [.null, (.int (2 : Int32)), (.int (0 : Int32)), (.ref cA), (.ref xx)])) rfl (by rw [hml]; rfl) xx [(.ref cA), (.int (0 : Int32)), (.int (2 : Int32)), .null] [] 0 (lenOf pd_0 rfl) rfl rfl (by show 2 * 0 + _ ≤ _; exact Nat.le_of_eq rfl) (hb hby d3_6) (by decide) (by decide) (by decide) (by decide) ?_
  intro T2 v2 L2 X2 q2
  obtain ⟨rfl, Nq2, K2q, bU, ku, szu, Eq2, Vq2, q2⟩ := q2
  have N2 := Fr.app N0 Nq2
  show Done _ p e below s _ _ (T2.setTop (mkF m 9 #[oR xx, oR cA] []))
  exact Done.retV (leavesF X2 hlk (by decide) (by decide)) X2 hx hret (hb hby d3_9) ⟨rfl, N2, K2q, bU, ku, szu, Eq2, Vq2, q2⟩
def Q5_4 (Z : State) (n0 : Nat) (h0 : Heap) (bA : Addr) (kb : ClassId) (c0 c1 c2 c3 : Int32) (v : Option Value) (h : Heap) (_ : Vm) (L : List Loc) : Prop := Fr n0 L ∧ Keep h0 h [bA] ∧ ((v = some (.int (4 : Int32)) ∧ (¬ (255 : Int32) < c0 ∧ ¬ (255 : Int32) < c1 ∧ ¬ (255 : Int32) < c2 ∧ ¬ (255 : Int32) < c3) ∧ Arv Z h bA kb .byte (4 : Int32) [(.int (own_by c0)), (.int (own_by c1)), (.int (own_by c2)), (.int (own_by c3))] (.int (0 : Int32))) ∨ (v = some (.int (0 : Int32)) ∧ (255 : Int32) < c0) ∨ (v = some (.int (1 : Int32)) ∧ (255 : Int32) < c1) ∨ (v = some (.int (2 : Int32)) ∧ (255 : Int32) < c2) ∨ (v = some (.int (3 : Int32)) ∧ (255 : Int32) < c3))
set_option maxRecDepth 65536 in
set_option maxHeartbeats 40000000 in
theorem u5_4 (l : Launch) (Z : State) (a0 : Array Value) (hw : ∀ d ∈ tables_1, d.before a0 Z = true) (ws : List Jvm.Cond) (cA bA : Addr) (kc kb : ClassId) (c0 c1 c2 c3 : Int32) (h0 : Heap) (n0 : Nat) (Z0 : n0 ≤ h0.size) (VA : Arv Z h0 cA kc .char (4 : Int32) [(.int c0), (.int c1), (.int c2), (.int c3)] (.int (0 : Int32))) (VB : Arv Z h0 bA kb .byte (4 : Int32) [(.int (0 : Int32)), (.int (0 : Int32)), (.int (0 : Int32)), (.int (0 : Int32))] (.int (0 : Int32))) (gb : n0 ≤ bA) (nab : cA ≠ bA) :
    Ctr FrameEnd l Z (⟨"java/lang/StringUTF16", "compress", "([CI[BII)I"⟩ : MethodName) jdk_52_method_21_code 7 (some .int) ws ({ frames := 0, cells := 0, slots := 0, locals := 0 } : Room) #[(.ref cA), (.int (0 : Int32)), (.ref bA), (.int (0 : Int32)), (.int (4 : Int32))] h0 TrueV (Q5_4 Z n0 h0 bA kb c0 c1 c2 c3) := by
  refine Ctr.intro (plainFor_of_name pn_java_lang_StringUTF16) (Ls := #[.val (.ref cA), .val (.int (0 : Int32)), .val (.ref bA), .val (.int (0 : Int32)), .val (.int (4 : Int32)), .unset, .unset]) (fun m => by first | (simp [entryFrame, mkF, argsToLocals, Value.category]; done) | rfl) ?_
  intro p e s m below meth c T0 hx hby hml hown hnm hret hlk hZ hV hsh e0 X0
  have N0 := Fr.nil n0
  show Done _ p e below s _ _ (T0.setTop (mkF m 0 #[oR cA, oI (0 : Int32), oR bA, oI (0 : Int32), oI (4 : Int32), .unset, .unset] []))
  refine Done.step (fun _ => XT.iconstV X0.here hx rfl (0 : Int32) (hb hby d21_0) (by decide)) ?_
  show Done _ p e below s _ _ (T0.setTop (mkF m 1 #[oR cA, oI (0 : Int32), oR bA, oI (0 : Int32), oI (4 : Int32), .unset, .unset] [(.int (0 : Int32))]))
  refine Done.step (fun _ => XS.istore X0.here hx rfl (hb hby d21_1) rfl (l' := #[oR cA, oI (0 : Int32), oR bA, oI (0 : Int32), oI (4 : Int32), oI (0 : Int32), .unset]) rfl) ?_
  show Done _ p e below s _ _ (T0.setTop (mkF m 3 #[oR cA, oI (0 : Int32), oR bA, oI (0 : Int32), oI (4 : Int32), oI (0 : Int32), .unset] []))
  refine Done.step (fun _ => XS.iload X0.here hx rfl (hb hby d21_3) rfl) ?_
  show Done _ p e below s _ _ (T0.setTop (mkF m 5 #[oR cA, oI (0 : Int32), oR bA, oI (0 : Int32), oI (4 : Int32), oI (0 : Int32), .unset] [(.int (0 : Int32))]))
  refine Done.step (fun _ => XS.iload X0.here hx rfl (hb hby d21_5) rfl) ?_
  show Done _ p e below s _ _ (T0.setTop (mkF m 7 #[oR cA, oI (0 : Int32), oR bA, oI (0 : Int32), oI (4 : Int32), oI (0 : Int32), .unset] [(.int (4 : Int32)), (.int (0 : Int32))]))
  refine Done.step (fun _ => XS.icmpNo X0.here hx rfl (hb hby d21_7) rfl (XT.ii_ge_f (by decide))) ?_
  show Done _ p e below s _ _ (T0.setTop (mkF m 10 #[oR cA, oI (0 : Int32), oR bA, oI (0 : Int32), oI (4 : Int32), oI (0 : Int32), .unset] []))
  refine Done.step (fun _ => XS.aloadN X0.here hx rfl (hb hby d21_10) rfl rfl) ?_
  show Done _ p e below s _ _ (T0.setTop (mkF m 11 #[oR cA, oI (0 : Int32), oR bA, oI (0 : Int32), oI (4 : Int32), oI (0 : Int32), .unset] [(.ref cA)]))
  refine Done.step (fun _ => XS.iloadN X0.here hx rfl (hb hby d21_11) rfl) ?_
  show Done _ p e below s _ _ (T0.setTop (mkF m 12 #[oR cA, oI (0 : Int32), oR bA, oI (0 : Int32), oI (4 : Int32), oI (0 : Int32), .unset] [(.int (0 : Int32)), (.ref cA)]))
  obtain ⟨cl1, Ar1, q1, S1, Nn1, H1, G1⟩ := id VA
  have hin1 : ¬ ((0 : Int32) < 0 ∨ cl1.slots.size ≤ ((0 : Int32)).toNatClampNeg) := inb_of S1 ⟨by decide, by decide⟩
  have hat1 := Has.at H1 hin1 (v := (.int c0)) rfl
  refine Done.step (X0.caload hx (j := (0 : Int32)) (v := (.int c0)) (by first | exact Ar1.1 | (rw [e0]; exact Ar1.1)) (State.isArrayOf_alike hZ.alike Ar1.2.1) Ar1.2.2 hin1 hat1 (g := (mkF m 12 #[oR cA, oI (0 : Int32), oR bA, oI (0 : Int32), oI (4 : Int32), oI (0 : Int32), .unset] [(.int (0 : Int32)), (.ref cA)])) rfl rfl (hb hby d21_12)) ?_
  show Done _ p e below s _ _ (T0.setTop (mkF m 13 #[oR cA, oI (0 : Int32), oR bA, oI (0 : Int32), oI (4 : Int32), oI (0 : Int32), .unset] [(.int c0)]))
  refine Done.step (fun _ => XS.istore X0.here hx rfl (hb hby d21_13) rfl (l' := #[oR cA, oI (0 : Int32), oR bA, oI (0 : Int32), oI (4 : Int32), oI (0 : Int32), oI c0]) rfl) ?_
  show Done _ p e below s _ _ (T0.setTop (mkF m 15 #[oR cA, oI (0 : Int32), oR bA, oI (0 : Int32), oI (4 : Int32), oI (0 : Int32), oI c0] []))
  refine Done.step (fun _ => XS.iload X0.here hx rfl (hb hby d21_15) rfl) ?_
  show Done _ p e below s _ _ (T0.setTop (mkF m 17 #[oR cA, oI (0 : Int32), oR bA, oI (0 : Int32), oI (4 : Int32), oI (0 : Int32), oI c0] [(.int c0)]))
  refine Done.step (fun _ => XT.sipushV X0.here hx rfl (255 : Int32) (hb hby d21_17) (by decide)) ?_
  show Done _ p e below s _ _ (T0.setTop (mkF m 20 #[oR cA, oI (0 : Int32), oR bA, oI (0 : Int32), oI (4 : Int32), oI (0 : Int32), oI c0] [(.int (255 : Int32)), (.int c0)]))
  by_cases hc2 : (255 : Int32) < c0
  · refine Done.step (fun _ => XS.icmpNo X0.here hx rfl (hb hby d21_20) rfl (XT.ii_le_f hc2)) ?_
    show Done _ p e below s _ _ (T0.setTop (mkF m 23 #[oR cA, oI (0 : Int32), oR bA, oI (0 : Int32), oI (4 : Int32), oI (0 : Int32), oI c0] []))
    refine Done.step (fun _ => XS.iload X0.here hx rfl (hb hby d21_23) rfl) ?_
    show Done _ p e below s _ _ (T0.setTop (mkF m 25 #[oR cA, oI (0 : Int32), oR bA, oI (0 : Int32), oI (4 : Int32), oI (0 : Int32), oI c0] [(.int (0 : Int32))]))
    refine Done.retI (leavesF X0 hlk (by decide) (by decide)) X0 hx hret (hb hby d21_25) ?_
    rw [e0]
    exact ⟨N0, (Keep.refl h0 [bA]), Or.inr (Or.inl ⟨rfl, hc2⟩)⟩
  · refine Done.step (fun _ => XS.icmpYes X0.here hx rfl (pc0 := 20) (pc' := 26) rfl (hb hby d21_20) rfl (XT.ii_le_t hc2) (by decide) (by decide)) ?_
    show Done _ p e below s _ _ (T0.setTop (mkF m 26 #[oR cA, oI (0 : Int32), oR bA, oI (0 : Int32), oI (4 : Int32), oI (0 : Int32), oI c0] []))
    refine Done.step (fun _ => XS.aloadN X0.here hx rfl (hb hby d21_26) rfl rfl) ?_
    show Done _ p e below s _ _ (T0.setTop (mkF m 27 #[oR cA, oI (0 : Int32), oR bA, oI (0 : Int32), oI (4 : Int32), oI (0 : Int32), oI c0] [(.ref bA)]))
    refine Done.step (fun _ => XS.iloadN X0.here hx rfl (hb hby d21_27) rfl) ?_
    show Done _ p e below s _ _ (T0.setTop (mkF m 28 #[oR cA, oI (0 : Int32), oR bA, oI (0 : Int32), oI (4 : Int32), oI (0 : Int32), oI c0] [(.int (0 : Int32)), (.ref bA)]))
    refine Done.step (fun _ => XS.iload X0.here hx rfl (hb hby d21_28) rfl) ?_
    show Done _ p e below s _ _ (T0.setTop (mkF m 30 #[oR cA, oI (0 : Int32), oR bA, oI (0 : Int32), oI (4 : Int32), oI (0 : Int32), oI c0] [(.int c0), (.int (0 : Int32)), (.ref bA)]))
    refine Done.step (fun _ => XT.i2b X0.here hx rfl (hb hby d21_30) rfl) ?_
    show Done _ p e below s _ _ (T0.setTop (mkF m 31 #[oR cA, oI (0 : Int32), oR bA, oI (0 : Int32), oI (4 : Int32), oI (0 : Int32), oI c0] [(.int (c0.toInt8.toInt32)), (.int (0 : Int32)), (.ref bA)]))
    obtain ⟨cl3, Ar3, q3, S3, Nn3, H3, G3⟩ := id VB
    have hin3 : ¬ ((0 : Int32) < 0 ∨ cl3.slots.size ≤ ((0 : Int32)).toNatClampNeg) := inb_of S3 ⟨by decide, by decide⟩
    obtain ⟨T3, h3, X3, e3, W3, st3⟩ := stB X0 hx hZ e0 Ar3 (j := (0 : Int32)) hin3 (g := (mkF m 31 #[oR cA, oI (0 : Int32), oR bA, oI (0 : Int32), oI (4 : Int32), oI (0 : Int32), oI c0] [(.int (c0.toInt8.toInt32)), (.int (0 : Int32)), (.ref bA)])) rfl rfl (hb hby d21_31)
    have V3 := Arv.set Ar3 q3 S3 Nn3 H3 G3 (fits_nar_byte _) W3 0 rfl (Nat.le_of_ble_eq_true rfl)
    have N3 := Fr.snoc X3 N0 gb
    have Zs3 := Nat.le_trans Z0 (Keep.of_wr W3).1
    have K3 := (Keep.refl h0 [bA]).wr W3 (Or.inl (List.mem_of_getElem? (i := 0) rfl))
    refine Done.step st3 ?_
    show Done _ p e below s _ _ (T3.setTop (mkF m 32 #[oR cA, oI (0 : Int32), oR bA, oI (0 : Int32), oI (4 : Int32), oI (0 : Int32), oI c0] []))
    refine Done.step (fun _ => XS.iinc X3.here hx rfl (hb hby d21_32) rfl (l' := #[oR cA, oI (1 : Int32), oR bA, oI (0 : Int32), oI (4 : Int32), oI (0 : Int32), oI c0]) rfl) ?_
    show Done _ p e below s _ _ (T3.setTop (mkF m 35 #[oR cA, oI (1 : Int32), oR bA, oI (0 : Int32), oI (4 : Int32), oI (0 : Int32), oI c0] []))
    refine Done.step (fun _ => XS.iinc X3.here hx rfl (hb hby d21_35) rfl (l' := #[oR cA, oI (1 : Int32), oR bA, oI (1 : Int32), oI (4 : Int32), oI (0 : Int32), oI c0]) rfl) ?_
    show Done _ p e below s _ _ (T3.setTop (mkF m 38 #[oR cA, oI (1 : Int32), oR bA, oI (1 : Int32), oI (4 : Int32), oI (0 : Int32), oI c0] []))
    refine Done.step (fun _ => XS.iinc X3.here hx rfl (hb hby d21_38) rfl (l' := #[oR cA, oI (1 : Int32), oR bA, oI (1 : Int32), oI (4 : Int32), oI (1 : Int32), oI c0]) rfl) ?_
    show Done _ p e below s _ _ (T3.setTop (mkF m 41 #[oR cA, oI (1 : Int32), oR bA, oI (1 : Int32), oI (4 : Int32), oI (1 : Int32), oI c0] []))
    refine Done.step (fun _ => XS.goto X3.here hx rfl (pc0 := 41) (pc' := 3) rfl (hb hby d21_41) (by decide) (by decide)) ?_
    show Done _ p e below s _ _ (T3.setTop (mkF m 3 #[oR cA, oI (1 : Int32), oR bA, oI (1 : Int32), oI (4 : Int32), oI (1 : Int32), oI c0] []))
    refine Done.step (fun _ => XS.iload X3.here hx rfl (hb hby d21_3) rfl) ?_
    show Done _ p e below s _ _ (T3.setTop (mkF m 5 #[oR cA, oI (1 : Int32), oR bA, oI (1 : Int32), oI (4 : Int32), oI (1 : Int32), oI c0] [(.int (1 : Int32))]))
    refine Done.step (fun _ => XS.iload X3.here hx rfl (hb hby d21_5) rfl) ?_
    show Done _ p e below s _ _ (T3.setTop (mkF m 7 #[oR cA, oI (1 : Int32), oR bA, oI (1 : Int32), oI (4 : Int32), oI (1 : Int32), oI c0] [(.int (4 : Int32)), (.int (1 : Int32))]))
    refine Done.step (fun _ => XS.icmpNo X3.here hx rfl (hb hby d21_7) rfl (XT.ii_ge_f (by decide))) ?_
    show Done _ p e below s _ _ (T3.setTop (mkF m 10 #[oR cA, oI (1 : Int32), oR bA, oI (1 : Int32), oI (4 : Int32), oI (1 : Int32), oI c0] []))
    refine Done.step (fun _ => XS.aloadN X3.here hx rfl (hb hby d21_10) rfl rfl) ?_
    show Done _ p e below s _ _ (T3.setTop (mkF m 11 #[oR cA, oI (1 : Int32), oR bA, oI (1 : Int32), oI (4 : Int32), oI (1 : Int32), oI c0] [(.ref cA)]))
    refine Done.step (fun _ => XS.iloadN X3.here hx rfl (hb hby d21_11) rfl) ?_
    show Done _ p e below s _ _ (T3.setTop (mkF m 12 #[oR cA, oI (1 : Int32), oR bA, oI (1 : Int32), oI (4 : Int32), oI (1 : Int32), oI c0] [(.int (1 : Int32)), (.ref cA)]))
    have f5 := (VA.other W3 nab)
    obtain ⟨cl4, Ar4, q4, S4, Nn4, H4, G4⟩ := id f5
    have hin4 : ¬ ((1 : Int32) < 0 ∨ cl4.slots.size ≤ ((1 : Int32)).toNatClampNeg) := inb_of S4 ⟨by decide, by decide⟩
    have hat4 := Has.at H4 hin4 (v := (.int c1)) rfl
    refine Done.step (X3.caload hx (j := (1 : Int32)) (v := (.int c1)) (by first | exact Ar4.1 | (rw [e3]; exact Ar4.1)) (State.isArrayOf_alike hZ.alike Ar4.2.1) Ar4.2.2 hin4 hat4 (g := (mkF m 12 #[oR cA, oI (1 : Int32), oR bA, oI (1 : Int32), oI (4 : Int32), oI (1 : Int32), oI c0] [(.int (1 : Int32)), (.ref cA)])) rfl rfl (hb hby d21_12)) ?_
    show Done _ p e below s _ _ (T3.setTop (mkF m 13 #[oR cA, oI (1 : Int32), oR bA, oI (1 : Int32), oI (4 : Int32), oI (1 : Int32), oI c0] [(.int c1)]))
    refine Done.step (fun _ => XS.istore X3.here hx rfl (hb hby d21_13) rfl (l' := #[oR cA, oI (1 : Int32), oR bA, oI (1 : Int32), oI (4 : Int32), oI (1 : Int32), oI c1]) rfl) ?_
    show Done _ p e below s _ _ (T3.setTop (mkF m 15 #[oR cA, oI (1 : Int32), oR bA, oI (1 : Int32), oI (4 : Int32), oI (1 : Int32), oI c1] []))
    refine Done.step (fun _ => XS.iload X3.here hx rfl (hb hby d21_15) rfl) ?_
    show Done _ p e below s _ _ (T3.setTop (mkF m 17 #[oR cA, oI (1 : Int32), oR bA, oI (1 : Int32), oI (4 : Int32), oI (1 : Int32), oI c1] [(.int c1)]))
    refine Done.step (fun _ => XT.sipushV X3.here hx rfl (255 : Int32) (hb hby d21_17) (by decide)) ?_
    show Done _ p e below s _ _ (T3.setTop (mkF m 20 #[oR cA, oI (1 : Int32), oR bA, oI (1 : Int32), oI (4 : Int32), oI (1 : Int32), oI c1] [(.int (255 : Int32)), (.int c1)]))
    by_cases hc6 : (255 : Int32) < c1
    · refine Done.step (fun _ => XS.icmpNo X3.here hx rfl (hb hby d21_20) rfl (XT.ii_le_f hc6)) ?_
      show Done _ p e below s _ _ (T3.setTop (mkF m 23 #[oR cA, oI (1 : Int32), oR bA, oI (1 : Int32), oI (4 : Int32), oI (1 : Int32), oI c1] []))
      refine Done.step (fun _ => XS.iload X3.here hx rfl (hb hby d21_23) rfl) ?_
      show Done _ p e below s _ _ (T3.setTop (mkF m 25 #[oR cA, oI (1 : Int32), oR bA, oI (1 : Int32), oI (4 : Int32), oI (1 : Int32), oI c1] [(.int (1 : Int32))]))
      refine Done.retI (leavesF X3 hlk (by decide) (by decide)) X3 hx hret (hb hby d21_25) ?_
      rw [e3]
      exact ⟨N3, K3, Or.inr (Or.inr (Or.inl ⟨rfl, hc6⟩))⟩
    · refine Done.step (fun _ => XS.icmpYes X3.here hx rfl (pc0 := 20) (pc' := 26) rfl (hb hby d21_20) rfl (XT.ii_le_t hc6) (by decide) (by decide)) ?_
      show Done _ p e below s _ _ (T3.setTop (mkF m 26 #[oR cA, oI (1 : Int32), oR bA, oI (1 : Int32), oI (4 : Int32), oI (1 : Int32), oI c1] []))
      refine Done.step (fun _ => XS.aloadN X3.here hx rfl (hb hby d21_26) rfl rfl) ?_
      show Done _ p e below s _ _ (T3.setTop (mkF m 27 #[oR cA, oI (1 : Int32), oR bA, oI (1 : Int32), oI (4 : Int32), oI (1 : Int32), oI c1] [(.ref bA)]))
      refine Done.step (fun _ => XS.iloadN X3.here hx rfl (hb hby d21_27) rfl) ?_
      show Done _ p e below s _ _ (T3.setTop (mkF m 28 #[oR cA, oI (1 : Int32), oR bA, oI (1 : Int32), oI (4 : Int32), oI (1 : Int32), oI c1] [(.int (1 : Int32)), (.ref bA)]))
      refine Done.step (fun _ => XS.iload X3.here hx rfl (hb hby d21_28) rfl) ?_
      show Done _ p e below s _ _ (T3.setTop (mkF m 30 #[oR cA, oI (1 : Int32), oR bA, oI (1 : Int32), oI (4 : Int32), oI (1 : Int32), oI c1] [(.int c1), (.int (1 : Int32)), (.ref bA)]))
      refine Done.step (fun _ => XT.i2b X3.here hx rfl (hb hby d21_30) rfl) ?_
      show Done _ p e below s _ _ (T3.setTop (mkF m 31 #[oR cA, oI (1 : Int32), oR bA, oI (1 : Int32), oI (4 : Int32), oI (1 : Int32), oI c1] [(.int (c1.toInt8.toInt32)), (.int (1 : Int32)), (.ref bA)]))
      obtain ⟨cl7, Ar7, q7, S7, Nn7, H7, G7⟩ := id V3
      have hin7 : ¬ ((1 : Int32) < 0 ∨ cl7.slots.size ≤ ((1 : Int32)).toNatClampNeg) := inb_of S7 ⟨by decide, by decide⟩
      obtain ⟨T7, h7, X7, e7, W7, st7⟩ := stB X3 hx hZ e3 Ar7 (j := (1 : Int32)) hin7 (g := (mkF m 31 #[oR cA, oI (1 : Int32), oR bA, oI (1 : Int32), oI (4 : Int32), oI (1 : Int32), oI c1] [(.int (c1.toInt8.toInt32)), (.int (1 : Int32)), (.ref bA)])) rfl rfl (hb hby d21_31)
      have V7 := Arv.set Ar7 q7 S7 Nn7 H7 G7 (fits_nar_byte _) W7 1 rfl (Nat.le_of_ble_eq_true rfl)
      have N7 := Fr.snoc X7 N3 gb
      have Zs7 := Nat.le_trans Zs3 (Keep.of_wr W7).1
      have K7 := K3.wr W7 (Or.inl (List.mem_of_getElem? (i := 0) rfl))
      refine Done.step st7 ?_
      show Done _ p e below s _ _ (T7.setTop (mkF m 32 #[oR cA, oI (1 : Int32), oR bA, oI (1 : Int32), oI (4 : Int32), oI (1 : Int32), oI c1] []))
      refine Done.step (fun _ => XS.iinc X7.here hx rfl (hb hby d21_32) rfl (l' := #[oR cA, oI (2 : Int32), oR bA, oI (1 : Int32), oI (4 : Int32), oI (1 : Int32), oI c1]) rfl) ?_
      show Done _ p e below s _ _ (T7.setTop (mkF m 35 #[oR cA, oI (2 : Int32), oR bA, oI (1 : Int32), oI (4 : Int32), oI (1 : Int32), oI c1] []))
      refine Done.step (fun _ => XS.iinc X7.here hx rfl (hb hby d21_35) rfl (l' := #[oR cA, oI (2 : Int32), oR bA, oI (2 : Int32), oI (4 : Int32), oI (1 : Int32), oI c1]) rfl) ?_
      show Done _ p e below s _ _ (T7.setTop (mkF m 38 #[oR cA, oI (2 : Int32), oR bA, oI (2 : Int32), oI (4 : Int32), oI (1 : Int32), oI c1] []))
      refine Done.step (fun _ => XS.iinc X7.here hx rfl (hb hby d21_38) rfl (l' := #[oR cA, oI (2 : Int32), oR bA, oI (2 : Int32), oI (4 : Int32), oI (2 : Int32), oI c1]) rfl) ?_
      show Done _ p e below s _ _ (T7.setTop (mkF m 41 #[oR cA, oI (2 : Int32), oR bA, oI (2 : Int32), oI (4 : Int32), oI (2 : Int32), oI c1] []))
      refine Done.step (fun _ => XS.goto X7.here hx rfl (pc0 := 41) (pc' := 3) rfl (hb hby d21_41) (by decide) (by decide)) ?_
      show Done _ p e below s _ _ (T7.setTop (mkF m 3 #[oR cA, oI (2 : Int32), oR bA, oI (2 : Int32), oI (4 : Int32), oI (2 : Int32), oI c1] []))
      refine Done.step (fun _ => XS.iload X7.here hx rfl (hb hby d21_3) rfl) ?_
      show Done _ p e below s _ _ (T7.setTop (mkF m 5 #[oR cA, oI (2 : Int32), oR bA, oI (2 : Int32), oI (4 : Int32), oI (2 : Int32), oI c1] [(.int (2 : Int32))]))
      refine Done.step (fun _ => XS.iload X7.here hx rfl (hb hby d21_5) rfl) ?_
      show Done _ p e below s _ _ (T7.setTop (mkF m 7 #[oR cA, oI (2 : Int32), oR bA, oI (2 : Int32), oI (4 : Int32), oI (2 : Int32), oI c1] [(.int (4 : Int32)), (.int (2 : Int32))]))
      refine Done.step (fun _ => XS.icmpNo X7.here hx rfl (hb hby d21_7) rfl (XT.ii_ge_f (by decide))) ?_
      show Done _ p e below s _ _ (T7.setTop (mkF m 10 #[oR cA, oI (2 : Int32), oR bA, oI (2 : Int32), oI (4 : Int32), oI (2 : Int32), oI c1] []))
      refine Done.step (fun _ => XS.aloadN X7.here hx rfl (hb hby d21_10) rfl rfl) ?_
      show Done _ p e below s _ _ (T7.setTop (mkF m 11 #[oR cA, oI (2 : Int32), oR bA, oI (2 : Int32), oI (4 : Int32), oI (2 : Int32), oI c1] [(.ref cA)]))
      refine Done.step (fun _ => XS.iloadN X7.here hx rfl (hb hby d21_11) rfl) ?_
      show Done _ p e below s _ _ (T7.setTop (mkF m 12 #[oR cA, oI (2 : Int32), oR bA, oI (2 : Int32), oI (4 : Int32), oI (2 : Int32), oI c1] [(.int (2 : Int32)), (.ref cA)]))
      have f9 := (f5.other W7 nab)
      obtain ⟨cl8, Ar8, q8, S8, Nn8, H8, G8⟩ := id f9
      have hin8 : ¬ ((2 : Int32) < 0 ∨ cl8.slots.size ≤ ((2 : Int32)).toNatClampNeg) := inb_of S8 ⟨by decide, by decide⟩
      have hat8 := Has.at H8 hin8 (v := (.int c2)) rfl
      refine Done.step (X7.caload hx (j := (2 : Int32)) (v := (.int c2)) (by first | exact Ar8.1 | (rw [e7]; exact Ar8.1)) (State.isArrayOf_alike hZ.alike Ar8.2.1) Ar8.2.2 hin8 hat8 (g := (mkF m 12 #[oR cA, oI (2 : Int32), oR bA, oI (2 : Int32), oI (4 : Int32), oI (2 : Int32), oI c1] [(.int (2 : Int32)), (.ref cA)])) rfl rfl (hb hby d21_12)) ?_
      show Done _ p e below s _ _ (T7.setTop (mkF m 13 #[oR cA, oI (2 : Int32), oR bA, oI (2 : Int32), oI (4 : Int32), oI (2 : Int32), oI c1] [(.int c2)]))
      refine Done.step (fun _ => XS.istore X7.here hx rfl (hb hby d21_13) rfl (l' := #[oR cA, oI (2 : Int32), oR bA, oI (2 : Int32), oI (4 : Int32), oI (2 : Int32), oI c2]) rfl) ?_
      show Done _ p e below s _ _ (T7.setTop (mkF m 15 #[oR cA, oI (2 : Int32), oR bA, oI (2 : Int32), oI (4 : Int32), oI (2 : Int32), oI c2] []))
      refine Done.step (fun _ => XS.iload X7.here hx rfl (hb hby d21_15) rfl) ?_
      show Done _ p e below s _ _ (T7.setTop (mkF m 17 #[oR cA, oI (2 : Int32), oR bA, oI (2 : Int32), oI (4 : Int32), oI (2 : Int32), oI c2] [(.int c2)]))
      refine Done.step (fun _ => XT.sipushV X7.here hx rfl (255 : Int32) (hb hby d21_17) (by decide)) ?_
      show Done _ p e below s _ _ (T7.setTop (mkF m 20 #[oR cA, oI (2 : Int32), oR bA, oI (2 : Int32), oI (4 : Int32), oI (2 : Int32), oI c2] [(.int (255 : Int32)), (.int c2)]))
      by_cases hc10 : (255 : Int32) < c2
      · refine Done.step (fun _ => XS.icmpNo X7.here hx rfl (hb hby d21_20) rfl (XT.ii_le_f hc10)) ?_
        show Done _ p e below s _ _ (T7.setTop (mkF m 23 #[oR cA, oI (2 : Int32), oR bA, oI (2 : Int32), oI (4 : Int32), oI (2 : Int32), oI c2] []))
        refine Done.step (fun _ => XS.iload X7.here hx rfl (hb hby d21_23) rfl) ?_
        show Done _ p e below s _ _ (T7.setTop (mkF m 25 #[oR cA, oI (2 : Int32), oR bA, oI (2 : Int32), oI (4 : Int32), oI (2 : Int32), oI c2] [(.int (2 : Int32))]))
        refine Done.retI (leavesF X7 hlk (by decide) (by decide)) X7 hx hret (hb hby d21_25) ?_
        rw [e7]
        exact ⟨N7, K7, Or.inr (Or.inr (Or.inr (Or.inl ⟨rfl, hc10⟩)))⟩
      · refine Done.step (fun _ => XS.icmpYes X7.here hx rfl (pc0 := 20) (pc' := 26) rfl (hb hby d21_20) rfl (XT.ii_le_t hc10) (by decide) (by decide)) ?_
        show Done _ p e below s _ _ (T7.setTop (mkF m 26 #[oR cA, oI (2 : Int32), oR bA, oI (2 : Int32), oI (4 : Int32), oI (2 : Int32), oI c2] []))
        refine Done.step (fun _ => XS.aloadN X7.here hx rfl (hb hby d21_26) rfl rfl) ?_
        show Done _ p e below s _ _ (T7.setTop (mkF m 27 #[oR cA, oI (2 : Int32), oR bA, oI (2 : Int32), oI (4 : Int32), oI (2 : Int32), oI c2] [(.ref bA)]))
        refine Done.step (fun _ => XS.iloadN X7.here hx rfl (hb hby d21_27) rfl) ?_
        show Done _ p e below s _ _ (T7.setTop (mkF m 28 #[oR cA, oI (2 : Int32), oR bA, oI (2 : Int32), oI (4 : Int32), oI (2 : Int32), oI c2] [(.int (2 : Int32)), (.ref bA)]))
        refine Done.step (fun _ => XS.iload X7.here hx rfl (hb hby d21_28) rfl) ?_
        show Done _ p e below s _ _ (T7.setTop (mkF m 30 #[oR cA, oI (2 : Int32), oR bA, oI (2 : Int32), oI (4 : Int32), oI (2 : Int32), oI c2] [(.int c2), (.int (2 : Int32)), (.ref bA)]))
        refine Done.step (fun _ => XT.i2b X7.here hx rfl (hb hby d21_30) rfl) ?_
        show Done _ p e below s _ _ (T7.setTop (mkF m 31 #[oR cA, oI (2 : Int32), oR bA, oI (2 : Int32), oI (4 : Int32), oI (2 : Int32), oI c2] [(.int (c2.toInt8.toInt32)), (.int (2 : Int32)), (.ref bA)]))
        obtain ⟨cl11, Ar11, q11, S11, Nn11, H11, G11⟩ := id V7
        have hin11 : ¬ ((2 : Int32) < 0 ∨ cl11.slots.size ≤ ((2 : Int32)).toNatClampNeg) := inb_of S11 ⟨by decide, by decide⟩
        obtain ⟨T11, h11, X11, e11, W11, st11⟩ := stB X7 hx hZ e7 Ar11 (j := (2 : Int32)) hin11 (g := (mkF m 31 #[oR cA, oI (2 : Int32), oR bA, oI (2 : Int32), oI (4 : Int32), oI (2 : Int32), oI c2] [(.int (c2.toInt8.toInt32)), (.int (2 : Int32)), (.ref bA)])) rfl rfl (hb hby d21_31)
        have V11 := Arv.set Ar11 q11 S11 Nn11 H11 G11 (fits_nar_byte _) W11 2 rfl (Nat.le_of_ble_eq_true rfl)
        have N11 := Fr.snoc X11 N7 gb
        have Zs11 := Nat.le_trans Zs7 (Keep.of_wr W11).1
        have K11 := K7.wr W11 (Or.inl (List.mem_of_getElem? (i := 0) rfl))
        refine Done.step st11 ?_
        show Done _ p e below s _ _ (T11.setTop (mkF m 32 #[oR cA, oI (2 : Int32), oR bA, oI (2 : Int32), oI (4 : Int32), oI (2 : Int32), oI c2] []))
        refine Done.step (fun _ => XS.iinc X11.here hx rfl (hb hby d21_32) rfl (l' := #[oR cA, oI (3 : Int32), oR bA, oI (2 : Int32), oI (4 : Int32), oI (2 : Int32), oI c2]) rfl) ?_
        show Done _ p e below s _ _ (T11.setTop (mkF m 35 #[oR cA, oI (3 : Int32), oR bA, oI (2 : Int32), oI (4 : Int32), oI (2 : Int32), oI c2] []))
        refine Done.step (fun _ => XS.iinc X11.here hx rfl (hb hby d21_35) rfl (l' := #[oR cA, oI (3 : Int32), oR bA, oI (3 : Int32), oI (4 : Int32), oI (2 : Int32), oI c2]) rfl) ?_
        show Done _ p e below s _ _ (T11.setTop (mkF m 38 #[oR cA, oI (3 : Int32), oR bA, oI (3 : Int32), oI (4 : Int32), oI (2 : Int32), oI c2] []))
        refine Done.step (fun _ => XS.iinc X11.here hx rfl (hb hby d21_38) rfl (l' := #[oR cA, oI (3 : Int32), oR bA, oI (3 : Int32), oI (4 : Int32), oI (3 : Int32), oI c2]) rfl) ?_
        show Done _ p e below s _ _ (T11.setTop (mkF m 41 #[oR cA, oI (3 : Int32), oR bA, oI (3 : Int32), oI (4 : Int32), oI (3 : Int32), oI c2] []))
        refine Done.step (fun _ => XS.goto X11.here hx rfl (pc0 := 41) (pc' := 3) rfl (hb hby d21_41) (by decide) (by decide)) ?_
        show Done _ p e below s _ _ (T11.setTop (mkF m 3 #[oR cA, oI (3 : Int32), oR bA, oI (3 : Int32), oI (4 : Int32), oI (3 : Int32), oI c2] []))
        refine Done.step (fun _ => XS.iload X11.here hx rfl (hb hby d21_3) rfl) ?_
        show Done _ p e below s _ _ (T11.setTop (mkF m 5 #[oR cA, oI (3 : Int32), oR bA, oI (3 : Int32), oI (4 : Int32), oI (3 : Int32), oI c2] [(.int (3 : Int32))]))
        refine Done.step (fun _ => XS.iload X11.here hx rfl (hb hby d21_5) rfl) ?_
        show Done _ p e below s _ _ (T11.setTop (mkF m 7 #[oR cA, oI (3 : Int32), oR bA, oI (3 : Int32), oI (4 : Int32), oI (3 : Int32), oI c2] [(.int (4 : Int32)), (.int (3 : Int32))]))
        refine Done.step (fun _ => XS.icmpNo X11.here hx rfl (hb hby d21_7) rfl (XT.ii_ge_f (by decide))) ?_
        show Done _ p e below s _ _ (T11.setTop (mkF m 10 #[oR cA, oI (3 : Int32), oR bA, oI (3 : Int32), oI (4 : Int32), oI (3 : Int32), oI c2] []))
        refine Done.step (fun _ => XS.aloadN X11.here hx rfl (hb hby d21_10) rfl rfl) ?_
        show Done _ p e below s _ _ (T11.setTop (mkF m 11 #[oR cA, oI (3 : Int32), oR bA, oI (3 : Int32), oI (4 : Int32), oI (3 : Int32), oI c2] [(.ref cA)]))
        refine Done.step (fun _ => XS.iloadN X11.here hx rfl (hb hby d21_11) rfl) ?_
        show Done _ p e below s _ _ (T11.setTop (mkF m 12 #[oR cA, oI (3 : Int32), oR bA, oI (3 : Int32), oI (4 : Int32), oI (3 : Int32), oI c2] [(.int (3 : Int32)), (.ref cA)]))
        have f13 := (f9.other W11 nab)
        obtain ⟨cl12, Ar12, q12, S12, Nn12, H12, G12⟩ := id f13
        have hin12 : ¬ ((3 : Int32) < 0 ∨ cl12.slots.size ≤ ((3 : Int32)).toNatClampNeg) := inb_of S12 ⟨by decide, by decide⟩
        have hat12 := Has.at H12 hin12 (v := (.int c3)) rfl
        refine Done.step (X11.caload hx (j := (3 : Int32)) (v := (.int c3)) (by first | exact Ar12.1 | (rw [e11]; exact Ar12.1)) (State.isArrayOf_alike hZ.alike Ar12.2.1) Ar12.2.2 hin12 hat12 (g := (mkF m 12 #[oR cA, oI (3 : Int32), oR bA, oI (3 : Int32), oI (4 : Int32), oI (3 : Int32), oI c2] [(.int (3 : Int32)), (.ref cA)])) rfl rfl (hb hby d21_12)) ?_
        show Done _ p e below s _ _ (T11.setTop (mkF m 13 #[oR cA, oI (3 : Int32), oR bA, oI (3 : Int32), oI (4 : Int32), oI (3 : Int32), oI c2] [(.int c3)]))
        refine Done.step (fun _ => XS.istore X11.here hx rfl (hb hby d21_13) rfl (l' := #[oR cA, oI (3 : Int32), oR bA, oI (3 : Int32), oI (4 : Int32), oI (3 : Int32), oI c3]) rfl) ?_
        show Done _ p e below s _ _ (T11.setTop (mkF m 15 #[oR cA, oI (3 : Int32), oR bA, oI (3 : Int32), oI (4 : Int32), oI (3 : Int32), oI c3] []))
        refine Done.step (fun _ => XS.iload X11.here hx rfl (hb hby d21_15) rfl) ?_
        show Done _ p e below s _ _ (T11.setTop (mkF m 17 #[oR cA, oI (3 : Int32), oR bA, oI (3 : Int32), oI (4 : Int32), oI (3 : Int32), oI c3] [(.int c3)]))
        refine Done.step (fun _ => XT.sipushV X11.here hx rfl (255 : Int32) (hb hby d21_17) (by decide)) ?_
        show Done _ p e below s _ _ (T11.setTop (mkF m 20 #[oR cA, oI (3 : Int32), oR bA, oI (3 : Int32), oI (4 : Int32), oI (3 : Int32), oI c3] [(.int (255 : Int32)), (.int c3)]))
        by_cases hc14 : (255 : Int32) < c3
        · refine Done.step (fun _ => XS.icmpNo X11.here hx rfl (hb hby d21_20) rfl (XT.ii_le_f hc14)) ?_
          show Done _ p e below s _ _ (T11.setTop (mkF m 23 #[oR cA, oI (3 : Int32), oR bA, oI (3 : Int32), oI (4 : Int32), oI (3 : Int32), oI c3] []))
          refine Done.step (fun _ => XS.iload X11.here hx rfl (hb hby d21_23) rfl) ?_
          show Done _ p e below s _ _ (T11.setTop (mkF m 25 #[oR cA, oI (3 : Int32), oR bA, oI (3 : Int32), oI (4 : Int32), oI (3 : Int32), oI c3] [(.int (3 : Int32))]))
          refine Done.retI (leavesF X11 hlk (by decide) (by decide)) X11 hx hret (hb hby d21_25) ?_
          rw [e11]
          exact ⟨N11, K11, Or.inr (Or.inr (Or.inr (Or.inr ⟨rfl, hc14⟩)))⟩
        · refine Done.step (fun _ => XS.icmpYes X11.here hx rfl (pc0 := 20) (pc' := 26) rfl (hb hby d21_20) rfl (XT.ii_le_t hc14) (by decide) (by decide)) ?_
          show Done _ p e below s _ _ (T11.setTop (mkF m 26 #[oR cA, oI (3 : Int32), oR bA, oI (3 : Int32), oI (4 : Int32), oI (3 : Int32), oI c3] []))
          refine Done.step (fun _ => XS.aloadN X11.here hx rfl (hb hby d21_26) rfl rfl) ?_
          show Done _ p e below s _ _ (T11.setTop (mkF m 27 #[oR cA, oI (3 : Int32), oR bA, oI (3 : Int32), oI (4 : Int32), oI (3 : Int32), oI c3] [(.ref bA)]))
          refine Done.step (fun _ => XS.iloadN X11.here hx rfl (hb hby d21_27) rfl) ?_
          show Done _ p e below s _ _ (T11.setTop (mkF m 28 #[oR cA, oI (3 : Int32), oR bA, oI (3 : Int32), oI (4 : Int32), oI (3 : Int32), oI c3] [(.int (3 : Int32)), (.ref bA)]))
          refine Done.step (fun _ => XS.iload X11.here hx rfl (hb hby d21_28) rfl) ?_
          show Done _ p e below s _ _ (T11.setTop (mkF m 30 #[oR cA, oI (3 : Int32), oR bA, oI (3 : Int32), oI (4 : Int32), oI (3 : Int32), oI c3] [(.int c3), (.int (3 : Int32)), (.ref bA)]))
          refine Done.step (fun _ => XT.i2b X11.here hx rfl (hb hby d21_30) rfl) ?_
          show Done _ p e below s _ _ (T11.setTop (mkF m 31 #[oR cA, oI (3 : Int32), oR bA, oI (3 : Int32), oI (4 : Int32), oI (3 : Int32), oI c3] [(.int (c3.toInt8.toInt32)), (.int (3 : Int32)), (.ref bA)]))
          obtain ⟨cl15, Ar15, q15, S15, Nn15, H15, G15⟩ := id V11
          have hin15 : ¬ ((3 : Int32) < 0 ∨ cl15.slots.size ≤ ((3 : Int32)).toNatClampNeg) := inb_of S15 ⟨by decide, by decide⟩
          obtain ⟨T15, h15, X15, e15, W15, st15⟩ := stB X11 hx hZ e11 Ar15 (j := (3 : Int32)) hin15 (g := (mkF m 31 #[oR cA, oI (3 : Int32), oR bA, oI (3 : Int32), oI (4 : Int32), oI (3 : Int32), oI c3] [(.int (c3.toInt8.toInt32)), (.int (3 : Int32)), (.ref bA)])) rfl rfl (hb hby d21_31)
          have V15 := Arv.set Ar15 q15 S15 Nn15 H15 G15 (fits_nar_byte _) W15 3 rfl (Nat.le_of_ble_eq_true rfl)
          have N15 := Fr.snoc X15 N11 gb
          have Zs15 := Nat.le_trans Zs11 (Keep.of_wr W15).1
          have K15 := K11.wr W15 (Or.inl (List.mem_of_getElem? (i := 0) rfl))
          refine Done.step st15 ?_
          show Done _ p e below s _ _ (T15.setTop (mkF m 32 #[oR cA, oI (3 : Int32), oR bA, oI (3 : Int32), oI (4 : Int32), oI (3 : Int32), oI c3] []))
          refine Done.step (fun _ => XS.iinc X15.here hx rfl (hb hby d21_32) rfl (l' := #[oR cA, oI (4 : Int32), oR bA, oI (3 : Int32), oI (4 : Int32), oI (3 : Int32), oI c3]) rfl) ?_
          show Done _ p e below s _ _ (T15.setTop (mkF m 35 #[oR cA, oI (4 : Int32), oR bA, oI (3 : Int32), oI (4 : Int32), oI (3 : Int32), oI c3] []))
          refine Done.step (fun _ => XS.iinc X15.here hx rfl (hb hby d21_35) rfl (l' := #[oR cA, oI (4 : Int32), oR bA, oI (4 : Int32), oI (4 : Int32), oI (3 : Int32), oI c3]) rfl) ?_
          show Done _ p e below s _ _ (T15.setTop (mkF m 38 #[oR cA, oI (4 : Int32), oR bA, oI (4 : Int32), oI (4 : Int32), oI (3 : Int32), oI c3] []))
          refine Done.step (fun _ => XS.iinc X15.here hx rfl (hb hby d21_38) rfl (l' := #[oR cA, oI (4 : Int32), oR bA, oI (4 : Int32), oI (4 : Int32), oI (4 : Int32), oI c3]) rfl) ?_
          show Done _ p e below s _ _ (T15.setTop (mkF m 41 #[oR cA, oI (4 : Int32), oR bA, oI (4 : Int32), oI (4 : Int32), oI (4 : Int32), oI c3] []))
          refine Done.step (fun _ => XS.goto X15.here hx rfl (pc0 := 41) (pc' := 3) rfl (hb hby d21_41) (by decide) (by decide)) ?_
          show Done _ p e below s _ _ (T15.setTop (mkF m 3 #[oR cA, oI (4 : Int32), oR bA, oI (4 : Int32), oI (4 : Int32), oI (4 : Int32), oI c3] []))
          refine Done.step (fun _ => XS.iload X15.here hx rfl (hb hby d21_3) rfl) ?_
          show Done _ p e below s _ _ (T15.setTop (mkF m 5 #[oR cA, oI (4 : Int32), oR bA, oI (4 : Int32), oI (4 : Int32), oI (4 : Int32), oI c3] [(.int (4 : Int32))]))
          refine Done.step (fun _ => XS.iload X15.here hx rfl (hb hby d21_5) rfl) ?_
          show Done _ p e below s _ _ (T15.setTop (mkF m 7 #[oR cA, oI (4 : Int32), oR bA, oI (4 : Int32), oI (4 : Int32), oI (4 : Int32), oI c3] [(.int (4 : Int32)), (.int (4 : Int32))]))
          refine Done.step (fun _ => XS.icmpYes X15.here hx rfl (pc0 := 7) (pc' := 44) rfl (hb hby d21_7) rfl (XT.ii_ge_t (by decide)) (by decide) (by decide)) ?_
          show Done _ p e below s _ _ (T15.setTop (mkF m 44 #[oR cA, oI (4 : Int32), oR bA, oI (4 : Int32), oI (4 : Int32), oI (4 : Int32), oI c3] []))
          refine Done.step (fun _ => XS.iload X15.here hx rfl (hb hby d21_44) rfl) ?_
          show Done _ p e below s _ _ (T15.setTop (mkF m 46 #[oR cA, oI (4 : Int32), oR bA, oI (4 : Int32), oI (4 : Int32), oI (4 : Int32), oI c3] [(.int (4 : Int32))]))
          refine Done.retI (leavesF X15 hlk (by decide) (by decide)) X15 hx hret (hb hby d21_46) ?_
          rw [e15]
          exact ⟨N15, K15, Or.inl ⟨rfl, ⟨hc2, hc6, hc10, hc14⟩, V15⟩⟩
set_option maxRecDepth 65536 in
set_option maxHeartbeats 40000000 in
theorem ul_4 (l : Launch) (Z : State) (a0 : Array Value) (hw : ∀ d ∈ tables_1, d.before a0 Z = true) (ws : List Jvm.Cond)  (h0 : Heap) (n0 : Nat) (Z0 : n0 ≤ h0.size)  :
    Ctr FrameEnd l Z (⟨"java/lang/StringUTF16", "newBytesLength", "(I)I"⟩ : MethodName) jdk_52_method_3_code 1 (some .int) ws ({ frames := 0, cells := 0, slots := 0, locals := 0 } : Room) #[(.int (4 : Int32))] h0 TrueV (PureQ (some (.int (8 : Int32))) h0) := by
  refine Ctr.intro (plainFor_of_name pn_java_lang_StringUTF16) (Ls := #[.val (.int (4 : Int32))]) (fun m => by first | (simp [entryFrame, mkF, argsToLocals, Value.category]; done) | rfl) ?_
  intro p e s m below meth c T0 hx hby hml hown hnm hret hlk hZ hV hsh e0 X0
  have N0 := Fr.nil n0
  show Done _ p e below s _ _ (T0.setTop (mkF m 0 #[oI (4 : Int32)] []))
  refine Done.step (fun _ => XS.iloadN X0.here hx rfl (hb hby d24_0) rfl) ?_
  show Done _ p e below s _ _ (T0.setTop (mkF m 1 #[oI (4 : Int32)] [(.int (4 : Int32))]))
  refine Done.step (fun _ => XS.ifYes X0.here hx rfl (pc0 := 1) (pc' := 12) rfl (hb hby d24_1) rfl (XT.i0_ge_t (by decide)) (by decide) (by decide)) ?_
  show Done _ p e below s _ _ (T0.setTop (mkF m 12 #[oI (4 : Int32)] []))
  refine Done.step (fun _ => XS.iloadN X0.here hx rfl (hb hby d24_12) rfl) ?_
  show Done _ p e below s _ _ (T0.setTop (mkF m 13 #[oI (4 : Int32)] [(.int (4 : Int32))]))
  refine Done.step (fun _ => Stand.ldcI X0 hx hown (mvT hZ (wAt hw 104 rfl)) (g := (mkF m 13 #[oI (4 : Int32)] [(.int (4 : Int32))])) rfl (hb hby d24_13)) ?_
  show Done _ p e below s _ _ (T0.setTop (mkF m 15 #[oI (4 : Int32)] [(.int (1073741823 : Int32)), (.int (4 : Int32))]))
  refine Done.step (fun _ => XS.icmpYes X0.here hx rfl (pc0 := 15) (pc' := 55) rfl (hb hby d24_15) rfl (XT.ii_lt_t (by decide)) (by decide) (by decide)) ?_
  show Done _ p e below s _ _ (T0.setTop (mkF m 55 #[oI (4 : Int32)] []))
  refine Done.step (fun _ => XS.iloadN X0.here hx rfl (hb hby d24_55) rfl) ?_
  show Done _ p e below s _ _ (T0.setTop (mkF m 56 #[oI (4 : Int32)] [(.int (4 : Int32))]))
  refine Done.step (fun _ => XT.iconstV X0.here hx rfl (1 : Int32) (hb hby d24_56) (by decide)) ?_
  show Done _ p e below s _ _ (T0.setTop (mkF m 57 #[oI (4 : Int32)] [(.int (1 : Int32)), (.int (4 : Int32))]))
  refine Done.step (fun _ => XT.ishl X0.here hx rfl (hb hby d24_57) rfl) ?_
  show Done _ p e below s _ _ (T0.setTop (mkF m 58 #[oI (4 : Int32)] [(.int (8 : Int32))]))
  exact Done.retI (leavesF X0 hlk (by decide) (by decide)) X0 hx hret (hb hby d24_58) ⟨rfl, e0, rfl⟩
set_option maxRecDepth 65536 in
set_option maxHeartbeats 40000000 in
theorem uf_4 (l : Launch) (Z : State) (a0 : Array Value) (hw : ∀ d ∈ tables_1, d.before a0 Z = true) (ws : List Jvm.Cond)  (h0 : Heap) (n0 : Nat) (Z0 : n0 ≤ h0.size)  :
    Ctr FrameEnd l Z (⟨"java/lang/StringUTF16", "newBytesFor", "(I)[B"⟩ : MethodName) jdk_52_method_2_code 1 (some (.array .byte)) ws ({ frames := 1, cells := 1, slots := 8, locals := 12 } : Room) #[(.int (4 : Int32))] h0 TrueV (fun v h _ L => ∃ (b : Addr) (kb : ClassId), v = some (.ref b) ∧ Fr n0 L ∧ Keep h0 h [] ∧ h0.size ≤ b ∧ Arv Z h b kb .byte (8 : Int32) [(.int (0 : Int32)), (.int (0 : Int32)), (.int (0 : Int32)), (.int (0 : Int32)), (.int (0 : Int32)), (.int (0 : Int32)), (.int (0 : Int32)), (.int (0 : Int32))] (.int (0 : Int32))) := by
  refine Ctr.intro (plainFor_of_name pn_java_lang_StringUTF16) (Ls := #[.val (.int (4 : Int32))]) (fun m => by first | (simp [entryFrame, mkF, argsToLocals, Value.category]; done) | rfl) ?_
  intro p e s m below meth c T0 hx hby hml hown hnm hret hlk hZ hV hsh e0 X0
  have N0 := Fr.nil n0
  show Done _ p e below s _ _ (T0.setTop (mkF m 0 #[oI (4 : Int32)] []))
  refine Done.step (fun _ => XS.iloadN X0.here hx rfl (hb hby d23_0) rfl) ?_
  show Done _ p e below s _ _ (T0.setTop (mkF m 1 #[oI (4 : Int32)] [(.int (4 : Int32))]))
  refine Done.callSP X0 hx hZ hown (wAt hw 101 rfl) (wAt hw 102 rfl) (wAt hw 90 rfl) (wAt hw 103 rfl) (by decide) (ul_4 l Z a0 hw [] h0 n0 Z0) e0 (g := (mkF m 1 #[oI (4 : Int32)] [(.int (4 : Int32))])) rfl (by rw [hml]; rfl) [(.int (4 : Int32))] [] 0 (lenOf pd_1 rfl) rfl rfl (by show 2 * 0 + _ ≤ _; exact Nat.le_of_eq rfl) (hb hby d23_1) (by decide) (by decide) (by decide) (by decide) rfl rfl ?_
  intro T1 X1 e1
  show Done _ p e below s _ _ (T1.setTop (mkF m 4 #[oI (4 : Int32)] [(.int (8 : Int32))]))
  obtain ⟨T2, h2, k2, X2, e2, E2, A2, st2⟩ := newP X1 hx hZ (wAt hw 24 rfl) e1 (g := (mkF m 4 #[oI (4 : Int32)] [(.int (8 : Int32))])) rfl (hb hby d23_4) rfl (by decide) (cap := 8) (by decide) (by decide) (by decide) (by decide)
  obtain ⟨b2, g2⟩ : ∃ z, z = h0.size := ⟨_, rfl⟩
  rw [← g2] at A2 st2
  have n0_b2 : n0 ≤ b2 := by rw [g2]; exact Z0
  have sz_b2 : h0.size ≤ b2 := by rw [g2]; exact (Keep.refl h0 []).1
  have K2 := (Keep.refl h0 []).ext E2
  have Zs2 := Nat.le_trans Z0 E2.1
  have V_b2 : Arv Z h2 b2 k2 .byte (8 : Int32) [(.int (0 : Int32)), (.int (0 : Int32)), (.int (0 : Int32)), (.int (0 : Int32)), (.int (0 : Int32)), (.int (0 : Int32)), (.int (0 : Int32)), (.int (0 : Int32))] (.int (0 : Int32)) := (Arv.new A2 (by decide)).pad (pad_rep [] (.int (0 : Int32)) 8)
  refine Done.step st2 ?_
  show Done _ p e below s _ _ (T2.setTop (mkF m 6 #[oI (4 : Int32)] [(.ref b2)]))
  refine Done.retA (leavesF X2 hlk (by decide) (by decide)) X2 hx hret rfl rfl (hb hby d23_6) ?_
  rw [e2]
  exact ⟨b2, k2, rfl, N0, K2, sz_b2, V_b2⟩
set_option maxRecDepth 65536 in
set_option maxHeartbeats 40000000 in
theorem up_40 (l : Launch) (Z : State) (a0 : Array Value) (hw : ∀ d ∈ tables_1, d.before a0 Z = true) (ws : List Jvm.Cond) (bA : Addr) (kb : ClassId) (p0 p1 p2 p3 p4 p5 p6 p7 cv : Int32) (h0 : Heap) (n0 : Nat) (Z0 : n0 ≤ h0.size) (O0 : Old Z n0 h0) (SA : Sta Z Z.heap "java/lang/StringUTF16" "$assertionsDisabled" "Z" (.int (1 : Int32))) (SH : Sta Z Z.heap "java/lang/StringUTF16" "HI_BYTE_SHIFT" "I" (.int (0 : Int32))) (SL : Sta Z Z.heap "java/lang/StringUTF16" "LO_BYTE_SHIFT" "I" (.int (8 : Int32))) (VB : Arv Z h0 bA kb .byte (8 : Int32) [(.int p0), (.int p1), (.int p2), (.int p3), (.int p4), (.int p5), (.int p6), (.int p7)] (.int (0 : Int32))) (gb : n0 ≤ bA) :
    Ctr FrameEnd l Z (⟨"java/lang/StringUTF16", "putChar", "([BII)V"⟩ : MethodName) jdk_52_method_4_code 3 none ws ({ frames := 0, cells := 0, slots := 0, locals := 0 } : Room) #[(.ref bA), (.int (0 : Int32)), (.int cv)] h0 TrueV (fun v h _ L => v = none ∧ Fr n0 L ∧ Keep h0 h [bA] ∧ Arv Z h bA kb .byte (8 : Int32) [(.int (own_hi cv)), (.int (own_lo cv)), (.int p2), (.int p3), (.int p4), (.int p5), (.int p6), (.int p7)] (.int (0 : Int32))) := by
  refine Ctr.intro (plainFor_of_name pn_java_lang_StringUTF16) (Ls := #[.val (.ref bA), .val (.int (0 : Int32)), .val (.int cv)]) (fun m => by first | (simp [entryFrame, mkF, argsToLocals, Value.category]; done) | rfl) ?_
  intro p e s m below meth c T0 hx hby hml hown hnm hret hlk hZ hV hsh e0 X0
  have N0 := Fr.nil n0
  show Done _ p e below s _ _ (T0.setTop (mkF m 0 #[oR bA, oI (0 : Int32), oI cv] []))
  obtain ⟨T1, X1, e1, st1⟩ := getS2 X0 hx hZ hown (host := "") (Or.inl (wAt hw 108 rfl)) Via.refl e0 (SA.ext O0.2) (g := (mkF m 0 #[oR bA, oI (0 : Int32), oI cv] [])) rfl (hb hby d25_0)
  refine Done.step st1 ?_
  show Done _ p e below s _ _ (T1.setTop (mkF m 3 #[oR bA, oI (0 : Int32), oI cv] [(.int (1 : Int32))]))
  refine Done.step (fun _ => XS.ifYes X1.here hx rfl (pc0 := 3) (pc' := 28) rfl (hb hby d25_3) rfl (XT.i0_ne_t (by decide)) (by decide) (by decide)) ?_
  show Done _ p e below s _ _ (T1.setTop (mkF m 28 #[oR bA, oI (0 : Int32), oI cv] []))
  refine Done.step (fun _ => XS.iloadN X1.here hx rfl (hb hby d25_28) rfl) ?_
  show Done _ p e below s _ _ (T1.setTop (mkF m 29 #[oR bA, oI (0 : Int32), oI cv] [(.int (0 : Int32))]))
  refine Done.step (fun _ => XT.iconstV X1.here hx rfl (1 : Int32) (hb hby d25_29) (by decide)) ?_
  show Done _ p e below s _ _ (T1.setTop (mkF m 30 #[oR bA, oI (0 : Int32), oI cv] [(.int (1 : Int32)), (.int (0 : Int32))]))
  refine Done.step (fun _ => XT.ishl X1.here hx rfl (hb hby d25_30) rfl) ?_
  show Done _ p e below s _ _ (T1.setTop (mkF m 31 #[oR bA, oI (0 : Int32), oI cv] [(.int (0 : Int32))]))
  refine Done.step (fun _ => XS.istoreN X1.here hx rfl (hb hby d25_31) rfl (l' := #[oR bA, oI (0 : Int32), oI cv]) rfl) ?_
  show Done _ p e below s _ _ (T1.setTop (mkF m 32 #[oR bA, oI (0 : Int32), oI cv] []))
  refine Done.step (fun _ => XS.aloadN X1.here hx rfl (hb hby d25_32) rfl rfl) ?_
  show Done _ p e below s _ _ (T1.setTop (mkF m 33 #[oR bA, oI (0 : Int32), oI cv] [(.ref bA)]))
  refine Done.step (fun _ => XS.iloadN X1.here hx rfl (hb hby d25_33) rfl) ?_
  show Done _ p e below s _ _ (T1.setTop (mkF m 34 #[oR bA, oI (0 : Int32), oI cv] [(.int (0 : Int32)), (.ref bA)]))
  refine Done.step (fun _ => XS.iinc X1.here hx rfl (hb hby d25_34) rfl (l' := #[oR bA, oI (1 : Int32), oI cv]) rfl) ?_
  show Done _ p e below s _ _ (T1.setTop (mkF m 37 #[oR bA, oI (1 : Int32), oI cv] [(.int (0 : Int32)), (.ref bA)]))
  refine Done.step (fun _ => XS.iloadN X1.here hx rfl (hb hby d25_37) rfl) ?_
  show Done _ p e below s _ _ (T1.setTop (mkF m 38 #[oR bA, oI (1 : Int32), oI cv] [(.int cv), (.int (0 : Int32)), (.ref bA)]))
  obtain ⟨T2, X2, e2, st2⟩ := getS2 X1 hx hZ hown (host := "") (Or.inl (wAt hw 109 rfl)) Via.refl e1 (SH.ext O0.2) (g := (mkF m 38 #[oR bA, oI (1 : Int32), oI cv] [(.int cv), (.int (0 : Int32)), (.ref bA)])) rfl (hb hby d25_38)
  refine Done.step st2 ?_
  show Done _ p e below s _ _ (T2.setTop (mkF m 41 #[oR bA, oI (1 : Int32), oI cv] [(.int (0 : Int32)), (.int cv), (.int (0 : Int32)), (.ref bA)]))
  refine Done.step (fun _ => XT.ishr X2.here hx rfl (hb hby d25_41) rfl) ?_
  show Done _ p e below s _ _ (T2.setTop (mkF m 42 #[oR bA, oI (1 : Int32), oI cv] [(.int (cv >>> ((0 : Int32) &&& 31))), (.int (0 : Int32)), (.ref bA)]))
  refine Done.step (fun _ => XT.i2b X2.here hx rfl (hb hby d25_42) rfl) ?_
  show Done _ p e below s _ _ (T2.setTop (mkF m 43 #[oR bA, oI (1 : Int32), oI cv] [(.int ((cv >>> ((0 : Int32) &&& 31)).toInt8.toInt32)), (.int (0 : Int32)), (.ref bA)]))
  obtain ⟨cl3, Ar3, q3, S3, Nn3, H3, G3⟩ := id VB
  have hin3 : ¬ ((0 : Int32) < 0 ∨ cl3.slots.size ≤ ((0 : Int32)).toNatClampNeg) := inb_of S3 ⟨by decide, by decide⟩
  obtain ⟨T3, h3, X3, e3, W3, st3⟩ := stB X2 hx hZ e2 Ar3 (j := (0 : Int32)) hin3 (g := (mkF m 43 #[oR bA, oI (1 : Int32), oI cv] [(.int ((cv >>> ((0 : Int32) &&& 31)).toInt8.toInt32)), (.int (0 : Int32)), (.ref bA)])) rfl rfl (hb hby d25_43)
  have V3 := Arv.set Ar3 q3 S3 Nn3 H3 G3 (fits_nar_byte _) W3 0 rfl (Nat.le_of_ble_eq_true rfl)
  have N3 := Fr.snoc X3 N0 gb
  have Zs3 := Nat.le_trans Z0 (Keep.of_wr W3).1
  have K3 := (Keep.refl h0 [bA]).wr W3 (Or.inl (List.mem_of_getElem? (i := 0) rfl))
  refine Done.step st3 ?_
  show Done _ p e below s _ _ (T3.setTop (mkF m 44 #[oR bA, oI (1 : Int32), oI cv] []))
  refine Done.step (fun _ => XS.aloadN X3.here hx rfl (hb hby d25_44) rfl rfl) ?_
  show Done _ p e below s _ _ (T3.setTop (mkF m 45 #[oR bA, oI (1 : Int32), oI cv] [(.ref bA)]))
  refine Done.step (fun _ => XS.iloadN X3.here hx rfl (hb hby d25_45) rfl) ?_
  show Done _ p e below s _ _ (T3.setTop (mkF m 46 #[oR bA, oI (1 : Int32), oI cv] [(.int (1 : Int32)), (.ref bA)]))
  refine Done.step (fun _ => XS.iloadN X3.here hx rfl (hb hby d25_46) rfl) ?_
  show Done _ p e below s _ _ (T3.setTop (mkF m 47 #[oR bA, oI (1 : Int32), oI cv] [(.int cv), (.int (1 : Int32)), (.ref bA)]))
  have f5 := (O0.wr W3 gb)
  obtain ⟨T4, X4, e4, st4⟩ := getS2 X3 hx hZ hown (host := "") (Or.inl (wAt hw 110 rfl)) Via.refl e3 (SL.ext f5.2) (g := (mkF m 47 #[oR bA, oI (1 : Int32), oI cv] [(.int cv), (.int (1 : Int32)), (.ref bA)])) rfl (hb hby d25_47)
  refine Done.step st4 ?_
  show Done _ p e below s _ _ (T4.setTop (mkF m 50 #[oR bA, oI (1 : Int32), oI cv] [(.int (8 : Int32)), (.int cv), (.int (1 : Int32)), (.ref bA)]))
  refine Done.step (fun _ => XT.ishr X4.here hx rfl (hb hby d25_50) rfl) ?_
  show Done _ p e below s _ _ (T4.setTop (mkF m 51 #[oR bA, oI (1 : Int32), oI cv] [(.int (cv >>> ((8 : Int32) &&& 31))), (.int (1 : Int32)), (.ref bA)]))
  refine Done.step (fun _ => XT.i2b X4.here hx rfl (hb hby d25_51) rfl) ?_
  show Done _ p e below s _ _ (T4.setTop (mkF m 52 #[oR bA, oI (1 : Int32), oI cv] [(.int ((cv >>> ((8 : Int32) &&& 31)).toInt8.toInt32)), (.int (1 : Int32)), (.ref bA)]))
  obtain ⟨cl6, Ar6, q6, S6, Nn6, H6, G6⟩ := id V3
  have hin6 : ¬ ((1 : Int32) < 0 ∨ cl6.slots.size ≤ ((1 : Int32)).toNatClampNeg) := inb_of S6 ⟨by decide, by decide⟩
  obtain ⟨T6, h6, X6, e6, W6, st6⟩ := stB X4 hx hZ e4 Ar6 (j := (1 : Int32)) hin6 (g := (mkF m 52 #[oR bA, oI (1 : Int32), oI cv] [(.int ((cv >>> ((8 : Int32) &&& 31)).toInt8.toInt32)), (.int (1 : Int32)), (.ref bA)])) rfl rfl (hb hby d25_52)
  have V6 := Arv.set Ar6 q6 S6 Nn6 H6 G6 (fits_nar_byte _) W6 1 rfl (Nat.le_of_ble_eq_true rfl)
  have N6 := Fr.snoc X6 N3 gb
  have Zs6 := Nat.le_trans Zs3 (Keep.of_wr W6).1
  have K6 := K3.wr W6 (Or.inl (List.mem_of_getElem? (i := 0) rfl))
  refine Done.step st6 ?_
  show Done _ p e below s _ _ (T6.setTop (mkF m 53 #[oR bA, oI (1 : Int32), oI cv] []))
  refine Done.retV (leavesF X6 hlk (by decide) (by decide)) X6 hx hret (hb hby d25_53) ?_
  rw [e6]
  exact ⟨rfl, N6, K6, V6⟩
set_option maxRecDepth 65536 in
set_option maxHeartbeats 40000000 in
theorem ug_40 (l : Launch) (Z : State) (a0 : Array Value) (hw : ∀ d ∈ tables_1, d.before a0 Z = true) (ws : List Jvm.Cond) (bA : Addr) (kb : ClassId) (p0 p1 p2 p3 p4 p5 p6 p7 : Int32) (h0 : Heap) (n0 : Nat) (Z0 : n0 ≤ h0.size) (O0 : Old Z n0 h0) (SA : Sta Z Z.heap "java/lang/StringUTF16" "$assertionsDisabled" "Z" (.int (1 : Int32))) (SH : Sta Z Z.heap "java/lang/StringUTF16" "HI_BYTE_SHIFT" "I" (.int (0 : Int32))) (SL : Sta Z Z.heap "java/lang/StringUTF16" "LO_BYTE_SHIFT" "I" (.int (8 : Int32))) (VB : Arv Z h0 bA kb .byte (8 : Int32) [(.int p0), (.int p1), (.int p2), (.int p3), (.int p4), (.int p5), (.int p6), (.int p7)] (.int (0 : Int32))) :
    Ctr FrameEnd l Z (⟨"java/lang/StringUTF16", "getChar", "([BI)C"⟩ : MethodName) jdk_52_method_5_code 2 (some .char) ws ({ frames := 0, cells := 0, slots := 0, locals := 0 } : Room) #[(.ref bA), (.int (0 : Int32))] h0 TrueV (PureQ (some (.int (own_join p0 p1))) h0) := by
  refine Ctr.intro (plainFor_of_name pn_java_lang_StringUTF16) (Ls := #[.val (.ref bA), .val (.int (0 : Int32))]) (fun m => by first | (simp [entryFrame, mkF, argsToLocals, Value.category]; done) | rfl) ?_
  intro p e s m below meth c T0 hx hby hml hown hnm hret hlk hZ hV hsh e0 X0
  have N0 := Fr.nil n0
  show Done _ p e below s _ _ (T0.setTop (mkF m 0 #[oR bA, oI (0 : Int32)] []))
  obtain ⟨T1, X1, e1, st1⟩ := getS2 X0 hx hZ hown (host := "") (Or.inl (wAt hw 108 rfl)) Via.refl e0 (SA.ext O0.2) (g := (mkF m 0 #[oR bA, oI (0 : Int32)] [])) rfl (hb hby d26_0)
  refine Done.step st1 ?_
  show Done _ p e below s _ _ (T1.setTop (mkF m 3 #[oR bA, oI (0 : Int32)] [(.int (1 : Int32))]))
  refine Done.step (fun _ => XS.ifYes X1.here hx rfl (pc0 := 3) (pc' := 28) rfl (hb hby d26_3) rfl (XT.i0_ne_t (by decide)) (by decide) (by decide)) ?_
  show Done _ p e below s _ _ (T1.setTop (mkF m 28 #[oR bA, oI (0 : Int32)] []))
  refine Done.step (fun _ => XS.iloadN X1.here hx rfl (hb hby d26_28) rfl) ?_
  show Done _ p e below s _ _ (T1.setTop (mkF m 29 #[oR bA, oI (0 : Int32)] [(.int (0 : Int32))]))
  refine Done.step (fun _ => XT.iconstV X1.here hx rfl (1 : Int32) (hb hby d26_29) (by decide)) ?_
  show Done _ p e below s _ _ (T1.setTop (mkF m 30 #[oR bA, oI (0 : Int32)] [(.int (1 : Int32)), (.int (0 : Int32))]))
  refine Done.step (fun _ => XT.ishl X1.here hx rfl (hb hby d26_30) rfl) ?_
  show Done _ p e below s _ _ (T1.setTop (mkF m 31 #[oR bA, oI (0 : Int32)] [(.int (0 : Int32))]))
  refine Done.step (fun _ => XS.istoreN X1.here hx rfl (hb hby d26_31) rfl (l' := #[oR bA, oI (0 : Int32)]) rfl) ?_
  show Done _ p e below s _ _ (T1.setTop (mkF m 32 #[oR bA, oI (0 : Int32)] []))
  refine Done.step (fun _ => XS.aloadN X1.here hx rfl (hb hby d26_32) rfl rfl) ?_
  show Done _ p e below s _ _ (T1.setTop (mkF m 33 #[oR bA, oI (0 : Int32)] [(.ref bA)]))
  refine Done.step (fun _ => XS.iloadN X1.here hx rfl (hb hby d26_33) rfl) ?_
  show Done _ p e below s _ _ (T1.setTop (mkF m 34 #[oR bA, oI (0 : Int32)] [(.int (0 : Int32)), (.ref bA)]))
  refine Done.step (fun _ => XS.iinc X1.here hx rfl (hb hby d26_34) rfl (l' := #[oR bA, oI (1 : Int32)]) rfl) ?_
  show Done _ p e below s _ _ (T1.setTop (mkF m 37 #[oR bA, oI (1 : Int32)] [(.int (0 : Int32)), (.ref bA)]))
  obtain ⟨cl2, Ar2, q2, S2, Nn2, H2, G2⟩ := id VB
  have hin2 : ¬ ((0 : Int32) < 0 ∨ cl2.slots.size ≤ ((0 : Int32)).toNatClampNeg) := inb_of S2 ⟨by decide, by decide⟩
  have hat2 := Has.at H2 hin2 (v := (.int p0)) rfl
  refine Done.step (X1.baloadBytes hx (j := (0 : Int32)) (v := (.int p0)) (by first | exact Ar2.1 | (rw [e1]; exact Ar2.1)) (State.isArrayOf_alike hZ.alike Ar2.2.1) Ar2.2.2 hin2 hat2 (g := (mkF m 37 #[oR bA, oI (1 : Int32)] [(.int (0 : Int32)), (.ref bA)])) rfl rfl (hb hby d26_37)) ?_
  show Done _ p e below s _ _ (T1.setTop (mkF m 38 #[oR bA, oI (1 : Int32)] [(.int p0)]))
  refine Done.step (fun _ => XT.sipushV X1.here hx rfl (255 : Int32) (hb hby d26_38) (by decide)) ?_
  show Done _ p e below s _ _ (T1.setTop (mkF m 41 #[oR bA, oI (1 : Int32)] [(.int (255 : Int32)), (.int p0)]))
  refine Done.step (fun _ => XS.iand X1.here hx rfl (hb hby d26_41) rfl) ?_
  show Done _ p e below s _ _ (T1.setTop (mkF m 42 #[oR bA, oI (1 : Int32)] [(.int (p0 &&& (255 : Int32)))]))
  obtain ⟨T3, X3, e3, st3⟩ := getS2 X1 hx hZ hown (host := "") (Or.inl (wAt hw 109 rfl)) Via.refl e1 (SH.ext O0.2) (g := (mkF m 42 #[oR bA, oI (1 : Int32)] [(.int (p0 &&& (255 : Int32)))])) rfl (hb hby d26_42)
  refine Done.step st3 ?_
  show Done _ p e below s _ _ (T3.setTop (mkF m 45 #[oR bA, oI (1 : Int32)] [(.int (0 : Int32)), (.int (p0 &&& (255 : Int32)))]))
  refine Done.step (fun _ => XT.ishl X3.here hx rfl (hb hby d26_45) rfl) ?_
  show Done _ p e below s _ _ (T3.setTop (mkF m 46 #[oR bA, oI (1 : Int32)] [(.int ((p0 &&& (255 : Int32)) <<< ((0 : Int32) &&& 31)))]))
  refine Done.step (fun _ => XS.aloadN X3.here hx rfl (hb hby d26_46) rfl rfl) ?_
  show Done _ p e below s _ _ (T3.setTop (mkF m 47 #[oR bA, oI (1 : Int32)] [(.ref bA), (.int ((p0 &&& (255 : Int32)) <<< ((0 : Int32) &&& 31)))]))
  refine Done.step (fun _ => XS.iloadN X3.here hx rfl (hb hby d26_47) rfl) ?_
  show Done _ p e below s _ _ (T3.setTop (mkF m 48 #[oR bA, oI (1 : Int32)] [(.int (1 : Int32)), (.ref bA), (.int ((p0 &&& (255 : Int32)) <<< ((0 : Int32) &&& 31)))]))
  obtain ⟨cl4, Ar4, q4, S4, Nn4, H4, G4⟩ := id VB
  have hin4 : ¬ ((1 : Int32) < 0 ∨ cl4.slots.size ≤ ((1 : Int32)).toNatClampNeg) := inb_of S4 ⟨by decide, by decide⟩
  have hat4 := Has.at H4 hin4 (v := (.int p1)) rfl
  refine Done.step (X3.baloadBytes hx (j := (1 : Int32)) (v := (.int p1)) (by first | exact Ar4.1 | (rw [e3]; exact Ar4.1)) (State.isArrayOf_alike hZ.alike Ar4.2.1) Ar4.2.2 hin4 hat4 (g := (mkF m 48 #[oR bA, oI (1 : Int32)] [(.int (1 : Int32)), (.ref bA), (.int ((p0 &&& (255 : Int32)) <<< ((0 : Int32) &&& 31)))])) rfl rfl (hb hby d26_48)) ?_
  show Done _ p e below s _ _ (T3.setTop (mkF m 49 #[oR bA, oI (1 : Int32)] [(.int p1), (.int ((p0 &&& (255 : Int32)) <<< ((0 : Int32) &&& 31)))]))
  refine Done.step (fun _ => XT.sipushV X3.here hx rfl (255 : Int32) (hb hby d26_49) (by decide)) ?_
  show Done _ p e below s _ _ (T3.setTop (mkF m 52 #[oR bA, oI (1 : Int32)] [(.int (255 : Int32)), (.int p1), (.int ((p0 &&& (255 : Int32)) <<< ((0 : Int32) &&& 31)))]))
  refine Done.step (fun _ => XS.iand X3.here hx rfl (hb hby d26_52) rfl) ?_
  show Done _ p e below s _ _ (T3.setTop (mkF m 53 #[oR bA, oI (1 : Int32)] [(.int (p1 &&& (255 : Int32))), (.int ((p0 &&& (255 : Int32)) <<< ((0 : Int32) &&& 31)))]))
  obtain ⟨T5, X5, e5, st5⟩ := getS2 X3 hx hZ hown (host := "") (Or.inl (wAt hw 110 rfl)) Via.refl e3 (SL.ext O0.2) (g := (mkF m 53 #[oR bA, oI (1 : Int32)] [(.int (p1 &&& (255 : Int32))), (.int ((p0 &&& (255 : Int32)) <<< ((0 : Int32) &&& 31)))])) rfl (hb hby d26_53)
  refine Done.step st5 ?_
  show Done _ p e below s _ _ (T5.setTop (mkF m 56 #[oR bA, oI (1 : Int32)] [(.int (8 : Int32)), (.int (p1 &&& (255 : Int32))), (.int ((p0 &&& (255 : Int32)) <<< ((0 : Int32) &&& 31)))]))
  refine Done.step (fun _ => XT.ishl X5.here hx rfl (hb hby d26_56) rfl) ?_
  show Done _ p e below s _ _ (T5.setTop (mkF m 57 #[oR bA, oI (1 : Int32)] [(.int ((p1 &&& (255 : Int32)) <<< ((8 : Int32) &&& 31))), (.int ((p0 &&& (255 : Int32)) <<< ((0 : Int32) &&& 31)))]))
  refine Done.step (fun _ => XT.ior X5.here hx rfl (hb hby d26_57) rfl) ?_
  show Done _ p e below s _ _ (T5.setTop (mkF m 58 #[oR bA, oI (1 : Int32)] [(.int (((p0 &&& (255 : Int32)) <<< ((0 : Int32) &&& 31)) ||| ((p1 &&& (255 : Int32)) <<< ((8 : Int32) &&& 31))))]))
  refine Done.step (fun _ => XT.i2c X5.here hx rfl (hb hby d26_58) rfl) ?_
  show Done _ p e below s _ _ (T5.setTop (mkF m 59 #[oR bA, oI (1 : Int32)] [(.int ((((p0 &&& (255 : Int32)) <<< ((0 : Int32) &&& 31)) ||| ((p1 &&& (255 : Int32)) <<< ((8 : Int32) &&& 31))).toUInt32.toUInt16.toUInt32.toInt32))]))
  exact Done.retN (leavesF X5 hlk (by decide) (by decide)) X5 hx (t := .char) hret (by simp) (hb hby d26_59) ⟨rfl, e5, rfl⟩
set_option maxRecDepth 65536 in
set_option maxHeartbeats 40000000 in
theorem up_41 (l : Launch) (Z : State) (a0 : Array Value) (hw : ∀ d ∈ tables_1, d.before a0 Z = true) (ws : List Jvm.Cond) (bA : Addr) (kb : ClassId) (p0 p1 p2 p3 p4 p5 p6 p7 cv : Int32) (h0 : Heap) (n0 : Nat) (Z0 : n0 ≤ h0.size) (O0 : Old Z n0 h0) (SA : Sta Z Z.heap "java/lang/StringUTF16" "$assertionsDisabled" "Z" (.int (1 : Int32))) (SH : Sta Z Z.heap "java/lang/StringUTF16" "HI_BYTE_SHIFT" "I" (.int (0 : Int32))) (SL : Sta Z Z.heap "java/lang/StringUTF16" "LO_BYTE_SHIFT" "I" (.int (8 : Int32))) (VB : Arv Z h0 bA kb .byte (8 : Int32) [(.int p0), (.int p1), (.int p2), (.int p3), (.int p4), (.int p5), (.int p6), (.int p7)] (.int (0 : Int32))) (gb : n0 ≤ bA) :
    Ctr FrameEnd l Z (⟨"java/lang/StringUTF16", "putChar", "([BII)V"⟩ : MethodName) jdk_52_method_4_code 3 none ws ({ frames := 0, cells := 0, slots := 0, locals := 0 } : Room) #[(.ref bA), (.int (1 : Int32)), (.int cv)] h0 TrueV (fun v h _ L => v = none ∧ Fr n0 L ∧ Keep h0 h [bA] ∧ Arv Z h bA kb .byte (8 : Int32) [(.int p0), (.int p1), (.int (own_hi cv)), (.int (own_lo cv)), (.int p4), (.int p5), (.int p6), (.int p7)] (.int (0 : Int32))) := by
  refine Ctr.intro (plainFor_of_name pn_java_lang_StringUTF16) (Ls := #[.val (.ref bA), .val (.int (1 : Int32)), .val (.int cv)]) (fun m => by first | (simp [entryFrame, mkF, argsToLocals, Value.category]; done) | rfl) ?_
  intro p e s m below meth c T0 hx hby hml hown hnm hret hlk hZ hV hsh e0 X0
  have N0 := Fr.nil n0
  show Done _ p e below s _ _ (T0.setTop (mkF m 0 #[oR bA, oI (1 : Int32), oI cv] []))
  obtain ⟨T1, X1, e1, st1⟩ := getS2 X0 hx hZ hown (host := "") (Or.inl (wAt hw 108 rfl)) Via.refl e0 (SA.ext O0.2) (g := (mkF m 0 #[oR bA, oI (1 : Int32), oI cv] [])) rfl (hb hby d25_0)
  refine Done.step st1 ?_
  show Done _ p e below s _ _ (T1.setTop (mkF m 3 #[oR bA, oI (1 : Int32), oI cv] [(.int (1 : Int32))]))
  refine Done.step (fun _ => XS.ifYes X1.here hx rfl (pc0 := 3) (pc' := 28) rfl (hb hby d25_3) rfl (XT.i0_ne_t (by decide)) (by decide) (by decide)) ?_
  show Done _ p e below s _ _ (T1.setTop (mkF m 28 #[oR bA, oI (1 : Int32), oI cv] []))
  refine Done.step (fun _ => XS.iloadN X1.here hx rfl (hb hby d25_28) rfl) ?_
  show Done _ p e below s _ _ (T1.setTop (mkF m 29 #[oR bA, oI (1 : Int32), oI cv] [(.int (1 : Int32))]))
  refine Done.step (fun _ => XT.iconstV X1.here hx rfl (1 : Int32) (hb hby d25_29) (by decide)) ?_
  show Done _ p e below s _ _ (T1.setTop (mkF m 30 #[oR bA, oI (1 : Int32), oI cv] [(.int (1 : Int32)), (.int (1 : Int32))]))
  refine Done.step (fun _ => XT.ishl X1.here hx rfl (hb hby d25_30) rfl) ?_
  show Done _ p e below s _ _ (T1.setTop (mkF m 31 #[oR bA, oI (1 : Int32), oI cv] [(.int (2 : Int32))]))
  refine Done.step (fun _ => XS.istoreN X1.here hx rfl (hb hby d25_31) rfl (l' := #[oR bA, oI (2 : Int32), oI cv]) rfl) ?_
  show Done _ p e below s _ _ (T1.setTop (mkF m 32 #[oR bA, oI (2 : Int32), oI cv] []))
  refine Done.step (fun _ => XS.aloadN X1.here hx rfl (hb hby d25_32) rfl rfl) ?_
  show Done _ p e below s _ _ (T1.setTop (mkF m 33 #[oR bA, oI (2 : Int32), oI cv] [(.ref bA)]))
  refine Done.step (fun _ => XS.iloadN X1.here hx rfl (hb hby d25_33) rfl) ?_
  show Done _ p e below s _ _ (T1.setTop (mkF m 34 #[oR bA, oI (2 : Int32), oI cv] [(.int (2 : Int32)), (.ref bA)]))
  refine Done.step (fun _ => XS.iinc X1.here hx rfl (hb hby d25_34) rfl (l' := #[oR bA, oI (3 : Int32), oI cv]) rfl) ?_
  show Done _ p e below s _ _ (T1.setTop (mkF m 37 #[oR bA, oI (3 : Int32), oI cv] [(.int (2 : Int32)), (.ref bA)]))
  refine Done.step (fun _ => XS.iloadN X1.here hx rfl (hb hby d25_37) rfl) ?_
  show Done _ p e below s _ _ (T1.setTop (mkF m 38 #[oR bA, oI (3 : Int32), oI cv] [(.int cv), (.int (2 : Int32)), (.ref bA)]))
  obtain ⟨T2, X2, e2, st2⟩ := getS2 X1 hx hZ hown (host := "") (Or.inl (wAt hw 109 rfl)) Via.refl e1 (SH.ext O0.2) (g := (mkF m 38 #[oR bA, oI (3 : Int32), oI cv] [(.int cv), (.int (2 : Int32)), (.ref bA)])) rfl (hb hby d25_38)
  refine Done.step st2 ?_
  show Done _ p e below s _ _ (T2.setTop (mkF m 41 #[oR bA, oI (3 : Int32), oI cv] [(.int (0 : Int32)), (.int cv), (.int (2 : Int32)), (.ref bA)]))
  refine Done.step (fun _ => XT.ishr X2.here hx rfl (hb hby d25_41) rfl) ?_
  show Done _ p e below s _ _ (T2.setTop (mkF m 42 #[oR bA, oI (3 : Int32), oI cv] [(.int (cv >>> ((0 : Int32) &&& 31))), (.int (2 : Int32)), (.ref bA)]))
  refine Done.step (fun _ => XT.i2b X2.here hx rfl (hb hby d25_42) rfl) ?_
  show Done _ p e below s _ _ (T2.setTop (mkF m 43 #[oR bA, oI (3 : Int32), oI cv] [(.int ((cv >>> ((0 : Int32) &&& 31)).toInt8.toInt32)), (.int (2 : Int32)), (.ref bA)]))
  obtain ⟨cl3, Ar3, q3, S3, Nn3, H3, G3⟩ := id VB
  have hin3 : ¬ ((2 : Int32) < 0 ∨ cl3.slots.size ≤ ((2 : Int32)).toNatClampNeg) := inb_of S3 ⟨by decide, by decide⟩
  obtain ⟨T3, h3, X3, e3, W3, st3⟩ := stB X2 hx hZ e2 Ar3 (j := (2 : Int32)) hin3 (g := (mkF m 43 #[oR bA, oI (3 : Int32), oI cv] [(.int ((cv >>> ((0 : Int32) &&& 31)).toInt8.toInt32)), (.int (2 : Int32)), (.ref bA)])) rfl rfl (hb hby d25_43)
  have V3 := Arv.set Ar3 q3 S3 Nn3 H3 G3 (fits_nar_byte _) W3 2 rfl (Nat.le_of_ble_eq_true rfl)
  have N3 := Fr.snoc X3 N0 gb
  have Zs3 := Nat.le_trans Z0 (Keep.of_wr W3).1
  have K3 := (Keep.refl h0 [bA]).wr W3 (Or.inl (List.mem_of_getElem? (i := 0) rfl))
  refine Done.step st3 ?_
  show Done _ p e below s _ _ (T3.setTop (mkF m 44 #[oR bA, oI (3 : Int32), oI cv] []))
  refine Done.step (fun _ => XS.aloadN X3.here hx rfl (hb hby d25_44) rfl rfl) ?_
  show Done _ p e below s _ _ (T3.setTop (mkF m 45 #[oR bA, oI (3 : Int32), oI cv] [(.ref bA)]))
  refine Done.step (fun _ => XS.iloadN X3.here hx rfl (hb hby d25_45) rfl) ?_
  show Done _ p e below s _ _ (T3.setTop (mkF m 46 #[oR bA, oI (3 : Int32), oI cv] [(.int (3 : Int32)), (.ref bA)]))
  refine Done.step (fun _ => XS.iloadN X3.here hx rfl (hb hby d25_46) rfl) ?_
  show Done _ p e below s _ _ (T3.setTop (mkF m 47 #[oR bA, oI (3 : Int32), oI cv] [(.int cv), (.int (3 : Int32)), (.ref bA)]))
  have f5 := (O0.wr W3 gb)
  obtain ⟨T4, X4, e4, st4⟩ := getS2 X3 hx hZ hown (host := "") (Or.inl (wAt hw 110 rfl)) Via.refl e3 (SL.ext f5.2) (g := (mkF m 47 #[oR bA, oI (3 : Int32), oI cv] [(.int cv), (.int (3 : Int32)), (.ref bA)])) rfl (hb hby d25_47)
  refine Done.step st4 ?_
  show Done _ p e below s _ _ (T4.setTop (mkF m 50 #[oR bA, oI (3 : Int32), oI cv] [(.int (8 : Int32)), (.int cv), (.int (3 : Int32)), (.ref bA)]))
  refine Done.step (fun _ => XT.ishr X4.here hx rfl (hb hby d25_50) rfl) ?_
  show Done _ p e below s _ _ (T4.setTop (mkF m 51 #[oR bA, oI (3 : Int32), oI cv] [(.int (cv >>> ((8 : Int32) &&& 31))), (.int (3 : Int32)), (.ref bA)]))
  refine Done.step (fun _ => XT.i2b X4.here hx rfl (hb hby d25_51) rfl) ?_
  show Done _ p e below s _ _ (T4.setTop (mkF m 52 #[oR bA, oI (3 : Int32), oI cv] [(.int ((cv >>> ((8 : Int32) &&& 31)).toInt8.toInt32)), (.int (3 : Int32)), (.ref bA)]))
  obtain ⟨cl6, Ar6, q6, S6, Nn6, H6, G6⟩ := id V3
  have hin6 : ¬ ((3 : Int32) < 0 ∨ cl6.slots.size ≤ ((3 : Int32)).toNatClampNeg) := inb_of S6 ⟨by decide, by decide⟩
  obtain ⟨T6, h6, X6, e6, W6, st6⟩ := stB X4 hx hZ e4 Ar6 (j := (3 : Int32)) hin6 (g := (mkF m 52 #[oR bA, oI (3 : Int32), oI cv] [(.int ((cv >>> ((8 : Int32) &&& 31)).toInt8.toInt32)), (.int (3 : Int32)), (.ref bA)])) rfl rfl (hb hby d25_52)
  have V6 := Arv.set Ar6 q6 S6 Nn6 H6 G6 (fits_nar_byte _) W6 3 rfl (Nat.le_of_ble_eq_true rfl)
  have N6 := Fr.snoc X6 N3 gb
  have Zs6 := Nat.le_trans Zs3 (Keep.of_wr W6).1
  have K6 := K3.wr W6 (Or.inl (List.mem_of_getElem? (i := 0) rfl))
  refine Done.step st6 ?_
  show Done _ p e below s _ _ (T6.setTop (mkF m 53 #[oR bA, oI (3 : Int32), oI cv] []))
  refine Done.retV (leavesF X6 hlk (by decide) (by decide)) X6 hx hret (hb hby d25_53) ?_
  rw [e6]
  exact ⟨rfl, N6, K6, V6⟩
set_option maxRecDepth 65536 in
set_option maxHeartbeats 40000000 in
theorem ug_41 (l : Launch) (Z : State) (a0 : Array Value) (hw : ∀ d ∈ tables_1, d.before a0 Z = true) (ws : List Jvm.Cond) (bA : Addr) (kb : ClassId) (p0 p1 p2 p3 p4 p5 p6 p7 : Int32) (h0 : Heap) (n0 : Nat) (Z0 : n0 ≤ h0.size) (O0 : Old Z n0 h0) (SA : Sta Z Z.heap "java/lang/StringUTF16" "$assertionsDisabled" "Z" (.int (1 : Int32))) (SH : Sta Z Z.heap "java/lang/StringUTF16" "HI_BYTE_SHIFT" "I" (.int (0 : Int32))) (SL : Sta Z Z.heap "java/lang/StringUTF16" "LO_BYTE_SHIFT" "I" (.int (8 : Int32))) (VB : Arv Z h0 bA kb .byte (8 : Int32) [(.int p0), (.int p1), (.int p2), (.int p3), (.int p4), (.int p5), (.int p6), (.int p7)] (.int (0 : Int32))) :
    Ctr FrameEnd l Z (⟨"java/lang/StringUTF16", "getChar", "([BI)C"⟩ : MethodName) jdk_52_method_5_code 2 (some .char) ws ({ frames := 0, cells := 0, slots := 0, locals := 0 } : Room) #[(.ref bA), (.int (1 : Int32))] h0 TrueV (PureQ (some (.int (own_join p2 p3))) h0) := by
  refine Ctr.intro (plainFor_of_name pn_java_lang_StringUTF16) (Ls := #[.val (.ref bA), .val (.int (1 : Int32))]) (fun m => by first | (simp [entryFrame, mkF, argsToLocals, Value.category]; done) | rfl) ?_
  intro p e s m below meth c T0 hx hby hml hown hnm hret hlk hZ hV hsh e0 X0
  have N0 := Fr.nil n0
  show Done _ p e below s _ _ (T0.setTop (mkF m 0 #[oR bA, oI (1 : Int32)] []))
  obtain ⟨T1, X1, e1, st1⟩ := getS2 X0 hx hZ hown (host := "") (Or.inl (wAt hw 108 rfl)) Via.refl e0 (SA.ext O0.2) (g := (mkF m 0 #[oR bA, oI (1 : Int32)] [])) rfl (hb hby d26_0)
  refine Done.step st1 ?_
  show Done _ p e below s _ _ (T1.setTop (mkF m 3 #[oR bA, oI (1 : Int32)] [(.int (1 : Int32))]))
  refine Done.step (fun _ => XS.ifYes X1.here hx rfl (pc0 := 3) (pc' := 28) rfl (hb hby d26_3) rfl (XT.i0_ne_t (by decide)) (by decide) (by decide)) ?_
  show Done _ p e below s _ _ (T1.setTop (mkF m 28 #[oR bA, oI (1 : Int32)] []))
  refine Done.step (fun _ => XS.iloadN X1.here hx rfl (hb hby d26_28) rfl) ?_
  show Done _ p e below s _ _ (T1.setTop (mkF m 29 #[oR bA, oI (1 : Int32)] [(.int (1 : Int32))]))
  refine Done.step (fun _ => XT.iconstV X1.here hx rfl (1 : Int32) (hb hby d26_29) (by decide)) ?_
  show Done _ p e below s _ _ (T1.setTop (mkF m 30 #[oR bA, oI (1 : Int32)] [(.int (1 : Int32)), (.int (1 : Int32))]))
  refine Done.step (fun _ => XT.ishl X1.here hx rfl (hb hby d26_30) rfl) ?_
  show Done _ p e below s _ _ (T1.setTop (mkF m 31 #[oR bA, oI (1 : Int32)] [(.int (2 : Int32))]))
  refine Done.step (fun _ => XS.istoreN X1.here hx rfl (hb hby d26_31) rfl (l' := #[oR bA, oI (2 : Int32)]) rfl) ?_
  show Done _ p e below s _ _ (T1.setTop (mkF m 32 #[oR bA, oI (2 : Int32)] []))
  refine Done.step (fun _ => XS.aloadN X1.here hx rfl (hb hby d26_32) rfl rfl) ?_
  show Done _ p e below s _ _ (T1.setTop (mkF m 33 #[oR bA, oI (2 : Int32)] [(.ref bA)]))
  refine Done.step (fun _ => XS.iloadN X1.here hx rfl (hb hby d26_33) rfl) ?_
  show Done _ p e below s _ _ (T1.setTop (mkF m 34 #[oR bA, oI (2 : Int32)] [(.int (2 : Int32)), (.ref bA)]))
  refine Done.step (fun _ => XS.iinc X1.here hx rfl (hb hby d26_34) rfl (l' := #[oR bA, oI (3 : Int32)]) rfl) ?_
  show Done _ p e below s _ _ (T1.setTop (mkF m 37 #[oR bA, oI (3 : Int32)] [(.int (2 : Int32)), (.ref bA)]))
  obtain ⟨cl2, Ar2, q2, S2, Nn2, H2, G2⟩ := id VB
  have hin2 : ¬ ((2 : Int32) < 0 ∨ cl2.slots.size ≤ ((2 : Int32)).toNatClampNeg) := inb_of S2 ⟨by decide, by decide⟩
  have hat2 := Has.at H2 hin2 (v := (.int p2)) rfl
  refine Done.step (X1.baloadBytes hx (j := (2 : Int32)) (v := (.int p2)) (by first | exact Ar2.1 | (rw [e1]; exact Ar2.1)) (State.isArrayOf_alike hZ.alike Ar2.2.1) Ar2.2.2 hin2 hat2 (g := (mkF m 37 #[oR bA, oI (3 : Int32)] [(.int (2 : Int32)), (.ref bA)])) rfl rfl (hb hby d26_37)) ?_
  show Done _ p e below s _ _ (T1.setTop (mkF m 38 #[oR bA, oI (3 : Int32)] [(.int p2)]))
  refine Done.step (fun _ => XT.sipushV X1.here hx rfl (255 : Int32) (hb hby d26_38) (by decide)) ?_
  show Done _ p e below s _ _ (T1.setTop (mkF m 41 #[oR bA, oI (3 : Int32)] [(.int (255 : Int32)), (.int p2)]))
  refine Done.step (fun _ => XS.iand X1.here hx rfl (hb hby d26_41) rfl) ?_
  show Done _ p e below s _ _ (T1.setTop (mkF m 42 #[oR bA, oI (3 : Int32)] [(.int (p2 &&& (255 : Int32)))]))
  obtain ⟨T3, X3, e3, st3⟩ := getS2 X1 hx hZ hown (host := "") (Or.inl (wAt hw 109 rfl)) Via.refl e1 (SH.ext O0.2) (g := (mkF m 42 #[oR bA, oI (3 : Int32)] [(.int (p2 &&& (255 : Int32)))])) rfl (hb hby d26_42)
  refine Done.step st3 ?_
  show Done _ p e below s _ _ (T3.setTop (mkF m 45 #[oR bA, oI (3 : Int32)] [(.int (0 : Int32)), (.int (p2 &&& (255 : Int32)))]))
  refine Done.step (fun _ => XT.ishl X3.here hx rfl (hb hby d26_45) rfl) ?_
  show Done _ p e below s _ _ (T3.setTop (mkF m 46 #[oR bA, oI (3 : Int32)] [(.int ((p2 &&& (255 : Int32)) <<< ((0 : Int32) &&& 31)))]))
  refine Done.step (fun _ => XS.aloadN X3.here hx rfl (hb hby d26_46) rfl rfl) ?_
  show Done _ p e below s _ _ (T3.setTop (mkF m 47 #[oR bA, oI (3 : Int32)] [(.ref bA), (.int ((p2 &&& (255 : Int32)) <<< ((0 : Int32) &&& 31)))]))
  refine Done.step (fun _ => XS.iloadN X3.here hx rfl (hb hby d26_47) rfl) ?_
  show Done _ p e below s _ _ (T3.setTop (mkF m 48 #[oR bA, oI (3 : Int32)] [(.int (3 : Int32)), (.ref bA), (.int ((p2 &&& (255 : Int32)) <<< ((0 : Int32) &&& 31)))]))
  obtain ⟨cl4, Ar4, q4, S4, Nn4, H4, G4⟩ := id VB
  have hin4 : ¬ ((3 : Int32) < 0 ∨ cl4.slots.size ≤ ((3 : Int32)).toNatClampNeg) := inb_of S4 ⟨by decide, by decide⟩
  have hat4 := Has.at H4 hin4 (v := (.int p3)) rfl
  refine Done.step (X3.baloadBytes hx (j := (3 : Int32)) (v := (.int p3)) (by first | exact Ar4.1 | (rw [e3]; exact Ar4.1)) (State.isArrayOf_alike hZ.alike Ar4.2.1) Ar4.2.2 hin4 hat4 (g := (mkF m 48 #[oR bA, oI (3 : Int32)] [(.int (3 : Int32)), (.ref bA), (.int ((p2 &&& (255 : Int32)) <<< ((0 : Int32) &&& 31)))])) rfl rfl (hb hby d26_48)) ?_
  show Done _ p e below s _ _ (T3.setTop (mkF m 49 #[oR bA, oI (3 : Int32)] [(.int p3), (.int ((p2 &&& (255 : Int32)) <<< ((0 : Int32) &&& 31)))]))
  refine Done.step (fun _ => XT.sipushV X3.here hx rfl (255 : Int32) (hb hby d26_49) (by decide)) ?_
  show Done _ p e below s _ _ (T3.setTop (mkF m 52 #[oR bA, oI (3 : Int32)] [(.int (255 : Int32)), (.int p3), (.int ((p2 &&& (255 : Int32)) <<< ((0 : Int32) &&& 31)))]))
  refine Done.step (fun _ => XS.iand X3.here hx rfl (hb hby d26_52) rfl) ?_
  show Done _ p e below s _ _ (T3.setTop (mkF m 53 #[oR bA, oI (3 : Int32)] [(.int (p3 &&& (255 : Int32))), (.int ((p2 &&& (255 : Int32)) <<< ((0 : Int32) &&& 31)))]))
  obtain ⟨T5, X5, e5, st5⟩ := getS2 X3 hx hZ hown (host := "") (Or.inl (wAt hw 110 rfl)) Via.refl e3 (SL.ext O0.2) (g := (mkF m 53 #[oR bA, oI (3 : Int32)] [(.int (p3 &&& (255 : Int32))), (.int ((p2 &&& (255 : Int32)) <<< ((0 : Int32) &&& 31)))])) rfl (hb hby d26_53)
  refine Done.step st5 ?_
  show Done _ p e below s _ _ (T5.setTop (mkF m 56 #[oR bA, oI (3 : Int32)] [(.int (8 : Int32)), (.int (p3 &&& (255 : Int32))), (.int ((p2 &&& (255 : Int32)) <<< ((0 : Int32) &&& 31)))]))
  refine Done.step (fun _ => XT.ishl X5.here hx rfl (hb hby d26_56) rfl) ?_
  show Done _ p e below s _ _ (T5.setTop (mkF m 57 #[oR bA, oI (3 : Int32)] [(.int ((p3 &&& (255 : Int32)) <<< ((8 : Int32) &&& 31))), (.int ((p2 &&& (255 : Int32)) <<< ((0 : Int32) &&& 31)))]))
  refine Done.step (fun _ => XT.ior X5.here hx rfl (hb hby d26_57) rfl) ?_
  show Done _ p e below s _ _ (T5.setTop (mkF m 58 #[oR bA, oI (3 : Int32)] [(.int (((p2 &&& (255 : Int32)) <<< ((0 : Int32) &&& 31)) ||| ((p3 &&& (255 : Int32)) <<< ((8 : Int32) &&& 31))))]))
  refine Done.step (fun _ => XT.i2c X5.here hx rfl (hb hby d26_58) rfl) ?_
  show Done _ p e below s _ _ (T5.setTop (mkF m 59 #[oR bA, oI (3 : Int32)] [(.int ((((p2 &&& (255 : Int32)) <<< ((0 : Int32) &&& 31)) ||| ((p3 &&& (255 : Int32)) <<< ((8 : Int32) &&& 31))).toUInt32.toUInt16.toUInt32.toInt32))]))
  exact Done.retN (leavesF X5 hlk (by decide) (by decide)) X5 hx (t := .char) hret (by simp) (hb hby d26_59) ⟨rfl, e5, rfl⟩
set_option maxRecDepth 65536 in
set_option maxHeartbeats 40000000 in
theorem up_42 (l : Launch) (Z : State) (a0 : Array Value) (hw : ∀ d ∈ tables_1, d.before a0 Z = true) (ws : List Jvm.Cond) (bA : Addr) (kb : ClassId) (p0 p1 p2 p3 p4 p5 p6 p7 cv : Int32) (h0 : Heap) (n0 : Nat) (Z0 : n0 ≤ h0.size) (O0 : Old Z n0 h0) (SA : Sta Z Z.heap "java/lang/StringUTF16" "$assertionsDisabled" "Z" (.int (1 : Int32))) (SH : Sta Z Z.heap "java/lang/StringUTF16" "HI_BYTE_SHIFT" "I" (.int (0 : Int32))) (SL : Sta Z Z.heap "java/lang/StringUTF16" "LO_BYTE_SHIFT" "I" (.int (8 : Int32))) (VB : Arv Z h0 bA kb .byte (8 : Int32) [(.int p0), (.int p1), (.int p2), (.int p3), (.int p4), (.int p5), (.int p6), (.int p7)] (.int (0 : Int32))) (gb : n0 ≤ bA) :
    Ctr FrameEnd l Z (⟨"java/lang/StringUTF16", "putChar", "([BII)V"⟩ : MethodName) jdk_52_method_4_code 3 none ws ({ frames := 0, cells := 0, slots := 0, locals := 0 } : Room) #[(.ref bA), (.int (2 : Int32)), (.int cv)] h0 TrueV (fun v h _ L => v = none ∧ Fr n0 L ∧ Keep h0 h [bA] ∧ Arv Z h bA kb .byte (8 : Int32) [(.int p0), (.int p1), (.int p2), (.int p3), (.int (own_hi cv)), (.int (own_lo cv)), (.int p6), (.int p7)] (.int (0 : Int32))) := by
  refine Ctr.intro (plainFor_of_name pn_java_lang_StringUTF16) (Ls := #[.val (.ref bA), .val (.int (2 : Int32)), .val (.int cv)]) (fun m => by first | (simp [entryFrame, mkF, argsToLocals, Value.category]; done) | rfl) ?_
  intro p e s m below meth c T0 hx hby hml hown hnm hret hlk hZ hV hsh e0 X0
  have N0 := Fr.nil n0
  show Done _ p e below s _ _ (T0.setTop (mkF m 0 #[oR bA, oI (2 : Int32), oI cv] []))
  obtain ⟨T1, X1, e1, st1⟩ := getS2 X0 hx hZ hown (host := "") (Or.inl (wAt hw 108 rfl)) Via.refl e0 (SA.ext O0.2) (g := (mkF m 0 #[oR bA, oI (2 : Int32), oI cv] [])) rfl (hb hby d25_0)
  refine Done.step st1 ?_
  show Done _ p e below s _ _ (T1.setTop (mkF m 3 #[oR bA, oI (2 : Int32), oI cv] [(.int (1 : Int32))]))
  refine Done.step (fun _ => XS.ifYes X1.here hx rfl (pc0 := 3) (pc' := 28) rfl (hb hby d25_3) rfl (XT.i0_ne_t (by decide)) (by decide) (by decide)) ?_
  show Done _ p e below s _ _ (T1.setTop (mkF m 28 #[oR bA, oI (2 : Int32), oI cv] []))
  refine Done.step (fun _ => XS.iloadN X1.here hx rfl (hb hby d25_28) rfl) ?_
  show Done _ p e below s _ _ (T1.setTop (mkF m 29 #[oR bA, oI (2 : Int32), oI cv] [(.int (2 : Int32))]))
  refine Done.step (fun _ => XT.iconstV X1.here hx rfl (1 : Int32) (hb hby d25_29) (by decide)) ?_
  show Done _ p e below s _ _ (T1.setTop (mkF m 30 #[oR bA, oI (2 : Int32), oI cv] [(.int (1 : Int32)), (.int (2 : Int32))]))
  refine Done.step (fun _ => XT.ishl X1.here hx rfl (hb hby d25_30) rfl) ?_
  show Done _ p e below s _ _ (T1.setTop (mkF m 31 #[oR bA, oI (2 : Int32), oI cv] [(.int (4 : Int32))]))
  refine Done.step (fun _ => XS.istoreN X1.here hx rfl (hb hby d25_31) rfl (l' := #[oR bA, oI (4 : Int32), oI cv]) rfl) ?_
  show Done _ p e below s _ _ (T1.setTop (mkF m 32 #[oR bA, oI (4 : Int32), oI cv] []))
  refine Done.step (fun _ => XS.aloadN X1.here hx rfl (hb hby d25_32) rfl rfl) ?_
  show Done _ p e below s _ _ (T1.setTop (mkF m 33 #[oR bA, oI (4 : Int32), oI cv] [(.ref bA)]))
  refine Done.step (fun _ => XS.iloadN X1.here hx rfl (hb hby d25_33) rfl) ?_
  show Done _ p e below s _ _ (T1.setTop (mkF m 34 #[oR bA, oI (4 : Int32), oI cv] [(.int (4 : Int32)), (.ref bA)]))
  refine Done.step (fun _ => XS.iinc X1.here hx rfl (hb hby d25_34) rfl (l' := #[oR bA, oI (5 : Int32), oI cv]) rfl) ?_
  show Done _ p e below s _ _ (T1.setTop (mkF m 37 #[oR bA, oI (5 : Int32), oI cv] [(.int (4 : Int32)), (.ref bA)]))
  refine Done.step (fun _ => XS.iloadN X1.here hx rfl (hb hby d25_37) rfl) ?_
  show Done _ p e below s _ _ (T1.setTop (mkF m 38 #[oR bA, oI (5 : Int32), oI cv] [(.int cv), (.int (4 : Int32)), (.ref bA)]))
  obtain ⟨T2, X2, e2, st2⟩ := getS2 X1 hx hZ hown (host := "") (Or.inl (wAt hw 109 rfl)) Via.refl e1 (SH.ext O0.2) (g := (mkF m 38 #[oR bA, oI (5 : Int32), oI cv] [(.int cv), (.int (4 : Int32)), (.ref bA)])) rfl (hb hby d25_38)
  refine Done.step st2 ?_
  show Done _ p e below s _ _ (T2.setTop (mkF m 41 #[oR bA, oI (5 : Int32), oI cv] [(.int (0 : Int32)), (.int cv), (.int (4 : Int32)), (.ref bA)]))
  refine Done.step (fun _ => XT.ishr X2.here hx rfl (hb hby d25_41) rfl) ?_
  show Done _ p e below s _ _ (T2.setTop (mkF m 42 #[oR bA, oI (5 : Int32), oI cv] [(.int (cv >>> ((0 : Int32) &&& 31))), (.int (4 : Int32)), (.ref bA)]))
  refine Done.step (fun _ => XT.i2b X2.here hx rfl (hb hby d25_42) rfl) ?_
  show Done _ p e below s _ _ (T2.setTop (mkF m 43 #[oR bA, oI (5 : Int32), oI cv] [(.int ((cv >>> ((0 : Int32) &&& 31)).toInt8.toInt32)), (.int (4 : Int32)), (.ref bA)]))
  obtain ⟨cl3, Ar3, q3, S3, Nn3, H3, G3⟩ := id VB
  have hin3 : ¬ ((4 : Int32) < 0 ∨ cl3.slots.size ≤ ((4 : Int32)).toNatClampNeg) := inb_of S3 ⟨by decide, by decide⟩
  obtain ⟨T3, h3, X3, e3, W3, st3⟩ := stB X2 hx hZ e2 Ar3 (j := (4 : Int32)) hin3 (g := (mkF m 43 #[oR bA, oI (5 : Int32), oI cv] [(.int ((cv >>> ((0 : Int32) &&& 31)).toInt8.toInt32)), (.int (4 : Int32)), (.ref bA)])) rfl rfl (hb hby d25_43)
  have V3 := Arv.set Ar3 q3 S3 Nn3 H3 G3 (fits_nar_byte _) W3 4 rfl (Nat.le_of_ble_eq_true rfl)
  have N3 := Fr.snoc X3 N0 gb
  have Zs3 := Nat.le_trans Z0 (Keep.of_wr W3).1
  have K3 := (Keep.refl h0 [bA]).wr W3 (Or.inl (List.mem_of_getElem? (i := 0) rfl))
  refine Done.step st3 ?_
  show Done _ p e below s _ _ (T3.setTop (mkF m 44 #[oR bA, oI (5 : Int32), oI cv] []))
  refine Done.step (fun _ => XS.aloadN X3.here hx rfl (hb hby d25_44) rfl rfl) ?_
  show Done _ p e below s _ _ (T3.setTop (mkF m 45 #[oR bA, oI (5 : Int32), oI cv] [(.ref bA)]))
  refine Done.step (fun _ => XS.iloadN X3.here hx rfl (hb hby d25_45) rfl) ?_
  show Done _ p e below s _ _ (T3.setTop (mkF m 46 #[oR bA, oI (5 : Int32), oI cv] [(.int (5 : Int32)), (.ref bA)]))
  refine Done.step (fun _ => XS.iloadN X3.here hx rfl (hb hby d25_46) rfl) ?_
  show Done _ p e below s _ _ (T3.setTop (mkF m 47 #[oR bA, oI (5 : Int32), oI cv] [(.int cv), (.int (5 : Int32)), (.ref bA)]))
  have f5 := (O0.wr W3 gb)
  obtain ⟨T4, X4, e4, st4⟩ := getS2 X3 hx hZ hown (host := "") (Or.inl (wAt hw 110 rfl)) Via.refl e3 (SL.ext f5.2) (g := (mkF m 47 #[oR bA, oI (5 : Int32), oI cv] [(.int cv), (.int (5 : Int32)), (.ref bA)])) rfl (hb hby d25_47)
  refine Done.step st4 ?_
  show Done _ p e below s _ _ (T4.setTop (mkF m 50 #[oR bA, oI (5 : Int32), oI cv] [(.int (8 : Int32)), (.int cv), (.int (5 : Int32)), (.ref bA)]))
  refine Done.step (fun _ => XT.ishr X4.here hx rfl (hb hby d25_50) rfl) ?_
  show Done _ p e below s _ _ (T4.setTop (mkF m 51 #[oR bA, oI (5 : Int32), oI cv] [(.int (cv >>> ((8 : Int32) &&& 31))), (.int (5 : Int32)), (.ref bA)]))
  refine Done.step (fun _ => XT.i2b X4.here hx rfl (hb hby d25_51) rfl) ?_
  show Done _ p e below s _ _ (T4.setTop (mkF m 52 #[oR bA, oI (5 : Int32), oI cv] [(.int ((cv >>> ((8 : Int32) &&& 31)).toInt8.toInt32)), (.int (5 : Int32)), (.ref bA)]))
  obtain ⟨cl6, Ar6, q6, S6, Nn6, H6, G6⟩ := id V3
  have hin6 : ¬ ((5 : Int32) < 0 ∨ cl6.slots.size ≤ ((5 : Int32)).toNatClampNeg) := inb_of S6 ⟨by decide, by decide⟩
  obtain ⟨T6, h6, X6, e6, W6, st6⟩ := stB X4 hx hZ e4 Ar6 (j := (5 : Int32)) hin6 (g := (mkF m 52 #[oR bA, oI (5 : Int32), oI cv] [(.int ((cv >>> ((8 : Int32) &&& 31)).toInt8.toInt32)), (.int (5 : Int32)), (.ref bA)])) rfl rfl (hb hby d25_52)
  have V6 := Arv.set Ar6 q6 S6 Nn6 H6 G6 (fits_nar_byte _) W6 5 rfl (Nat.le_of_ble_eq_true rfl)
  have N6 := Fr.snoc X6 N3 gb
  have Zs6 := Nat.le_trans Zs3 (Keep.of_wr W6).1
  have K6 := K3.wr W6 (Or.inl (List.mem_of_getElem? (i := 0) rfl))
  refine Done.step st6 ?_
  show Done _ p e below s _ _ (T6.setTop (mkF m 53 #[oR bA, oI (5 : Int32), oI cv] []))
  refine Done.retV (leavesF X6 hlk (by decide) (by decide)) X6 hx hret (hb hby d25_53) ?_
  rw [e6]
  exact ⟨rfl, N6, K6, V6⟩
set_option maxRecDepth 65536 in
set_option maxHeartbeats 40000000 in
theorem ug_42 (l : Launch) (Z : State) (a0 : Array Value) (hw : ∀ d ∈ tables_1, d.before a0 Z = true) (ws : List Jvm.Cond) (bA : Addr) (kb : ClassId) (p0 p1 p2 p3 p4 p5 p6 p7 : Int32) (h0 : Heap) (n0 : Nat) (Z0 : n0 ≤ h0.size) (O0 : Old Z n0 h0) (SA : Sta Z Z.heap "java/lang/StringUTF16" "$assertionsDisabled" "Z" (.int (1 : Int32))) (SH : Sta Z Z.heap "java/lang/StringUTF16" "HI_BYTE_SHIFT" "I" (.int (0 : Int32))) (SL : Sta Z Z.heap "java/lang/StringUTF16" "LO_BYTE_SHIFT" "I" (.int (8 : Int32))) (VB : Arv Z h0 bA kb .byte (8 : Int32) [(.int p0), (.int p1), (.int p2), (.int p3), (.int p4), (.int p5), (.int p6), (.int p7)] (.int (0 : Int32))) :
    Ctr FrameEnd l Z (⟨"java/lang/StringUTF16", "getChar", "([BI)C"⟩ : MethodName) jdk_52_method_5_code 2 (some .char) ws ({ frames := 0, cells := 0, slots := 0, locals := 0 } : Room) #[(.ref bA), (.int (2 : Int32))] h0 TrueV (PureQ (some (.int (own_join p4 p5))) h0) := by
  refine Ctr.intro (plainFor_of_name pn_java_lang_StringUTF16) (Ls := #[.val (.ref bA), .val (.int (2 : Int32))]) (fun m => by first | (simp [entryFrame, mkF, argsToLocals, Value.category]; done) | rfl) ?_
  intro p e s m below meth c T0 hx hby hml hown hnm hret hlk hZ hV hsh e0 X0
  have N0 := Fr.nil n0
  show Done _ p e below s _ _ (T0.setTop (mkF m 0 #[oR bA, oI (2 : Int32)] []))
  obtain ⟨T1, X1, e1, st1⟩ := getS2 X0 hx hZ hown (host := "") (Or.inl (wAt hw 108 rfl)) Via.refl e0 (SA.ext O0.2) (g := (mkF m 0 #[oR bA, oI (2 : Int32)] [])) rfl (hb hby d26_0)
  refine Done.step st1 ?_
  show Done _ p e below s _ _ (T1.setTop (mkF m 3 #[oR bA, oI (2 : Int32)] [(.int (1 : Int32))]))
  refine Done.step (fun _ => XS.ifYes X1.here hx rfl (pc0 := 3) (pc' := 28) rfl (hb hby d26_3) rfl (XT.i0_ne_t (by decide)) (by decide) (by decide)) ?_
  show Done _ p e below s _ _ (T1.setTop (mkF m 28 #[oR bA, oI (2 : Int32)] []))
  refine Done.step (fun _ => XS.iloadN X1.here hx rfl (hb hby d26_28) rfl) ?_
  show Done _ p e below s _ _ (T1.setTop (mkF m 29 #[oR bA, oI (2 : Int32)] [(.int (2 : Int32))]))
  refine Done.step (fun _ => XT.iconstV X1.here hx rfl (1 : Int32) (hb hby d26_29) (by decide)) ?_
  show Done _ p e below s _ _ (T1.setTop (mkF m 30 #[oR bA, oI (2 : Int32)] [(.int (1 : Int32)), (.int (2 : Int32))]))
  refine Done.step (fun _ => XT.ishl X1.here hx rfl (hb hby d26_30) rfl) ?_
  show Done _ p e below s _ _ (T1.setTop (mkF m 31 #[oR bA, oI (2 : Int32)] [(.int (4 : Int32))]))
  refine Done.step (fun _ => XS.istoreN X1.here hx rfl (hb hby d26_31) rfl (l' := #[oR bA, oI (4 : Int32)]) rfl) ?_
  show Done _ p e below s _ _ (T1.setTop (mkF m 32 #[oR bA, oI (4 : Int32)] []))
  refine Done.step (fun _ => XS.aloadN X1.here hx rfl (hb hby d26_32) rfl rfl) ?_
  show Done _ p e below s _ _ (T1.setTop (mkF m 33 #[oR bA, oI (4 : Int32)] [(.ref bA)]))
  refine Done.step (fun _ => XS.iloadN X1.here hx rfl (hb hby d26_33) rfl) ?_
  show Done _ p e below s _ _ (T1.setTop (mkF m 34 #[oR bA, oI (4 : Int32)] [(.int (4 : Int32)), (.ref bA)]))
  refine Done.step (fun _ => XS.iinc X1.here hx rfl (hb hby d26_34) rfl (l' := #[oR bA, oI (5 : Int32)]) rfl) ?_
  show Done _ p e below s _ _ (T1.setTop (mkF m 37 #[oR bA, oI (5 : Int32)] [(.int (4 : Int32)), (.ref bA)]))
  obtain ⟨cl2, Ar2, q2, S2, Nn2, H2, G2⟩ := id VB
  have hin2 : ¬ ((4 : Int32) < 0 ∨ cl2.slots.size ≤ ((4 : Int32)).toNatClampNeg) := inb_of S2 ⟨by decide, by decide⟩
  have hat2 := Has.at H2 hin2 (v := (.int p4)) rfl
  refine Done.step (X1.baloadBytes hx (j := (4 : Int32)) (v := (.int p4)) (by first | exact Ar2.1 | (rw [e1]; exact Ar2.1)) (State.isArrayOf_alike hZ.alike Ar2.2.1) Ar2.2.2 hin2 hat2 (g := (mkF m 37 #[oR bA, oI (5 : Int32)] [(.int (4 : Int32)), (.ref bA)])) rfl rfl (hb hby d26_37)) ?_
  show Done _ p e below s _ _ (T1.setTop (mkF m 38 #[oR bA, oI (5 : Int32)] [(.int p4)]))
  refine Done.step (fun _ => XT.sipushV X1.here hx rfl (255 : Int32) (hb hby d26_38) (by decide)) ?_
  show Done _ p e below s _ _ (T1.setTop (mkF m 41 #[oR bA, oI (5 : Int32)] [(.int (255 : Int32)), (.int p4)]))
  refine Done.step (fun _ => XS.iand X1.here hx rfl (hb hby d26_41) rfl) ?_
  show Done _ p e below s _ _ (T1.setTop (mkF m 42 #[oR bA, oI (5 : Int32)] [(.int (p4 &&& (255 : Int32)))]))
  obtain ⟨T3, X3, e3, st3⟩ := getS2 X1 hx hZ hown (host := "") (Or.inl (wAt hw 109 rfl)) Via.refl e1 (SH.ext O0.2) (g := (mkF m 42 #[oR bA, oI (5 : Int32)] [(.int (p4 &&& (255 : Int32)))])) rfl (hb hby d26_42)
  refine Done.step st3 ?_
  show Done _ p e below s _ _ (T3.setTop (mkF m 45 #[oR bA, oI (5 : Int32)] [(.int (0 : Int32)), (.int (p4 &&& (255 : Int32)))]))
  refine Done.step (fun _ => XT.ishl X3.here hx rfl (hb hby d26_45) rfl) ?_
  show Done _ p e below s _ _ (T3.setTop (mkF m 46 #[oR bA, oI (5 : Int32)] [(.int ((p4 &&& (255 : Int32)) <<< ((0 : Int32) &&& 31)))]))
  refine Done.step (fun _ => XS.aloadN X3.here hx rfl (hb hby d26_46) rfl rfl) ?_
  show Done _ p e below s _ _ (T3.setTop (mkF m 47 #[oR bA, oI (5 : Int32)] [(.ref bA), (.int ((p4 &&& (255 : Int32)) <<< ((0 : Int32) &&& 31)))]))
  refine Done.step (fun _ => XS.iloadN X3.here hx rfl (hb hby d26_47) rfl) ?_
  show Done _ p e below s _ _ (T3.setTop (mkF m 48 #[oR bA, oI (5 : Int32)] [(.int (5 : Int32)), (.ref bA), (.int ((p4 &&& (255 : Int32)) <<< ((0 : Int32) &&& 31)))]))
  obtain ⟨cl4, Ar4, q4, S4, Nn4, H4, G4⟩ := id VB
  have hin4 : ¬ ((5 : Int32) < 0 ∨ cl4.slots.size ≤ ((5 : Int32)).toNatClampNeg) := inb_of S4 ⟨by decide, by decide⟩
  have hat4 := Has.at H4 hin4 (v := (.int p5)) rfl
  refine Done.step (X3.baloadBytes hx (j := (5 : Int32)) (v := (.int p5)) (by first | exact Ar4.1 | (rw [e3]; exact Ar4.1)) (State.isArrayOf_alike hZ.alike Ar4.2.1) Ar4.2.2 hin4 hat4 (g := (mkF m 48 #[oR bA, oI (5 : Int32)] [(.int (5 : Int32)), (.ref bA), (.int ((p4 &&& (255 : Int32)) <<< ((0 : Int32) &&& 31)))])) rfl rfl (hb hby d26_48)) ?_
  show Done _ p e below s _ _ (T3.setTop (mkF m 49 #[oR bA, oI (5 : Int32)] [(.int p5), (.int ((p4 &&& (255 : Int32)) <<< ((0 : Int32) &&& 31)))]))
  refine Done.step (fun _ => XT.sipushV X3.here hx rfl (255 : Int32) (hb hby d26_49) (by decide)) ?_
  show Done _ p e below s _ _ (T3.setTop (mkF m 52 #[oR bA, oI (5 : Int32)] [(.int (255 : Int32)), (.int p5), (.int ((p4 &&& (255 : Int32)) <<< ((0 : Int32) &&& 31)))]))
  refine Done.step (fun _ => XS.iand X3.here hx rfl (hb hby d26_52) rfl) ?_
  show Done _ p e below s _ _ (T3.setTop (mkF m 53 #[oR bA, oI (5 : Int32)] [(.int (p5 &&& (255 : Int32))), (.int ((p4 &&& (255 : Int32)) <<< ((0 : Int32) &&& 31)))]))
  obtain ⟨T5, X5, e5, st5⟩ := getS2 X3 hx hZ hown (host := "") (Or.inl (wAt hw 110 rfl)) Via.refl e3 (SL.ext O0.2) (g := (mkF m 53 #[oR bA, oI (5 : Int32)] [(.int (p5 &&& (255 : Int32))), (.int ((p4 &&& (255 : Int32)) <<< ((0 : Int32) &&& 31)))])) rfl (hb hby d26_53)
  refine Done.step st5 ?_
  show Done _ p e below s _ _ (T5.setTop (mkF m 56 #[oR bA, oI (5 : Int32)] [(.int (8 : Int32)), (.int (p5 &&& (255 : Int32))), (.int ((p4 &&& (255 : Int32)) <<< ((0 : Int32) &&& 31)))]))
  refine Done.step (fun _ => XT.ishl X5.here hx rfl (hb hby d26_56) rfl) ?_
  show Done _ p e below s _ _ (T5.setTop (mkF m 57 #[oR bA, oI (5 : Int32)] [(.int ((p5 &&& (255 : Int32)) <<< ((8 : Int32) &&& 31))), (.int ((p4 &&& (255 : Int32)) <<< ((0 : Int32) &&& 31)))]))
  refine Done.step (fun _ => XT.ior X5.here hx rfl (hb hby d26_57) rfl) ?_
  show Done _ p e below s _ _ (T5.setTop (mkF m 58 #[oR bA, oI (5 : Int32)] [(.int (((p4 &&& (255 : Int32)) <<< ((0 : Int32) &&& 31)) ||| ((p5 &&& (255 : Int32)) <<< ((8 : Int32) &&& 31))))]))
  refine Done.step (fun _ => XT.i2c X5.here hx rfl (hb hby d26_58) rfl) ?_
  show Done _ p e below s _ _ (T5.setTop (mkF m 59 #[oR bA, oI (5 : Int32)] [(.int ((((p4 &&& (255 : Int32)) <<< ((0 : Int32) &&& 31)) ||| ((p5 &&& (255 : Int32)) <<< ((8 : Int32) &&& 31))).toUInt32.toUInt16.toUInt32.toInt32))]))
  exact Done.retN (leavesF X5 hlk (by decide) (by decide)) X5 hx (t := .char) hret (by simp) (hb hby d26_59) ⟨rfl, e5, rfl⟩
set_option maxRecDepth 65536 in
set_option maxHeartbeats 40000000 in
theorem up_43 (l : Launch) (Z : State) (a0 : Array Value) (hw : ∀ d ∈ tables_1, d.before a0 Z = true) (ws : List Jvm.Cond) (bA : Addr) (kb : ClassId) (p0 p1 p2 p3 p4 p5 p6 p7 cv : Int32) (h0 : Heap) (n0 : Nat) (Z0 : n0 ≤ h0.size) (O0 : Old Z n0 h0) (SA : Sta Z Z.heap "java/lang/StringUTF16" "$assertionsDisabled" "Z" (.int (1 : Int32))) (SH : Sta Z Z.heap "java/lang/StringUTF16" "HI_BYTE_SHIFT" "I" (.int (0 : Int32))) (SL : Sta Z Z.heap "java/lang/StringUTF16" "LO_BYTE_SHIFT" "I" (.int (8 : Int32))) (VB : Arv Z h0 bA kb .byte (8 : Int32) [(.int p0), (.int p1), (.int p2), (.int p3), (.int p4), (.int p5), (.int p6), (.int p7)] (.int (0 : Int32))) (gb : n0 ≤ bA) :
    Ctr FrameEnd l Z (⟨"java/lang/StringUTF16", "putChar", "([BII)V"⟩ : MethodName) jdk_52_method_4_code 3 none ws ({ frames := 0, cells := 0, slots := 0, locals := 0 } : Room) #[(.ref bA), (.int (3 : Int32)), (.int cv)] h0 TrueV (fun v h _ L => v = none ∧ Fr n0 L ∧ Keep h0 h [bA] ∧ Arv Z h bA kb .byte (8 : Int32) [(.int p0), (.int p1), (.int p2), (.int p3), (.int p4), (.int p5), (.int (own_hi cv)), (.int (own_lo cv))] (.int (0 : Int32))) := by
  refine Ctr.intro (plainFor_of_name pn_java_lang_StringUTF16) (Ls := #[.val (.ref bA), .val (.int (3 : Int32)), .val (.int cv)]) (fun m => by first | (simp [entryFrame, mkF, argsToLocals, Value.category]; done) | rfl) ?_
  intro p e s m below meth c T0 hx hby hml hown hnm hret hlk hZ hV hsh e0 X0
  have N0 := Fr.nil n0
  show Done _ p e below s _ _ (T0.setTop (mkF m 0 #[oR bA, oI (3 : Int32), oI cv] []))
  obtain ⟨T1, X1, e1, st1⟩ := getS2 X0 hx hZ hown (host := "") (Or.inl (wAt hw 108 rfl)) Via.refl e0 (SA.ext O0.2) (g := (mkF m 0 #[oR bA, oI (3 : Int32), oI cv] [])) rfl (hb hby d25_0)
  refine Done.step st1 ?_
  show Done _ p e below s _ _ (T1.setTop (mkF m 3 #[oR bA, oI (3 : Int32), oI cv] [(.int (1 : Int32))]))
  refine Done.step (fun _ => XS.ifYes X1.here hx rfl (pc0 := 3) (pc' := 28) rfl (hb hby d25_3) rfl (XT.i0_ne_t (by decide)) (by decide) (by decide)) ?_
  show Done _ p e below s _ _ (T1.setTop (mkF m 28 #[oR bA, oI (3 : Int32), oI cv] []))
  refine Done.step (fun _ => XS.iloadN X1.here hx rfl (hb hby d25_28) rfl) ?_
  show Done _ p e below s _ _ (T1.setTop (mkF m 29 #[oR bA, oI (3 : Int32), oI cv] [(.int (3 : Int32))]))
  refine Done.step (fun _ => XT.iconstV X1.here hx rfl (1 : Int32) (hb hby d25_29) (by decide)) ?_
  show Done _ p e below s _ _ (T1.setTop (mkF m 30 #[oR bA, oI (3 : Int32), oI cv] [(.int (1 : Int32)), (.int (3 : Int32))]))
  refine Done.step (fun _ => XT.ishl X1.here hx rfl (hb hby d25_30) rfl) ?_
  show Done _ p e below s _ _ (T1.setTop (mkF m 31 #[oR bA, oI (3 : Int32), oI cv] [(.int (6 : Int32))]))
  refine Done.step (fun _ => XS.istoreN X1.here hx rfl (hb hby d25_31) rfl (l' := #[oR bA, oI (6 : Int32), oI cv]) rfl) ?_
  show Done _ p e below s _ _ (T1.setTop (mkF m 32 #[oR bA, oI (6 : Int32), oI cv] []))
  refine Done.step (fun _ => XS.aloadN X1.here hx rfl (hb hby d25_32) rfl rfl) ?_
  show Done _ p e below s _ _ (T1.setTop (mkF m 33 #[oR bA, oI (6 : Int32), oI cv] [(.ref bA)]))
  refine Done.step (fun _ => XS.iloadN X1.here hx rfl (hb hby d25_33) rfl) ?_
  show Done _ p e below s _ _ (T1.setTop (mkF m 34 #[oR bA, oI (6 : Int32), oI cv] [(.int (6 : Int32)), (.ref bA)]))
  refine Done.step (fun _ => XS.iinc X1.here hx rfl (hb hby d25_34) rfl (l' := #[oR bA, oI (7 : Int32), oI cv]) rfl) ?_
  show Done _ p e below s _ _ (T1.setTop (mkF m 37 #[oR bA, oI (7 : Int32), oI cv] [(.int (6 : Int32)), (.ref bA)]))
  refine Done.step (fun _ => XS.iloadN X1.here hx rfl (hb hby d25_37) rfl) ?_
  show Done _ p e below s _ _ (T1.setTop (mkF m 38 #[oR bA, oI (7 : Int32), oI cv] [(.int cv), (.int (6 : Int32)), (.ref bA)]))
  obtain ⟨T2, X2, e2, st2⟩ := getS2 X1 hx hZ hown (host := "") (Or.inl (wAt hw 109 rfl)) Via.refl e1 (SH.ext O0.2) (g := (mkF m 38 #[oR bA, oI (7 : Int32), oI cv] [(.int cv), (.int (6 : Int32)), (.ref bA)])) rfl (hb hby d25_38)
  refine Done.step st2 ?_
  show Done _ p e below s _ _ (T2.setTop (mkF m 41 #[oR bA, oI (7 : Int32), oI cv] [(.int (0 : Int32)), (.int cv), (.int (6 : Int32)), (.ref bA)]))
  refine Done.step (fun _ => XT.ishr X2.here hx rfl (hb hby d25_41) rfl) ?_
  show Done _ p e below s _ _ (T2.setTop (mkF m 42 #[oR bA, oI (7 : Int32), oI cv] [(.int (cv >>> ((0 : Int32) &&& 31))), (.int (6 : Int32)), (.ref bA)]))
  refine Done.step (fun _ => XT.i2b X2.here hx rfl (hb hby d25_42) rfl) ?_
  show Done _ p e below s _ _ (T2.setTop (mkF m 43 #[oR bA, oI (7 : Int32), oI cv] [(.int ((cv >>> ((0 : Int32) &&& 31)).toInt8.toInt32)), (.int (6 : Int32)), (.ref bA)]))
  obtain ⟨cl3, Ar3, q3, S3, Nn3, H3, G3⟩ := id VB
  have hin3 : ¬ ((6 : Int32) < 0 ∨ cl3.slots.size ≤ ((6 : Int32)).toNatClampNeg) := inb_of S3 ⟨by decide, by decide⟩
  obtain ⟨T3, h3, X3, e3, W3, st3⟩ := stB X2 hx hZ e2 Ar3 (j := (6 : Int32)) hin3 (g := (mkF m 43 #[oR bA, oI (7 : Int32), oI cv] [(.int ((cv >>> ((0 : Int32) &&& 31)).toInt8.toInt32)), (.int (6 : Int32)), (.ref bA)])) rfl rfl (hb hby d25_43)
  have V3 := Arv.set Ar3 q3 S3 Nn3 H3 G3 (fits_nar_byte _) W3 6 rfl (Nat.le_of_ble_eq_true rfl)
  have N3 := Fr.snoc X3 N0 gb
  have Zs3 := Nat.le_trans Z0 (Keep.of_wr W3).1
  have K3 := (Keep.refl h0 [bA]).wr W3 (Or.inl (List.mem_of_getElem? (i := 0) rfl))
  refine Done.step st3 ?_
  show Done _ p e below s _ _ (T3.setTop (mkF m 44 #[oR bA, oI (7 : Int32), oI cv] []))
  refine Done.step (fun _ => XS.aloadN X3.here hx rfl (hb hby d25_44) rfl rfl) ?_
  show Done _ p e below s _ _ (T3.setTop (mkF m 45 #[oR bA, oI (7 : Int32), oI cv] [(.ref bA)]))
  refine Done.step (fun _ => XS.iloadN X3.here hx rfl (hb hby d25_45) rfl) ?_
  show Done _ p e below s _ _ (T3.setTop (mkF m 46 #[oR bA, oI (7 : Int32), oI cv] [(.int (7 : Int32)), (.ref bA)]))
  refine Done.step (fun _ => XS.iloadN X3.here hx rfl (hb hby d25_46) rfl) ?_
  show Done _ p e below s _ _ (T3.setTop (mkF m 47 #[oR bA, oI (7 : Int32), oI cv] [(.int cv), (.int (7 : Int32)), (.ref bA)]))
  have f5 := (O0.wr W3 gb)
  obtain ⟨T4, X4, e4, st4⟩ := getS2 X3 hx hZ hown (host := "") (Or.inl (wAt hw 110 rfl)) Via.refl e3 (SL.ext f5.2) (g := (mkF m 47 #[oR bA, oI (7 : Int32), oI cv] [(.int cv), (.int (7 : Int32)), (.ref bA)])) rfl (hb hby d25_47)
  refine Done.step st4 ?_
  show Done _ p e below s _ _ (T4.setTop (mkF m 50 #[oR bA, oI (7 : Int32), oI cv] [(.int (8 : Int32)), (.int cv), (.int (7 : Int32)), (.ref bA)]))
  refine Done.step (fun _ => XT.ishr X4.here hx rfl (hb hby d25_50) rfl) ?_
  show Done _ p e below s _ _ (T4.setTop (mkF m 51 #[oR bA, oI (7 : Int32), oI cv] [(.int (cv >>> ((8 : Int32) &&& 31))), (.int (7 : Int32)), (.ref bA)]))
  refine Done.step (fun _ => XT.i2b X4.here hx rfl (hb hby d25_51) rfl) ?_
  show Done _ p e below s _ _ (T4.setTop (mkF m 52 #[oR bA, oI (7 : Int32), oI cv] [(.int ((cv >>> ((8 : Int32) &&& 31)).toInt8.toInt32)), (.int (7 : Int32)), (.ref bA)]))
  obtain ⟨cl6, Ar6, q6, S6, Nn6, H6, G6⟩ := id V3
  have hin6 : ¬ ((7 : Int32) < 0 ∨ cl6.slots.size ≤ ((7 : Int32)).toNatClampNeg) := inb_of S6 ⟨by decide, by decide⟩
  obtain ⟨T6, h6, X6, e6, W6, st6⟩ := stB X4 hx hZ e4 Ar6 (j := (7 : Int32)) hin6 (g := (mkF m 52 #[oR bA, oI (7 : Int32), oI cv] [(.int ((cv >>> ((8 : Int32) &&& 31)).toInt8.toInt32)), (.int (7 : Int32)), (.ref bA)])) rfl rfl (hb hby d25_52)
  have V6 := Arv.set Ar6 q6 S6 Nn6 H6 G6 (fits_nar_byte _) W6 7 rfl (Nat.le_of_ble_eq_true rfl)
  have N6 := Fr.snoc X6 N3 gb
  have Zs6 := Nat.le_trans Zs3 (Keep.of_wr W6).1
  have K6 := K3.wr W6 (Or.inl (List.mem_of_getElem? (i := 0) rfl))
  refine Done.step st6 ?_
  show Done _ p e below s _ _ (T6.setTop (mkF m 53 #[oR bA, oI (7 : Int32), oI cv] []))
  refine Done.retV (leavesF X6 hlk (by decide) (by decide)) X6 hx hret (hb hby d25_53) ?_
  rw [e6]
  exact ⟨rfl, N6, K6, V6⟩
set_option maxRecDepth 65536 in
set_option maxHeartbeats 40000000 in
theorem ug_43 (l : Launch) (Z : State) (a0 : Array Value) (hw : ∀ d ∈ tables_1, d.before a0 Z = true) (ws : List Jvm.Cond) (bA : Addr) (kb : ClassId) (p0 p1 p2 p3 p4 p5 p6 p7 : Int32) (h0 : Heap) (n0 : Nat) (Z0 : n0 ≤ h0.size) (O0 : Old Z n0 h0) (SA : Sta Z Z.heap "java/lang/StringUTF16" "$assertionsDisabled" "Z" (.int (1 : Int32))) (SH : Sta Z Z.heap "java/lang/StringUTF16" "HI_BYTE_SHIFT" "I" (.int (0 : Int32))) (SL : Sta Z Z.heap "java/lang/StringUTF16" "LO_BYTE_SHIFT" "I" (.int (8 : Int32))) (VB : Arv Z h0 bA kb .byte (8 : Int32) [(.int p0), (.int p1), (.int p2), (.int p3), (.int p4), (.int p5), (.int p6), (.int p7)] (.int (0 : Int32))) :
    Ctr FrameEnd l Z (⟨"java/lang/StringUTF16", "getChar", "([BI)C"⟩ : MethodName) jdk_52_method_5_code 2 (some .char) ws ({ frames := 0, cells := 0, slots := 0, locals := 0 } : Room) #[(.ref bA), (.int (3 : Int32))] h0 TrueV (PureQ (some (.int (own_join p6 p7))) h0) := by
  refine Ctr.intro (plainFor_of_name pn_java_lang_StringUTF16) (Ls := #[.val (.ref bA), .val (.int (3 : Int32))]) (fun m => by first | (simp [entryFrame, mkF, argsToLocals, Value.category]; done) | rfl) ?_
  intro p e s m below meth c T0 hx hby hml hown hnm hret hlk hZ hV hsh e0 X0
  have N0 := Fr.nil n0
  show Done _ p e below s _ _ (T0.setTop (mkF m 0 #[oR bA, oI (3 : Int32)] []))
  obtain ⟨T1, X1, e1, st1⟩ := getS2 X0 hx hZ hown (host := "") (Or.inl (wAt hw 108 rfl)) Via.refl e0 (SA.ext O0.2) (g := (mkF m 0 #[oR bA, oI (3 : Int32)] [])) rfl (hb hby d26_0)
  refine Done.step st1 ?_
  show Done _ p e below s _ _ (T1.setTop (mkF m 3 #[oR bA, oI (3 : Int32)] [(.int (1 : Int32))]))
  refine Done.step (fun _ => XS.ifYes X1.here hx rfl (pc0 := 3) (pc' := 28) rfl (hb hby d26_3) rfl (XT.i0_ne_t (by decide)) (by decide) (by decide)) ?_
  show Done _ p e below s _ _ (T1.setTop (mkF m 28 #[oR bA, oI (3 : Int32)] []))
  refine Done.step (fun _ => XS.iloadN X1.here hx rfl (hb hby d26_28) rfl) ?_
  show Done _ p e below s _ _ (T1.setTop (mkF m 29 #[oR bA, oI (3 : Int32)] [(.int (3 : Int32))]))
  refine Done.step (fun _ => XT.iconstV X1.here hx rfl (1 : Int32) (hb hby d26_29) (by decide)) ?_
  show Done _ p e below s _ _ (T1.setTop (mkF m 30 #[oR bA, oI (3 : Int32)] [(.int (1 : Int32)), (.int (3 : Int32))]))
  refine Done.step (fun _ => XT.ishl X1.here hx rfl (hb hby d26_30) rfl) ?_
  show Done _ p e below s _ _ (T1.setTop (mkF m 31 #[oR bA, oI (3 : Int32)] [(.int (6 : Int32))]))
  refine Done.step (fun _ => XS.istoreN X1.here hx rfl (hb hby d26_31) rfl (l' := #[oR bA, oI (6 : Int32)]) rfl) ?_
  show Done _ p e below s _ _ (T1.setTop (mkF m 32 #[oR bA, oI (6 : Int32)] []))
  refine Done.step (fun _ => XS.aloadN X1.here hx rfl (hb hby d26_32) rfl rfl) ?_
  show Done _ p e below s _ _ (T1.setTop (mkF m 33 #[oR bA, oI (6 : Int32)] [(.ref bA)]))
  refine Done.step (fun _ => XS.iloadN X1.here hx rfl (hb hby d26_33) rfl) ?_
  show Done _ p e below s _ _ (T1.setTop (mkF m 34 #[oR bA, oI (6 : Int32)] [(.int (6 : Int32)), (.ref bA)]))
  refine Done.step (fun _ => XS.iinc X1.here hx rfl (hb hby d26_34) rfl (l' := #[oR bA, oI (7 : Int32)]) rfl) ?_
  show Done _ p e below s _ _ (T1.setTop (mkF m 37 #[oR bA, oI (7 : Int32)] [(.int (6 : Int32)), (.ref bA)]))
  obtain ⟨cl2, Ar2, q2, S2, Nn2, H2, G2⟩ := id VB
  have hin2 : ¬ ((6 : Int32) < 0 ∨ cl2.slots.size ≤ ((6 : Int32)).toNatClampNeg) := inb_of S2 ⟨by decide, by decide⟩
  have hat2 := Has.at H2 hin2 (v := (.int p6)) rfl
  refine Done.step (X1.baloadBytes hx (j := (6 : Int32)) (v := (.int p6)) (by first | exact Ar2.1 | (rw [e1]; exact Ar2.1)) (State.isArrayOf_alike hZ.alike Ar2.2.1) Ar2.2.2 hin2 hat2 (g := (mkF m 37 #[oR bA, oI (7 : Int32)] [(.int (6 : Int32)), (.ref bA)])) rfl rfl (hb hby d26_37)) ?_
  show Done _ p e below s _ _ (T1.setTop (mkF m 38 #[oR bA, oI (7 : Int32)] [(.int p6)]))
  refine Done.step (fun _ => XT.sipushV X1.here hx rfl (255 : Int32) (hb hby d26_38) (by decide)) ?_
  show Done _ p e below s _ _ (T1.setTop (mkF m 41 #[oR bA, oI (7 : Int32)] [(.int (255 : Int32)), (.int p6)]))
  refine Done.step (fun _ => XS.iand X1.here hx rfl (hb hby d26_41) rfl) ?_
  show Done _ p e below s _ _ (T1.setTop (mkF m 42 #[oR bA, oI (7 : Int32)] [(.int (p6 &&& (255 : Int32)))]))
  obtain ⟨T3, X3, e3, st3⟩ := getS2 X1 hx hZ hown (host := "") (Or.inl (wAt hw 109 rfl)) Via.refl e1 (SH.ext O0.2) (g := (mkF m 42 #[oR bA, oI (7 : Int32)] [(.int (p6 &&& (255 : Int32)))])) rfl (hb hby d26_42)
  refine Done.step st3 ?_
  show Done _ p e below s _ _ (T3.setTop (mkF m 45 #[oR bA, oI (7 : Int32)] [(.int (0 : Int32)), (.int (p6 &&& (255 : Int32)))]))
  refine Done.step (fun _ => XT.ishl X3.here hx rfl (hb hby d26_45) rfl) ?_
  show Done _ p e below s _ _ (T3.setTop (mkF m 46 #[oR bA, oI (7 : Int32)] [(.int ((p6 &&& (255 : Int32)) <<< ((0 : Int32) &&& 31)))]))
  refine Done.step (fun _ => XS.aloadN X3.here hx rfl (hb hby d26_46) rfl rfl) ?_
  show Done _ p e below s _ _ (T3.setTop (mkF m 47 #[oR bA, oI (7 : Int32)] [(.ref bA), (.int ((p6 &&& (255 : Int32)) <<< ((0 : Int32) &&& 31)))]))
  refine Done.step (fun _ => XS.iloadN X3.here hx rfl (hb hby d26_47) rfl) ?_
  show Done _ p e below s _ _ (T3.setTop (mkF m 48 #[oR bA, oI (7 : Int32)] [(.int (7 : Int32)), (.ref bA), (.int ((p6 &&& (255 : Int32)) <<< ((0 : Int32) &&& 31)))]))
  obtain ⟨cl4, Ar4, q4, S4, Nn4, H4, G4⟩ := id VB
  have hin4 : ¬ ((7 : Int32) < 0 ∨ cl4.slots.size ≤ ((7 : Int32)).toNatClampNeg) := inb_of S4 ⟨by decide, by decide⟩
  have hat4 := Has.at H4 hin4 (v := (.int p7)) rfl
  refine Done.step (X3.baloadBytes hx (j := (7 : Int32)) (v := (.int p7)) (by first | exact Ar4.1 | (rw [e3]; exact Ar4.1)) (State.isArrayOf_alike hZ.alike Ar4.2.1) Ar4.2.2 hin4 hat4 (g := (mkF m 48 #[oR bA, oI (7 : Int32)] [(.int (7 : Int32)), (.ref bA), (.int ((p6 &&& (255 : Int32)) <<< ((0 : Int32) &&& 31)))])) rfl rfl (hb hby d26_48)) ?_
  show Done _ p e below s _ _ (T3.setTop (mkF m 49 #[oR bA, oI (7 : Int32)] [(.int p7), (.int ((p6 &&& (255 : Int32)) <<< ((0 : Int32) &&& 31)))]))
  refine Done.step (fun _ => XT.sipushV X3.here hx rfl (255 : Int32) (hb hby d26_49) (by decide)) ?_
  show Done _ p e below s _ _ (T3.setTop (mkF m 52 #[oR bA, oI (7 : Int32)] [(.int (255 : Int32)), (.int p7), (.int ((p6 &&& (255 : Int32)) <<< ((0 : Int32) &&& 31)))]))
  refine Done.step (fun _ => XS.iand X3.here hx rfl (hb hby d26_52) rfl) ?_
  show Done _ p e below s _ _ (T3.setTop (mkF m 53 #[oR bA, oI (7 : Int32)] [(.int (p7 &&& (255 : Int32))), (.int ((p6 &&& (255 : Int32)) <<< ((0 : Int32) &&& 31)))]))
  obtain ⟨T5, X5, e5, st5⟩ := getS2 X3 hx hZ hown (host := "") (Or.inl (wAt hw 110 rfl)) Via.refl e3 (SL.ext O0.2) (g := (mkF m 53 #[oR bA, oI (7 : Int32)] [(.int (p7 &&& (255 : Int32))), (.int ((p6 &&& (255 : Int32)) <<< ((0 : Int32) &&& 31)))])) rfl (hb hby d26_53)
  refine Done.step st5 ?_
  show Done _ p e below s _ _ (T5.setTop (mkF m 56 #[oR bA, oI (7 : Int32)] [(.int (8 : Int32)), (.int (p7 &&& (255 : Int32))), (.int ((p6 &&& (255 : Int32)) <<< ((0 : Int32) &&& 31)))]))
  refine Done.step (fun _ => XT.ishl X5.here hx rfl (hb hby d26_56) rfl) ?_
  show Done _ p e below s _ _ (T5.setTop (mkF m 57 #[oR bA, oI (7 : Int32)] [(.int ((p7 &&& (255 : Int32)) <<< ((8 : Int32) &&& 31))), (.int ((p6 &&& (255 : Int32)) <<< ((0 : Int32) &&& 31)))]))
  refine Done.step (fun _ => XT.ior X5.here hx rfl (hb hby d26_57) rfl) ?_
  show Done _ p e below s _ _ (T5.setTop (mkF m 58 #[oR bA, oI (7 : Int32)] [(.int (((p6 &&& (255 : Int32)) <<< ((0 : Int32) &&& 31)) ||| ((p7 &&& (255 : Int32)) <<< ((8 : Int32) &&& 31))))]))
  refine Done.step (fun _ => XT.i2c X5.here hx rfl (hb hby d26_58) rfl) ?_
  show Done _ p e below s _ _ (T5.setTop (mkF m 59 #[oR bA, oI (7 : Int32)] [(.int ((((p6 &&& (255 : Int32)) <<< ((0 : Int32) &&& 31)) ||| ((p7 &&& (255 : Int32)) <<< ((8 : Int32) &&& 31))).toUInt32.toUInt16.toUInt32.toInt32))]))
  exact Done.retN (leavesF X5 hlk (by decide) (by decide)) X5 hx (t := .char) hret (by simp) (hb hby d26_59) ⟨rfl, e5, rfl⟩
set_option maxRecDepth 65536 in
set_option maxHeartbeats 40000000 in
theorem ut_4 (l : Launch) (Z : State) (a0 : Array Value) (hw : ∀ d ∈ tables_1, d.before a0 Z = true) (ws : List Jvm.Cond) (cA : Addr) (kc : ClassId) (c0 c1 c2 c3 : Int32) (h0 : Heap) (n0 : Nat) (Z0 : n0 ≤ h0.size) (O0 : Old Z n0 h0) (SA : Sta Z Z.heap "java/lang/StringUTF16" "$assertionsDisabled" "Z" (.int (1 : Int32))) (SH : Sta Z Z.heap "java/lang/StringUTF16" "HI_BYTE_SHIFT" "I" (.int (0 : Int32))) (SL : Sta Z Z.heap "java/lang/StringUTF16" "LO_BYTE_SHIFT" "I" (.int (8 : Int32))) (VA : Arv Z h0 cA kc .char (4 : Int32) [(.int c0), (.int c1), (.int c2), (.int c3)] (.int (0 : Int32))) :
    Ctr FrameEnd l Z (⟨"java/lang/StringUTF16", "toBytes", "([CII)[B"⟩ : MethodName) jdk_52_method_14_code 5 (some (.array .byte)) ws ({ frames := 2, cells := 1, slots := 8, locals := 27 } : Room) #[(.ref cA), (.int (0 : Int32)), (.int (4 : Int32))] h0 TrueV (fun v h _ L => ∃ (b : Addr) (kb : ClassId), v = some (.ref b) ∧ Fr n0 L ∧ Keep h0 h [] ∧ h0.size ≤ b ∧ Arv Z h b kb .byte (8 : Int32) [(.int (own_hi c0)), (.int (own_lo c0)), (.int (own_hi c1)), (.int (own_lo c1)), (.int (own_hi c2)), (.int (own_lo c2)), (.int (own_hi c3)), (.int (own_lo c3))] (.int (0 : Int32))) := by
  refine Ctr.intro (plainFor_of_name pn_java_lang_StringUTF16) (Ls := #[.val (.ref cA), .val (.int (0 : Int32)), .val (.int (4 : Int32)), .unset, .unset]) (fun m => by first | (simp [entryFrame, mkF, argsToLocals, Value.category]; done) | rfl) ?_
  intro p e s m below meth c T0 hx hby hml hown hnm hret hlk hZ hV hsh e0 X0
  have N0 := Fr.nil n0
  show Done _ p e below s _ _ (T0.setTop (mkF m 0 #[oR cA, oI (0 : Int32), oI (4 : Int32), .unset, .unset] []))
  refine Done.step (fun _ => XS.iloadN X0.here hx rfl (hb hby d22_0) rfl) ?_
  show Done _ p e below s _ _ (T0.setTop (mkF m 1 #[oR cA, oI (0 : Int32), oI (4 : Int32), .unset, .unset] [(.int (4 : Int32))]))
  refine Done.callS X0 hx hZ hown (wAt hw 98 rfl) (wAt hw 99 rfl) (wAt hw 90 rfl) (wAt hw 100 rfl) (by decide) (uf_4 l Z a0 hw [] h0 n0 Z0) (fun _ _ => trivial) e0 (g := (mkF m 1 #[oR cA, oI (0 : Int32), oI (4 : Int32), .unset, .unset] [(.int (4 : Int32))])) rfl (by rw [hml]; rfl) [(.int (4 : Int32))] [] 0 (lenOf pd_2 rfl) rfl rfl (by show 2 * 0 + _ ≤ _; exact Nat.le_of_eq rfl) (hb hby d22_1) (by decide) (by decide) (by decide) (by decide) ?_
  intro T1 v1 L1 X1 q1
  obtain ⟨bA, kb, rfl, Nq1, K1q, szb, VBn⟩ := q1
  have N1 := Fr.app N0 Nq1
  have Zs1 := Nat.le_trans Z0 K1q.1
  have K1 := (Keep.refl h0 []).trans K1q all0
  show Done _ p e below s _ _ (T1.setTop (mkF m 4 #[oR cA, oI (0 : Int32), oI (4 : Int32), .unset, .unset] [(.ref bA)]))
  have sz_bA : h0.size ≤ bA := szb
  have n0_bA : n0 ≤ bA := Nat.le_trans Z0 szb
  have nab : cA ≠ bA := Nat.ne_of_lt (Nat.lt_of_lt_of_le VA.lt szb)
  refine Done.step (fun _ => XS.astoreN X1.here hx rfl (hb hby d22_4) rfl rfl (l' := #[oR cA, oI (0 : Int32), oI (4 : Int32), oR bA, .unset]) rfl) ?_
  show Done _ p e below s _ _ (T1.setTop (mkF m 5 #[oR cA, oI (0 : Int32), oI (4 : Int32), oR bA, .unset] []))
  refine Done.step (fun _ => XT.iconstV X1.here hx rfl (0 : Int32) (hb hby d22_5) (by decide)) ?_
  show Done _ p e below s _ _ (T1.setTop (mkF m 6 #[oR cA, oI (0 : Int32), oI (4 : Int32), oR bA, .unset] [(.int (0 : Int32))]))
  refine Done.step (fun _ => XS.istore X1.here hx rfl (hb hby d22_6) rfl (l' := #[oR cA, oI (0 : Int32), oI (4 : Int32), oR bA, oI (0 : Int32)]) rfl) ?_
  show Done _ p e below s _ _ (T1.setTop (mkF m 8 #[oR cA, oI (0 : Int32), oI (4 : Int32), oR bA, oI (0 : Int32)] []))
  refine Done.step (fun _ => XS.iload X1.here hx rfl (hb hby d22_8) rfl) ?_
  show Done _ p e below s _ _ (T1.setTop (mkF m 10 #[oR cA, oI (0 : Int32), oI (4 : Int32), oR bA, oI (0 : Int32)] [(.int (0 : Int32))]))
  refine Done.step (fun _ => XS.iloadN X1.here hx rfl (hb hby d22_10) rfl) ?_
  show Done _ p e below s _ _ (T1.setTop (mkF m 11 #[oR cA, oI (0 : Int32), oI (4 : Int32), oR bA, oI (0 : Int32)] [(.int (4 : Int32)), (.int (0 : Int32))]))
  refine Done.step (fun _ => XS.icmpNo X1.here hx rfl (hb hby d22_11) rfl (XT.ii_ge_f (by decide))) ?_
  show Done _ p e below s _ _ (T1.setTop (mkF m 14 #[oR cA, oI (0 : Int32), oI (4 : Int32), oR bA, oI (0 : Int32)] []))
  refine Done.step (fun _ => XS.aloadN X1.here hx rfl (hb hby d22_14) rfl rfl) ?_
  show Done _ p e below s _ _ (T1.setTop (mkF m 15 #[oR cA, oI (0 : Int32), oI (4 : Int32), oR bA, oI (0 : Int32)] [(.ref bA)]))
  refine Done.step (fun _ => XS.iload X1.here hx rfl (hb hby d22_15) rfl) ?_
  show Done _ p e below s _ _ (T1.setTop (mkF m 17 #[oR cA, oI (0 : Int32), oI (4 : Int32), oR bA, oI (0 : Int32)] [(.int (0 : Int32)), (.ref bA)]))
  refine Done.step (fun _ => XS.aloadN X1.here hx rfl (hb hby d22_17) rfl rfl) ?_
  show Done _ p e below s _ _ (T1.setTop (mkF m 18 #[oR cA, oI (0 : Int32), oI (4 : Int32), oR bA, oI (0 : Int32)] [(.ref cA), (.int (0 : Int32)), (.ref bA)]))
  refine Done.step (fun _ => XS.iloadN X1.here hx rfl (hb hby d22_18) rfl) ?_
  show Done _ p e below s _ _ (T1.setTop (mkF m 19 #[oR cA, oI (0 : Int32), oI (4 : Int32), oR bA, oI (0 : Int32)] [(.int (0 : Int32)), (.ref cA), (.int (0 : Int32)), (.ref bA)]))
  have f3 := (VA.keep K1q nin0)
  obtain ⟨cl2, Ar2, q2, S2, Nn2, H2, G2⟩ := id f3
  have hin2 : ¬ ((0 : Int32) < 0 ∨ cl2.slots.size ≤ ((0 : Int32)).toNatClampNeg) := inb_of S2 ⟨by decide, by decide⟩
  have hat2 := Has.at H2 hin2 (v := (.int c0)) rfl
  refine Done.step (X1.caload hx (j := (0 : Int32)) (v := (.int c0)) (by first | exact Ar2.1 | (rw [rfl]; exact Ar2.1)) (State.isArrayOf_alike hZ.alike Ar2.2.1) Ar2.2.2 hin2 hat2 (g := (mkF m 19 #[oR cA, oI (0 : Int32), oI (4 : Int32), oR bA, oI (0 : Int32)] [(.int (0 : Int32)), (.ref cA), (.int (0 : Int32)), (.ref bA)])) rfl rfl (hb hby d22_19)) ?_
  show Done _ p e below s _ _ (T1.setTop (mkF m 20 #[oR cA, oI (0 : Int32), oI (4 : Int32), oR bA, oI (0 : Int32)] [(.int c0), (.int (0 : Int32)), (.ref bA)]))
  have f4 := (O0.keep K1q all0)
  refine Done.callS X1 hx hZ hown (wAt hw 105 rfl) (wAt hw 106 rfl) (wAt hw 90 rfl) (wAt hw 107 rfl) (by decide) (up_40 l Z a0 hw [] bA kb (0 : Int32) (0 : Int32) (0 : Int32) (0 : Int32) (0 : Int32) (0 : Int32) (0 : Int32) (0 : Int32) c0 T1.heap n0 Zs1 f4 SA SH SL VBn n0_bA) (fun _ _ => trivial) rfl (g := (mkF m 20 #[oR cA, oI (0 : Int32), oI (4 : Int32), oR bA, oI (0 : Int32)] [(.int c0), (.int (0 : Int32)), (.ref bA)])) rfl (by rw [hml]; rfl) [(.ref bA), (.int (0 : Int32)), (.int c0)] [] 0 (lenOf pd_3 rfl) rfl rfl (by show 2 * 0 + _ ≤ _; exact Nat.le_of_eq rfl) (hb hby d22_20) (by decide) (by decide) (by decide) (by decide) ?_
  intro T5 v5 L5 X5 q5
  obtain ⟨rfl, Nq5, K5q, VB0⟩ := q5
  have N5 := Fr.app N1 Nq5
  have Zs5 := Nat.le_trans Zs1 K5q.1
  have K5 := K1.trans K5q (allS (Or.inr sz_bA) all0)
  show Done _ p e below s _ _ (T5.setTop (mkF m 23 #[oR cA, oI (0 : Int32), oI (4 : Int32), oR bA, oI (0 : Int32)] []))
  refine Done.step (fun _ => XS.iinc X5.here hx rfl (hb hby d22_23) rfl (l' := #[oR cA, oI (1 : Int32), oI (4 : Int32), oR bA, oI (0 : Int32)]) rfl) ?_
  show Done _ p e below s _ _ (T5.setTop (mkF m 26 #[oR cA, oI (1 : Int32), oI (4 : Int32), oR bA, oI (0 : Int32)] []))
  refine Done.step (fun _ => XS.iinc X5.here hx rfl (hb hby d22_26) rfl (l' := #[oR cA, oI (1 : Int32), oI (4 : Int32), oR bA, oI (1 : Int32)]) rfl) ?_
  show Done _ p e below s _ _ (T5.setTop (mkF m 29 #[oR cA, oI (1 : Int32), oI (4 : Int32), oR bA, oI (1 : Int32)] []))
  refine Done.step (fun _ => XS.goto X5.here hx rfl (pc0 := 29) (pc' := 8) rfl (hb hby d22_29) (by decide) (by decide)) ?_
  show Done _ p e below s _ _ (T5.setTop (mkF m 8 #[oR cA, oI (1 : Int32), oI (4 : Int32), oR bA, oI (1 : Int32)] []))
  refine Done.step (fun _ => XS.iload X5.here hx rfl (hb hby d22_8) rfl) ?_
  show Done _ p e below s _ _ (T5.setTop (mkF m 10 #[oR cA, oI (1 : Int32), oI (4 : Int32), oR bA, oI (1 : Int32)] [(.int (1 : Int32))]))
  refine Done.step (fun _ => XS.iloadN X5.here hx rfl (hb hby d22_10) rfl) ?_
  show Done _ p e below s _ _ (T5.setTop (mkF m 11 #[oR cA, oI (1 : Int32), oI (4 : Int32), oR bA, oI (1 : Int32)] [(.int (4 : Int32)), (.int (1 : Int32))]))
  refine Done.step (fun _ => XS.icmpNo X5.here hx rfl (hb hby d22_11) rfl (XT.ii_ge_f (by decide))) ?_
  show Done _ p e below s _ _ (T5.setTop (mkF m 14 #[oR cA, oI (1 : Int32), oI (4 : Int32), oR bA, oI (1 : Int32)] []))
  refine Done.step (fun _ => XS.aloadN X5.here hx rfl (hb hby d22_14) rfl rfl) ?_
  show Done _ p e below s _ _ (T5.setTop (mkF m 15 #[oR cA, oI (1 : Int32), oI (4 : Int32), oR bA, oI (1 : Int32)] [(.ref bA)]))
  refine Done.step (fun _ => XS.iload X5.here hx rfl (hb hby d22_15) rfl) ?_
  show Done _ p e below s _ _ (T5.setTop (mkF m 17 #[oR cA, oI (1 : Int32), oI (4 : Int32), oR bA, oI (1 : Int32)] [(.int (1 : Int32)), (.ref bA)]))
  refine Done.step (fun _ => XS.aloadN X5.here hx rfl (hb hby d22_17) rfl rfl) ?_
  show Done _ p e below s _ _ (T5.setTop (mkF m 18 #[oR cA, oI (1 : Int32), oI (4 : Int32), oR bA, oI (1 : Int32)] [(.ref cA), (.int (1 : Int32)), (.ref bA)]))
  refine Done.step (fun _ => XS.iloadN X5.here hx rfl (hb hby d22_18) rfl) ?_
  show Done _ p e below s _ _ (T5.setTop (mkF m 19 #[oR cA, oI (1 : Int32), oI (4 : Int32), oR bA, oI (1 : Int32)] [(.int (1 : Int32)), (.ref cA), (.int (1 : Int32)), (.ref bA)]))
  have f7 := (f3.keep K5q (ninS nab nin0))
  obtain ⟨cl6, Ar6, q6, S6, Nn6, H6, G6⟩ := id f7
  have hin6 : ¬ ((1 : Int32) < 0 ∨ cl6.slots.size ≤ ((1 : Int32)).toNatClampNeg) := inb_of S6 ⟨by decide, by decide⟩
  have hat6 := Has.at H6 hin6 (v := (.int c1)) rfl
  refine Done.step (X5.caload hx (j := (1 : Int32)) (v := (.int c1)) (by first | exact Ar6.1 | (rw [rfl]; exact Ar6.1)) (State.isArrayOf_alike hZ.alike Ar6.2.1) Ar6.2.2 hin6 hat6 (g := (mkF m 19 #[oR cA, oI (1 : Int32), oI (4 : Int32), oR bA, oI (1 : Int32)] [(.int (1 : Int32)), (.ref cA), (.int (1 : Int32)), (.ref bA)])) rfl rfl (hb hby d22_19)) ?_
  show Done _ p e below s _ _ (T5.setTop (mkF m 20 #[oR cA, oI (1 : Int32), oI (4 : Int32), oR bA, oI (1 : Int32)] [(.int c1), (.int (1 : Int32)), (.ref bA)]))
  have f8 := (f4.keep K5q (allS n0_bA all0))
  refine Done.callS X5 hx hZ hown (wAt hw 105 rfl) (wAt hw 106 rfl) (wAt hw 90 rfl) (wAt hw 107 rfl) (by decide) (up_41 l Z a0 hw [] bA kb (own_hi c0) (own_lo c0) (0 : Int32) (0 : Int32) (0 : Int32) (0 : Int32) (0 : Int32) (0 : Int32) c1 T5.heap n0 Zs5 f8 SA SH SL VB0 n0_bA) (fun _ _ => trivial) rfl (g := (mkF m 20 #[oR cA, oI (1 : Int32), oI (4 : Int32), oR bA, oI (1 : Int32)] [(.int c1), (.int (1 : Int32)), (.ref bA)])) rfl (by rw [hml]; rfl) [(.ref bA), (.int (1 : Int32)), (.int c1)] [] 0 (lenOf pd_3 rfl) rfl rfl (by show 2 * 0 + _ ≤ _; exact Nat.le_of_eq rfl) (hb hby d22_20) (by decide) (by decide) (by decide) (by decide) ?_
  intro T9 v9 L9 X9 q9
  obtain ⟨rfl, Nq9, K9q, VB1⟩ := q9
  have N9 := Fr.app N5 Nq9
  have Zs9 := Nat.le_trans Zs5 K9q.1
  have K9 := K5.trans K9q (allS (Or.inr sz_bA) all0)
  show Done _ p e below s _ _ (T9.setTop (mkF m 23 #[oR cA, oI (1 : Int32), oI (4 : Int32), oR bA, oI (1 : Int32)] []))
  refine Done.step (fun _ => XS.iinc X9.here hx rfl (hb hby d22_23) rfl (l' := #[oR cA, oI (2 : Int32), oI (4 : Int32), oR bA, oI (1 : Int32)]) rfl) ?_
  show Done _ p e below s _ _ (T9.setTop (mkF m 26 #[oR cA, oI (2 : Int32), oI (4 : Int32), oR bA, oI (1 : Int32)] []))
  refine Done.step (fun _ => XS.iinc X9.here hx rfl (hb hby d22_26) rfl (l' := #[oR cA, oI (2 : Int32), oI (4 : Int32), oR bA, oI (2 : Int32)]) rfl) ?_
  show Done _ p e below s _ _ (T9.setTop (mkF m 29 #[oR cA, oI (2 : Int32), oI (4 : Int32), oR bA, oI (2 : Int32)] []))
  refine Done.step (fun _ => XS.goto X9.here hx rfl (pc0 := 29) (pc' := 8) rfl (hb hby d22_29) (by decide) (by decide)) ?_
  show Done _ p e below s _ _ (T9.setTop (mkF m 8 #[oR cA, oI (2 : Int32), oI (4 : Int32), oR bA, oI (2 : Int32)] []))
  refine Done.step (fun _ => XS.iload X9.here hx rfl (hb hby d22_8) rfl) ?_
  show Done _ p e below s _ _ (T9.setTop (mkF m 10 #[oR cA, oI (2 : Int32), oI (4 : Int32), oR bA, oI (2 : Int32)] [(.int (2 : Int32))]))
  refine Done.step (fun _ => XS.iloadN X9.here hx rfl (hb hby d22_10) rfl) ?_
  show Done _ p e below s _ _ (T9.setTop (mkF m 11 #[oR cA, oI (2 : Int32), oI (4 : Int32), oR bA, oI (2 : Int32)] [(.int (4 : Int32)), (.int (2 : Int32))]))
  refine Done.step (fun _ => XS.icmpNo X9.here hx rfl (hb hby d22_11) rfl (XT.ii_ge_f (by decide))) ?_
  show Done _ p e below s _ _ (T9.setTop (mkF m 14 #[oR cA, oI (2 : Int32), oI (4 : Int32), oR bA, oI (2 : Int32)] []))
  refine Done.step (fun _ => XS.aloadN X9.here hx rfl (hb hby d22_14) rfl rfl) ?_
  show Done _ p e below s _ _ (T9.setTop (mkF m 15 #[oR cA, oI (2 : Int32), oI (4 : Int32), oR bA, oI (2 : Int32)] [(.ref bA)]))
  refine Done.step (fun _ => XS.iload X9.here hx rfl (hb hby d22_15) rfl) ?_
  show Done _ p e below s _ _ (T9.setTop (mkF m 17 #[oR cA, oI (2 : Int32), oI (4 : Int32), oR bA, oI (2 : Int32)] [(.int (2 : Int32)), (.ref bA)]))
  refine Done.step (fun _ => XS.aloadN X9.here hx rfl (hb hby d22_17) rfl rfl) ?_
  show Done _ p e below s _ _ (T9.setTop (mkF m 18 #[oR cA, oI (2 : Int32), oI (4 : Int32), oR bA, oI (2 : Int32)] [(.ref cA), (.int (2 : Int32)), (.ref bA)]))
  refine Done.step (fun _ => XS.iloadN X9.here hx rfl (hb hby d22_18) rfl) ?_
  show Done _ p e below s _ _ (T9.setTop (mkF m 19 #[oR cA, oI (2 : Int32), oI (4 : Int32), oR bA, oI (2 : Int32)] [(.int (2 : Int32)), (.ref cA), (.int (2 : Int32)), (.ref bA)]))
  have f11 := (f7.keep K9q (ninS nab nin0))
  obtain ⟨cl10, Ar10, q10, S10, Nn10, H10, G10⟩ := id f11
  have hin10 : ¬ ((2 : Int32) < 0 ∨ cl10.slots.size ≤ ((2 : Int32)).toNatClampNeg) := inb_of S10 ⟨by decide, by decide⟩
  have hat10 := Has.at H10 hin10 (v := (.int c2)) rfl
  refine Done.step (X9.caload hx (j := (2 : Int32)) (v := (.int c2)) (by first | exact Ar10.1 | (rw [rfl]; exact Ar10.1)) (State.isArrayOf_alike hZ.alike Ar10.2.1) Ar10.2.2 hin10 hat10 (g := (mkF m 19 #[oR cA, oI (2 : Int32), oI (4 : Int32), oR bA, oI (2 : Int32)] [(.int (2 : Int32)), (.ref cA), (.int (2 : Int32)), (.ref bA)])) rfl rfl (hb hby d22_19)) ?_
  show Done _ p e below s _ _ (T9.setTop (mkF m 20 #[oR cA, oI (2 : Int32), oI (4 : Int32), oR bA, oI (2 : Int32)] [(.int c2), (.int (2 : Int32)), (.ref bA)]))
  have f12 := (f8.keep K9q (allS n0_bA all0))
  refine Done.callS X9 hx hZ hown (wAt hw 105 rfl) (wAt hw 106 rfl) (wAt hw 90 rfl) (wAt hw 107 rfl) (by decide) (up_42 l Z a0 hw [] bA kb (own_hi c0) (own_lo c0) (own_hi c1) (own_lo c1) (0 : Int32) (0 : Int32) (0 : Int32) (0 : Int32) c2 T9.heap n0 Zs9 f12 SA SH SL VB1 n0_bA) (fun _ _ => trivial) rfl (g := (mkF m 20 #[oR cA, oI (2 : Int32), oI (4 : Int32), oR bA, oI (2 : Int32)] [(.int c2), (.int (2 : Int32)), (.ref bA)])) rfl (by rw [hml]; rfl) [(.ref bA), (.int (2 : Int32)), (.int c2)] [] 0 (lenOf pd_3 rfl) rfl rfl (by show 2 * 0 + _ ≤ _; exact Nat.le_of_eq rfl) (hb hby d22_20) (by decide) (by decide) (by decide) (by decide) ?_
  intro T13 v13 L13 X13 q13
  obtain ⟨rfl, Nq13, K13q, VB2⟩ := q13
  have N13 := Fr.app N9 Nq13
  have Zs13 := Nat.le_trans Zs9 K13q.1
  have K13 := K9.trans K13q (allS (Or.inr sz_bA) all0)
  show Done _ p e below s _ _ (T13.setTop (mkF m 23 #[oR cA, oI (2 : Int32), oI (4 : Int32), oR bA, oI (2 : Int32)] []))
  refine Done.step (fun _ => XS.iinc X13.here hx rfl (hb hby d22_23) rfl (l' := #[oR cA, oI (3 : Int32), oI (4 : Int32), oR bA, oI (2 : Int32)]) rfl) ?_
  show Done _ p e below s _ _ (T13.setTop (mkF m 26 #[oR cA, oI (3 : Int32), oI (4 : Int32), oR bA, oI (2 : Int32)] []))
  refine Done.step (fun _ => XS.iinc X13.here hx rfl (hb hby d22_26) rfl (l' := #[oR cA, oI (3 : Int32), oI (4 : Int32), oR bA, oI (3 : Int32)]) rfl) ?_
  show Done _ p e below s _ _ (T13.setTop (mkF m 29 #[oR cA, oI (3 : Int32), oI (4 : Int32), oR bA, oI (3 : Int32)] []))
  refine Done.step (fun _ => XS.goto X13.here hx rfl (pc0 := 29) (pc' := 8) rfl (hb hby d22_29) (by decide) (by decide)) ?_
  show Done _ p e below s _ _ (T13.setTop (mkF m 8 #[oR cA, oI (3 : Int32), oI (4 : Int32), oR bA, oI (3 : Int32)] []))
  refine Done.step (fun _ => XS.iload X13.here hx rfl (hb hby d22_8) rfl) ?_
  show Done _ p e below s _ _ (T13.setTop (mkF m 10 #[oR cA, oI (3 : Int32), oI (4 : Int32), oR bA, oI (3 : Int32)] [(.int (3 : Int32))]))
  refine Done.step (fun _ => XS.iloadN X13.here hx rfl (hb hby d22_10) rfl) ?_
  show Done _ p e below s _ _ (T13.setTop (mkF m 11 #[oR cA, oI (3 : Int32), oI (4 : Int32), oR bA, oI (3 : Int32)] [(.int (4 : Int32)), (.int (3 : Int32))]))
  refine Done.step (fun _ => XS.icmpNo X13.here hx rfl (hb hby d22_11) rfl (XT.ii_ge_f (by decide))) ?_
  show Done _ p e below s _ _ (T13.setTop (mkF m 14 #[oR cA, oI (3 : Int32), oI (4 : Int32), oR bA, oI (3 : Int32)] []))
  refine Done.step (fun _ => XS.aloadN X13.here hx rfl (hb hby d22_14) rfl rfl) ?_
  show Done _ p e below s _ _ (T13.setTop (mkF m 15 #[oR cA, oI (3 : Int32), oI (4 : Int32), oR bA, oI (3 : Int32)] [(.ref bA)]))
  refine Done.step (fun _ => XS.iload X13.here hx rfl (hb hby d22_15) rfl) ?_
  show Done _ p e below s _ _ (T13.setTop (mkF m 17 #[oR cA, oI (3 : Int32), oI (4 : Int32), oR bA, oI (3 : Int32)] [(.int (3 : Int32)), (.ref bA)]))
  refine Done.step (fun _ => XS.aloadN X13.here hx rfl (hb hby d22_17) rfl rfl) ?_
  show Done _ p e below s _ _ (T13.setTop (mkF m 18 #[oR cA, oI (3 : Int32), oI (4 : Int32), oR bA, oI (3 : Int32)] [(.ref cA), (.int (3 : Int32)), (.ref bA)]))
  refine Done.step (fun _ => XS.iloadN X13.here hx rfl (hb hby d22_18) rfl) ?_
  show Done _ p e below s _ _ (T13.setTop (mkF m 19 #[oR cA, oI (3 : Int32), oI (4 : Int32), oR bA, oI (3 : Int32)] [(.int (3 : Int32)), (.ref cA), (.int (3 : Int32)), (.ref bA)]))
  have f15 := (f11.keep K13q (ninS nab nin0))
  obtain ⟨cl14, Ar14, q14, S14, Nn14, H14, G14⟩ := id f15
  have hin14 : ¬ ((3 : Int32) < 0 ∨ cl14.slots.size ≤ ((3 : Int32)).toNatClampNeg) := inb_of S14 ⟨by decide, by decide⟩
  have hat14 := Has.at H14 hin14 (v := (.int c3)) rfl
  refine Done.step (X13.caload hx (j := (3 : Int32)) (v := (.int c3)) (by first | exact Ar14.1 | (rw [rfl]; exact Ar14.1)) (State.isArrayOf_alike hZ.alike Ar14.2.1) Ar14.2.2 hin14 hat14 (g := (mkF m 19 #[oR cA, oI (3 : Int32), oI (4 : Int32), oR bA, oI (3 : Int32)] [(.int (3 : Int32)), (.ref cA), (.int (3 : Int32)), (.ref bA)])) rfl rfl (hb hby d22_19)) ?_
  show Done _ p e below s _ _ (T13.setTop (mkF m 20 #[oR cA, oI (3 : Int32), oI (4 : Int32), oR bA, oI (3 : Int32)] [(.int c3), (.int (3 : Int32)), (.ref bA)]))
  have f16 := (f12.keep K13q (allS n0_bA all0))
  refine Done.callS X13 hx hZ hown (wAt hw 105 rfl) (wAt hw 106 rfl) (wAt hw 90 rfl) (wAt hw 107 rfl) (by decide) (up_43 l Z a0 hw [] bA kb (own_hi c0) (own_lo c0) (own_hi c1) (own_lo c1) (own_hi c2) (own_lo c2) (0 : Int32) (0 : Int32) c3 T13.heap n0 Zs13 f16 SA SH SL VB2 n0_bA) (fun _ _ => trivial) rfl (g := (mkF m 20 #[oR cA, oI (3 : Int32), oI (4 : Int32), oR bA, oI (3 : Int32)] [(.int c3), (.int (3 : Int32)), (.ref bA)])) rfl (by rw [hml]; rfl) [(.ref bA), (.int (3 : Int32)), (.int c3)] [] 0 (lenOf pd_3 rfl) rfl rfl (by show 2 * 0 + _ ≤ _; exact Nat.le_of_eq rfl) (hb hby d22_20) (by decide) (by decide) (by decide) (by decide) ?_
  intro T17 v17 L17 X17 q17
  obtain ⟨rfl, Nq17, K17q, VB3⟩ := q17
  have N17 := Fr.app N13 Nq17
  have Zs17 := Nat.le_trans Zs13 K17q.1
  have K17 := K13.trans K17q (allS (Or.inr sz_bA) all0)
  show Done _ p e below s _ _ (T17.setTop (mkF m 23 #[oR cA, oI (3 : Int32), oI (4 : Int32), oR bA, oI (3 : Int32)] []))
  refine Done.step (fun _ => XS.iinc X17.here hx rfl (hb hby d22_23) rfl (l' := #[oR cA, oI (4 : Int32), oI (4 : Int32), oR bA, oI (3 : Int32)]) rfl) ?_
  show Done _ p e below s _ _ (T17.setTop (mkF m 26 #[oR cA, oI (4 : Int32), oI (4 : Int32), oR bA, oI (3 : Int32)] []))
  refine Done.step (fun _ => XS.iinc X17.here hx rfl (hb hby d22_26) rfl (l' := #[oR cA, oI (4 : Int32), oI (4 : Int32), oR bA, oI (4 : Int32)]) rfl) ?_
  show Done _ p e below s _ _ (T17.setTop (mkF m 29 #[oR cA, oI (4 : Int32), oI (4 : Int32), oR bA, oI (4 : Int32)] []))
  refine Done.step (fun _ => XS.goto X17.here hx rfl (pc0 := 29) (pc' := 8) rfl (hb hby d22_29) (by decide) (by decide)) ?_
  show Done _ p e below s _ _ (T17.setTop (mkF m 8 #[oR cA, oI (4 : Int32), oI (4 : Int32), oR bA, oI (4 : Int32)] []))
  refine Done.step (fun _ => XS.iload X17.here hx rfl (hb hby d22_8) rfl) ?_
  show Done _ p e below s _ _ (T17.setTop (mkF m 10 #[oR cA, oI (4 : Int32), oI (4 : Int32), oR bA, oI (4 : Int32)] [(.int (4 : Int32))]))
  refine Done.step (fun _ => XS.iloadN X17.here hx rfl (hb hby d22_10) rfl) ?_
  show Done _ p e below s _ _ (T17.setTop (mkF m 11 #[oR cA, oI (4 : Int32), oI (4 : Int32), oR bA, oI (4 : Int32)] [(.int (4 : Int32)), (.int (4 : Int32))]))
  refine Done.step (fun _ => XS.icmpYes X17.here hx rfl (pc0 := 11) (pc' := 32) rfl (hb hby d22_11) rfl (XT.ii_ge_t (by decide)) (by decide) (by decide)) ?_
  show Done _ p e below s _ _ (T17.setTop (mkF m 32 #[oR cA, oI (4 : Int32), oI (4 : Int32), oR bA, oI (4 : Int32)] []))
  refine Done.step (fun _ => XS.aloadN X17.here hx rfl (hb hby d22_32) rfl rfl) ?_
  show Done _ p e below s _ _ (T17.setTop (mkF m 33 #[oR cA, oI (4 : Int32), oI (4 : Int32), oR bA, oI (4 : Int32)] [(.ref bA)]))
  exact Done.retA (leavesF X17 hlk (by decide) (by decide)) X17 hx hret rfl rfl (hb hby d22_33) ⟨bA, kb, rfl, N17, K17, sz_bA, VB3⟩
set_option maxRecDepth 65536 in
set_option maxHeartbeats 40000000 in
theorem u3_4 (l : Launch) (Z : State) (a0 : Array Value) (hw : ∀ d ∈ tables_1, d.before a0 Z = true) (ws : List Jvm.Cond) (cA : Addr) (kc : ClassId) (c0 c1 c2 c3 : Int32) (h0 : Heap) (n0 : Nat) (Z0 : n0 ≤ h0.size) (O0 : Old Z n0 h0) (SA : Sta Z Z.heap "java/lang/StringUTF16" "$assertionsDisabled" "Z" (.int (1 : Int32))) (SH : Sta Z Z.heap "java/lang/StringUTF16" "HI_BYTE_SHIFT" "I" (.int (0 : Int32))) (SL : Sta Z Z.heap "java/lang/StringUTF16" "LO_BYTE_SHIFT" "I" (.int (8 : Int32))) (VA : Arv Z h0 cA kc .char (4 : Int32) [(.int c0), (.int c1), (.int c2), (.int c3)] (.int (0 : Int32))) (hb0 : ¬ c0 < 0 ∧ ¬ (65535 : Int32) < c0) (hb1 : ¬ c1 < 0 ∧ ¬ (65535 : Int32) < c1) (hb2 : ¬ c2 < 0 ∧ ¬ (65535 : Int32) < c2) (hb3 : ¬ c3 < 0 ∧ ¬ (65535 : Int32) < c3) :
    Ctr FrameEnd l Z (⟨"java/lang/StringUTF16", "compress", "([CII)[B"⟩ : MethodName) jdk_52_method_16_code 6 (some (.array .byte)) ws ({ frames := 3, cells := 2, slots := 12, locals := 49 } : Room) #[(.ref cA), (.int (0 : Int32)), (.int (4 : Int32))] h0 TrueV (fun v h _ L => ∃ (b : Addr) (kb : ClassId), v = some (.ref b) ∧ Fr n0 L ∧ Keep h0 h [] ∧ h0.size ≤ b ∧ (((¬ (255 : Int32) < c0 ∧ ¬ (255 : Int32) < c1 ∧ ¬ (255 : Int32) < c2 ∧ ¬ (255 : Int32) < c3) ∧ Arv Z h b kb .byte (4 : Int32) [(.int (own_by c0)), (.int (own_by c1)), (.int (own_by c2)), (.int (own_by c3))] (.int (0 : Int32))) ∨ (¬ (¬ (255 : Int32) < c0 ∧ ¬ (255 : Int32) < c1 ∧ ¬ (255 : Int32) < c2 ∧ ¬ (255 : Int32) < c3) ∧ Arv Z h b kb .byte (8 : Int32) [(.int (own_hi c0)), (.int (own_lo c0)), (.int (own_hi c1)), (.int (own_lo c1)), (.int (own_hi c2)), (.int (own_lo c2)), (.int (own_hi c3)), (.int (own_lo c3))] (.int (0 : Int32))))) := by
  refine Ctr.intro (plainFor_of_name pn_java_lang_StringUTF16) (Ls := #[.val (.ref cA), .val (.int (0 : Int32)), .val (.int (4 : Int32)), .unset, .unset, .unset]) (fun m => by first | (simp [entryFrame, mkF, argsToLocals, Value.category]; done) | rfl) ?_
  intro p e s m below meth c T0 hx hby hml hown hnm hret hlk hZ hV hsh e0 X0
  have N0 := Fr.nil n0
  show Done _ p e below s _ _ (T0.setTop (mkF m 0 #[oR cA, oI (0 : Int32), oI (4 : Int32), .unset, .unset, .unset] []))
  refine Done.step (fun _ => XS.iloadN X0.here hx rfl (hb hby d20_0) rfl) ?_
  show Done _ p e below s _ _ (T0.setTop (mkF m 1 #[oR cA, oI (0 : Int32), oI (4 : Int32), .unset, .unset, .unset] [(.int (4 : Int32))]))
  obtain ⟨T1, h1, k1, X1, e1, E1, A1, st1⟩ := newP X0 hx hZ (wAt hw 24 rfl) e0 (g := (mkF m 1 #[oR cA, oI (0 : Int32), oI (4 : Int32), .unset, .unset, .unset] [(.int (4 : Int32))])) rfl (hb hby d20_1) rfl (by decide) (cap := 4) (by decide) (by decide) (by decide) (by decide)
  obtain ⟨b1, g1⟩ : ∃ z, z = h0.size := ⟨_, rfl⟩
  rw [← g1] at A1 st1
  have ne_cA_b1 : cA ≠ b1 := by rw [g1]; exact Nat.ne_of_lt VA.lt
  have n0_b1 : n0 ≤ b1 := by rw [g1]; exact Z0
  have sz_b1 : h0.size ≤ b1 := by rw [g1]; exact (Keep.refl h0 []).1
  have K1 := (Keep.refl h0 []).ext E1
  have Zs1 := Nat.le_trans Z0 E1.1
  have V_b1 : Arv Z h1 b1 k1 .byte (4 : Int32) [(.int (0 : Int32)), (.int (0 : Int32)), (.int (0 : Int32)), (.int (0 : Int32))] (.int (0 : Int32)) := (Arv.new A1 (by decide)).pad (pad_rep [] (.int (0 : Int32)) 4)
  refine Done.step st1 ?_
  show Done _ p e below s _ _ (T1.setTop (mkF m 3 #[oR cA, oI (0 : Int32), oI (4 : Int32), .unset, .unset, .unset] [(.ref b1)]))
  refine Done.step (fun _ => XS.astoreN X1.here hx rfl (hb hby d20_3) rfl rfl (l' := #[oR cA, oI (0 : Int32), oI (4 : Int32), oR b1, .unset, .unset]) rfl) ?_
  show Done _ p e below s _ _ (T1.setTop (mkF m 4 #[oR cA, oI (0 : Int32), oI (4 : Int32), oR b1, .unset, .unset] []))
  refine Done.step (fun _ => XS.aloadN X1.here hx rfl (hb hby d20_4) rfl rfl) ?_
  show Done _ p e below s _ _ (T1.setTop (mkF m 5 #[oR cA, oI (0 : Int32), oI (4 : Int32), oR b1, .unset, .unset] [(.ref cA)]))
  refine Done.step (fun _ => XS.iloadN X1.here hx rfl (hb hby d20_5) rfl) ?_
  show Done _ p e below s _ _ (T1.setTop (mkF m 6 #[oR cA, oI (0 : Int32), oI (4 : Int32), oR b1, .unset, .unset] [(.int (0 : Int32)), (.ref cA)]))
  refine Done.step (fun _ => XS.aloadN X1.here hx rfl (hb hby d20_6) rfl rfl) ?_
  show Done _ p e below s _ _ (T1.setTop (mkF m 7 #[oR cA, oI (0 : Int32), oI (4 : Int32), oR b1, .unset, .unset] [(.ref b1), (.int (0 : Int32)), (.ref cA)]))
  refine Done.step (fun _ => XT.iconstV X1.here hx rfl (0 : Int32) (hb hby d20_7) (by decide)) ?_
  show Done _ p e below s _ _ (T1.setTop (mkF m 8 #[oR cA, oI (0 : Int32), oI (4 : Int32), oR b1, .unset, .unset] [(.int (0 : Int32)), (.ref b1), (.int (0 : Int32)), (.ref cA)]))
  refine Done.step (fun _ => XS.iloadN X1.here hx rfl (hb hby d20_8) rfl) ?_
  show Done _ p e below s _ _ (T1.setTop (mkF m 9 #[oR cA, oI (0 : Int32), oI (4 : Int32), oR b1, .unset, .unset] [(.int (4 : Int32)), (.int (0 : Int32)), (.ref b1), (.int (0 : Int32)), (.ref cA)]))
  have f3 := (VA.ext E1)
  refine Done.callS X1 hx hZ hown (wAt hw 92 rfl) (wAt hw 93 rfl) (wAt hw 90 rfl) (wAt hw 94 rfl) (by decide) (u5_4 l Z a0 hw [] cA b1 kc k1 c0 c1 c2 c3 h1 n0 Zs1 f3 V_b1 n0_b1 ne_cA_b1) (fun _ _ => trivial) e1 (g := (mkF m 9 #[oR cA, oI (0 : Int32), oI (4 : Int32), oR b1, .unset, .unset] [(.int (4 : Int32)), (.int (0 : Int32)), (.ref b1), (.int (0 : Int32)), (.ref cA)])) rfl (by rw [hml]; rfl) [(.ref cA), (.int (0 : Int32)), (.ref b1), (.int (0 : Int32)), (.int (4 : Int32))] [] 0 (lenOf pd_4 rfl) rfl rfl (by show 2 * 0 + _ ≤ _; exact Nat.le_of_eq rfl) (hb hby d20_9) (by decide) (by decide) (by decide) (by decide) ?_
  intro T2 v2 L2 X2 q2
  obtain ⟨Nq2, K2q, q2⟩ := q2
  have N2 := Fr.app N0 Nq2
  have Zs2 := Nat.le_trans Zs1 K2q.1
  have K2 := K1.trans K2q (allS (Or.inr sz_b1) all0)
  rcases q2 with ⟨rfl, hsm, VBs⟩ | ⟨rfl, hbg⟩ | ⟨rfl, hbg⟩ | ⟨rfl, hbg⟩ | ⟨rfl, hbg⟩
  · show Done _ p e below s _ _ (T2.setTop (mkF m 12 #[oR cA, oI (0 : Int32), oI (4 : Int32), oR b1, .unset, .unset] [(.int (4 : Int32))]))
    refine Done.step (fun _ => XS.istore X2.here hx rfl (hb hby d20_12) rfl (l' := #[oR cA, oI (0 : Int32), oI (4 : Int32), oR b1, oI (4 : Int32), .unset]) rfl) ?_
    show Done _ p e below s _ _ (T2.setTop (mkF m 14 #[oR cA, oI (0 : Int32), oI (4 : Int32), oR b1, oI (4 : Int32), .unset] []))
    refine Done.step (fun _ => XS.iload X2.here hx rfl (hb hby d20_14) rfl) ?_
    show Done _ p e below s _ _ (T2.setTop (mkF m 16 #[oR cA, oI (0 : Int32), oI (4 : Int32), oR b1, oI (4 : Int32), .unset] [(.int (4 : Int32))]))
    refine Done.step (fun _ => XS.iloadN X2.here hx rfl (hb hby d20_16) rfl) ?_
    show Done _ p e below s _ _ (T2.setTop (mkF m 17 #[oR cA, oI (0 : Int32), oI (4 : Int32), oR b1, oI (4 : Int32), .unset] [(.int (4 : Int32)), (.int (4 : Int32))]))
    refine Done.step (fun _ => XS.icmpYes X2.here hx rfl (pc0 := 17) (pc' := 57) rfl (hb hby d20_17) rfl (XT.ii_eq_t rfl) (by decide) (by decide)) ?_
    show Done _ p e below s _ _ (T2.setTop (mkF m 57 #[oR cA, oI (0 : Int32), oI (4 : Int32), oR b1, oI (4 : Int32), .unset] []))
    refine Done.step (fun _ => XS.aloadN X2.here hx rfl (hb hby d20_57) rfl rfl) ?_
    show Done _ p e below s _ _ (T2.setTop (mkF m 58 #[oR cA, oI (0 : Int32), oI (4 : Int32), oR b1, oI (4 : Int32), .unset] [(.ref b1)]))
    exact Done.retA (leavesF X2 hlk (by decide) (by decide)) X2 hx hret rfl rfl (hb hby d20_58) ⟨b1, k1, rfl, N2, K2, sz_b1, Or.inl ⟨hsm, VBs⟩⟩
  · show Done _ p e below s _ _ (T2.setTop (mkF m 12 #[oR cA, oI (0 : Int32), oI (4 : Int32), oR b1, .unset, .unset] [(.int (0 : Int32))]))
    refine Done.step (fun _ => XS.istore X2.here hx rfl (hb hby d20_12) rfl (l' := #[oR cA, oI (0 : Int32), oI (4 : Int32), oR b1, oI (0 : Int32), .unset]) rfl) ?_
    show Done _ p e below s _ _ (T2.setTop (mkF m 14 #[oR cA, oI (0 : Int32), oI (4 : Int32), oR b1, oI (0 : Int32), .unset] []))
    refine Done.step (fun _ => XS.iload X2.here hx rfl (hb hby d20_14) rfl) ?_
    show Done _ p e below s _ _ (T2.setTop (mkF m 16 #[oR cA, oI (0 : Int32), oI (4 : Int32), oR b1, oI (0 : Int32), .unset] [(.int (0 : Int32))]))
    refine Done.step (fun _ => XS.iloadN X2.here hx rfl (hb hby d20_16) rfl) ?_
    show Done _ p e below s _ _ (T2.setTop (mkF m 17 #[oR cA, oI (0 : Int32), oI (4 : Int32), oR b1, oI (0 : Int32), .unset] [(.int (4 : Int32)), (.int (0 : Int32))]))
    refine Done.step (fun _ => XS.icmpNo X2.here hx rfl (hb hby d20_17) rfl (XT.ii_eq_f (by decide))) ?_
    show Done _ p e below s _ _ (T2.setTop (mkF m 20 #[oR cA, oI (0 : Int32), oI (4 : Int32), oR b1, oI (0 : Int32), .unset] []))
    refine Done.step (fun _ => XS.aloadN X2.here hx rfl (hb hby d20_20) rfl rfl) ?_
    show Done _ p e below s _ _ (T2.setTop (mkF m 21 #[oR cA, oI (0 : Int32), oI (4 : Int32), oR b1, oI (0 : Int32), .unset] [(.ref cA)]))
    refine Done.step (fun _ => XS.iloadN X2.here hx rfl (hb hby d20_21) rfl) ?_
    show Done _ p e below s _ _ (T2.setTop (mkF m 22 #[oR cA, oI (0 : Int32), oI (4 : Int32), oR b1, oI (0 : Int32), .unset] [(.int (0 : Int32)), (.ref cA)]))
    refine Done.step (fun _ => XS.iloadN X2.here hx rfl (hb hby d20_22) rfl) ?_
    show Done _ p e below s _ _ (T2.setTop (mkF m 23 #[oR cA, oI (0 : Int32), oI (4 : Int32), oR b1, oI (0 : Int32), .unset] [(.int (4 : Int32)), (.int (0 : Int32)), (.ref cA)]))
    have f4 := ((O0.ext E1).keep K2q (allS n0_b1 all0))
    have f5 := (f3.keep K2q (ninS ne_cA_b1 nin0))
    refine Done.callS X2 hx hZ hown (wAt hw 95 rfl) (wAt hw 96 rfl) (wAt hw 90 rfl) (wAt hw 97 rfl) (by decide) (ut_4 l Z a0 hw [] cA kc c0 c1 c2 c3 T2.heap n0 Zs2 f4 SA SH SL f5) (fun _ _ => trivial) rfl (g := (mkF m 23 #[oR cA, oI (0 : Int32), oI (4 : Int32), oR b1, oI (0 : Int32), .unset] [(.int (4 : Int32)), (.int (0 : Int32)), (.ref cA)])) rfl (by rw [hml]; rfl) [(.ref cA), (.int (0 : Int32)), (.int (4 : Int32))] [] 0 (lenOf pd_5 rfl) rfl rfl (by show 2 * 0 + _ ≤ _; exact Nat.le_of_eq rfl) (hb hby d20_23) (by decide) (by decide) (by decide) (by decide) ?_
    intro T6 v6 L6 X6 q6
    obtain ⟨bU, ku, rfl, Nq6, K6q, szu, VU⟩ := q6
    have N6 := Fr.app N2 Nq6
    have Zs6 := Nat.le_trans Zs2 K6q.1
    have K6 := K2.trans K6q all0
    show Done _ p e below s _ _ (T6.setTop (mkF m 26 #[oR cA, oI (0 : Int32), oI (4 : Int32), oR b1, oI (0 : Int32), .unset] [(.ref bU)]))
    have sz_bU : h0.size ≤ bU := Nat.le_trans K2.1 szu
    refine Done.step (fun _ => XS.astore X6.here hx rfl (hb hby d20_26) rfl rfl (l' := #[oR cA, oI (0 : Int32), oI (4 : Int32), oR b1, oI (0 : Int32), oR bU]) rfl) ?_
    show Done _ p e below s _ _ (T6.setTop (mkF m 28 #[oR cA, oI (0 : Int32), oI (4 : Int32), oR b1, oI (0 : Int32), oR bU] []))
    refine Done.step (fun _ => XS.aload X6.here hx rfl (hb hby d20_28) rfl rfl) ?_
    show Done _ p e below s _ _ (T6.setTop (mkF m 30 #[oR cA, oI (0 : Int32), oI (4 : Int32), oR b1, oI (0 : Int32), oR bU] [(.ref bU)]))
    refine Done.step (fun _ => XS.iload X6.here hx rfl (hb hby d20_30) rfl) ?_
    show Done _ p e below s _ _ (T6.setTop (mkF m 32 #[oR cA, oI (0 : Int32), oI (4 : Int32), oR b1, oI (0 : Int32), oR bU] [(.int (0 : Int32)), (.ref bU)]))
    have f7 := (f4.keep K6q all0)
    refine Done.callSP X6 hx hZ hown (wAt hw 111 rfl) (wAt hw 112 rfl) (wAt hw 90 rfl) (wAt hw 113 rfl) (by decide) (ug_40 l Z a0 hw [] bU ku (own_hi c0) (own_lo c0) (own_hi c1) (own_lo c1) (own_hi c2) (own_lo c2) (own_hi c3) (own_lo c3) T6.heap n0 Zs6 f7 SA SH SL VU) rfl (g := (mkF m 32 #[oR cA, oI (0 : Int32), oI (4 : Int32), oR b1, oI (0 : Int32), oR bU] [(.int (0 : Int32)), (.ref bU)])) rfl (by rw [hml]; rfl) [(.ref bU), (.int (0 : Int32))] [] 0 (lenOf pd_6 rfl) rfl rfl (by show 2 * 0 + _ ≤ _; exact Nat.le_of_eq rfl) (hb hby d20_32) (by decide) (by decide) (by decide) (by decide) rfl rfl ?_
    intro T8 X8 e8
    show Done _ p e below s _ _ (T8.setTop (mkF m 35 #[oR cA, oI (0 : Int32), oI (4 : Int32), oR b1, oI (0 : Int32), oR bU] [(.int (own_join (own_hi c0) (own_lo c0)))]))
    refine Done.step (fun _ => XT.sipushV X8.here hx rfl (255 : Int32) (hb hby d20_35) (by decide)) ?_
    show Done _ p e below s _ _ (T8.setTop (mkF m 38 #[oR cA, oI (0 : Int32), oI (4 : Int32), oR b1, oI (0 : Int32), oR bU] [(.int (255 : Int32)), (.int (own_join (own_hi c0) (own_lo c0)))]))
    refine Done.step (fun _ => XS.icmpYes X8.here hx rfl (pc0 := 38) (pc' := 54) rfl (hb hby d20_38) rfl (XT.ii_gt_t (own_big hb0 hbg)) (by decide) (by decide)) ?_
    show Done _ p e below s _ _ (T8.setTop (mkF m 54 #[oR cA, oI (0 : Int32), oI (4 : Int32), oR b1, oI (0 : Int32), oR bU] []))
    refine Done.step (fun _ => XS.aload X8.here hx rfl (hb hby d20_54) rfl rfl) ?_
    show Done _ p e below s _ _ (T8.setTop (mkF m 56 #[oR cA, oI (0 : Int32), oI (4 : Int32), oR b1, oI (0 : Int32), oR bU] [(.ref bU)]))
    refine Done.retA (leavesF X8 hlk (by decide) (by decide)) X8 hx hret rfl rfl (hb hby d20_56) ?_
    rw [e8]
    exact ⟨bU, ku, rfl, N6, K6, sz_bU, Or.inr ⟨(fun q => q.1 hbg), VU⟩⟩
  · show Done _ p e below s _ _ (T2.setTop (mkF m 12 #[oR cA, oI (0 : Int32), oI (4 : Int32), oR b1, .unset, .unset] [(.int (1 : Int32))]))
    refine Done.step (fun _ => XS.istore X2.here hx rfl (hb hby d20_12) rfl (l' := #[oR cA, oI (0 : Int32), oI (4 : Int32), oR b1, oI (1 : Int32), .unset]) rfl) ?_
    show Done _ p e below s _ _ (T2.setTop (mkF m 14 #[oR cA, oI (0 : Int32), oI (4 : Int32), oR b1, oI (1 : Int32), .unset] []))
    refine Done.step (fun _ => XS.iload X2.here hx rfl (hb hby d20_14) rfl) ?_
    show Done _ p e below s _ _ (T2.setTop (mkF m 16 #[oR cA, oI (0 : Int32), oI (4 : Int32), oR b1, oI (1 : Int32), .unset] [(.int (1 : Int32))]))
    refine Done.step (fun _ => XS.iloadN X2.here hx rfl (hb hby d20_16) rfl) ?_
    show Done _ p e below s _ _ (T2.setTop (mkF m 17 #[oR cA, oI (0 : Int32), oI (4 : Int32), oR b1, oI (1 : Int32), .unset] [(.int (4 : Int32)), (.int (1 : Int32))]))
    refine Done.step (fun _ => XS.icmpNo X2.here hx rfl (hb hby d20_17) rfl (XT.ii_eq_f (by decide))) ?_
    show Done _ p e below s _ _ (T2.setTop (mkF m 20 #[oR cA, oI (0 : Int32), oI (4 : Int32), oR b1, oI (1 : Int32), .unset] []))
    refine Done.step (fun _ => XS.aloadN X2.here hx rfl (hb hby d20_20) rfl rfl) ?_
    show Done _ p e below s _ _ (T2.setTop (mkF m 21 #[oR cA, oI (0 : Int32), oI (4 : Int32), oR b1, oI (1 : Int32), .unset] [(.ref cA)]))
    refine Done.step (fun _ => XS.iloadN X2.here hx rfl (hb hby d20_21) rfl) ?_
    show Done _ p e below s _ _ (T2.setTop (mkF m 22 #[oR cA, oI (0 : Int32), oI (4 : Int32), oR b1, oI (1 : Int32), .unset] [(.int (0 : Int32)), (.ref cA)]))
    refine Done.step (fun _ => XS.iloadN X2.here hx rfl (hb hby d20_22) rfl) ?_
    show Done _ p e below s _ _ (T2.setTop (mkF m 23 #[oR cA, oI (0 : Int32), oI (4 : Int32), oR b1, oI (1 : Int32), .unset] [(.int (4 : Int32)), (.int (0 : Int32)), (.ref cA)]))
    have f9 := ((O0.ext E1).keep K2q (allS n0_b1 all0))
    have f10 := (f3.keep K2q (ninS ne_cA_b1 nin0))
    refine Done.callS X2 hx hZ hown (wAt hw 95 rfl) (wAt hw 96 rfl) (wAt hw 90 rfl) (wAt hw 97 rfl) (by decide) (ut_4 l Z a0 hw [] cA kc c0 c1 c2 c3 T2.heap n0 Zs2 f9 SA SH SL f10) (fun _ _ => trivial) rfl (g := (mkF m 23 #[oR cA, oI (0 : Int32), oI (4 : Int32), oR b1, oI (1 : Int32), .unset] [(.int (4 : Int32)), (.int (0 : Int32)), (.ref cA)])) rfl (by rw [hml]; rfl) [(.ref cA), (.int (0 : Int32)), (.int (4 : Int32))] [] 0 (lenOf pd_5 rfl) rfl rfl (by show 2 * 0 + _ ≤ _; exact Nat.le_of_eq rfl) (hb hby d20_23) (by decide) (by decide) (by decide) (by decide) ?_
    intro T11 v11 L11 X11 q11
    obtain ⟨bU, ku, rfl, Nq11, K11q, szu, VU⟩ := q11
    have N11 := Fr.app N2 Nq11
    have Zs11 := Nat.le_trans Zs2 K11q.1
    have K11 := K2.trans K11q all0
    show Done _ p e below s _ _ (T11.setTop (mkF m 26 #[oR cA, oI (0 : Int32), oI (4 : Int32), oR b1, oI (1 : Int32), .unset] [(.ref bU)]))
    have sz_bU : h0.size ≤ bU := Nat.le_trans K2.1 szu
    refine Done.step (fun _ => XS.astore X11.here hx rfl (hb hby d20_26) rfl rfl (l' := #[oR cA, oI (0 : Int32), oI (4 : Int32), oR b1, oI (1 : Int32), oR bU]) rfl) ?_
    show Done _ p e below s _ _ (T11.setTop (mkF m 28 #[oR cA, oI (0 : Int32), oI (4 : Int32), oR b1, oI (1 : Int32), oR bU] []))
    refine Done.step (fun _ => XS.aload X11.here hx rfl (hb hby d20_28) rfl rfl) ?_
    show Done _ p e below s _ _ (T11.setTop (mkF m 30 #[oR cA, oI (0 : Int32), oI (4 : Int32), oR b1, oI (1 : Int32), oR bU] [(.ref bU)]))
    refine Done.step (fun _ => XS.iload X11.here hx rfl (hb hby d20_30) rfl) ?_
    show Done _ p e below s _ _ (T11.setTop (mkF m 32 #[oR cA, oI (0 : Int32), oI (4 : Int32), oR b1, oI (1 : Int32), oR bU] [(.int (1 : Int32)), (.ref bU)]))
    have f12 := (f9.keep K11q all0)
    refine Done.callSP X11 hx hZ hown (wAt hw 111 rfl) (wAt hw 112 rfl) (wAt hw 90 rfl) (wAt hw 113 rfl) (by decide) (ug_41 l Z a0 hw [] bU ku (own_hi c0) (own_lo c0) (own_hi c1) (own_lo c1) (own_hi c2) (own_lo c2) (own_hi c3) (own_lo c3) T11.heap n0 Zs11 f12 SA SH SL VU) rfl (g := (mkF m 32 #[oR cA, oI (0 : Int32), oI (4 : Int32), oR b1, oI (1 : Int32), oR bU] [(.int (1 : Int32)), (.ref bU)])) rfl (by rw [hml]; rfl) [(.ref bU), (.int (1 : Int32))] [] 0 (lenOf pd_6 rfl) rfl rfl (by show 2 * 0 + _ ≤ _; exact Nat.le_of_eq rfl) (hb hby d20_32) (by decide) (by decide) (by decide) (by decide) rfl rfl ?_
    intro T13 X13 e13
    show Done _ p e below s _ _ (T13.setTop (mkF m 35 #[oR cA, oI (0 : Int32), oI (4 : Int32), oR b1, oI (1 : Int32), oR bU] [(.int (own_join (own_hi c1) (own_lo c1)))]))
    refine Done.step (fun _ => XT.sipushV X13.here hx rfl (255 : Int32) (hb hby d20_35) (by decide)) ?_
    show Done _ p e below s _ _ (T13.setTop (mkF m 38 #[oR cA, oI (0 : Int32), oI (4 : Int32), oR b1, oI (1 : Int32), oR bU] [(.int (255 : Int32)), (.int (own_join (own_hi c1) (own_lo c1)))]))
    refine Done.step (fun _ => XS.icmpYes X13.here hx rfl (pc0 := 38) (pc' := 54) rfl (hb hby d20_38) rfl (XT.ii_gt_t (own_big hb1 hbg)) (by decide) (by decide)) ?_
    show Done _ p e below s _ _ (T13.setTop (mkF m 54 #[oR cA, oI (0 : Int32), oI (4 : Int32), oR b1, oI (1 : Int32), oR bU] []))
    refine Done.step (fun _ => XS.aload X13.here hx rfl (hb hby d20_54) rfl rfl) ?_
    show Done _ p e below s _ _ (T13.setTop (mkF m 56 #[oR cA, oI (0 : Int32), oI (4 : Int32), oR b1, oI (1 : Int32), oR bU] [(.ref bU)]))
    refine Done.retA (leavesF X13 hlk (by decide) (by decide)) X13 hx hret rfl rfl (hb hby d20_56) ?_
    rw [e13]
    exact ⟨bU, ku, rfl, N11, K11, sz_bU, Or.inr ⟨(fun q => q.2.1 hbg), VU⟩⟩
  · show Done _ p e below s _ _ (T2.setTop (mkF m 12 #[oR cA, oI (0 : Int32), oI (4 : Int32), oR b1, .unset, .unset] [(.int (2 : Int32))]))
    refine Done.step (fun _ => XS.istore X2.here hx rfl (hb hby d20_12) rfl (l' := #[oR cA, oI (0 : Int32), oI (4 : Int32), oR b1, oI (2 : Int32), .unset]) rfl) ?_
    show Done _ p e below s _ _ (T2.setTop (mkF m 14 #[oR cA, oI (0 : Int32), oI (4 : Int32), oR b1, oI (2 : Int32), .unset] []))
    refine Done.step (fun _ => XS.iload X2.here hx rfl (hb hby d20_14) rfl) ?_
    show Done _ p e below s _ _ (T2.setTop (mkF m 16 #[oR cA, oI (0 : Int32), oI (4 : Int32), oR b1, oI (2 : Int32), .unset] [(.int (2 : Int32))]))
    refine Done.step (fun _ => XS.iloadN X2.here hx rfl (hb hby d20_16) rfl) ?_
    show Done _ p e below s _ _ (T2.setTop (mkF m 17 #[oR cA, oI (0 : Int32), oI (4 : Int32), oR b1, oI (2 : Int32), .unset] [(.int (4 : Int32)), (.int (2 : Int32))]))
    refine Done.step (fun _ => XS.icmpNo X2.here hx rfl (hb hby d20_17) rfl (XT.ii_eq_f (by decide))) ?_
    show Done _ p e below s _ _ (T2.setTop (mkF m 20 #[oR cA, oI (0 : Int32), oI (4 : Int32), oR b1, oI (2 : Int32), .unset] []))
    refine Done.step (fun _ => XS.aloadN X2.here hx rfl (hb hby d20_20) rfl rfl) ?_
    show Done _ p e below s _ _ (T2.setTop (mkF m 21 #[oR cA, oI (0 : Int32), oI (4 : Int32), oR b1, oI (2 : Int32), .unset] [(.ref cA)]))
    refine Done.step (fun _ => XS.iloadN X2.here hx rfl (hb hby d20_21) rfl) ?_
    show Done _ p e below s _ _ (T2.setTop (mkF m 22 #[oR cA, oI (0 : Int32), oI (4 : Int32), oR b1, oI (2 : Int32), .unset] [(.int (0 : Int32)), (.ref cA)]))
    refine Done.step (fun _ => XS.iloadN X2.here hx rfl (hb hby d20_22) rfl) ?_
    show Done _ p e below s _ _ (T2.setTop (mkF m 23 #[oR cA, oI (0 : Int32), oI (4 : Int32), oR b1, oI (2 : Int32), .unset] [(.int (4 : Int32)), (.int (0 : Int32)), (.ref cA)]))
    have f14 := ((O0.ext E1).keep K2q (allS n0_b1 all0))
    have f15 := (f3.keep K2q (ninS ne_cA_b1 nin0))
    refine Done.callS X2 hx hZ hown (wAt hw 95 rfl) (wAt hw 96 rfl) (wAt hw 90 rfl) (wAt hw 97 rfl) (by decide) (ut_4 l Z a0 hw [] cA kc c0 c1 c2 c3 T2.heap n0 Zs2 f14 SA SH SL f15) (fun _ _ => trivial) rfl (g := (mkF m 23 #[oR cA, oI (0 : Int32), oI (4 : Int32), oR b1, oI (2 : Int32), .unset] [(.int (4 : Int32)), (.int (0 : Int32)), (.ref cA)])) rfl (by rw [hml]; rfl) [(.ref cA), (.int (0 : Int32)), (.int (4 : Int32))] [] 0 (lenOf pd_5 rfl) rfl rfl (by show 2 * 0 + _ ≤ _; exact Nat.le_of_eq rfl) (hb hby d20_23) (by decide) (by decide) (by decide) (by decide) ?_
    intro T16 v16 L16 X16 q16
    obtain ⟨bU, ku, rfl, Nq16, K16q, szu, VU⟩ := q16
    have N16 := Fr.app N2 Nq16
    have Zs16 := Nat.le_trans Zs2 K16q.1
    have K16 := K2.trans K16q all0
    show Done _ p e below s _ _ (T16.setTop (mkF m 26 #[oR cA, oI (0 : Int32), oI (4 : Int32), oR b1, oI (2 : Int32), .unset] [(.ref bU)]))
    have sz_bU : h0.size ≤ bU := Nat.le_trans K2.1 szu
    refine Done.step (fun _ => XS.astore X16.here hx rfl (hb hby d20_26) rfl rfl (l' := #[oR cA, oI (0 : Int32), oI (4 : Int32), oR b1, oI (2 : Int32), oR bU]) rfl) ?_
    show Done _ p e below s _ _ (T16.setTop (mkF m 28 #[oR cA, oI (0 : Int32), oI (4 : Int32), oR b1, oI (2 : Int32), oR bU] []))
    refine Done.step (fun _ => XS.aload X16.here hx rfl (hb hby d20_28) rfl rfl) ?_
    show Done _ p e below s _ _ (T16.setTop (mkF m 30 #[oR cA, oI (0 : Int32), oI (4 : Int32), oR b1, oI (2 : Int32), oR bU] [(.ref bU)]))
    refine Done.step (fun _ => XS.iload X16.here hx rfl (hb hby d20_30) rfl) ?_
    show Done _ p e below s _ _ (T16.setTop (mkF m 32 #[oR cA, oI (0 : Int32), oI (4 : Int32), oR b1, oI (2 : Int32), oR bU] [(.int (2 : Int32)), (.ref bU)]))
    have f17 := (f14.keep K16q all0)
    refine Done.callSP X16 hx hZ hown (wAt hw 111 rfl) (wAt hw 112 rfl) (wAt hw 90 rfl) (wAt hw 113 rfl) (by decide) (ug_42 l Z a0 hw [] bU ku (own_hi c0) (own_lo c0) (own_hi c1) (own_lo c1) (own_hi c2) (own_lo c2) (own_hi c3) (own_lo c3) T16.heap n0 Zs16 f17 SA SH SL VU) rfl (g := (mkF m 32 #[oR cA, oI (0 : Int32), oI (4 : Int32), oR b1, oI (2 : Int32), oR bU] [(.int (2 : Int32)), (.ref bU)])) rfl (by rw [hml]; rfl) [(.ref bU), (.int (2 : Int32))] [] 0 (lenOf pd_6 rfl) rfl rfl (by show 2 * 0 + _ ≤ _; exact Nat.le_of_eq rfl) (hb hby d20_32) (by decide) (by decide) (by decide) (by decide) rfl rfl ?_
    intro T18 X18 e18
    show Done _ p e below s _ _ (T18.setTop (mkF m 35 #[oR cA, oI (0 : Int32), oI (4 : Int32), oR b1, oI (2 : Int32), oR bU] [(.int (own_join (own_hi c2) (own_lo c2)))]))
    refine Done.step (fun _ => XT.sipushV X18.here hx rfl (255 : Int32) (hb hby d20_35) (by decide)) ?_
    show Done _ p e below s _ _ (T18.setTop (mkF m 38 #[oR cA, oI (0 : Int32), oI (4 : Int32), oR b1, oI (2 : Int32), oR bU] [(.int (255 : Int32)), (.int (own_join (own_hi c2) (own_lo c2)))]))
    refine Done.step (fun _ => XS.icmpYes X18.here hx rfl (pc0 := 38) (pc' := 54) rfl (hb hby d20_38) rfl (XT.ii_gt_t (own_big hb2 hbg)) (by decide) (by decide)) ?_
    show Done _ p e below s _ _ (T18.setTop (mkF m 54 #[oR cA, oI (0 : Int32), oI (4 : Int32), oR b1, oI (2 : Int32), oR bU] []))
    refine Done.step (fun _ => XS.aload X18.here hx rfl (hb hby d20_54) rfl rfl) ?_
    show Done _ p e below s _ _ (T18.setTop (mkF m 56 #[oR cA, oI (0 : Int32), oI (4 : Int32), oR b1, oI (2 : Int32), oR bU] [(.ref bU)]))
    refine Done.retA (leavesF X18 hlk (by decide) (by decide)) X18 hx hret rfl rfl (hb hby d20_56) ?_
    rw [e18]
    exact ⟨bU, ku, rfl, N16, K16, sz_bU, Or.inr ⟨(fun q => q.2.2.1 hbg), VU⟩⟩
  · show Done _ p e below s _ _ (T2.setTop (mkF m 12 #[oR cA, oI (0 : Int32), oI (4 : Int32), oR b1, .unset, .unset] [(.int (3 : Int32))]))
    refine Done.step (fun _ => XS.istore X2.here hx rfl (hb hby d20_12) rfl (l' := #[oR cA, oI (0 : Int32), oI (4 : Int32), oR b1, oI (3 : Int32), .unset]) rfl) ?_
    show Done _ p e below s _ _ (T2.setTop (mkF m 14 #[oR cA, oI (0 : Int32), oI (4 : Int32), oR b1, oI (3 : Int32), .unset] []))
    refine Done.step (fun _ => XS.iload X2.here hx rfl (hb hby d20_14) rfl) ?_
    show Done _ p e below s _ _ (T2.setTop (mkF m 16 #[oR cA, oI (0 : Int32), oI (4 : Int32), oR b1, oI (3 : Int32), .unset] [(.int (3 : Int32))]))
    refine Done.step (fun _ => XS.iloadN X2.here hx rfl (hb hby d20_16) rfl) ?_
    show Done _ p e below s _ _ (T2.setTop (mkF m 17 #[oR cA, oI (0 : Int32), oI (4 : Int32), oR b1, oI (3 : Int32), .unset] [(.int (4 : Int32)), (.int (3 : Int32))]))
    refine Done.step (fun _ => XS.icmpNo X2.here hx rfl (hb hby d20_17) rfl (XT.ii_eq_f (by decide))) ?_
    show Done _ p e below s _ _ (T2.setTop (mkF m 20 #[oR cA, oI (0 : Int32), oI (4 : Int32), oR b1, oI (3 : Int32), .unset] []))
    refine Done.step (fun _ => XS.aloadN X2.here hx rfl (hb hby d20_20) rfl rfl) ?_
    show Done _ p e below s _ _ (T2.setTop (mkF m 21 #[oR cA, oI (0 : Int32), oI (4 : Int32), oR b1, oI (3 : Int32), .unset] [(.ref cA)]))
    refine Done.step (fun _ => XS.iloadN X2.here hx rfl (hb hby d20_21) rfl) ?_
    show Done _ p e below s _ _ (T2.setTop (mkF m 22 #[oR cA, oI (0 : Int32), oI (4 : Int32), oR b1, oI (3 : Int32), .unset] [(.int (0 : Int32)), (.ref cA)]))
    refine Done.step (fun _ => XS.iloadN X2.here hx rfl (hb hby d20_22) rfl) ?_
    show Done _ p e below s _ _ (T2.setTop (mkF m 23 #[oR cA, oI (0 : Int32), oI (4 : Int32), oR b1, oI (3 : Int32), .unset] [(.int (4 : Int32)), (.int (0 : Int32)), (.ref cA)]))
    have f19 := ((O0.ext E1).keep K2q (allS n0_b1 all0))
    have f20 := (f3.keep K2q (ninS ne_cA_b1 nin0))
    refine Done.callS X2 hx hZ hown (wAt hw 95 rfl) (wAt hw 96 rfl) (wAt hw 90 rfl) (wAt hw 97 rfl) (by decide) (ut_4 l Z a0 hw [] cA kc c0 c1 c2 c3 T2.heap n0 Zs2 f19 SA SH SL f20) (fun _ _ => trivial) rfl (g := (mkF m 23 #[oR cA, oI (0 : Int32), oI (4 : Int32), oR b1, oI (3 : Int32), .unset] [(.int (4 : Int32)), (.int (0 : Int32)), (.ref cA)])) rfl (by rw [hml]; rfl) [(.ref cA), (.int (0 : Int32)), (.int (4 : Int32))] [] 0 (lenOf pd_5 rfl) rfl rfl (by show 2 * 0 + _ ≤ _; exact Nat.le_of_eq rfl) (hb hby d20_23) (by decide) (by decide) (by decide) (by decide) ?_
    intro T21 v21 L21 X21 q21
    obtain ⟨bU, ku, rfl, Nq21, K21q, szu, VU⟩ := q21
    have N21 := Fr.app N2 Nq21
    have Zs21 := Nat.le_trans Zs2 K21q.1
    have K21 := K2.trans K21q all0
    show Done _ p e below s _ _ (T21.setTop (mkF m 26 #[oR cA, oI (0 : Int32), oI (4 : Int32), oR b1, oI (3 : Int32), .unset] [(.ref bU)]))
    have sz_bU : h0.size ≤ bU := Nat.le_trans K2.1 szu
    refine Done.step (fun _ => XS.astore X21.here hx rfl (hb hby d20_26) rfl rfl (l' := #[oR cA, oI (0 : Int32), oI (4 : Int32), oR b1, oI (3 : Int32), oR bU]) rfl) ?_
    show Done _ p e below s _ _ (T21.setTop (mkF m 28 #[oR cA, oI (0 : Int32), oI (4 : Int32), oR b1, oI (3 : Int32), oR bU] []))
    refine Done.step (fun _ => XS.aload X21.here hx rfl (hb hby d20_28) rfl rfl) ?_
    show Done _ p e below s _ _ (T21.setTop (mkF m 30 #[oR cA, oI (0 : Int32), oI (4 : Int32), oR b1, oI (3 : Int32), oR bU] [(.ref bU)]))
    refine Done.step (fun _ => XS.iload X21.here hx rfl (hb hby d20_30) rfl) ?_
    show Done _ p e below s _ _ (T21.setTop (mkF m 32 #[oR cA, oI (0 : Int32), oI (4 : Int32), oR b1, oI (3 : Int32), oR bU] [(.int (3 : Int32)), (.ref bU)]))
    have f22 := (f19.keep K21q all0)
    refine Done.callSP X21 hx hZ hown (wAt hw 111 rfl) (wAt hw 112 rfl) (wAt hw 90 rfl) (wAt hw 113 rfl) (by decide) (ug_43 l Z a0 hw [] bU ku (own_hi c0) (own_lo c0) (own_hi c1) (own_lo c1) (own_hi c2) (own_lo c2) (own_hi c3) (own_lo c3) T21.heap n0 Zs21 f22 SA SH SL VU) rfl (g := (mkF m 32 #[oR cA, oI (0 : Int32), oI (4 : Int32), oR b1, oI (3 : Int32), oR bU] [(.int (3 : Int32)), (.ref bU)])) rfl (by rw [hml]; rfl) [(.ref bU), (.int (3 : Int32))] [] 0 (lenOf pd_6 rfl) rfl rfl (by show 2 * 0 + _ ≤ _; exact Nat.le_of_eq rfl) (hb hby d20_32) (by decide) (by decide) (by decide) (by decide) rfl rfl ?_
    intro T23 X23 e23
    show Done _ p e below s _ _ (T23.setTop (mkF m 35 #[oR cA, oI (0 : Int32), oI (4 : Int32), oR b1, oI (3 : Int32), oR bU] [(.int (own_join (own_hi c3) (own_lo c3)))]))
    refine Done.step (fun _ => XT.sipushV X23.here hx rfl (255 : Int32) (hb hby d20_35) (by decide)) ?_
    show Done _ p e below s _ _ (T23.setTop (mkF m 38 #[oR cA, oI (0 : Int32), oI (4 : Int32), oR b1, oI (3 : Int32), oR bU] [(.int (255 : Int32)), (.int (own_join (own_hi c3) (own_lo c3)))]))
    refine Done.step (fun _ => XS.icmpYes X23.here hx rfl (pc0 := 38) (pc' := 54) rfl (hb hby d20_38) rfl (XT.ii_gt_t (own_big hb3 hbg)) (by decide) (by decide)) ?_
    show Done _ p e below s _ _ (T23.setTop (mkF m 54 #[oR cA, oI (0 : Int32), oI (4 : Int32), oR b1, oI (3 : Int32), oR bU] []))
    refine Done.step (fun _ => XS.aload X23.here hx rfl (hb hby d20_54) rfl rfl) ?_
    show Done _ p e below s _ _ (T23.setTop (mkF m 56 #[oR cA, oI (0 : Int32), oI (4 : Int32), oR b1, oI (3 : Int32), oR bU] [(.ref bU)]))
    refine Done.retA (leavesF X23 hlk (by decide) (by decide)) X23 hx hret rfl rfl (hb hby d20_56) ?_
    rw [e23]
    exact ⟨bU, ku, rfl, N21, K21, sz_bU, Or.inr ⟨(fun q => q.2.2.2 hbg), VU⟩⟩
set_option maxRecDepth 65536 in
set_option maxHeartbeats 40000000 in
theorem uc_40 (l : Launch) (Z : State) (a0 : Array Value) (hw : ∀ d ∈ tables_1, d.before a0 Z = true) (ws : List Jvm.Cond) (bA : Addr) (kb : ClassId) (p0 p1 p2 p3 : Int32) (h0 : Heap) (n0 : Nat) (Z0 : n0 ≤ h0.size) (VB : Arv Z h0 bA kb .byte (4 : Int32) [(.int p0), (.int p1), (.int p2), (.int p3)] (.int (0 : Int32))) :
    Ctr FrameEnd l Z (⟨"java/lang/StringUTF16", "coderFromArrayLen", "([BI)B"⟩ : MethodName) jdk_52_method_15_code 2 (some .byte) ws ({ frames := 0, cells := 0, slots := 0, locals := 0 } : Room) #[(.ref bA), (.int (4 : Int32))] h0 TrueV (PureQ (some (.int (0 : Int32))) h0) := by
  refine Ctr.intro (plainFor_of_name pn_java_lang_StringUTF16) (Ls := #[.val (.ref bA), .val (.int (4 : Int32))]) (fun m => by first | (simp [entryFrame, mkF, argsToLocals, Value.category]; done) | rfl) ?_
  intro p e s m below meth c T0 hx hby hml hown hnm hret hlk hZ hV hsh e0 X0
  have N0 := Fr.nil n0
  show Done _ p e below s _ _ (T0.setTop (mkF m 0 #[oR bA, oI (4 : Int32)] []))
  refine Done.step (fun _ => XS.iloadN X0.here hx rfl (hb hby d27_0) rfl) ?_
  show Done _ p e below s _ _ (T0.setTop (mkF m 1 #[oR bA, oI (4 : Int32)] [(.int (4 : Int32))]))
  refine Done.step (fun _ => XS.aloadN X0.here hx rfl (hb hby d27_1) rfl rfl) ?_
  show Done _ p e below s _ _ (T0.setTop (mkF m 2 #[oR bA, oI (4 : Int32)] [(.ref bA), (.int (4 : Int32))]))
  obtain ⟨cl1, Ar1, q1, S1, Nn1, H1, G1⟩ := id VB
  refine Done.step (X0.arraylength hx (by first | exact Ar1.1 | (rw [e0]; exact Ar1.1)) (State.isArrayOf_alike hZ.alike Ar1.2.1) (g := (mkF m 2 #[oR bA, oI (4 : Int32)] [(.ref bA), (.int (4 : Int32))])) rfl rfl (hb hby d27_2)) ?_
  rw [len_of S1 Nn1]
  show Done _ p e below s _ _ (T0.setTop (mkF m 3 #[oR bA, oI (4 : Int32)] [(.int (4 : Int32)), (.int (4 : Int32))]))
  refine Done.step (fun _ => XS.isub X0.here hx rfl (hb hby d27_3) rfl) ?_
  show Done _ p e below s _ _ (T0.setTop (mkF m 4 #[oR bA, oI (4 : Int32)] [(.int (0 : Int32))]))
  refine Done.step (fun _ => XT.bipushV X0.here hx rfl (31 : Int32) (hb hby d27_4) (by decide)) ?_
  show Done _ p e below s _ _ (T0.setTop (mkF m 6 #[oR bA, oI (4 : Int32)] [(.int (31 : Int32)), (.int (0 : Int32))]))
  refine Done.step (fun _ => XT.iushr X0.here hx rfl (hb hby d27_6) rfl) ?_
  show Done _ p e below s _ _ (T0.setTop (mkF m 7 #[oR bA, oI (4 : Int32)] [(.int (0 : Int32))]))
  refine Done.step (fun _ => XT.i2b X0.here hx rfl (hb hby d27_7) rfl) ?_
  show Done _ p e below s _ _ (T0.setTop (mkF m 8 #[oR bA, oI (4 : Int32)] [(.int (0 : Int32))]))
  exact Done.retN (leavesF X0 hlk (by decide) (by decide)) X0 hx (t := .byte) hret (by simp) (hb hby d27_8) ⟨rfl, e0, rfl⟩
set_option maxRecDepth 65536 in
set_option maxHeartbeats 40000000 in
theorem uc_41 (l : Launch) (Z : State) (a0 : Array Value) (hw : ∀ d ∈ tables_1, d.before a0 Z = true) (ws : List Jvm.Cond) (bA : Addr) (kb : ClassId) (p0 p1 p2 p3 p4 p5 p6 p7 : Int32) (h0 : Heap) (n0 : Nat) (Z0 : n0 ≤ h0.size) (VB : Arv Z h0 bA kb .byte (8 : Int32) [(.int p0), (.int p1), (.int p2), (.int p3), (.int p4), (.int p5), (.int p6), (.int p7)] (.int (0 : Int32))) :
    Ctr FrameEnd l Z (⟨"java/lang/StringUTF16", "coderFromArrayLen", "([BI)B"⟩ : MethodName) jdk_52_method_15_code 2 (some .byte) ws ({ frames := 0, cells := 0, slots := 0, locals := 0 } : Room) #[(.ref bA), (.int (4 : Int32))] h0 TrueV (PureQ (some (.int (1 : Int32))) h0) := by
  refine Ctr.intro (plainFor_of_name pn_java_lang_StringUTF16) (Ls := #[.val (.ref bA), .val (.int (4 : Int32))]) (fun m => by first | (simp [entryFrame, mkF, argsToLocals, Value.category]; done) | rfl) ?_
  intro p e s m below meth c T0 hx hby hml hown hnm hret hlk hZ hV hsh e0 X0
  have N0 := Fr.nil n0
  show Done _ p e below s _ _ (T0.setTop (mkF m 0 #[oR bA, oI (4 : Int32)] []))
  refine Done.step (fun _ => XS.iloadN X0.here hx rfl (hb hby d27_0) rfl) ?_
  show Done _ p e below s _ _ (T0.setTop (mkF m 1 #[oR bA, oI (4 : Int32)] [(.int (4 : Int32))]))
  refine Done.step (fun _ => XS.aloadN X0.here hx rfl (hb hby d27_1) rfl rfl) ?_
  show Done _ p e below s _ _ (T0.setTop (mkF m 2 #[oR bA, oI (4 : Int32)] [(.ref bA), (.int (4 : Int32))]))
  obtain ⟨cl1, Ar1, q1, S1, Nn1, H1, G1⟩ := id VB
  refine Done.step (X0.arraylength hx (by first | exact Ar1.1 | (rw [e0]; exact Ar1.1)) (State.isArrayOf_alike hZ.alike Ar1.2.1) (g := (mkF m 2 #[oR bA, oI (4 : Int32)] [(.ref bA), (.int (4 : Int32))])) rfl rfl (hb hby d27_2)) ?_
  rw [len_of S1 Nn1]
  show Done _ p e below s _ _ (T0.setTop (mkF m 3 #[oR bA, oI (4 : Int32)] [(.int (8 : Int32)), (.int (4 : Int32))]))
  refine Done.step (fun _ => XS.isub X0.here hx rfl (hb hby d27_3) rfl) ?_
  show Done _ p e below s _ _ (T0.setTop (mkF m 4 #[oR bA, oI (4 : Int32)] [(.int (-4 : Int32))]))
  refine Done.step (fun _ => XT.bipushV X0.here hx rfl (31 : Int32) (hb hby d27_4) (by decide)) ?_
  show Done _ p e below s _ _ (T0.setTop (mkF m 6 #[oR bA, oI (4 : Int32)] [(.int (31 : Int32)), (.int (-4 : Int32))]))
  refine Done.step (fun _ => XT.iushr X0.here hx rfl (hb hby d27_6) rfl) ?_
  show Done _ p e below s _ _ (T0.setTop (mkF m 7 #[oR bA, oI (4 : Int32)] [(.int (1 : Int32))]))
  refine Done.step (fun _ => XT.i2b X0.here hx rfl (hb hby d27_7) rfl) ?_
  show Done _ p e below s _ _ (T0.setTop (mkF m 8 #[oR bA, oI (4 : Int32)] [(.int (1 : Int32))]))
  exact Done.retN (leavesF X0 hlk (by decide) (by decide)) X0 hx (t := .byte) hret (by simp) (hb hby d27_8) ⟨rfl, e0, rfl⟩
set_option maxRecDepth 65536 in
set_option maxHeartbeats 40000000 in
theorem u4_4 (l : Launch) (Z : State) (a0 : Array Value) (hw : ∀ d ∈ tables_1, d.before a0 Z = true) (ws : List Jvm.Cond) (xx cA : Addr) (kc : ClassId) (c0 c1 c2 c3 : Int32) (z : Int32) (h0 : Heap) (n0 : Nat) (Z0 : n0 ≤ h0.size) (Ex : Exa Z h0 xx "java/lang/String") (Fv : Fld Z h0 xx "java/lang/String" "value" "[B" .null) (Fc : Fld Z h0 xx "java/lang/String" "coder" "B" (.int (0 : Int32))) (gx : n0 ≤ xx) (O0 : Old Z n0 h0) (SC : Sta Z Z.heap "java/lang/String" "COMPACT_STRINGS" "Z" (.int z)) (hz : ¬ z = 0) (SA : Sta Z Z.heap "java/lang/StringUTF16" "$assertionsDisabled" "Z" (.int (1 : Int32))) (SH : Sta Z Z.heap "java/lang/StringUTF16" "HI_BYTE_SHIFT" "I" (.int (0 : Int32))) (SL : Sta Z Z.heap "java/lang/StringUTF16" "LO_BYTE_SHIFT" "I" (.int (8 : Int32))) (VA : Arv Z h0 cA kc .char (4 : Int32) [(.int c0), (.int c1), (.int c2), (.int c3)] (.int (0 : Int32))) (ncx : cA ≠ xx) (hb0 : ¬ c0 < 0 ∧ ¬ (65535 : Int32) < c0) (hb1 : ¬ c1 < 0 ∧ ¬ (65535 : Int32) < c1) (hb2 : ¬ c2 < 0 ∧ ¬ (65535 : Int32) < c2) (hb3 : ¬ c3 < 0 ∧ ¬ (65535 : Int32) < c3) :
    Ctr FrameEnd l Z (⟨"java/lang/String", "<init>", "([CIILjava/lang/Void;)V"⟩ : MethodName) jdk_42_method_149_code 6 none ws ({ frames := 4, cells := 2, slots := 12, locals := 68 } : Room) #[(.ref xx), (.ref cA), (.int (0 : Int32)), (.int (4 : Int32)), .null] h0 TrueV (fun v h _ L => v = none ∧ Fr n0 L ∧ Keep h0 h [xx] ∧ ∃ (b : Addr) (kb : ClassId), h0.size ≤ b ∧ Exa Z h xx "java/lang/String" ∧ Fld Z h xx "java/lang/String" "value" "[B" (.ref b) ∧ (((¬ (255 : Int32) < c0 ∧ ¬ (255 : Int32) < c1 ∧ ¬ (255 : Int32) < c2 ∧ ¬ (255 : Int32) < c3) ∧ Fld Z h xx "java/lang/String" "coder" "B" (.int (0 : Int32)) ∧ Arv Z h b kb .byte (4 : Int32) [(.int (own_by c0)), (.int (own_by c1)), (.int (own_by c2)), (.int (own_by c3))] (.int (0 : Int32))) ∨ (¬ (¬ (255 : Int32) < c0 ∧ ¬ (255 : Int32) < c1 ∧ ¬ (255 : Int32) < c2 ∧ ¬ (255 : Int32) < c3) ∧ Fld Z h xx "java/lang/String" "coder" "B" (.int (1 : Int32)) ∧ Arv Z h b kb .byte (8 : Int32) [(.int (own_hi c0)), (.int (own_lo c0)), (.int (own_hi c1)), (.int (own_lo c1)), (.int (own_hi c2)), (.int (own_lo c2)), (.int (own_hi c3)), (.int (own_lo c3))] (.int (0 : Int32))))) := by
  refine Ctr.intro (plainFor_of_name pn_java_lang_String) (Ls := #[.val (.ref xx), .val (.ref cA), .val (.int (0 : Int32)), .val (.int (4 : Int32)), .val .null, .unset]) (fun m => by first | (simp [entryFrame, mkF, argsToLocals, Value.category]; done) | rfl) ?_
  intro p e s m below meth c T0 hx hby hml hown hnm hret hlk hZ hV hsh e0 X0
  have N0 := Fr.nil n0
  show Done _ p e below s _ _ (T0.setTop (mkF m 0 #[oR xx, oR cA, oI (0 : Int32), oI (4 : Int32), .val .null, .unset] []))
  refine Done.step (fun _ => XS.aloadN X0.here hx rfl (hb hby d4_0) rfl rfl) ?_
  show Done _ p e below s _ _ (T0.setTop (mkF m 1 #[oR xx, oR cA, oI (0 : Int32), oI (4 : Int32), .val .null, .unset] [(.ref xx)]))
  obtain ⟨T1, X1, e1, st1⟩ := initO X0 hx hZ hown (wAt hw 20 rfl) (wAt hw 21 rfl) (wAt hw 22 rfl) e0 (g := (mkF m 1 #[oR xx, oR cA, oI (0 : Int32), oI (4 : Int32), .val .null, .unset] [(.ref xx)])) rfl (by rw [hml]; rfl) rfl (hb hby d4_1) (by decide) (W := 0) (by show 2 * 0 + _ ≤ _; exact Nat.le_of_eq rfl) (by decide)
  refine Done.step st1 ?_
  show Done _ p e below s _ _ (T1.setTop (mkF m 4 #[oR xx, oR cA, oI (0 : Int32), oI (4 : Int32), .val .null, .unset] []))
  refine Done.step (fun _ => XS.iloadN X1.here hx rfl (hb hby d4_4) rfl) ?_
  show Done _ p e below s _ _ (T1.setTop (mkF m 5 #[oR xx, oR cA, oI (0 : Int32), oI (4 : Int32), .val .null, .unset] [(.int (4 : Int32))]))
  refine Done.step (fun _ => XS.ifYes X1.here hx rfl (pc0 := 5) (pc' := 27) rfl (hb hby d4_5) rfl (XT.i0_ne_t (by decide)) (by decide) (by decide)) ?_
  show Done _ p e below s _ _ (T1.setTop (mkF m 27 #[oR xx, oR cA, oI (0 : Int32), oI (4 : Int32), .val .null, .unset] []))
  obtain ⟨T2, X2, e2, st2⟩ := getS2 X1 hx hZ hown (host := "") (Or.inl (wAt hw 45 rfl)) Via.refl e1 (SC.ext O0.2) (g := (mkF m 27 #[oR xx, oR cA, oI (0 : Int32), oI (4 : Int32), .val .null, .unset] [])) rfl (hb hby d4_27)
  refine Done.step st2 ?_
  show Done _ p e below s _ _ (T2.setTop (mkF m 30 #[oR xx, oR cA, oI (0 : Int32), oI (4 : Int32), .val .null, .unset] [(.int z)]))
  refine Done.step (fun _ => XS.ifNo X2.here hx rfl (hb hby d4_30) rfl (XT.i0_eq_f hz)) ?_
  show Done _ p e below s _ _ (T2.setTop (mkF m 33 #[oR xx, oR cA, oI (0 : Int32), oI (4 : Int32), .val .null, .unset] []))
  refine Done.step (fun _ => XS.aloadN X2.here hx rfl (hb hby d4_33) rfl rfl) ?_
  show Done _ p e below s _ _ (T2.setTop (mkF m 34 #[oR xx, oR cA, oI (0 : Int32), oI (4 : Int32), .val .null, .unset] [(.ref cA)]))
  refine Done.step (fun _ => XS.iloadN X2.here hx rfl (hb hby d4_34) rfl) ?_
  show Done _ p e below s _ _ (T2.setTop (mkF m 35 #[oR xx, oR cA, oI (0 : Int32), oI (4 : Int32), .val .null, .unset] [(.int (0 : Int32)), (.ref cA)]))
  refine Done.step (fun _ => XS.iloadN X2.here hx rfl (hb hby d4_35) rfl) ?_
  show Done _ p e below s _ _ (T2.setTop (mkF m 36 #[oR xx, oR cA, oI (0 : Int32), oI (4 : Int32), .val .null, .unset] [(.int (4 : Int32)), (.int (0 : Int32)), (.ref cA)]))
  refine Done.callS X2 hx hZ hown (wAt hw 88 rfl) (wAt hw 89 rfl) (wAt hw 90 rfl) (wAt hw 91 rfl) (by decide) (u3_4 l Z a0 hw [] cA kc c0 c1 c2 c3 h0 n0 Z0 O0 SA SH SL VA hb0 hb1 hb2 hb3) (fun _ _ => trivial) e2 (g := (mkF m 36 #[oR xx, oR cA, oI (0 : Int32), oI (4 : Int32), .val .null, .unset] [(.int (4 : Int32)), (.int (0 : Int32)), (.ref cA)])) rfl (by rw [hml]; rfl) [(.ref cA), (.int (0 : Int32)), (.int (4 : Int32))] [] 0 (lenOf pd_5 rfl) rfl rfl (by show 2 * 0 + _ ≤ _; exact Nat.le_of_eq rfl) (hb hby d4_36) (by decide) (by decide) (by decide) (by decide) ?_
  intro T3 v3 L3 X3 q3
  obtain ⟨bU, ku, rfl, Nq3, K3q, szu, q3⟩ := q3
  have szu : h0.size ≤ bU := Nat.le_trans (Keep.refl h0 [xx]).1 szu
  have N3 := Fr.app N0 Nq3
  have Zs3 := Nat.le_trans Z0 K3q.1
  have K3 := (Keep.refl h0 [xx]).trans K3q all0
  have nbx : bU ≠ xx := Nat.ne_of_gt (Nat.lt_of_lt_of_le Ex.lt szu)
  rcases q3 with ⟨hsm, VU⟩ | ⟨hsm, VU⟩
  · show Done _ p e below s _ _ (T3.setTop (mkF m 39 #[oR xx, oR cA, oI (0 : Int32), oI (4 : Int32), .val .null, .unset] [(.ref bU)]))
    refine Done.step (fun _ => XS.astore X3.here hx rfl (hb hby d4_39) rfl rfl (l' := #[oR xx, oR cA, oI (0 : Int32), oI (4 : Int32), .val .null, oR bU]) rfl) ?_
    show Done _ p e below s _ _ (T3.setTop (mkF m 41 #[oR xx, oR cA, oI (0 : Int32), oI (4 : Int32), .val .null, oR bU] []))
    refine Done.step (fun _ => XS.aloadN X3.here hx rfl (hb hby d4_41) rfl rfl) ?_
    show Done _ p e below s _ _ (T3.setTop (mkF m 42 #[oR xx, oR cA, oI (0 : Int32), oI (4 : Int32), .val .null, oR bU] [(.ref xx)]))
    refine Done.step (fun _ => XS.aload X3.here hx rfl (hb hby d4_42) rfl rfl) ?_
    show Done _ p e below s _ _ (T3.setTop (mkF m 44 #[oR xx, oR cA, oI (0 : Int32), oI (4 : Int32), .val .null, oR bU] [(.ref bU), (.ref xx)]))
    refine Done.step (fun _ => XS.iloadN X3.here hx rfl (hb hby d4_44) rfl) ?_
    show Done _ p e below s _ _ (T3.setTop (mkF m 45 #[oR xx, oR cA, oI (0 : Int32), oI (4 : Int32), .val .null, oR bU] [(.int (4 : Int32)), (.ref bU), (.ref xx)]))
    refine Done.callSP X3 hx hZ hown (wAt hw 114 rfl) (wAt hw 115 rfl) (wAt hw 90 rfl) (wAt hw 116 rfl) (by decide) (uc_40 l Z a0 hw [] bU ku (own_by c0) (own_by c1) (own_by c2) (own_by c3) T3.heap n0 Zs3 VU) rfl (g := (mkF m 45 #[oR xx, oR cA, oI (0 : Int32), oI (4 : Int32), .val .null, oR bU] [(.int (4 : Int32)), (.ref bU), (.ref xx)])) rfl (by rw [hml]; rfl) [(.ref bU), (.int (4 : Int32))] [(.ref xx)] 1 (lenOf pd_7 rfl) rfl rfl (by show 2 * 0 + _ ≤ _; exact Nat.le_of_eq rfl) (hb hby d4_45) (by decide) (by decide) (by decide) (by decide) rfl rfl ?_
    intro T4 X4 e4
    show Done _ p e below s _ _ (T4.setTop (mkF m 48 #[oR xx, oR cA, oI (0 : Int32), oI (4 : Int32), .val .null, oR bU] [(.int (0 : Int32)), (.ref xx)]))
    have f6 := (Fc.keep K3q nin0)
    have f7 := (Ex.keep K3q)
    obtain ⟨T5, h5, X5, e5, W5, st5⟩ := putFN X4 hx hZ hown (wAt hw 30 rfl) Via.refl e4 f6 f7 (Or.inr ⟨(wAt hw 26 rfl), rfl, hnm⟩) (wAt hw 10 rfl) (ty := .byte) (v' := (.int (nar .byte (0 : Int32)))) (by decide) rfl (fits_nar_byte _) (g := (mkF m 48 #[oR xx, oR cA, oI (0 : Int32), oI (4 : Int32), .val .null, oR bU] [(.int (0 : Int32)), (.ref xx)])) rfl rfl (hb hby d4_48)
    have F5 := f6.same W5
    have N5 := Fr.snoc X5 N3 gx
    have Zs5 := Nat.le_trans Zs3 (Keep.of_wr W5).1
    have K5 := K3.wr W5 (Or.inl (List.mem_of_getElem? (i := 0) rfl))
    refine Done.step st5 ?_
    show Done _ p e below s _ _ (T5.setTop (mkF m 51 #[oR xx, oR cA, oI (0 : Int32), oI (4 : Int32), .val .null, oR bU] []))
    refine Done.step (fun _ => XS.aloadN X5.here hx rfl (hb hby d4_51) rfl rfl) ?_
    show Done _ p e below s _ _ (T5.setTop (mkF m 52 #[oR xx, oR cA, oI (0 : Int32), oI (4 : Int32), .val .null, oR bU] [(.ref xx)]))
    refine Done.step (fun _ => XS.aload X5.here hx rfl (hb hby d4_52) rfl rfl) ?_
    show Done _ p e below s _ _ (T5.setTop (mkF m 54 #[oR xx, oR cA, oI (0 : Int32), oI (4 : Int32), .val .null, oR bU] [(.ref bU), (.ref xx)]))
    have f9 := ((Fv.keep K3q nin0).other W5 (Or.inr (slot_ne (Or.inr (wAt hw 25 rfl)) (Or.inr (wAt hw 26 rfl)) (by decide) (t := (.array .byte)) (t' := .byte) (by decide) (by decide))))
    have f10 := (f7.wr W5)
    obtain ⟨T8, h8, X8, e8, W8, st8⟩ := putF X5 hx hZ hown (host := "") (Or.inl (wAt hw 29 rfl)) Via.refl e5 f9 f10 (Or.inr ⟨(wAt hw 25 rfl), rfl, hnm⟩) (wAt hw 10 rfl) (ty := (.array .byte)) (by decide) rfl rfl (g := (mkF m 54 #[oR xx, oR cA, oI (0 : Int32), oI (4 : Int32), .val .null, oR bU] [(.ref bU), (.ref xx)])) rfl rfl (hb hby d4_54)
    have F8 := f9.same W8
    have N8 := Fr.snoc X8 N5 gx
    have Zs8 := Nat.le_trans Zs5 (Keep.of_wr W8).1
    have K8 := K5.wr W8 (Or.inl (List.mem_of_getElem? (i := 0) rfl))
    refine Done.step st8 ?_
    show Done _ p e below s _ _ (T8.setTop (mkF m 57 #[oR xx, oR cA, oI (0 : Int32), oI (4 : Int32), .val .null, oR bU] []))
    have f11 := (f10.wr W8)
    have f12 := (F5.other W8 (Or.inr (slot_ne (Or.inr (wAt hw 26 rfl)) (Or.inr (wAt hw 25 rfl)) (by decide) (t := .byte) (t' := (.array .byte)) (by decide) (by decide))))
    have f13 := ((VU.other W5 nbx).other W8 nbx)
    refine Done.retV (leavesF X8 hlk (by decide) (by decide)) X8 hx hret (hb hby d4_57) ?_
    rw [e8]
    exact ⟨rfl, N8, K8, bU, ku, szu, f11, F8, Or.inl ⟨hsm, f12, f13⟩⟩
  · show Done _ p e below s _ _ (T3.setTop (mkF m 39 #[oR xx, oR cA, oI (0 : Int32), oI (4 : Int32), .val .null, .unset] [(.ref bU)]))
    refine Done.step (fun _ => XS.astore X3.here hx rfl (hb hby d4_39) rfl rfl (l' := #[oR xx, oR cA, oI (0 : Int32), oI (4 : Int32), .val .null, oR bU]) rfl) ?_
    show Done _ p e below s _ _ (T3.setTop (mkF m 41 #[oR xx, oR cA, oI (0 : Int32), oI (4 : Int32), .val .null, oR bU] []))
    refine Done.step (fun _ => XS.aloadN X3.here hx rfl (hb hby d4_41) rfl rfl) ?_
    show Done _ p e below s _ _ (T3.setTop (mkF m 42 #[oR xx, oR cA, oI (0 : Int32), oI (4 : Int32), .val .null, oR bU] [(.ref xx)]))
    refine Done.step (fun _ => XS.aload X3.here hx rfl (hb hby d4_42) rfl rfl) ?_
    show Done _ p e below s _ _ (T3.setTop (mkF m 44 #[oR xx, oR cA, oI (0 : Int32), oI (4 : Int32), .val .null, oR bU] [(.ref bU), (.ref xx)]))
    refine Done.step (fun _ => XS.iloadN X3.here hx rfl (hb hby d4_44) rfl) ?_
    show Done _ p e below s _ _ (T3.setTop (mkF m 45 #[oR xx, oR cA, oI (0 : Int32), oI (4 : Int32), .val .null, oR bU] [(.int (4 : Int32)), (.ref bU), (.ref xx)]))
    refine Done.callSP X3 hx hZ hown (wAt hw 114 rfl) (wAt hw 115 rfl) (wAt hw 90 rfl) (wAt hw 116 rfl) (by decide) (uc_41 l Z a0 hw [] bU ku (own_hi c0) (own_lo c0) (own_hi c1) (own_lo c1) (own_hi c2) (own_lo c2) (own_hi c3) (own_lo c3) T3.heap n0 Zs3 VU) rfl (g := (mkF m 45 #[oR xx, oR cA, oI (0 : Int32), oI (4 : Int32), .val .null, oR bU] [(.int (4 : Int32)), (.ref bU), (.ref xx)])) rfl (by rw [hml]; rfl) [(.ref bU), (.int (4 : Int32))] [(.ref xx)] 1 (lenOf pd_7 rfl) rfl rfl (by show 2 * 0 + _ ≤ _; exact Nat.le_of_eq rfl) (hb hby d4_45) (by decide) (by decide) (by decide) (by decide) rfl rfl ?_
    intro T14 X14 e14
    show Done _ p e below s _ _ (T14.setTop (mkF m 48 #[oR xx, oR cA, oI (0 : Int32), oI (4 : Int32), .val .null, oR bU] [(.int (1 : Int32)), (.ref xx)]))
    have f16 := (Fc.keep K3q nin0)
    have f17 := (Ex.keep K3q)
    obtain ⟨T15, h15, X15, e15, W15, st15⟩ := putFN X14 hx hZ hown (wAt hw 30 rfl) Via.refl e14 f16 f17 (Or.inr ⟨(wAt hw 26 rfl), rfl, hnm⟩) (wAt hw 10 rfl) (ty := .byte) (v' := (.int (nar .byte (1 : Int32)))) (by decide) rfl (fits_nar_byte _) (g := (mkF m 48 #[oR xx, oR cA, oI (0 : Int32), oI (4 : Int32), .val .null, oR bU] [(.int (1 : Int32)), (.ref xx)])) rfl rfl (hb hby d4_48)
    have F15 := f16.same W15
    have N15 := Fr.snoc X15 N3 gx
    have Zs15 := Nat.le_trans Zs3 (Keep.of_wr W15).1
    have K15 := K3.wr W15 (Or.inl (List.mem_of_getElem? (i := 0) rfl))
    refine Done.step st15 ?_
    show Done _ p e below s _ _ (T15.setTop (mkF m 51 #[oR xx, oR cA, oI (0 : Int32), oI (4 : Int32), .val .null, oR bU] []))
    refine Done.step (fun _ => XS.aloadN X15.here hx rfl (hb hby d4_51) rfl rfl) ?_
    show Done _ p e below s _ _ (T15.setTop (mkF m 52 #[oR xx, oR cA, oI (0 : Int32), oI (4 : Int32), .val .null, oR bU] [(.ref xx)]))
    refine Done.step (fun _ => XS.aload X15.here hx rfl (hb hby d4_52) rfl rfl) ?_
    show Done _ p e below s _ _ (T15.setTop (mkF m 54 #[oR xx, oR cA, oI (0 : Int32), oI (4 : Int32), .val .null, oR bU] [(.ref bU), (.ref xx)]))
    have f19 := ((Fv.keep K3q nin0).other W15 (Or.inr (slot_ne (Or.inr (wAt hw 25 rfl)) (Or.inr (wAt hw 26 rfl)) (by decide) (t := (.array .byte)) (t' := .byte) (by decide) (by decide))))
    have f20 := (f17.wr W15)
    obtain ⟨T18, h18, X18, e18, W18, st18⟩ := putF X15 hx hZ hown (host := "") (Or.inl (wAt hw 29 rfl)) Via.refl e15 f19 f20 (Or.inr ⟨(wAt hw 25 rfl), rfl, hnm⟩) (wAt hw 10 rfl) (ty := (.array .byte)) (by decide) rfl rfl (g := (mkF m 54 #[oR xx, oR cA, oI (0 : Int32), oI (4 : Int32), .val .null, oR bU] [(.ref bU), (.ref xx)])) rfl rfl (hb hby d4_54)
    have F18 := f19.same W18
    have N18 := Fr.snoc X18 N15 gx
    have Zs18 := Nat.le_trans Zs15 (Keep.of_wr W18).1
    have K18 := K15.wr W18 (Or.inl (List.mem_of_getElem? (i := 0) rfl))
    refine Done.step st18 ?_
    show Done _ p e below s _ _ (T18.setTop (mkF m 57 #[oR xx, oR cA, oI (0 : Int32), oI (4 : Int32), .val .null, oR bU] []))
    have f21 := (f20.wr W18)
    have f22 := (F15.other W18 (Or.inr (slot_ne (Or.inr (wAt hw 26 rfl)) (Or.inr (wAt hw 25 rfl)) (by decide) (t := .byte) (t' := (.array .byte)) (by decide) (by decide))))
    have f23 := ((VU.other W15 nbx).other W18 nbx)
    refine Done.retV (leavesF X18 hlk (by decide) (by decide)) X18 hx hret (hb hby d4_57) ?_
    rw [e18]
    exact ⟨rfl, N18, K18, bU, ku, szu, f21, F18, Or.inr ⟨hsm, f22, f23⟩⟩
set_option maxRecDepth 65536 in
set_option maxHeartbeats 40000000 in
theorem un_4 (l : Launch) (Z : State) (a0 : Array Value) (hw : ∀ d ∈ tables_1, d.before a0 Z = true) (ws : List Jvm.Cond) (xx cA : Addr) (kc : ClassId) (c0 c1 c2 c3 : Int32) (z : Int32) (h0 : Heap) (n0 : Nat) (Z0 : n0 ≤ h0.size) (Ex : Exa Z h0 xx "java/lang/String") (Fv : Fld Z h0 xx "java/lang/String" "value" "[B" .null) (Fc : Fld Z h0 xx "java/lang/String" "coder" "B" (.int (0 : Int32))) (gx : n0 ≤ xx) (O0 : Old Z n0 h0) (SC : Sta Z Z.heap "java/lang/String" "COMPACT_STRINGS" "Z" (.int z)) (hz : ¬ z = 0) (SA : Sta Z Z.heap "java/lang/StringUTF16" "$assertionsDisabled" "Z" (.int (1 : Int32))) (SH : Sta Z Z.heap "java/lang/StringUTF16" "HI_BYTE_SHIFT" "I" (.int (0 : Int32))) (SL : Sta Z Z.heap "java/lang/StringUTF16" "LO_BYTE_SHIFT" "I" (.int (8 : Int32))) (VA : Arv Z h0 cA kc .char (4 : Int32) [(.int c0), (.int c1), (.int c2), (.int c3)] (.int (0 : Int32))) (ncx : cA ≠ xx) (hb0 : ¬ c0 < 0 ∧ ¬ (65535 : Int32) < c0) (hb1 : ¬ c1 < 0 ∧ ¬ (65535 : Int32) < c1) (hb2 : ¬ c2 < 0 ∧ ¬ (65535 : Int32) < c2) (hb3 : ¬ c3 < 0 ∧ ¬ (65535 : Int32) < c3) :
    Ctr FrameEnd l Z (⟨"java/lang/String", "<init>", "([C)V"⟩ : MethodName) jdk_42_method_3_code 2 none ws ({ frames := 5, cells := 2, slots := 12, locals := 87 } : Room) #[(.ref xx), (.ref cA)] h0 TrueV (fun v h _ L => v = none ∧ Fr n0 L ∧ Keep h0 h [xx] ∧ ∃ (b : Addr) (kb : ClassId), h0.size ≤ b ∧ Exa Z h xx "java/lang/String" ∧ Fld Z h xx "java/lang/String" "value" "[B" (.ref b) ∧ (((¬ (255 : Int32) < c0 ∧ ¬ (255 : Int32) < c1 ∧ ¬ (255 : Int32) < c2 ∧ ¬ (255 : Int32) < c3) ∧ Fld Z h xx "java/lang/String" "coder" "B" (.int (0 : Int32)) ∧ Arv Z h b kb .byte (4 : Int32) [(.int (own_by c0)), (.int (own_by c1)), (.int (own_by c2)), (.int (own_by c3))] (.int (0 : Int32))) ∨ (¬ (¬ (255 : Int32) < c0 ∧ ¬ (255 : Int32) < c1 ∧ ¬ (255 : Int32) < c2 ∧ ¬ (255 : Int32) < c3) ∧ Fld Z h xx "java/lang/String" "coder" "B" (.int (1 : Int32)) ∧ Arv Z h b kb .byte (8 : Int32) [(.int (own_hi c0)), (.int (own_lo c0)), (.int (own_hi c1)), (.int (own_lo c1)), (.int (own_hi c2)), (.int (own_lo c2)), (.int (own_hi c3)), (.int (own_lo c3))] (.int (0 : Int32))))) := by
  refine Ctr.intro (plainFor_of_name pn_java_lang_String) (Ls := #[.val (.ref xx), .val (.ref cA)]) (fun m => by first | (simp [entryFrame, mkF, argsToLocals, Value.category]; done) | rfl) ?_
  intro p e s m below meth c T0 hx hby hml hown hnm hret hlk hZ hV hsh e0 X0
  have N0 := Fr.nil n0
  show Done _ p e below s _ _ (T0.setTop (mkF m 0 #[oR xx, oR cA] []))
  refine Done.step (fun _ => XS.aloadN X0.here hx rfl (hb hby d3_0) rfl rfl) ?_
  show Done _ p e below s _ _ (T0.setTop (mkF m 1 #[oR xx, oR cA] [(.ref xx)]))
  refine Done.step (fun _ => XS.aloadN X0.here hx rfl (hb hby d3_1) rfl rfl) ?_
  show Done _ p e below s _ _ (T0.setTop (mkF m 2 #[oR xx, oR cA] [(.ref cA), (.ref xx)]))
  refine Done.step (fun _ => XT.iconstV X0.here hx rfl (0 : Int32) (hb hby d3_2) (by decide)) ?_
  show Done _ p e below s _ _ (T0.setTop (mkF m 3 #[oR xx, oR cA] [(.int (0 : Int32)), (.ref cA), (.ref xx)]))
  refine Done.step (fun _ => XS.aloadN X0.here hx rfl (hb hby d3_3) rfl rfl) ?_
  show Done _ p e below s _ _ (T0.setTop (mkF m 4 #[oR xx, oR cA] [(.ref cA), (.int (0 : Int32)), (.ref cA), (.ref xx)]))
  obtain ⟨cl1, Ar1, q1, S1, Nn1, H1, G1⟩ := id VA
  refine Done.step (X0.arraylength hx (by first | exact Ar1.1 | (rw [e0]; exact Ar1.1)) (State.isArrayOf_alike hZ.alike Ar1.2.1) (g := (mkF m 4 #[oR xx, oR cA] [(.ref cA), (.int (0 : Int32)), (.ref cA), (.ref xx)])) rfl rfl (hb hby d3_4)) ?_
  rw [len_of S1 Nn1]
  show Done _ p e below s _ _ (T0.setTop (mkF m 5 #[oR xx, oR cA] [(.int (4 : Int32)), (.int (0 : Int32)), (.ref cA), (.ref xx)]))
  refine Done.step (fun _ => XS.aconstNull X0.here hx rfl (hb hby d3_5)) ?_
  show Done _ p e below s _ _ (T0.setTop (mkF m 6 #[oR xx, oR cA] [.null, (.int (4 : Int32)), (.int (0 : Int32)), (.ref cA), (.ref xx)]))
  refine Done.callI X0 hx hZ rfl hown (wAt hw 16 rfl) (wAt hw 17 rfl) (wAt hw 11 rfl) (wAt hw 19 rfl) (by decide) (u4_4 l Z a0 hw [] xx cA kc c0 c1 c2 c3 z h0 n0 Z0 Ex Fv Fc gx O0 SC hz SA SH SL VA ncx hb0 hb1 hb2 hb3) (fun _ _ => trivial) e0 (g := (mkF m 6 #[oR xx, oR cA] [.null, (.int (4 : Int32)), (.int (0 : Int32)), (.ref cA), (.ref xx)])) rfl (by rw [hml]; rfl) xx [(.ref cA), (.int (0 : Int32)), (.int (4 : Int32)), .null] [] 0 (lenOf pd_0 rfl) rfl rfl (by show 2 * 0 + _ ≤ _; exact Nat.le_of_eq rfl) (hb hby d3_6) (by decide) (by decide) (by decide) (by decide) ?_
  intro T2 v2 L2 X2 q2
  obtain ⟨rfl, Nq2, K2q, bU, ku, szu, Eq2, Vq2, q2⟩ := q2
  have N2 := Fr.app N0 Nq2
  show Done _ p e below s _ _ (T2.setTop (mkF m 9 #[oR xx, oR cA] []))
  exact Done.retV (leavesF X2 hlk (by decide) (by decide)) X2 hx hret (hb hby d3_9) ⟨rfl, N2, K2q, bU, ku, szu, Eq2, Vq2, q2⟩
theorem own_nar2 {c : Int32} (h : ¬ c < 0 ∧ ¬ (65535 : Int32) < c) : nar .char c = c := own_nar h.1 h.2
theorem own_narj (a b : Int32) : nar .char (own_join a b) = own_join a b := own_narI _
theorem pn_jdk_internal_util_Preconditions : plainName "jdk/internal/util/Preconditions" = true := by first | (simp [plainName, overriddenIn]; done) | decide +kernel
theorem d19_0 : decode jdk_41_method_11_code 0 = .ok (.iload_n 0, 1) := by decide +kernel
theorem d19_1 : decode jdk_41_method_11_code 1 = .ok (.ifCond .lt 8, 3) := by decide +kernel
theorem d19_4 : decode jdk_41_method_11_code 4 = .ok (.iload_n 0, 1) := by decide +kernel
theorem d19_5 : decode jdk_41_method_11_code 5 = .ok (.iload_n 1, 1) := by decide +kernel
theorem d19_6 : decode jdk_41_method_11_code 6 = .ok (.if_icmp .lt 10, 3) := by decide +kernel
theorem d19_16 : decode jdk_41_method_11_code 16 = .ok (.iload_n 0, 1) := by decide +kernel
theorem d19_17 : decode jdk_41_method_11_code 17 = .ok (.ireturn, 1) := by decide +kernel
set_option maxRecDepth 65536 in
set_option maxHeartbeats 40000000 in
theorem rmPC (l : Launch) (Z : State) (a0 : Array Value) (hw : ∀ d ∈ tables_1, d.before a0 Z = true) (ws : List Jvm.Cond) (i n : Int32) (fm : Value) (h0 : Heap) (n0 : Nat) (Z0 : n0 ≤ h0.size) (rF : fm.isRef = true) (g0 : ¬ i < (0 : Int32)) (g1 : i < n) :
    Ctr FrameEnd l Z (⟨"jdk/internal/util/Preconditions", "checkIndex", "(IILjava/util/function/BiFunction;)I"⟩ : MethodName) jdk_41_method_11_code 3 (some .int) ws ({ frames := 0, cells := 0, slots := 0, locals := 0 } : Room) #[(.int i), (.int n), fm] h0 TrueV (PureQ (some (.int i)) h0) := by
  refine Ctr.intro (plainFor_of_name pn_jdk_internal_util_Preconditions) (Ls := #[.val (.int i), .val (.int n), .val fm]) (fun m => by rcases ref_cases rF with rfl | ⟨q, rfl⟩ <;> first | (simp [entryFrame, mkF, argsToLocals, Value.category]; done) | rfl) ?_
  intro p e s m below meth c T0 hx hby hml hown hnm hret hlk hZ hV hsh e0 X0
  have N0 := Fr.nil n0
  show Done _ p e below s _ _ (T0.setTop (mkF m 0 #[oI i, oI n, .val fm] []))
  refine Done.step (fun _ => XS.iloadN X0.here hx rfl (hb hby d19_0) rfl) ?_
  show Done _ p e below s _ _ (T0.setTop (mkF m 1 #[oI i, oI n, .val fm] [(.int i)]))
  refine Done.step (fun _ => XS.ifNo X0.here hx rfl (hb hby d19_1) rfl (XT.i0_lt_f g0)) ?_
  show Done _ p e below s _ _ (T0.setTop (mkF m 4 #[oI i, oI n, .val fm] []))
  refine Done.step (fun _ => XS.iloadN X0.here hx rfl (hb hby d19_4) rfl) ?_
  show Done _ p e below s _ _ (T0.setTop (mkF m 5 #[oI i, oI n, .val fm] [(.int i)]))
  refine Done.step (fun _ => XS.iloadN X0.here hx rfl (hb hby d19_5) rfl) ?_
  show Done _ p e below s _ _ (T0.setTop (mkF m 6 #[oI i, oI n, .val fm] [(.int n), (.int i)]))
  refine Done.step (fun _ => XS.icmpYes X0.here hx rfl (pc0 := 6) (pc' := 16) rfl (hb hby d19_6) rfl (XT.ii_lt_t g1) (by decide) (by decide)) ?_
  show Done _ p e below s _ _ (T0.setTop (mkF m 16 #[oI i, oI n, .val fm] []))
  refine Done.step (fun _ => XS.iloadN X0.here hx rfl (hb hby d19_16) rfl) ?_
  show Done _ p e below s _ _ (T0.setTop (mkF m 17 #[oI i, oI n, .val fm] [(.int i)]))
  exact Done.retI (leavesF X0 hlk (by decide) (by decide)) X0 hx hret (hb hby d19_17) ⟨rfl, e0, rfl⟩
theorem d18_0 : decode jdk_42_method_155_code 0 = .ok (.iload_n 0, 1) := by decide +kernel
theorem d18_1 : decode jdk_42_method_155_code 1 = .ok (.iload_n 1, 1) := by decide +kernel
theorem d18_2 : decode jdk_42_method_155_code 2 = .ok (.getstatic 1053, 3) := by decide +kernel
theorem d18_5 : decode jdk_42_method_155_code 5 = .ok (.invokestatic 1059, 3) := by decide +kernel
theorem pd_8 : parseMethodDescriptor "(IILjava/util/function/BiFunction;)I" = some ⟨[.int, .int, (.object "java/util/function/BiFunction")], some .int⟩ := by decide +kernel
theorem d18_8 : decode jdk_42_method_155_code 8 = .ok (.pop, 1) := by decide +kernel
theorem d18_9 : decode jdk_42_method_155_code 9 = .ok (.return_, 1) := by decide +kernel
set_option maxRecDepth 65536 in
set_option maxHeartbeats 40000000 in
theorem rmCI (l : Launch) (Z : State) (a0 : Array Value) (hw : ∀ d ∈ tables_1, d.before a0 Z = true) (ws : List Jvm.Cond) (i n z : Int32) (fm : Value) (h0 : Heap) (n0 : Nat) (Z0 : n0 ≤ h0.size) (O0 : Old Z n0 h0) (SC : Sta Z Z.heap "java/lang/String" "COMPACT_STRINGS" "Z" (.int z)) (hz : ¬ z = 0) (SF : Sta Z Z.heap "jdk/internal/util/Preconditions" "SIOOBE_FORMATTER" "Ljava/util/function/BiFunction;" fm) (rF : fm.isRef = true) (SA : Sta Z Z.heap "java/lang/StringUTF16" "$assertionsDisabled" "Z" (.int (1 : Int32))) (SH : Sta Z Z.heap "java/lang/StringUTF16" "HI_BYTE_SHIFT" "I" (.int (0 : Int32))) (SL : Sta Z Z.heap "java/lang/StringUTF16" "LO_BYTE_SHIFT" "I" (.int (8 : Int32))) (g0 : ¬ i < (0 : Int32)) (g1 : i < n) :
    Ctr FrameEnd l Z (⟨"java/lang/String", "checkIndex", "(II)V"⟩ : MethodName) jdk_42_method_155_code 2 none ws ({ frames := 1, cells := 0, slots := 0, locals := 14 } : Room) #[(.int i), (.int n)] h0 TrueV (PureQ none h0) := by
  refine Ctr.intro (plainFor_of_name pn_java_lang_String) (Ls := #[.val (.int i), .val (.int n)]) (fun m => by first | (simp [entryFrame, mkF, argsToLocals, Value.category]; done) | rfl) ?_
  intro p e s m below meth c T0 hx hby hml hown hnm hret hlk hZ hV hsh e0 X0
  have N0 := Fr.nil n0
  show Done _ p e below s _ _ (T0.setTop (mkF m 0 #[oI i, oI n] []))
  refine Done.step (fun _ => XS.iloadN X0.here hx rfl (hb hby d18_0) rfl) ?_
  show Done _ p e below s _ _ (T0.setTop (mkF m 1 #[oI i, oI n] [(.int i)]))
  refine Done.step (fun _ => XS.iloadN X0.here hx rfl (hb hby d18_1) rfl) ?_
  show Done _ p e below s _ _ (T0.setTop (mkF m 2 #[oI i, oI n] [(.int n), (.int i)]))
  obtain ⟨T1, X1, e1, st1⟩ := getS2 X0 hx hZ hown (host := "") (Or.inl (wAt hw 83 rfl)) Via.refl e0 (SF.ext O0.2) (g := (mkF m 2 #[oI i, oI n] [(.int n), (.int i)])) rfl (hb hby d18_2)
  refine Done.step st1 ?_
  show Done _ p e below s _ _ (T1.setTop (mkF m 5 #[oI i, oI n] [fm, (.int n), (.int i)]))
  refine Done.callSP X1 hx hZ hown (wAt hw 85 rfl) (wAt hw 86 rfl) (wAt hw 84 rfl) (wAt hw 87 rfl) (by decide) (rmPC l Z a0 hw [] i n fm h0 n0 Z0 rF g0 g1) e1 (g := (mkF m 5 #[oI i, oI n] [fm, (.int n), (.int i)])) rfl (by rw [hml]; rfl) [(.int i), (.int n), fm] [] 0 (lenOf pd_8 rfl) rfl rfl (by show 2 * 0 + _ ≤ _; exact Nat.le_of_eq rfl) (hb hby d18_5) (by decide) (by decide) (by decide) (by decide) rfl rfl ?_
  intro T2 X2 e2
  show Done _ p e below s _ _ (T2.setTop (mkF m 8 #[oI i, oI n] [(.int i)]))
  refine Done.step (fun _ => XT.pop X2.here hx rfl (hb hby d18_8) rfl rfl) ?_
  show Done _ p e below s _ _ (T2.setTop (mkF m 9 #[oI i, oI n] []))
  exact Done.retV (leavesF X2 hlk (by decide) (by decide)) X2 hx hret (hb hby d18_9) ⟨rfl, e2, rfl⟩
theorem d8_0 : decode jdk_42_method_152_code 0 = .ok (.getstatic 38, 3) := by decide +kernel
theorem d8_3 : decode jdk_42_method_152_code 3 = .ok (.ifCond .eq 10, 3) := by decide +kernel
theorem d8_6 : decode jdk_42_method_152_code 6 = .ok (.aload_n 0, 1) := by decide +kernel
theorem d8_7 : decode jdk_42_method_152_code 7 = .ok (.getfield 15, 3) := by decide +kernel
theorem d8_10 : decode jdk_42_method_152_code 10 = .ok (.goto 4, 3) := by decide +kernel
theorem d8_14 : decode jdk_42_method_152_code 14 = .ok (.ireturn, 1) := by decide +kernel
set_option maxRecDepth 65536 in
set_option maxHeartbeats 40000000 in
theorem rmCo0 (l : Launch) (Z : State) (a0 : Array Value) (hw : ∀ d ∈ tables_1, d.before a0 Z = true) (ws : List Jvm.Cond) (x1 : Addr) (z : Int32) (fm : Value) (h0 : Heap) (n0 : Nat) (Z0 : n0 ≤ h0.size) (O0 : Old Z n0 h0) (SC : Sta Z Z.heap "java/lang/String" "COMPACT_STRINGS" "Z" (.int z)) (hz : ¬ z = 0) (SF : Sta Z Z.heap "jdk/internal/util/Preconditions" "SIOOBE_FORMATTER" "Ljava/util/function/BiFunction;" fm) (rF : fm.isRef = true) (SA : Sta Z Z.heap "java/lang/StringUTF16" "$assertionsDisabled" "Z" (.int (1 : Int32))) (SH : Sta Z Z.heap "java/lang/StringUTF16" "HI_BYTE_SHIFT" "I" (.int (0 : Int32))) (SL : Sta Z Z.heap "java/lang/StringUTF16" "LO_BYTE_SHIFT" "I" (.int (8 : Int32))) (C1 : Fld Z h0 x1 "java/lang/String" "coder" "B" (.int (0 : Int32))) :
    Ctr FrameEnd l Z (⟨"java/lang/String", "coder", "()B"⟩ : MethodName) jdk_42_method_152_code 1 (some .byte) ws ({ frames := 0, cells := 0, slots := 0, locals := 0 } : Room) #[(.ref x1)] h0 TrueV (PureQ (some (.int (0 : Int32))) h0) := by
  refine Ctr.intro (plainFor_of_name pn_java_lang_String) (Ls := #[.val (.ref x1)]) (fun m => by first | (simp [entryFrame, mkF, argsToLocals, Value.category]; done) | rfl) ?_
  intro p e s m below meth c T0 hx hby hml hown hnm hret hlk hZ hV hsh e0 X0
  have N0 := Fr.nil n0
  show Done _ p e below s _ _ (T0.setTop (mkF m 0 #[oR x1] []))
  obtain ⟨T1, X1, e1, st1⟩ := getS2 X0 hx hZ hown (host := "") (Or.inl (wAt hw 45 rfl)) Via.refl e0 (SC.ext O0.2) (g := (mkF m 0 #[oR x1] [])) rfl (hb hby d8_0)
  refine Done.step st1 ?_
  show Done _ p e below s _ _ (T1.setTop (mkF m 3 #[oR x1] [(.int z)]))
  refine Done.step (fun _ => XS.ifNo X1.here hx rfl (hb hby d8_3) rfl (XT.i0_eq_f hz)) ?_
  show Done _ p e below s _ _ (T1.setTop (mkF m 6 #[oR x1] []))
  refine Done.step (fun _ => XS.aloadN X1.here hx rfl (hb hby d8_6) rfl rfl) ?_
  show Done _ p e below s _ _ (T1.setTop (mkF m 7 #[oR x1] [(.ref x1)]))
  obtain ⟨T2, X2, e2, st2⟩ := getF X1 hx hZ hown (host := "") (Or.inl (wAt hw 30 rfl)) Via.refl e1 C1 (g := (mkF m 7 #[oR x1] [(.ref x1)])) rfl rfl (hb hby d8_7)
  refine Done.step st2 ?_
  show Done _ p e below s _ _ (T2.setTop (mkF m 10 #[oR x1] [(.int (0 : Int32))]))
  refine Done.step (fun _ => XS.goto X2.here hx rfl (pc0 := 10) (pc' := 14) rfl (hb hby d8_10) (by decide) (by decide)) ?_
  show Done _ p e below s _ _ (T2.setTop (mkF m 14 #[oR x1] [(.int (0 : Int32))]))
  exact Done.retN (leavesF X2 hlk (by decide) (by decide)) X2 hx (t := .byte) hret (by simp) (hb hby d8_14) ⟨rfl, e2, rfl⟩
theorem d16_0 : decode jdk_42_method_154_code 0 = .ok (.getstatic 38, 3) := by decide +kernel
theorem d16_3 : decode jdk_42_method_154_code 3 = .ok (.ifCond .eq 14, 3) := by decide +kernel
theorem d16_6 : decode jdk_42_method_154_code 6 = .ok (.aload_n 0, 1) := by decide +kernel
theorem d16_7 : decode jdk_42_method_154_code 7 = .ok (.getfield 15, 3) := by decide +kernel
theorem d16_10 : decode jdk_42_method_154_code 10 = .ok (.ifCond .ne 7, 3) := by decide +kernel
theorem d16_13 : decode jdk_42_method_154_code 13 = .ok (.iconst 1, 1) := by decide +kernel
theorem d16_14 : decode jdk_42_method_154_code 14 = .ok (.goto 4, 3) := by decide +kernel
theorem d16_18 : decode jdk_42_method_154_code 18 = .ok (.ireturn, 1) := by decide +kernel
set_option maxRecDepth 65536 in
set_option maxHeartbeats 40000000 in
theorem rmIL0 (l : Launch) (Z : State) (a0 : Array Value) (hw : ∀ d ∈ tables_1, d.before a0 Z = true) (ws : List Jvm.Cond) (x1 : Addr) (z : Int32) (fm : Value) (h0 : Heap) (n0 : Nat) (Z0 : n0 ≤ h0.size) (O0 : Old Z n0 h0) (SC : Sta Z Z.heap "java/lang/String" "COMPACT_STRINGS" "Z" (.int z)) (hz : ¬ z = 0) (SF : Sta Z Z.heap "jdk/internal/util/Preconditions" "SIOOBE_FORMATTER" "Ljava/util/function/BiFunction;" fm) (rF : fm.isRef = true) (SA : Sta Z Z.heap "java/lang/StringUTF16" "$assertionsDisabled" "Z" (.int (1 : Int32))) (SH : Sta Z Z.heap "java/lang/StringUTF16" "HI_BYTE_SHIFT" "I" (.int (0 : Int32))) (SL : Sta Z Z.heap "java/lang/StringUTF16" "LO_BYTE_SHIFT" "I" (.int (8 : Int32))) (C1 : Fld Z h0 x1 "java/lang/String" "coder" "B" (.int (0 : Int32))) :
    Ctr FrameEnd l Z (⟨"java/lang/String", "isLatin1", "()Z"⟩ : MethodName) jdk_42_method_154_code 1 (some .boolean) ws ({ frames := 0, cells := 0, slots := 0, locals := 0 } : Room) #[(.ref x1)] h0 TrueV (PureQ (some (.int (1 : Int32))) h0) := by
  refine Ctr.intro (plainFor_of_name pn_java_lang_String) (Ls := #[.val (.ref x1)]) (fun m => by first | (simp [entryFrame, mkF, argsToLocals, Value.category]; done) | rfl) ?_
  intro p e s m below meth c T0 hx hby hml hown hnm hret hlk hZ hV hsh e0 X0
  have N0 := Fr.nil n0
  show Done _ p e below s _ _ (T0.setTop (mkF m 0 #[oR x1] []))
  obtain ⟨T1, X1, e1, st1⟩ := getS2 X0 hx hZ hown (host := "") (Or.inl (wAt hw 45 rfl)) Via.refl e0 (SC.ext O0.2) (g := (mkF m 0 #[oR x1] [])) rfl (hb hby d16_0)
  refine Done.step st1 ?_
  show Done _ p e below s _ _ (T1.setTop (mkF m 3 #[oR x1] [(.int z)]))
  refine Done.step (fun _ => XS.ifNo X1.here hx rfl (hb hby d16_3) rfl (XT.i0_eq_f hz)) ?_
  show Done _ p e below s _ _ (T1.setTop (mkF m 6 #[oR x1] []))
  refine Done.step (fun _ => XS.aloadN X1.here hx rfl (hb hby d16_6) rfl rfl) ?_
  show Done _ p e below s _ _ (T1.setTop (mkF m 7 #[oR x1] [(.ref x1)]))
  obtain ⟨T2, X2, e2, st2⟩ := getF X1 hx hZ hown (host := "") (Or.inl (wAt hw 30 rfl)) Via.refl e1 C1 (g := (mkF m 7 #[oR x1] [(.ref x1)])) rfl rfl (hb hby d16_7)
  refine Done.step st2 ?_
  show Done _ p e below s _ _ (T2.setTop (mkF m 10 #[oR x1] [(.int (0 : Int32))]))
  refine Done.step (fun _ => XS.ifNo X2.here hx rfl (hb hby d16_10) rfl (XT.i0_ne_f rfl)) ?_
  show Done _ p e below s _ _ (T2.setTop (mkF m 13 #[oR x1] []))
  refine Done.step (fun _ => XT.iconstV X2.here hx rfl (1 : Int32) (hb hby d16_13) (by decide)) ?_
  show Done _ p e below s _ _ (T2.setTop (mkF m 14 #[oR x1] [(.int (1 : Int32))]))
  refine Done.step (fun _ => XS.goto X2.here hx rfl (pc0 := 14) (pc' := 18) rfl (hb hby d16_14) (by decide) (by decide)) ?_
  show Done _ p e below s _ _ (T2.setTop (mkF m 18 #[oR x1] [(.int (1 : Int32))]))
  exact Done.retN (leavesF X2 hlk (by decide) (by decide)) X2 hx (t := .boolean) hret (by simp) (hb hby d16_18) ⟨rfl, e2, rfl⟩
set_option maxRecDepth 65536 in
set_option maxHeartbeats 40000000 in
theorem rmCo1 (l : Launch) (Z : State) (a0 : Array Value) (hw : ∀ d ∈ tables_1, d.before a0 Z = true) (ws : List Jvm.Cond) (x1 : Addr) (z : Int32) (fm : Value) (h0 : Heap) (n0 : Nat) (Z0 : n0 ≤ h0.size) (O0 : Old Z n0 h0) (SC : Sta Z Z.heap "java/lang/String" "COMPACT_STRINGS" "Z" (.int z)) (hz : ¬ z = 0) (SF : Sta Z Z.heap "jdk/internal/util/Preconditions" "SIOOBE_FORMATTER" "Ljava/util/function/BiFunction;" fm) (rF : fm.isRef = true) (SA : Sta Z Z.heap "java/lang/StringUTF16" "$assertionsDisabled" "Z" (.int (1 : Int32))) (SH : Sta Z Z.heap "java/lang/StringUTF16" "HI_BYTE_SHIFT" "I" (.int (0 : Int32))) (SL : Sta Z Z.heap "java/lang/StringUTF16" "LO_BYTE_SHIFT" "I" (.int (8 : Int32))) (C1 : Fld Z h0 x1 "java/lang/String" "coder" "B" (.int (1 : Int32))) :
    Ctr FrameEnd l Z (⟨"java/lang/String", "coder", "()B"⟩ : MethodName) jdk_42_method_152_code 1 (some .byte) ws ({ frames := 0, cells := 0, slots := 0, locals := 0 } : Room) #[(.ref x1)] h0 TrueV (PureQ (some (.int (1 : Int32))) h0) := by
  refine Ctr.intro (plainFor_of_name pn_java_lang_String) (Ls := #[.val (.ref x1)]) (fun m => by first | (simp [entryFrame, mkF, argsToLocals, Value.category]; done) | rfl) ?_
  intro p e s m below meth c T0 hx hby hml hown hnm hret hlk hZ hV hsh e0 X0
  have N0 := Fr.nil n0
  show Done _ p e below s _ _ (T0.setTop (mkF m 0 #[oR x1] []))
  obtain ⟨T1, X1, e1, st1⟩ := getS2 X0 hx hZ hown (host := "") (Or.inl (wAt hw 45 rfl)) Via.refl e0 (SC.ext O0.2) (g := (mkF m 0 #[oR x1] [])) rfl (hb hby d8_0)
  refine Done.step st1 ?_
  show Done _ p e below s _ _ (T1.setTop (mkF m 3 #[oR x1] [(.int z)]))
  refine Done.step (fun _ => XS.ifNo X1.here hx rfl (hb hby d8_3) rfl (XT.i0_eq_f hz)) ?_
  show Done _ p e below s _ _ (T1.setTop (mkF m 6 #[oR x1] []))
  refine Done.step (fun _ => XS.aloadN X1.here hx rfl (hb hby d8_6) rfl rfl) ?_
  show Done _ p e below s _ _ (T1.setTop (mkF m 7 #[oR x1] [(.ref x1)]))
  obtain ⟨T2, X2, e2, st2⟩ := getF X1 hx hZ hown (host := "") (Or.inl (wAt hw 30 rfl)) Via.refl e1 C1 (g := (mkF m 7 #[oR x1] [(.ref x1)])) rfl rfl (hb hby d8_7)
  refine Done.step st2 ?_
  show Done _ p e below s _ _ (T2.setTop (mkF m 10 #[oR x1] [(.int (1 : Int32))]))
  refine Done.step (fun _ => XS.goto X2.here hx rfl (pc0 := 10) (pc' := 14) rfl (hb hby d8_10) (by decide) (by decide)) ?_
  show Done _ p e below s _ _ (T2.setTop (mkF m 14 #[oR x1] [(.int (1 : Int32))]))
  exact Done.retN (leavesF X2 hlk (by decide) (by decide)) X2 hx (t := .byte) hret (by simp) (hb hby d8_14) ⟨rfl, e2, rfl⟩
theorem d16_17 : decode jdk_42_method_154_code 17 = .ok (.iconst 0, 1) := by decide +kernel
set_option maxRecDepth 65536 in
set_option maxHeartbeats 40000000 in
theorem rmIL1 (l : Launch) (Z : State) (a0 : Array Value) (hw : ∀ d ∈ tables_1, d.before a0 Z = true) (ws : List Jvm.Cond) (x1 : Addr) (z : Int32) (fm : Value) (h0 : Heap) (n0 : Nat) (Z0 : n0 ≤ h0.size) (O0 : Old Z n0 h0) (SC : Sta Z Z.heap "java/lang/String" "COMPACT_STRINGS" "Z" (.int z)) (hz : ¬ z = 0) (SF : Sta Z Z.heap "jdk/internal/util/Preconditions" "SIOOBE_FORMATTER" "Ljava/util/function/BiFunction;" fm) (rF : fm.isRef = true) (SA : Sta Z Z.heap "java/lang/StringUTF16" "$assertionsDisabled" "Z" (.int (1 : Int32))) (SH : Sta Z Z.heap "java/lang/StringUTF16" "HI_BYTE_SHIFT" "I" (.int (0 : Int32))) (SL : Sta Z Z.heap "java/lang/StringUTF16" "LO_BYTE_SHIFT" "I" (.int (8 : Int32))) (C1 : Fld Z h0 x1 "java/lang/String" "coder" "B" (.int (1 : Int32))) :
    Ctr FrameEnd l Z (⟨"java/lang/String", "isLatin1", "()Z"⟩ : MethodName) jdk_42_method_154_code 1 (some .boolean) ws ({ frames := 0, cells := 0, slots := 0, locals := 0 } : Room) #[(.ref x1)] h0 TrueV (PureQ (some (.int (0 : Int32))) h0) := by
  refine Ctr.intro (plainFor_of_name pn_java_lang_String) (Ls := #[.val (.ref x1)]) (fun m => by first | (simp [entryFrame, mkF, argsToLocals, Value.category]; done) | rfl) ?_
  intro p e s m below meth c T0 hx hby hml hown hnm hret hlk hZ hV hsh e0 X0
  have N0 := Fr.nil n0
  show Done _ p e below s _ _ (T0.setTop (mkF m 0 #[oR x1] []))
  obtain ⟨T1, X1, e1, st1⟩ := getS2 X0 hx hZ hown (host := "") (Or.inl (wAt hw 45 rfl)) Via.refl e0 (SC.ext O0.2) (g := (mkF m 0 #[oR x1] [])) rfl (hb hby d16_0)
  refine Done.step st1 ?_
  show Done _ p e below s _ _ (T1.setTop (mkF m 3 #[oR x1] [(.int z)]))
  refine Done.step (fun _ => XS.ifNo X1.here hx rfl (hb hby d16_3) rfl (XT.i0_eq_f hz)) ?_
  show Done _ p e below s _ _ (T1.setTop (mkF m 6 #[oR x1] []))
  refine Done.step (fun _ => XS.aloadN X1.here hx rfl (hb hby d16_6) rfl rfl) ?_
  show Done _ p e below s _ _ (T1.setTop (mkF m 7 #[oR x1] [(.ref x1)]))
  obtain ⟨T2, X2, e2, st2⟩ := getF X1 hx hZ hown (host := "") (Or.inl (wAt hw 30 rfl)) Via.refl e1 C1 (g := (mkF m 7 #[oR x1] [(.ref x1)])) rfl rfl (hb hby d16_7)
  refine Done.step st2 ?_
  show Done _ p e below s _ _ (T2.setTop (mkF m 10 #[oR x1] [(.int (1 : Int32))]))
  refine Done.step (fun _ => XS.ifYes X2.here hx rfl (pc0 := 10) (pc' := 17) rfl (hb hby d16_10) rfl (XT.i0_ne_t (by decide)) (by decide) (by decide)) ?_
  show Done _ p e below s _ _ (T2.setTop (mkF m 17 #[oR x1] []))
  refine Done.step (fun _ => XT.iconstV X2.here hx rfl (0 : Int32) (hb hby d16_17) (by decide)) ?_
  show Done _ p e below s _ _ (T2.setTop (mkF m 18 #[oR x1] [(.int (0 : Int32))]))
  exact Done.retN (leavesF X2 hlk (by decide) (by decide)) X2 hx (t := .boolean) hret (by simp) (hb hby d16_18) ⟨rfl, e2, rfl⟩
theorem d7_0 : decode jdk_42_method_54_code 0 = .ok (.aload_n 0, 1) := by decide +kernel
theorem d7_1 : decode jdk_42_method_54_code 1 = .ok (.getfield 9, 3) := by decide +kernel
theorem d7_4 : decode jdk_42_method_54_code 4 = .ok (.arraylength, 1) := by decide +kernel
theorem d7_5 : decode jdk_42_method_54_code 5 = .ok (.aload_n 0, 1) := by decide +kernel
theorem d7_6 : decode jdk_42_method_54_code 6 = .ok (.invokevirtual 335, 3) := by decide +kernel
theorem pd_9 : parseMethodDescriptor "()B" = some ⟨[], some .byte⟩ := by decide +kernel
theorem d7_9 : decode jdk_42_method_54_code 9 = .ok (.ishr, 1) := by decide +kernel
theorem d7_10 : decode jdk_42_method_54_code 10 = .ok (.ireturn, 1) := by decide +kernel
set_option maxRecDepth 65536 in
set_option maxHeartbeats 40000000 in
theorem rL00 (l : Launch) (Z : State) (a0 : Array Value) (hw : ∀ d ∈ tables_1, d.before a0 Z = true) (ws : List Jvm.Cond) (x1 t1 : Addr) (kb1 : ClassId)  (z : Int32) (fm : Value) (h0 : Heap) (n0 : Nat) (Z0 : n0 ≤ h0.size) (O0 : Old Z n0 h0) (SC : Sta Z Z.heap "java/lang/String" "COMPACT_STRINGS" "Z" (.int z)) (hz : ¬ z = 0) (SF : Sta Z Z.heap "jdk/internal/util/Preconditions" "SIOOBE_FORMATTER" "Ljava/util/function/BiFunction;" fm) (rF : fm.isRef = true) (SA : Sta Z Z.heap "java/lang/StringUTF16" "$assertionsDisabled" "Z" (.int (1 : Int32))) (SH : Sta Z Z.heap "java/lang/StringUTF16" "HI_BYTE_SHIFT" "I" (.int (0 : Int32))) (SL : Sta Z Z.heap "java/lang/StringUTF16" "LO_BYTE_SHIFT" "I" (.int (8 : Int32))) (E1 : Exa Z h0 x1 "java/lang/String") (V1 : Fld Z h0 x1 "java/lang/String" "value" "[B" (.ref t1)) (C1 : Fld Z h0 x1 "java/lang/String" "coder" "B" (.int (0 : Int32))) (K1 : Arv Z h0 t1 kb1 .byte (0 : Int32) [] (.int (0 : Int32))) :
    Ctr FrameEnd l Z (⟨"java/lang/String", "length", "()I"⟩ : MethodName) jdk_42_method_54_code 1 (some .int) ws ({ frames := 1, cells := 0, slots := 0, locals := 13 } : Room) #[(.ref x1)] h0 TrueV (PureQ (some (.int (0 : Int32))) h0) := by
  refine Ctr.intro (plainFor_of_name pn_java_lang_String) (Ls := #[.val (.ref x1)]) (fun m => by first | (simp [entryFrame, mkF, argsToLocals, Value.category]; done) | rfl) ?_
  intro p e s m below meth c T0 hx hby hml hown hnm hret hlk hZ hV hsh e0 X0
  have N0 := Fr.nil n0
  show Done _ p e below s _ _ (T0.setTop (mkF m 0 #[oR x1] []))
  refine Done.step (fun _ => XS.aloadN X0.here hx rfl (hb hby d7_0) rfl rfl) ?_
  show Done _ p e below s _ _ (T0.setTop (mkF m 1 #[oR x1] [(.ref x1)]))
  obtain ⟨T1, X1, e1, st1⟩ := getF X0 hx hZ hown (host := "") (Or.inl (wAt hw 29 rfl)) Via.refl e0 V1 (g := (mkF m 1 #[oR x1] [(.ref x1)])) rfl rfl (hb hby d7_1)
  refine Done.step st1 ?_
  show Done _ p e below s _ _ (T1.setTop (mkF m 4 #[oR x1] [(.ref t1)]))
  obtain ⟨cl2, Ar2, q2, S2, Nn2, H2, G2⟩ := id K1
  refine Done.step (X1.arraylength hx (by first | exact Ar2.1 | (rw [e1]; exact Ar2.1)) (State.isArrayOf_alike hZ.alike Ar2.2.1) (g := (mkF m 4 #[oR x1] [(.ref t1)])) rfl rfl (hb hby d7_4)) ?_
  rw [len_of S2 Nn2]
  show Done _ p e below s _ _ (T1.setTop (mkF m 5 #[oR x1] [(.int (0 : Int32))]))
  refine Done.step (fun _ => XS.aloadN X1.here hx rfl (hb hby d7_5) rfl rfl) ?_
  show Done _ p e below s _ _ (T1.setTop (mkF m 6 #[oR x1] [(.ref x1), (.int (0 : Int32))]))
  refine Done.callVP X1 hx hZ (C := "java/lang/String") hown (wAt hw 40 rfl) (wAt hw 41 rfl) (notFace_of_selects (args := #[]) (mvT hZ (wAt hw 43 rfl))) (wAt hw 43 rfl) (wAt hw 42 rfl) (wAt hw 11 rfl) (wAt hw 44 rfl) (by decide) (rmCo0 l Z a0 hw [] x1 z fm h0 n0 Z0 O0 SC hz SF rF SA SH SL C1) e1 E1 (g := (mkF m 6 #[oR x1] [(.ref x1), (.int (0 : Int32))])) rfl (by rw [hml]; rfl) [] [(.int (0 : Int32))] 1 (lenOf pd_9 rfl) rfl rfl (by show 2 * 0 + _ ≤ _; exact Nat.le_of_eq rfl) (hb hby d7_6) (by decide) (by decide) (by decide) (by decide) rfl rfl ?_
  intro T3 X3 e3
  show Done _ p e below s _ _ (T3.setTop (mkF m 9 #[oR x1] [(.int (0 : Int32)), (.int (0 : Int32))]))
  refine Done.step (fun _ => XT.ishr X3.here hx rfl (hb hby d7_9) rfl) ?_
  show Done _ p e below s _ _ (T3.setTop (mkF m 10 #[oR x1] [(.int (0 : Int32))]))
  exact Done.retI (leavesF X3 hlk (by decide) (by decide)) X3 hx hret (hb hby d7_10) ⟨rfl, e3, rfl⟩
set_option maxRecDepth 65536 in
set_option maxHeartbeats 40000000 in
theorem rL01 (l : Launch) (Z : State) (a0 : Array Value) (hw : ∀ d ∈ tables_1, d.before a0 Z = true) (ws : List Jvm.Cond) (x1 t1 : Addr) (kb1 : ClassId) (c0 : Int32) (z : Int32) (fm : Value) (h0 : Heap) (n0 : Nat) (Z0 : n0 ≤ h0.size) (O0 : Old Z n0 h0) (SC : Sta Z Z.heap "java/lang/String" "COMPACT_STRINGS" "Z" (.int z)) (hz : ¬ z = 0) (SF : Sta Z Z.heap "jdk/internal/util/Preconditions" "SIOOBE_FORMATTER" "Ljava/util/function/BiFunction;" fm) (rF : fm.isRef = true) (SA : Sta Z Z.heap "java/lang/StringUTF16" "$assertionsDisabled" "Z" (.int (1 : Int32))) (SH : Sta Z Z.heap "java/lang/StringUTF16" "HI_BYTE_SHIFT" "I" (.int (0 : Int32))) (SL : Sta Z Z.heap "java/lang/StringUTF16" "LO_BYTE_SHIFT" "I" (.int (8 : Int32))) (E1 : Exa Z h0 x1 "java/lang/String") (V1 : Fld Z h0 x1 "java/lang/String" "value" "[B" (.ref t1)) (C1 : Fld Z h0 x1 "java/lang/String" "coder" "B" (.int (0 : Int32))) (K1 : Arv Z h0 t1 kb1 .byte (1 : Int32) [(.int (own_by c0))] (.int (0 : Int32))) :
    Ctr FrameEnd l Z (⟨"java/lang/String", "length", "()I"⟩ : MethodName) jdk_42_method_54_code 1 (some .int) ws ({ frames := 1, cells := 0, slots := 0, locals := 13 } : Room) #[(.ref x1)] h0 TrueV (PureQ (some (.int (1 : Int32))) h0) := by
  refine Ctr.intro (plainFor_of_name pn_java_lang_String) (Ls := #[.val (.ref x1)]) (fun m => by first | (simp [entryFrame, mkF, argsToLocals, Value.category]; done) | rfl) ?_
  intro p e s m below meth c T0 hx hby hml hown hnm hret hlk hZ hV hsh e0 X0
  have N0 := Fr.nil n0
  show Done _ p e below s _ _ (T0.setTop (mkF m 0 #[oR x1] []))
  refine Done.step (fun _ => XS.aloadN X0.here hx rfl (hb hby d7_0) rfl rfl) ?_
  show Done _ p e below s _ _ (T0.setTop (mkF m 1 #[oR x1] [(.ref x1)]))
  obtain ⟨T1, X1, e1, st1⟩ := getF X0 hx hZ hown (host := "") (Or.inl (wAt hw 29 rfl)) Via.refl e0 V1 (g := (mkF m 1 #[oR x1] [(.ref x1)])) rfl rfl (hb hby d7_1)
  refine Done.step st1 ?_
  show Done _ p e below s _ _ (T1.setTop (mkF m 4 #[oR x1] [(.ref t1)]))
  obtain ⟨cl2, Ar2, q2, S2, Nn2, H2, G2⟩ := id K1
  refine Done.step (X1.arraylength hx (by first | exact Ar2.1 | (rw [e1]; exact Ar2.1)) (State.isArrayOf_alike hZ.alike Ar2.2.1) (g := (mkF m 4 #[oR x1] [(.ref t1)])) rfl rfl (hb hby d7_4)) ?_
  rw [len_of S2 Nn2]
  show Done _ p e below s _ _ (T1.setTop (mkF m 5 #[oR x1] [(.int (1 : Int32))]))
  refine Done.step (fun _ => XS.aloadN X1.here hx rfl (hb hby d7_5) rfl rfl) ?_
  show Done _ p e below s _ _ (T1.setTop (mkF m 6 #[oR x1] [(.ref x1), (.int (1 : Int32))]))
  refine Done.callVP X1 hx hZ (C := "java/lang/String") hown (wAt hw 40 rfl) (wAt hw 41 rfl) (notFace_of_selects (args := #[]) (mvT hZ (wAt hw 43 rfl))) (wAt hw 43 rfl) (wAt hw 42 rfl) (wAt hw 11 rfl) (wAt hw 44 rfl) (by decide) (rmCo0 l Z a0 hw [] x1 z fm h0 n0 Z0 O0 SC hz SF rF SA SH SL C1) e1 E1 (g := (mkF m 6 #[oR x1] [(.ref x1), (.int (1 : Int32))])) rfl (by rw [hml]; rfl) [] [(.int (1 : Int32))] 1 (lenOf pd_9 rfl) rfl rfl (by show 2 * 0 + _ ≤ _; exact Nat.le_of_eq rfl) (hb hby d7_6) (by decide) (by decide) (by decide) (by decide) rfl rfl ?_
  intro T3 X3 e3
  show Done _ p e below s _ _ (T3.setTop (mkF m 9 #[oR x1] [(.int (0 : Int32)), (.int (1 : Int32))]))
  refine Done.step (fun _ => XT.ishr X3.here hx rfl (hb hby d7_9) rfl) ?_
  show Done _ p e below s _ _ (T3.setTop (mkF m 10 #[oR x1] [(.int (1 : Int32))]))
  exact Done.retI (leavesF X3 hlk (by decide) (by decide)) X3 hx hret (hb hby d7_10) ⟨rfl, e3, rfl⟩
theorem pn_java_lang_StringLatin1 : plainName "java/lang/StringLatin1" = true := by first | (simp [plainName, overriddenIn]; done) | decide +kernel
theorem d17_0 : decode jdk_43_method_2_code 0 = .ok (.iload_n 1, 1) := by decide +kernel
theorem d17_1 : decode jdk_43_method_2_code 1 = .ok (.aload_n 0, 1) := by decide +kernel
theorem d17_2 : decode jdk_43_method_2_code 2 = .ok (.arraylength, 1) := by decide +kernel
theorem d17_3 : decode jdk_43_method_2_code 3 = .ok (.invokestatic 9, 3) := by decide +kernel
theorem pd_10 : parseMethodDescriptor "(II)V" = some ⟨[.int, .int], none⟩ := by decide +kernel
theorem d17_6 : decode jdk_43_method_2_code 6 = .ok (.aload_n 0, 1) := by decide +kernel
theorem d17_7 : decode jdk_43_method_2_code 7 = .ok (.iload_n 1, 1) := by decide +kernel
theorem d17_8 : decode jdk_43_method_2_code 8 = .ok (.baload, 1) := by decide +kernel
theorem d17_9 : decode jdk_43_method_2_code 9 = .ok (.sipush 255, 3) := by decide +kernel
theorem d17_12 : decode jdk_43_method_2_code 12 = .ok (.iand, 1) := by decide +kernel
theorem d17_13 : decode jdk_43_method_2_code 13 = .ok (.i2c, 1) := by decide +kernel
theorem d17_14 : decode jdk_43_method_2_code 14 = .ok (.ireturn, 1) := by decide +kernel
set_option maxRecDepth 65536 in
set_option maxHeartbeats 40000000 in
theorem rA010 (l : Launch) (Z : State) (a0 : Array Value) (hw : ∀ d ∈ tables_1, d.before a0 Z = true) (ws : List Jvm.Cond) (t1 : Addr) (kb1 : ClassId) (c0 : Int32) (z : Int32) (fm : Value) (h0 : Heap) (n0 : Nat) (Z0 : n0 ≤ h0.size) (O0 : Old Z n0 h0) (SC : Sta Z Z.heap "java/lang/String" "COMPACT_STRINGS" "Z" (.int z)) (hz : ¬ z = 0) (SF : Sta Z Z.heap "jdk/internal/util/Preconditions" "SIOOBE_FORMATTER" "Ljava/util/function/BiFunction;" fm) (rF : fm.isRef = true) (SA : Sta Z Z.heap "java/lang/StringUTF16" "$assertionsDisabled" "Z" (.int (1 : Int32))) (SH : Sta Z Z.heap "java/lang/StringUTF16" "HI_BYTE_SHIFT" "I" (.int (0 : Int32))) (SL : Sta Z Z.heap "java/lang/StringUTF16" "LO_BYTE_SHIFT" "I" (.int (8 : Int32))) (K1 : Arv Z h0 t1 kb1 .byte (1 : Int32) [(.int (own_by c0))] (.int (0 : Int32))) (hq0 : ¬ c0 < 0 ∧ ¬ (255 : Int32) < c0) :
    Ctr FrameEnd l Z (⟨"java/lang/StringLatin1", "charAt", "([BI)C"⟩ : MethodName) jdk_43_method_2_code 2 (some .char) ws ({ frames := 2, cells := 0, slots := 0, locals := 29 } : Room) #[(.ref t1), (.int (0 : Int32))] h0 TrueV (PureQ (some (.int c0)) h0) := by
  refine Ctr.intro (plainFor_of_name pn_java_lang_StringLatin1) (Ls := #[.val (.ref t1), .val (.int (0 : Int32))]) (fun m => by first | (simp [entryFrame, mkF, argsToLocals, Value.category]; done) | rfl) ?_
  intro p e s m below meth c T0 hx hby hml hown hnm hret hlk hZ hV hsh e0 X0
  have N0 := Fr.nil n0
  show Done _ p e below s _ _ (T0.setTop (mkF m 0 #[oR t1, oI (0 : Int32)] []))
  refine Done.step (fun _ => XS.iloadN X0.here hx rfl (hb hby d17_0) rfl) ?_
  show Done _ p e below s _ _ (T0.setTop (mkF m 1 #[oR t1, oI (0 : Int32)] [(.int (0 : Int32))]))
  refine Done.step (fun _ => XS.aloadN X0.here hx rfl (hb hby d17_1) rfl rfl) ?_
  show Done _ p e below s _ _ (T0.setTop (mkF m 2 #[oR t1, oI (0 : Int32)] [(.ref t1), (.int (0 : Int32))]))
  obtain ⟨cl1, Ar1, q1, S1, Nn1, H1, G1⟩ := id K1
  refine Done.step (X0.arraylength hx (by first | exact Ar1.1 | (rw [e0]; exact Ar1.1)) (State.isArrayOf_alike hZ.alike Ar1.2.1) (g := (mkF m 2 #[oR t1, oI (0 : Int32)] [(.ref t1), (.int (0 : Int32))])) rfl rfl (hb hby d17_2)) ?_
  rw [len_of S1 Nn1]
  show Done _ p e below s _ _ (T0.setTop (mkF m 3 #[oR t1, oI (0 : Int32)] [(.int (1 : Int32)), (.int (0 : Int32))]))
  refine Done.callSP X0 hx hZ hown (wAt hw 80 rfl) (wAt hw 81 rfl) (wAt hw 11 rfl) (wAt hw 82 rfl) (by decide) (rmCI l Z a0 hw [] (0 : Int32) (1 : Int32) z fm h0 n0 Z0 O0 SC hz SF rF SA SH SL (by decide) (by decide)) e0 (g := (mkF m 3 #[oR t1, oI (0 : Int32)] [(.int (1 : Int32)), (.int (0 : Int32))])) rfl (by rw [hml]; rfl) [(.int (0 : Int32)), (.int (1 : Int32))] [] 0 (lenOf pd_10 rfl) rfl rfl (by show 2 * 0 + _ ≤ _; exact Nat.le_of_eq rfl) (hb hby d17_3) (by decide) (by decide) (by decide) (by decide) rfl rfl ?_
  intro T2 X2 e2
  show Done _ p e below s _ _ (T2.setTop (mkF m 6 #[oR t1, oI (0 : Int32)] []))
  refine Done.step (fun _ => XS.aloadN X2.here hx rfl (hb hby d17_6) rfl rfl) ?_
  show Done _ p e below s _ _ (T2.setTop (mkF m 7 #[oR t1, oI (0 : Int32)] [(.ref t1)]))
  refine Done.step (fun _ => XS.iloadN X2.here hx rfl (hb hby d17_7) rfl) ?_
  show Done _ p e below s _ _ (T2.setTop (mkF m 8 #[oR t1, oI (0 : Int32)] [(.int (0 : Int32)), (.ref t1)]))
  obtain ⟨cl3, Ar3, q3, S3, Nn3, H3, G3⟩ := id K1
  have hin3 : ¬ ((0 : Int32) < 0 ∨ cl3.slots.size ≤ ((0 : Int32)).toNatClampNeg) := inb_of S3 ⟨by decide, by decide⟩
  have hat3 := Has.at H3 hin3 (v := (.int (own_by c0))) rfl
  refine Done.step (X2.baloadBytes hx (j := (0 : Int32)) (v := (.int (own_by c0))) (by first | exact Ar3.1 | (rw [e2]; exact Ar3.1)) (State.isArrayOf_alike hZ.alike Ar3.2.1) Ar3.2.2 hin3 hat3 (g := (mkF m 8 #[oR t1, oI (0 : Int32)] [(.int (0 : Int32)), (.ref t1)])) rfl rfl (hb hby d17_8)) ?_
  show Done _ p e below s _ _ (T2.setTop (mkF m 9 #[oR t1, oI (0 : Int32)] [(.int (own_by c0))]))
  refine Done.step (fun _ => XT.sipushV X2.here hx rfl (255 : Int32) (hb hby d17_9) (by decide)) ?_
  show Done _ p e below s _ _ (T2.setTop (mkF m 12 #[oR t1, oI (0 : Int32)] [(.int (255 : Int32)), (.int (own_by c0))]))
  refine Done.step (fun _ => XS.iand X2.here hx rfl (hb hby d17_12) rfl) ?_
  show Done _ p e below s _ _ (T2.setTop (mkF m 13 #[oR t1, oI (0 : Int32)] [(.int ((own_by c0) &&& (255 : Int32)))]))
  refine Done.step (fun _ => XT.i2c X2.here hx rfl (hb hby d17_13) rfl) ?_
  show Done _ p e below s _ _ (T2.setTop (mkF m 14 #[oR t1, oI (0 : Int32)] [(.int (((own_by c0) &&& (255 : Int32)).toUInt32.toUInt16.toUInt32.toInt32))]))
  exact Done.retN (leavesF X2 hlk (by decide) (by decide)) X2 hx (t := .char) hret (by simp) (hb hby d17_14) ⟨by rw [own_narI, own_jb hq0, own_c255 hq0], e2, rfl⟩
theorem d15_0 : decode jdk_42_method_56_code 0 = .ok (.aload_n 0, 1) := by decide +kernel
theorem d15_1 : decode jdk_42_method_56_code 1 = .ok (.invokevirtual 492, 3) := by decide +kernel
theorem pd_11 : parseMethodDescriptor "()Z" = some ⟨[], some .boolean⟩ := by decide +kernel
theorem d15_4 : decode jdk_42_method_56_code 4 = .ok (.ifCond .eq 12, 3) := by decide +kernel
theorem d15_7 : decode jdk_42_method_56_code 7 = .ok (.aload_n 0, 1) := by decide +kernel
theorem d15_8 : decode jdk_42_method_56_code 8 = .ok (.getfield 9, 3) := by decide +kernel
theorem d15_11 : decode jdk_42_method_56_code 11 = .ok (.iload_n 1, 1) := by decide +kernel
theorem d15_12 : decode jdk_42_method_56_code 12 = .ok (.invokestatic 495, 3) := by decide +kernel
theorem d15_15 : decode jdk_42_method_56_code 15 = .ok (.ireturn, 1) := by decide +kernel
set_option maxRecDepth 65536 in
set_option maxHeartbeats 40000000 in
theorem rC010 (l : Launch) (Z : State) (a0 : Array Value) (hw : ∀ d ∈ tables_1, d.before a0 Z = true) (ws : List Jvm.Cond) (x1 t1 : Addr) (kb1 : ClassId) (c0 : Int32) (z : Int32) (fm : Value) (h0 : Heap) (n0 : Nat) (Z0 : n0 ≤ h0.size) (O0 : Old Z n0 h0) (SC : Sta Z Z.heap "java/lang/String" "COMPACT_STRINGS" "Z" (.int z)) (hz : ¬ z = 0) (SF : Sta Z Z.heap "jdk/internal/util/Preconditions" "SIOOBE_FORMATTER" "Ljava/util/function/BiFunction;" fm) (rF : fm.isRef = true) (SA : Sta Z Z.heap "java/lang/StringUTF16" "$assertionsDisabled" "Z" (.int (1 : Int32))) (SH : Sta Z Z.heap "java/lang/StringUTF16" "HI_BYTE_SHIFT" "I" (.int (0 : Int32))) (SL : Sta Z Z.heap "java/lang/StringUTF16" "LO_BYTE_SHIFT" "I" (.int (8 : Int32))) (E1 : Exa Z h0 x1 "java/lang/String") (V1 : Fld Z h0 x1 "java/lang/String" "value" "[B" (.ref t1)) (C1 : Fld Z h0 x1 "java/lang/String" "coder" "B" (.int (0 : Int32))) (K1 : Arv Z h0 t1 kb1 .byte (1 : Int32) [(.int (own_by c0))] (.int (0 : Int32))) (hq0 : ¬ c0 < 0 ∧ ¬ (255 : Int32) < c0) :
    Ctr FrameEnd l Z (⟨"java/lang/String", "charAt", "(I)C"⟩ : MethodName) jdk_42_method_56_code 2 (some .char) ws ({ frames := 4, cells := 0, slots := 0, locals := 60 } : Room) #[(.ref x1), (.int (0 : Int32))] h0 TrueV (PureQ (some (.int c0)) h0) := by
  refine Ctr.intro (plainFor_of_name pn_java_lang_String) (Ls := #[.val (.ref x1), .val (.int (0 : Int32))]) (fun m => by first | (simp [entryFrame, mkF, argsToLocals, Value.category]; done) | rfl) ?_
  intro p e s m below meth c T0 hx hby hml hown hnm hret hlk hZ hV hsh e0 X0
  have N0 := Fr.nil n0
  show Done _ p e below s _ _ (T0.setTop (mkF m 0 #[oR x1, oI (0 : Int32)] []))
  refine Done.step (fun _ => XS.aloadN X0.here hx rfl (hb hby d15_0) rfl rfl) ?_
  show Done _ p e below s _ _ (T0.setTop (mkF m 1 #[oR x1, oI (0 : Int32)] [(.ref x1)]))
  refine Done.callVP X0 hx hZ (C := "java/lang/String") hown (wAt hw 72 rfl) (wAt hw 73 rfl) (notFace_of_selects (args := #[]) (mvT hZ (wAt hw 75 rfl))) (wAt hw 75 rfl) (wAt hw 74 rfl) (wAt hw 11 rfl) (wAt hw 76 rfl) (by decide) (rmIL0 l Z a0 hw [] x1 z fm h0 n0 Z0 O0 SC hz SF rF SA SH SL C1) e0 E1 (g := (mkF m 1 #[oR x1, oI (0 : Int32)] [(.ref x1)])) rfl (by rw [hml]; rfl) [] [] 0 (lenOf pd_11 rfl) rfl rfl (by show 2 * 0 + _ ≤ _; exact Nat.le_of_eq rfl) (hb hby d15_1) (by decide) (by decide) (by decide) (by decide) rfl rfl ?_
  intro T1 X1 e1
  show Done _ p e below s _ _ (T1.setTop (mkF m 4 #[oR x1, oI (0 : Int32)] [(.int (1 : Int32))]))
  refine Done.step (fun _ => XS.ifNo X1.here hx rfl (hb hby d15_4) rfl (XT.i0_eq_f (by decide))) ?_
  show Done _ p e below s _ _ (T1.setTop (mkF m 7 #[oR x1, oI (0 : Int32)] []))
  refine Done.step (fun _ => XS.aloadN X1.here hx rfl (hb hby d15_7) rfl rfl) ?_
  show Done _ p e below s _ _ (T1.setTop (mkF m 8 #[oR x1, oI (0 : Int32)] [(.ref x1)]))
  obtain ⟨T2, X2, e2, st2⟩ := getF X1 hx hZ hown (host := "") (Or.inl (wAt hw 29 rfl)) Via.refl e1 V1 (g := (mkF m 8 #[oR x1, oI (0 : Int32)] [(.ref x1)])) rfl rfl (hb hby d15_8)
  refine Done.step st2 ?_
  show Done _ p e below s _ _ (T2.setTop (mkF m 11 #[oR x1, oI (0 : Int32)] [(.ref t1)]))
  refine Done.step (fun _ => XS.iloadN X2.here hx rfl (hb hby d15_11) rfl) ?_
  show Done _ p e below s _ _ (T2.setTop (mkF m 12 #[oR x1, oI (0 : Int32)] [(.int (0 : Int32)), (.ref t1)]))
  refine Done.callSP X2 hx hZ hown (wAt hw 77 rfl) (wAt hw 78 rfl) (wAt hw 58 rfl) (wAt hw 79 rfl) (by decide) (rA010 l Z a0 hw [] t1 kb1 c0 z fm h0 n0 Z0 O0 SC hz SF rF SA SH SL K1 hq0) e2 (g := (mkF m 12 #[oR x1, oI (0 : Int32)] [(.int (0 : Int32)), (.ref t1)])) rfl (by rw [hml]; rfl) [(.ref t1), (.int (0 : Int32))] [] 0 (lenOf pd_6 rfl) rfl rfl (by show 2 * 0 + _ ≤ _; exact Nat.le_of_eq rfl) (hb hby d15_12) (by decide) (by decide) (by decide) (by decide) rfl rfl ?_
  intro T3 X3 e3
  show Done _ p e below s _ _ (T3.setTop (mkF m 15 #[oR x1, oI (0 : Int32)] [(.int c0)]))
  exact Done.retN (leavesF X3 hlk (by decide) (by decide)) X3 hx (t := .char) hret (by simp) (hb hby d15_15) ⟨by rw [own_nar2 (own_wide hq0)], e3, rfl⟩
set_option maxRecDepth 65536 in
set_option maxHeartbeats 40000000 in
theorem rL11 (l : Launch) (Z : State) (a0 : Array Value) (hw : ∀ d ∈ tables_1, d.before a0 Z = true) (ws : List Jvm.Cond) (x1 t1 : Addr) (kb1 : ClassId) (c0 : Int32) (z : Int32) (fm : Value) (h0 : Heap) (n0 : Nat) (Z0 : n0 ≤ h0.size) (O0 : Old Z n0 h0) (SC : Sta Z Z.heap "java/lang/String" "COMPACT_STRINGS" "Z" (.int z)) (hz : ¬ z = 0) (SF : Sta Z Z.heap "jdk/internal/util/Preconditions" "SIOOBE_FORMATTER" "Ljava/util/function/BiFunction;" fm) (rF : fm.isRef = true) (SA : Sta Z Z.heap "java/lang/StringUTF16" "$assertionsDisabled" "Z" (.int (1 : Int32))) (SH : Sta Z Z.heap "java/lang/StringUTF16" "HI_BYTE_SHIFT" "I" (.int (0 : Int32))) (SL : Sta Z Z.heap "java/lang/StringUTF16" "LO_BYTE_SHIFT" "I" (.int (8 : Int32))) (E1 : Exa Z h0 x1 "java/lang/String") (V1 : Fld Z h0 x1 "java/lang/String" "value" "[B" (.ref t1)) (C1 : Fld Z h0 x1 "java/lang/String" "coder" "B" (.int (1 : Int32))) (K1 : Arv Z h0 t1 kb1 .byte (2 : Int32) [(.int (own_hi c0)), (.int (own_lo c0))] (.int (0 : Int32))) :
    Ctr FrameEnd l Z (⟨"java/lang/String", "length", "()I"⟩ : MethodName) jdk_42_method_54_code 1 (some .int) ws ({ frames := 1, cells := 0, slots := 0, locals := 13 } : Room) #[(.ref x1)] h0 TrueV (PureQ (some (.int (1 : Int32))) h0) := by
  refine Ctr.intro (plainFor_of_name pn_java_lang_String) (Ls := #[.val (.ref x1)]) (fun m => by first | (simp [entryFrame, mkF, argsToLocals, Value.category]; done) | rfl) ?_
  intro p e s m below meth c T0 hx hby hml hown hnm hret hlk hZ hV hsh e0 X0
  have N0 := Fr.nil n0
  show Done _ p e below s _ _ (T0.setTop (mkF m 0 #[oR x1] []))
  refine Done.step (fun _ => XS.aloadN X0.here hx rfl (hb hby d7_0) rfl rfl) ?_
  show Done _ p e below s _ _ (T0.setTop (mkF m 1 #[oR x1] [(.ref x1)]))
  obtain ⟨T1, X1, e1, st1⟩ := getF X0 hx hZ hown (host := "") (Or.inl (wAt hw 29 rfl)) Via.refl e0 V1 (g := (mkF m 1 #[oR x1] [(.ref x1)])) rfl rfl (hb hby d7_1)
  refine Done.step st1 ?_
  show Done _ p e below s _ _ (T1.setTop (mkF m 4 #[oR x1] [(.ref t1)]))
  obtain ⟨cl2, Ar2, q2, S2, Nn2, H2, G2⟩ := id K1
  refine Done.step (X1.arraylength hx (by first | exact Ar2.1 | (rw [e1]; exact Ar2.1)) (State.isArrayOf_alike hZ.alike Ar2.2.1) (g := (mkF m 4 #[oR x1] [(.ref t1)])) rfl rfl (hb hby d7_4)) ?_
  rw [len_of S2 Nn2]
  show Done _ p e below s _ _ (T1.setTop (mkF m 5 #[oR x1] [(.int (2 : Int32))]))
  refine Done.step (fun _ => XS.aloadN X1.here hx rfl (hb hby d7_5) rfl rfl) ?_
  show Done _ p e below s _ _ (T1.setTop (mkF m 6 #[oR x1] [(.ref x1), (.int (2 : Int32))]))
  refine Done.callVP X1 hx hZ (C := "java/lang/String") hown (wAt hw 40 rfl) (wAt hw 41 rfl) (notFace_of_selects (args := #[]) (mvT hZ (wAt hw 43 rfl))) (wAt hw 43 rfl) (wAt hw 42 rfl) (wAt hw 11 rfl) (wAt hw 44 rfl) (by decide) (rmCo1 l Z a0 hw [] x1 z fm h0 n0 Z0 O0 SC hz SF rF SA SH SL C1) e1 E1 (g := (mkF m 6 #[oR x1] [(.ref x1), (.int (2 : Int32))])) rfl (by rw [hml]; rfl) [] [(.int (2 : Int32))] 1 (lenOf pd_9 rfl) rfl rfl (by show 2 * 0 + _ ≤ _; exact Nat.le_of_eq rfl) (hb hby d7_6) (by decide) (by decide) (by decide) (by decide) rfl rfl ?_
  intro T3 X3 e3
  show Done _ p e below s _ _ (T3.setTop (mkF m 9 #[oR x1] [(.int (1 : Int32)), (.int (2 : Int32))]))
  refine Done.step (fun _ => XT.ishr X3.here hx rfl (hb hby d7_9) rfl) ?_
  show Done _ p e below s _ _ (T3.setTop (mkF m 10 #[oR x1] [(.int (1 : Int32))]))
  exact Done.retI (leavesF X3 hlk (by decide) (by decide)) X3 hx hret (hb hby d7_10) ⟨rfl, e3, rfl⟩
theorem d30_0 : decode jdk_52_method_6_code 0 = .ok (.aload_n 0, 1) := by decide +kernel
theorem d30_1 : decode jdk_52_method_6_code 1 = .ok (.arraylength, 1) := by decide +kernel
theorem d30_2 : decode jdk_52_method_6_code 2 = .ok (.iconst 1, 1) := by decide +kernel
theorem d30_3 : decode jdk_52_method_6_code 3 = .ok (.ishr, 1) := by decide +kernel
theorem d30_4 : decode jdk_52_method_6_code 4 = .ok (.ireturn, 1) := by decide +kernel
set_option maxRecDepth 65536 in
set_option maxHeartbeats 40000000 in
theorem rU1 (l : Launch) (Z : State) (a0 : Array Value) (hw : ∀ d ∈ tables_1, d.before a0 Z = true) (ws : List Jvm.Cond) (t1 : Addr) (kb1 : ClassId) (c0 : Int32) (z : Int32) (fm : Value) (h0 : Heap) (n0 : Nat) (Z0 : n0 ≤ h0.size) (O0 : Old Z n0 h0) (SC : Sta Z Z.heap "java/lang/String" "COMPACT_STRINGS" "Z" (.int z)) (hz : ¬ z = 0) (SF : Sta Z Z.heap "jdk/internal/util/Preconditions" "SIOOBE_FORMATTER" "Ljava/util/function/BiFunction;" fm) (rF : fm.isRef = true) (SA : Sta Z Z.heap "java/lang/StringUTF16" "$assertionsDisabled" "Z" (.int (1 : Int32))) (SH : Sta Z Z.heap "java/lang/StringUTF16" "HI_BYTE_SHIFT" "I" (.int (0 : Int32))) (SL : Sta Z Z.heap "java/lang/StringUTF16" "LO_BYTE_SHIFT" "I" (.int (8 : Int32))) (K1 : Arv Z h0 t1 kb1 .byte (2 : Int32) [(.int (own_hi c0)), (.int (own_lo c0))] (.int (0 : Int32))) :
    Ctr FrameEnd l Z (⟨"java/lang/StringUTF16", "length", "([B)I"⟩ : MethodName) jdk_52_method_6_code 1 (some .int) ws ({ frames := 0, cells := 0, slots := 0, locals := 0 } : Room) #[(.ref t1)] h0 TrueV (PureQ (some (.int (1 : Int32))) h0) := by
  refine Ctr.intro (plainFor_of_name pn_java_lang_StringUTF16) (Ls := #[.val (.ref t1)]) (fun m => by first | (simp [entryFrame, mkF, argsToLocals, Value.category]; done) | rfl) ?_
  intro p e s m below meth c T0 hx hby hml hown hnm hret hlk hZ hV hsh e0 X0
  have N0 := Fr.nil n0
  show Done _ p e below s _ _ (T0.setTop (mkF m 0 #[oR t1] []))
  refine Done.step (fun _ => XS.aloadN X0.here hx rfl (hb hby d30_0) rfl rfl) ?_
  show Done _ p e below s _ _ (T0.setTop (mkF m 1 #[oR t1] [(.ref t1)]))
  obtain ⟨cl1, Ar1, q1, S1, Nn1, H1, G1⟩ := id K1
  refine Done.step (X0.arraylength hx (by first | exact Ar1.1 | (rw [e0]; exact Ar1.1)) (State.isArrayOf_alike hZ.alike Ar1.2.1) (g := (mkF m 1 #[oR t1] [(.ref t1)])) rfl rfl (hb hby d30_1)) ?_
  rw [len_of S1 Nn1]
  show Done _ p e below s _ _ (T0.setTop (mkF m 2 #[oR t1] [(.int (2 : Int32))]))
  refine Done.step (fun _ => XT.iconstV X0.here hx rfl (1 : Int32) (hb hby d30_2) (by decide)) ?_
  show Done _ p e below s _ _ (T0.setTop (mkF m 3 #[oR t1] [(.int (1 : Int32)), (.int (2 : Int32))]))
  refine Done.step (fun _ => XT.ishr X0.here hx rfl (hb hby d30_3) rfl) ?_
  show Done _ p e below s _ _ (T0.setTop (mkF m 4 #[oR t1] [(.int (1 : Int32))]))
  exact Done.retI (leavesF X0 hlk (by decide) (by decide)) X0 hx hret (hb hby d30_4) ⟨rfl, e0, rfl⟩
theorem d29_0 : decode jdk_52_method_91_code 0 = .ok (.iload_n 0, 1) := by decide +kernel
theorem d29_1 : decode jdk_52_method_91_code 1 = .ok (.aload_n 1, 1) := by decide +kernel
theorem d29_2 : decode jdk_52_method_91_code 2 = .ok (.invokestatic 48, 3) := by decide +kernel
theorem pd_12 : parseMethodDescriptor "([B)I" = some ⟨[(.array .byte)], some .int⟩ := by decide +kernel
theorem d29_5 : decode jdk_52_method_91_code 5 = .ok (.invokestatic 414, 3) := by decide +kernel
theorem d29_8 : decode jdk_52_method_91_code 8 = .ok (.return_, 1) := by decide +kernel
set_option maxRecDepth 65536 in
set_option maxHeartbeats 40000000 in
theorem rV10 (l : Launch) (Z : State) (a0 : Array Value) (hw : ∀ d ∈ tables_1, d.before a0 Z = true) (ws : List Jvm.Cond) (t1 : Addr) (kb1 : ClassId) (c0 : Int32) (z : Int32) (fm : Value) (h0 : Heap) (n0 : Nat) (Z0 : n0 ≤ h0.size) (O0 : Old Z n0 h0) (SC : Sta Z Z.heap "java/lang/String" "COMPACT_STRINGS" "Z" (.int z)) (hz : ¬ z = 0) (SF : Sta Z Z.heap "jdk/internal/util/Preconditions" "SIOOBE_FORMATTER" "Ljava/util/function/BiFunction;" fm) (rF : fm.isRef = true) (SA : Sta Z Z.heap "java/lang/StringUTF16" "$assertionsDisabled" "Z" (.int (1 : Int32))) (SH : Sta Z Z.heap "java/lang/StringUTF16" "HI_BYTE_SHIFT" "I" (.int (0 : Int32))) (SL : Sta Z Z.heap "java/lang/StringUTF16" "LO_BYTE_SHIFT" "I" (.int (8 : Int32))) (K1 : Arv Z h0 t1 kb1 .byte (2 : Int32) [(.int (own_hi c0)), (.int (own_lo c0))] (.int (0 : Int32))) :
    Ctr FrameEnd l Z (⟨"java/lang/StringUTF16", "checkIndex", "(I[B)V"⟩ : MethodName) jdk_52_method_91_code 2 none ws ({ frames := 2, cells := 0, slots := 0, locals := 29 } : Room) #[(.int (0 : Int32)), (.ref t1)] h0 TrueV (PureQ none h0) := by
  refine Ctr.intro (plainFor_of_name pn_java_lang_StringUTF16) (Ls := #[.val (.int (0 : Int32)), .val (.ref t1)]) (fun m => by first | (simp [entryFrame, mkF, argsToLocals, Value.category]; done) | rfl) ?_
  intro p e s m below meth c T0 hx hby hml hown hnm hret hlk hZ hV hsh e0 X0
  have N0 := Fr.nil n0
  show Done _ p e below s _ _ (T0.setTop (mkF m 0 #[oI (0 : Int32), oR t1] []))
  refine Done.step (fun _ => XS.iloadN X0.here hx rfl (hb hby d29_0) rfl) ?_
  show Done _ p e below s _ _ (T0.setTop (mkF m 1 #[oI (0 : Int32), oR t1] [(.int (0 : Int32))]))
  refine Done.step (fun _ => XS.aloadN X0.here hx rfl (hb hby d29_1) rfl rfl) ?_
  show Done _ p e below s _ _ (T0.setTop (mkF m 2 #[oI (0 : Int32), oR t1] [(.ref t1), (.int (0 : Int32))]))
  refine Done.callSP X0 hx hZ hown (wAt hw 123 rfl) (wAt hw 124 rfl) (wAt hw 90 rfl) (wAt hw 125 rfl) (by decide) (rU1 l Z a0 hw [] t1 kb1 c0 z fm h0 n0 Z0 O0 SC hz SF rF SA SH SL K1) e0 (g := (mkF m 2 #[oI (0 : Int32), oR t1] [(.ref t1), (.int (0 : Int32))])) rfl (by rw [hml]; rfl) [(.ref t1)] [(.int (0 : Int32))] 1 (lenOf pd_12 rfl) rfl rfl (by show 2 * 0 + _ ≤ _; exact Nat.le_of_eq rfl) (hb hby d29_2) (by decide) (by decide) (by decide) (by decide) rfl rfl ?_
  intro T1 X1 e1
  show Done _ p e below s _ _ (T1.setTop (mkF m 5 #[oI (0 : Int32), oR t1] [(.int (1 : Int32)), (.int (0 : Int32))]))
  refine Done.callSP X1 hx hZ hown (wAt hw 126 rfl) (wAt hw 81 rfl) (wAt hw 11 rfl) (wAt hw 82 rfl) (by decide) (rmCI l Z a0 hw [] (0 : Int32) (1 : Int32) z fm h0 n0 Z0 O0 SC hz SF rF SA SH SL (by decide) (by decide)) e1 (g := (mkF m 5 #[oI (0 : Int32), oR t1] [(.int (1 : Int32)), (.int (0 : Int32))])) rfl (by rw [hml]; rfl) [(.int (0 : Int32)), (.int (1 : Int32))] [] 0 (lenOf pd_10 rfl) rfl rfl (by show 2 * 0 + _ ≤ _; exact Nat.le_of_eq rfl) (hb hby d29_5) (by decide) (by decide) (by decide) (by decide) rfl rfl ?_
  intro T2 X2 e2
  show Done _ p e below s _ _ (T2.setTop (mkF m 8 #[oI (0 : Int32), oR t1] []))
  exact Done.retV (leavesF X2 hlk (by decide) (by decide)) X2 hx hret (hb hby d29_8) ⟨rfl, e2, rfl⟩
theorem d28_0 : decode jdk_52_method_83_code 0 = .ok (.iload_n 1, 1) := by decide +kernel
theorem d28_1 : decode jdk_52_method_83_code 1 = .ok (.aload_n 0, 1) := by decide +kernel
theorem d28_2 : decode jdk_52_method_83_code 2 = .ok (.invokestatic 67, 3) := by decide +kernel
theorem pd_13 : parseMethodDescriptor "(I[B)V" = some ⟨[.int, (.array .byte)], none⟩ := by decide +kernel
theorem d28_5 : decode jdk_52_method_83_code 5 = .ok (.aload_n 0, 1) := by decide +kernel
theorem d28_6 : decode jdk_52_method_83_code 6 = .ok (.iload_n 1, 1) := by decide +kernel
theorem d28_7 : decode jdk_52_method_83_code 7 = .ok (.invokestatic 71, 3) := by decide +kernel
theorem d28_10 : decode jdk_52_method_83_code 10 = .ok (.ireturn, 1) := by decide +kernel
set_option maxRecDepth 65536 in
set_option maxHeartbeats 40000000 in
theorem rA110 (l : Launch) (Z : State) (a0 : Array Value) (hw : ∀ d ∈ tables_1, d.before a0 Z = true) (ws : List Jvm.Cond) (t1 : Addr) (kb1 : ClassId) (c0 : Int32) (z : Int32) (fm : Value) (h0 : Heap) (n0 : Nat) (Z0 : n0 ≤ h0.size) (O0 : Old Z n0 h0) (SC : Sta Z Z.heap "java/lang/String" "COMPACT_STRINGS" "Z" (.int z)) (hz : ¬ z = 0) (SF : Sta Z Z.heap "jdk/internal/util/Preconditions" "SIOOBE_FORMATTER" "Ljava/util/function/BiFunction;" fm) (rF : fm.isRef = true) (SA : Sta Z Z.heap "java/lang/StringUTF16" "$assertionsDisabled" "Z" (.int (1 : Int32))) (SH : Sta Z Z.heap "java/lang/StringUTF16" "HI_BYTE_SHIFT" "I" (.int (0 : Int32))) (SL : Sta Z Z.heap "java/lang/StringUTF16" "LO_BYTE_SHIFT" "I" (.int (8 : Int32))) (K1 : Arv Z h0 t1 kb1 .byte (2 : Int32) [(.int (own_hi c0)), (.int (own_lo c0))] (.int (0 : Int32))) (hq0 : ¬ c0 < 0 ∧ ¬ (65535 : Int32) < c0) :
    Ctr FrameEnd l Z (⟨"java/lang/StringUTF16", "charAt", "([BI)C"⟩ : MethodName) jdk_52_method_83_code 2 (some .char) ws ({ frames := 3, cells := 0, slots := 0, locals := 44 } : Room) #[(.ref t1), (.int (0 : Int32))] h0 TrueV (PureQ (some (.int c0)) h0) := by
  refine Ctr.intro (plainFor_of_name pn_java_lang_StringUTF16) (Ls := #[.val (.ref t1), .val (.int (0 : Int32))]) (fun m => by first | (simp [entryFrame, mkF, argsToLocals, Value.category]; done) | rfl) ?_
  intro p e s m below meth c T0 hx hby hml hown hnm hret hlk hZ hV hsh e0 X0
  have N0 := Fr.nil n0
  show Done _ p e below s _ _ (T0.setTop (mkF m 0 #[oR t1, oI (0 : Int32)] []))
  refine Done.step (fun _ => XS.iloadN X0.here hx rfl (hb hby d28_0) rfl) ?_
  show Done _ p e below s _ _ (T0.setTop (mkF m 1 #[oR t1, oI (0 : Int32)] [(.int (0 : Int32))]))
  refine Done.step (fun _ => XS.aloadN X0.here hx rfl (hb hby d28_1) rfl rfl) ?_
  show Done _ p e below s _ _ (T0.setTop (mkF m 2 #[oR t1, oI (0 : Int32)] [(.ref t1), (.int (0 : Int32))]))
  refine Done.callSP X0 hx hZ hown (wAt hw 120 rfl) (wAt hw 121 rfl) (wAt hw 90 rfl) (wAt hw 122 rfl) (by decide) (rV10 l Z a0 hw [] t1 kb1 c0 z fm h0 n0 Z0 O0 SC hz SF rF SA SH SL K1) e0 (g := (mkF m 2 #[oR t1, oI (0 : Int32)] [(.ref t1), (.int (0 : Int32))])) rfl (by rw [hml]; rfl) [(.int (0 : Int32)), (.ref t1)] [] 0 (lenOf pd_13 rfl) rfl rfl (by show 2 * 0 + _ ≤ _; exact Nat.le_of_eq rfl) (hb hby d28_2) (by decide) (by decide) (by decide) (by decide) rfl rfl ?_
  intro T1 X1 e1
  show Done _ p e below s _ _ (T1.setTop (mkF m 5 #[oR t1, oI (0 : Int32)] []))
  refine Done.step (fun _ => XS.aloadN X1.here hx rfl (hb hby d28_5) rfl rfl) ?_
  show Done _ p e below s _ _ (T1.setTop (mkF m 6 #[oR t1, oI (0 : Int32)] [(.ref t1)]))
  refine Done.step (fun _ => XS.iloadN X1.here hx rfl (hb hby d28_6) rfl) ?_
  show Done _ p e below s _ _ (T1.setTop (mkF m 7 #[oR t1, oI (0 : Int32)] [(.int (0 : Int32)), (.ref t1)]))
  refine Done.callSP X1 hx hZ hown (wAt hw 111 rfl) (wAt hw 112 rfl) (wAt hw 90 rfl) (wAt hw 113 rfl) (by decide) (ug_10 l Z a0 hw [] t1 kb1 (own_hi c0) (own_lo c0) h0 n0 Z0 O0 SA SH SL K1) e1 (g := (mkF m 7 #[oR t1, oI (0 : Int32)] [(.int (0 : Int32)), (.ref t1)])) rfl (by rw [hml]; rfl) [(.ref t1), (.int (0 : Int32))] [] 0 (lenOf pd_6 rfl) rfl rfl (by show 2 * 0 + _ ≤ _; exact Nat.le_of_eq rfl) (hb hby d28_7) (by decide) (by decide) (by decide) (by decide) rfl rfl ?_
  intro T2 X2 e2
  show Done _ p e below s _ _ (T2.setTop (mkF m 10 #[oR t1, oI (0 : Int32)] [(.int (own_join (own_hi c0) (own_lo c0)))]))
  exact Done.retN (leavesF X2 hlk (by decide) (by decide)) X2 hx (t := .char) hret (by simp) (hb hby d28_10) ⟨by rw [own_narj, own_jn hq0], e2, rfl⟩
theorem d15_16 : decode jdk_42_method_56_code 16 = .ok (.aload_n 0, 1) := by decide +kernel
theorem d15_17 : decode jdk_42_method_56_code 17 = .ok (.getfield 9, 3) := by decide +kernel
theorem d15_20 : decode jdk_42_method_56_code 20 = .ok (.iload_n 1, 1) := by decide +kernel
theorem d15_21 : decode jdk_42_method_56_code 21 = .ok (.invokestatic 498, 3) := by decide +kernel
theorem d15_24 : decode jdk_42_method_56_code 24 = .ok (.ireturn, 1) := by decide +kernel
set_option maxRecDepth 65536 in
set_option maxHeartbeats 40000000 in
theorem rC110 (l : Launch) (Z : State) (a0 : Array Value) (hw : ∀ d ∈ tables_1, d.before a0 Z = true) (ws : List Jvm.Cond) (x1 t1 : Addr) (kb1 : ClassId) (c0 : Int32) (z : Int32) (fm : Value) (h0 : Heap) (n0 : Nat) (Z0 : n0 ≤ h0.size) (O0 : Old Z n0 h0) (SC : Sta Z Z.heap "java/lang/String" "COMPACT_STRINGS" "Z" (.int z)) (hz : ¬ z = 0) (SF : Sta Z Z.heap "jdk/internal/util/Preconditions" "SIOOBE_FORMATTER" "Ljava/util/function/BiFunction;" fm) (rF : fm.isRef = true) (SA : Sta Z Z.heap "java/lang/StringUTF16" "$assertionsDisabled" "Z" (.int (1 : Int32))) (SH : Sta Z Z.heap "java/lang/StringUTF16" "HI_BYTE_SHIFT" "I" (.int (0 : Int32))) (SL : Sta Z Z.heap "java/lang/StringUTF16" "LO_BYTE_SHIFT" "I" (.int (8 : Int32))) (E1 : Exa Z h0 x1 "java/lang/String") (V1 : Fld Z h0 x1 "java/lang/String" "value" "[B" (.ref t1)) (C1 : Fld Z h0 x1 "java/lang/String" "coder" "B" (.int (1 : Int32))) (K1 : Arv Z h0 t1 kb1 .byte (2 : Int32) [(.int (own_hi c0)), (.int (own_lo c0))] (.int (0 : Int32))) (hq0 : ¬ c0 < 0 ∧ ¬ (65535 : Int32) < c0) :
    Ctr FrameEnd l Z (⟨"java/lang/String", "charAt", "(I)C"⟩ : MethodName) jdk_42_method_56_code 2 (some .char) ws ({ frames := 4, cells := 0, slots := 0, locals := 60 } : Room) #[(.ref x1), (.int (0 : Int32))] h0 TrueV (PureQ (some (.int c0)) h0) := by
  refine Ctr.intro (plainFor_of_name pn_java_lang_String) (Ls := #[.val (.ref x1), .val (.int (0 : Int32))]) (fun m => by first | (simp [entryFrame, mkF, argsToLocals, Value.category]; done) | rfl) ?_
  intro p e s m below meth c T0 hx hby hml hown hnm hret hlk hZ hV hsh e0 X0
  have N0 := Fr.nil n0
  show Done _ p e below s _ _ (T0.setTop (mkF m 0 #[oR x1, oI (0 : Int32)] []))
  refine Done.step (fun _ => XS.aloadN X0.here hx rfl (hb hby d15_0) rfl rfl) ?_
  show Done _ p e below s _ _ (T0.setTop (mkF m 1 #[oR x1, oI (0 : Int32)] [(.ref x1)]))
  refine Done.callVP X0 hx hZ (C := "java/lang/String") hown (wAt hw 72 rfl) (wAt hw 73 rfl) (notFace_of_selects (args := #[]) (mvT hZ (wAt hw 75 rfl))) (wAt hw 75 rfl) (wAt hw 74 rfl) (wAt hw 11 rfl) (wAt hw 76 rfl) (by decide) (rmIL1 l Z a0 hw [] x1 z fm h0 n0 Z0 O0 SC hz SF rF SA SH SL C1) e0 E1 (g := (mkF m 1 #[oR x1, oI (0 : Int32)] [(.ref x1)])) rfl (by rw [hml]; rfl) [] [] 0 (lenOf pd_11 rfl) rfl rfl (by show 2 * 0 + _ ≤ _; exact Nat.le_of_eq rfl) (hb hby d15_1) (by decide) (by decide) (by decide) (by decide) rfl rfl ?_
  intro T1 X1 e1
  show Done _ p e below s _ _ (T1.setTop (mkF m 4 #[oR x1, oI (0 : Int32)] [(.int (0 : Int32))]))
  refine Done.step (fun _ => XS.ifYes X1.here hx rfl (pc0 := 4) (pc' := 16) rfl (hb hby d15_4) rfl (XT.i0_eq_t rfl) (by decide) (by decide)) ?_
  show Done _ p e below s _ _ (T1.setTop (mkF m 16 #[oR x1, oI (0 : Int32)] []))
  refine Done.step (fun _ => XS.aloadN X1.here hx rfl (hb hby d15_16) rfl rfl) ?_
  show Done _ p e below s _ _ (T1.setTop (mkF m 17 #[oR x1, oI (0 : Int32)] [(.ref x1)]))
  obtain ⟨T2, X2, e2, st2⟩ := getF X1 hx hZ hown (host := "") (Or.inl (wAt hw 29 rfl)) Via.refl e1 V1 (g := (mkF m 17 #[oR x1, oI (0 : Int32)] [(.ref x1)])) rfl rfl (hb hby d15_17)
  refine Done.step st2 ?_
  show Done _ p e below s _ _ (T2.setTop (mkF m 20 #[oR x1, oI (0 : Int32)] [(.ref t1)]))
  refine Done.step (fun _ => XS.iloadN X2.here hx rfl (hb hby d15_20) rfl) ?_
  show Done _ p e below s _ _ (T2.setTop (mkF m 21 #[oR x1, oI (0 : Int32)] [(.int (0 : Int32)), (.ref t1)]))
  refine Done.callSP X2 hx hZ hown (wAt hw 117 rfl) (wAt hw 118 rfl) (wAt hw 90 rfl) (wAt hw 119 rfl) (by decide) (rA110 l Z a0 hw [] t1 kb1 c0 z fm h0 n0 Z0 O0 SC hz SF rF SA SH SL K1 hq0) e2 (g := (mkF m 21 #[oR x1, oI (0 : Int32)] [(.int (0 : Int32)), (.ref t1)])) rfl (by rw [hml]; rfl) [(.ref t1), (.int (0 : Int32))] [] 0 (lenOf pd_6 rfl) rfl rfl (by show 2 * 0 + _ ≤ _; exact Nat.le_of_eq rfl) (hb hby d15_21) (by decide) (by decide) (by decide) (by decide) rfl rfl ?_
  intro T3 X3 e3
  show Done _ p e below s _ _ (T3.setTop (mkF m 24 #[oR x1, oI (0 : Int32)] [(.int c0)]))
  exact Done.retN (leavesF X3 hlk (by decide) (by decide)) X3 hx (t := .char) hret (by simp) (hb hby d15_24) ⟨by rw [own_nar2 hq0], e3, rfl⟩
def SD_1 (Z : State) (h0 : Heap) (x1 t1 : Addr) (kb1 : ClassId) (c0 : Int32) : Prop := ((¬ (255 : Int32) < c0) ∧ Fld Z h0 x1 "java/lang/String" "coder" "B" (.int (0 : Int32)) ∧ Arv Z h0 t1 kb1 .byte (1 : Int32) [(.int (own_by c0))] (.int (0 : Int32))) ∨ (¬ (¬ (255 : Int32) < c0) ∧ Fld Z h0 x1 "java/lang/String" "coder" "B" (.int (1 : Int32)) ∧ Arv Z h0 t1 kb1 .byte (2 : Int32) [(.int (own_hi c0)), (.int (own_lo c0))] (.int (0 : Int32)))
theorem rLd1 (l : Launch) (Z : State) (a0 : Array Value) (hw : ∀ d ∈ tables_1, d.before a0 Z = true) (ws : List Jvm.Cond) (x1 t1 : Addr) (kb1 : ClassId) (c0 : Int32) (z : Int32) (fm : Value) (h0 : Heap) (n0 : Nat) (Z0 : n0 ≤ h0.size) (O0 : Old Z n0 h0) (SC : Sta Z Z.heap "java/lang/String" "COMPACT_STRINGS" "Z" (.int z)) (hz : ¬ z = 0) (SF : Sta Z Z.heap "jdk/internal/util/Preconditions" "SIOOBE_FORMATTER" "Ljava/util/function/BiFunction;" fm) (rF : fm.isRef = true) (SA : Sta Z Z.heap "java/lang/StringUTF16" "$assertionsDisabled" "Z" (.int (1 : Int32))) (SH : Sta Z Z.heap "java/lang/StringUTF16" "HI_BYTE_SHIFT" "I" (.int (0 : Int32))) (SL : Sta Z Z.heap "java/lang/StringUTF16" "LO_BYTE_SHIFT" "I" (.int (8 : Int32))) (E1 : Exa Z h0 x1 "java/lang/String") (V1 : Fld Z h0 x1 "java/lang/String" "value" "[B" (.ref t1)) (D1 : SD_1 Z h0 x1 t1 kb1 c0) : Ctr FrameEnd l Z (⟨"java/lang/String", "length", "()I"⟩ : MethodName) jdk_42_method_54_code 1 (some .int) ws ({ frames := 1, cells := 0, slots := 0, locals := 13 } : Room) #[(.ref x1)] h0 TrueV (PureQ (some (.int (1 : Int32))) h0) := by
  rcases D1 with ⟨hsm, C1, K1⟩ | ⟨hsm, C1, K1⟩
  · exact rL01 l Z a0 hw ws x1 t1 kb1 c0 z fm h0 n0 Z0 O0 SC hz SF rF SA SH SL E1 V1 C1 K1
  · exact rL11 l Z a0 hw ws x1 t1 kb1 c0 z fm h0 n0 Z0 O0 SC hz SF rF SA SH SL E1 V1 C1 K1
theorem rCd10 (l : Launch) (Z : State) (a0 : Array Value) (hw : ∀ d ∈ tables_1, d.before a0 Z = true) (ws : List Jvm.Cond) (x1 t1 : Addr) (kb1 : ClassId) (c0 : Int32) (z : Int32) (fm : Value) (h0 : Heap) (n0 : Nat) (Z0 : n0 ≤ h0.size) (O0 : Old Z n0 h0) (SC : Sta Z Z.heap "java/lang/String" "COMPACT_STRINGS" "Z" (.int z)) (hz : ¬ z = 0) (SF : Sta Z Z.heap "jdk/internal/util/Preconditions" "SIOOBE_FORMATTER" "Ljava/util/function/BiFunction;" fm) (rF : fm.isRef = true) (SA : Sta Z Z.heap "java/lang/StringUTF16" "$assertionsDisabled" "Z" (.int (1 : Int32))) (SH : Sta Z Z.heap "java/lang/StringUTF16" "HI_BYTE_SHIFT" "I" (.int (0 : Int32))) (SL : Sta Z Z.heap "java/lang/StringUTF16" "LO_BYTE_SHIFT" "I" (.int (8 : Int32))) (E1 : Exa Z h0 x1 "java/lang/String") (V1 : Fld Z h0 x1 "java/lang/String" "value" "[B" (.ref t1)) (D1 : SD_1 Z h0 x1 t1 kb1 c0) (hb0 : ¬ c0 < 0 ∧ ¬ (65535 : Int32) < c0) : Ctr FrameEnd l Z (⟨"java/lang/String", "charAt", "(I)C"⟩ : MethodName) jdk_42_method_56_code 2 (some .char) ws ({ frames := 4, cells := 0, slots := 0, locals := 60 } : Room) #[(.ref x1), (.int (0 : Int32))] h0 TrueV (PureQ (some (.int c0)) h0) := by
  rcases D1 with ⟨hsm, C1, K1⟩ | ⟨hsm, C1, K1⟩
  · exact rC010 l Z a0 hw ws x1 t1 kb1 c0 z fm h0 n0 Z0 O0 SC hz SF rF SA SH SL E1 V1 C1 K1 ⟨hb0.1, hsm⟩
  · exact rC110 l Z a0 hw ws x1 t1 kb1 c0 z fm h0 n0 Z0 O0 SC hz SF rF SA SH SL E1 V1 C1 K1 hb0
set_option maxRecDepth 65536 in
set_option maxHeartbeats 40000000 in
theorem rL02 (l : Launch) (Z : State) (a0 : Array Value) (hw : ∀ d ∈ tables_1, d.before a0 Z = true) (ws : List Jvm.Cond) (x1 t1 : Addr) (kb1 : ClassId) (c0 c1 : Int32) (z : Int32) (fm : Value) (h0 : Heap) (n0 : Nat) (Z0 : n0 ≤ h0.size) (O0 : Old Z n0 h0) (SC : Sta Z Z.heap "java/lang/String" "COMPACT_STRINGS" "Z" (.int z)) (hz : ¬ z = 0) (SF : Sta Z Z.heap "jdk/internal/util/Preconditions" "SIOOBE_FORMATTER" "Ljava/util/function/BiFunction;" fm) (rF : fm.isRef = true) (SA : Sta Z Z.heap "java/lang/StringUTF16" "$assertionsDisabled" "Z" (.int (1 : Int32))) (SH : Sta Z Z.heap "java/lang/StringUTF16" "HI_BYTE_SHIFT" "I" (.int (0 : Int32))) (SL : Sta Z Z.heap "java/lang/StringUTF16" "LO_BYTE_SHIFT" "I" (.int (8 : Int32))) (E1 : Exa Z h0 x1 "java/lang/String") (V1 : Fld Z h0 x1 "java/lang/String" "value" "[B" (.ref t1)) (C1 : Fld Z h0 x1 "java/lang/String" "coder" "B" (.int (0 : Int32))) (K1 : Arv Z h0 t1 kb1 .byte (2 : Int32) [(.int (own_by c0)), (.int (own_by c1))] (.int (0 : Int32))) :
    Ctr FrameEnd l Z (⟨"java/lang/String", "length", "()I"⟩ : MethodName) jdk_42_method_54_code 1 (some .int) ws ({ frames := 1, cells := 0, slots := 0, locals := 13 } : Room) #[(.ref x1)] h0 TrueV (PureQ (some (.int (2 : Int32))) h0) := by
  refine Ctr.intro (plainFor_of_name pn_java_lang_String) (Ls := #[.val (.ref x1)]) (fun m => by first | (simp [entryFrame, mkF, argsToLocals, Value.category]; done) | rfl) ?_
  intro p e s m below meth c T0 hx hby hml hown hnm hret hlk hZ hV hsh e0 X0
  have N0 := Fr.nil n0
  show Done _ p e below s _ _ (T0.setTop (mkF m 0 #[oR x1] []))
  refine Done.step (fun _ => XS.aloadN X0.here hx rfl (hb hby d7_0) rfl rfl) ?_
  show Done _ p e below s _ _ (T0.setTop (mkF m 1 #[oR x1] [(.ref x1)]))
  obtain ⟨T1, X1, e1, st1⟩ := getF X0 hx hZ hown (host := "") (Or.inl (wAt hw 29 rfl)) Via.refl e0 V1 (g := (mkF m 1 #[oR x1] [(.ref x1)])) rfl rfl (hb hby d7_1)
  refine Done.step st1 ?_
  show Done _ p e below s _ _ (T1.setTop (mkF m 4 #[oR x1] [(.ref t1)]))
  obtain ⟨cl2, Ar2, q2, S2, Nn2, H2, G2⟩ := id K1
  refine Done.step (X1.arraylength hx (by first | exact Ar2.1 | (rw [e1]; exact Ar2.1)) (State.isArrayOf_alike hZ.alike Ar2.2.1) (g := (mkF m 4 #[oR x1] [(.ref t1)])) rfl rfl (hb hby d7_4)) ?_
  rw [len_of S2 Nn2]
  show Done _ p e below s _ _ (T1.setTop (mkF m 5 #[oR x1] [(.int (2 : Int32))]))
  refine Done.step (fun _ => XS.aloadN X1.here hx rfl (hb hby d7_5) rfl rfl) ?_
  show Done _ p e below s _ _ (T1.setTop (mkF m 6 #[oR x1] [(.ref x1), (.int (2 : Int32))]))
  refine Done.callVP X1 hx hZ (C := "java/lang/String") hown (wAt hw 40 rfl) (wAt hw 41 rfl) (notFace_of_selects (args := #[]) (mvT hZ (wAt hw 43 rfl))) (wAt hw 43 rfl) (wAt hw 42 rfl) (wAt hw 11 rfl) (wAt hw 44 rfl) (by decide) (rmCo0 l Z a0 hw [] x1 z fm h0 n0 Z0 O0 SC hz SF rF SA SH SL C1) e1 E1 (g := (mkF m 6 #[oR x1] [(.ref x1), (.int (2 : Int32))])) rfl (by rw [hml]; rfl) [] [(.int (2 : Int32))] 1 (lenOf pd_9 rfl) rfl rfl (by show 2 * 0 + _ ≤ _; exact Nat.le_of_eq rfl) (hb hby d7_6) (by decide) (by decide) (by decide) (by decide) rfl rfl ?_
  intro T3 X3 e3
  show Done _ p e below s _ _ (T3.setTop (mkF m 9 #[oR x1] [(.int (0 : Int32)), (.int (2 : Int32))]))
  refine Done.step (fun _ => XT.ishr X3.here hx rfl (hb hby d7_9) rfl) ?_
  show Done _ p e below s _ _ (T3.setTop (mkF m 10 #[oR x1] [(.int (2 : Int32))]))
  exact Done.retI (leavesF X3 hlk (by decide) (by decide)) X3 hx hret (hb hby d7_10) ⟨rfl, e3, rfl⟩
set_option maxRecDepth 65536 in
set_option maxHeartbeats 40000000 in
theorem rA020 (l : Launch) (Z : State) (a0 : Array Value) (hw : ∀ d ∈ tables_1, d.before a0 Z = true) (ws : List Jvm.Cond) (t1 : Addr) (kb1 : ClassId) (c0 c1 : Int32) (z : Int32) (fm : Value) (h0 : Heap) (n0 : Nat) (Z0 : n0 ≤ h0.size) (O0 : Old Z n0 h0) (SC : Sta Z Z.heap "java/lang/String" "COMPACT_STRINGS" "Z" (.int z)) (hz : ¬ z = 0) (SF : Sta Z Z.heap "jdk/internal/util/Preconditions" "SIOOBE_FORMATTER" "Ljava/util/function/BiFunction;" fm) (rF : fm.isRef = true) (SA : Sta Z Z.heap "java/lang/StringUTF16" "$assertionsDisabled" "Z" (.int (1 : Int32))) (SH : Sta Z Z.heap "java/lang/StringUTF16" "HI_BYTE_SHIFT" "I" (.int (0 : Int32))) (SL : Sta Z Z.heap "java/lang/StringUTF16" "LO_BYTE_SHIFT" "I" (.int (8 : Int32))) (K1 : Arv Z h0 t1 kb1 .byte (2 : Int32) [(.int (own_by c0)), (.int (own_by c1))] (.int (0 : Int32))) (hq0 : ¬ c0 < 0 ∧ ¬ (255 : Int32) < c0) :
    Ctr FrameEnd l Z (⟨"java/lang/StringLatin1", "charAt", "([BI)C"⟩ : MethodName) jdk_43_method_2_code 2 (some .char) ws ({ frames := 2, cells := 0, slots := 0, locals := 29 } : Room) #[(.ref t1), (.int (0 : Int32))] h0 TrueV (PureQ (some (.int c0)) h0) := by
  refine Ctr.intro (plainFor_of_name pn_java_lang_StringLatin1) (Ls := #[.val (.ref t1), .val (.int (0 : Int32))]) (fun m => by first | (simp [entryFrame, mkF, argsToLocals, Value.category]; done) | rfl) ?_
  intro p e s m below meth c T0 hx hby hml hown hnm hret hlk hZ hV hsh e0 X0
  have N0 := Fr.nil n0
  show Done _ p e below s _ _ (T0.setTop (mkF m 0 #[oR t1, oI (0 : Int32)] []))
  refine Done.step (fun _ => XS.iloadN X0.here hx rfl (hb hby d17_0) rfl) ?_
  show Done _ p e below s _ _ (T0.setTop (mkF m 1 #[oR t1, oI (0 : Int32)] [(.int (0 : Int32))]))
  refine Done.step (fun _ => XS.aloadN X0.here hx rfl (hb hby d17_1) rfl rfl) ?_
  show Done _ p e below s _ _ (T0.setTop (mkF m 2 #[oR t1, oI (0 : Int32)] [(.ref t1), (.int (0 : Int32))]))
  obtain ⟨cl1, Ar1, q1, S1, Nn1, H1, G1⟩ := id K1
  refine Done.step (X0.arraylength hx (by first | exact Ar1.1 | (rw [e0]; exact Ar1.1)) (State.isArrayOf_alike hZ.alike Ar1.2.1) (g := (mkF m 2 #[oR t1, oI (0 : Int32)] [(.ref t1), (.int (0 : Int32))])) rfl rfl (hb hby d17_2)) ?_
  rw [len_of S1 Nn1]
  show Done _ p e below s _ _ (T0.setTop (mkF m 3 #[oR t1, oI (0 : Int32)] [(.int (2 : Int32)), (.int (0 : Int32))]))
  refine Done.callSP X0 hx hZ hown (wAt hw 80 rfl) (wAt hw 81 rfl) (wAt hw 11 rfl) (wAt hw 82 rfl) (by decide) (rmCI l Z a0 hw [] (0 : Int32) (2 : Int32) z fm h0 n0 Z0 O0 SC hz SF rF SA SH SL (by decide) (by decide)) e0 (g := (mkF m 3 #[oR t1, oI (0 : Int32)] [(.int (2 : Int32)), (.int (0 : Int32))])) rfl (by rw [hml]; rfl) [(.int (0 : Int32)), (.int (2 : Int32))] [] 0 (lenOf pd_10 rfl) rfl rfl (by show 2 * 0 + _ ≤ _; exact Nat.le_of_eq rfl) (hb hby d17_3) (by decide) (by decide) (by decide) (by decide) rfl rfl ?_
  intro T2 X2 e2
  show Done _ p e below s _ _ (T2.setTop (mkF m 6 #[oR t1, oI (0 : Int32)] []))
  refine Done.step (fun _ => XS.aloadN X2.here hx rfl (hb hby d17_6) rfl rfl) ?_
  show Done _ p e below s _ _ (T2.setTop (mkF m 7 #[oR t1, oI (0 : Int32)] [(.ref t1)]))
  refine Done.step (fun _ => XS.iloadN X2.here hx rfl (hb hby d17_7) rfl) ?_
  show Done _ p e below s _ _ (T2.setTop (mkF m 8 #[oR t1, oI (0 : Int32)] [(.int (0 : Int32)), (.ref t1)]))
  obtain ⟨cl3, Ar3, q3, S3, Nn3, H3, G3⟩ := id K1
  have hin3 : ¬ ((0 : Int32) < 0 ∨ cl3.slots.size ≤ ((0 : Int32)).toNatClampNeg) := inb_of S3 ⟨by decide, by decide⟩
  have hat3 := Has.at H3 hin3 (v := (.int (own_by c0))) rfl
  refine Done.step (X2.baloadBytes hx (j := (0 : Int32)) (v := (.int (own_by c0))) (by first | exact Ar3.1 | (rw [e2]; exact Ar3.1)) (State.isArrayOf_alike hZ.alike Ar3.2.1) Ar3.2.2 hin3 hat3 (g := (mkF m 8 #[oR t1, oI (0 : Int32)] [(.int (0 : Int32)), (.ref t1)])) rfl rfl (hb hby d17_8)) ?_
  show Done _ p e below s _ _ (T2.setTop (mkF m 9 #[oR t1, oI (0 : Int32)] [(.int (own_by c0))]))
  refine Done.step (fun _ => XT.sipushV X2.here hx rfl (255 : Int32) (hb hby d17_9) (by decide)) ?_
  show Done _ p e below s _ _ (T2.setTop (mkF m 12 #[oR t1, oI (0 : Int32)] [(.int (255 : Int32)), (.int (own_by c0))]))
  refine Done.step (fun _ => XS.iand X2.here hx rfl (hb hby d17_12) rfl) ?_
  show Done _ p e below s _ _ (T2.setTop (mkF m 13 #[oR t1, oI (0 : Int32)] [(.int ((own_by c0) &&& (255 : Int32)))]))
  refine Done.step (fun _ => XT.i2c X2.here hx rfl (hb hby d17_13) rfl) ?_
  show Done _ p e below s _ _ (T2.setTop (mkF m 14 #[oR t1, oI (0 : Int32)] [(.int (((own_by c0) &&& (255 : Int32)).toUInt32.toUInt16.toUInt32.toInt32))]))
  exact Done.retN (leavesF X2 hlk (by decide) (by decide)) X2 hx (t := .char) hret (by simp) (hb hby d17_14) ⟨by rw [own_narI, own_jb hq0, own_c255 hq0], e2, rfl⟩
set_option maxRecDepth 65536 in
set_option maxHeartbeats 40000000 in
theorem rC020 (l : Launch) (Z : State) (a0 : Array Value) (hw : ∀ d ∈ tables_1, d.before a0 Z = true) (ws : List Jvm.Cond) (x1 t1 : Addr) (kb1 : ClassId) (c0 c1 : Int32) (z : Int32) (fm : Value) (h0 : Heap) (n0 : Nat) (Z0 : n0 ≤ h0.size) (O0 : Old Z n0 h0) (SC : Sta Z Z.heap "java/lang/String" "COMPACT_STRINGS" "Z" (.int z)) (hz : ¬ z = 0) (SF : Sta Z Z.heap "jdk/internal/util/Preconditions" "SIOOBE_FORMATTER" "Ljava/util/function/BiFunction;" fm) (rF : fm.isRef = true) (SA : Sta Z Z.heap "java/lang/StringUTF16" "$assertionsDisabled" "Z" (.int (1 : Int32))) (SH : Sta Z Z.heap "java/lang/StringUTF16" "HI_BYTE_SHIFT" "I" (.int (0 : Int32))) (SL : Sta Z Z.heap "java/lang/StringUTF16" "LO_BYTE_SHIFT" "I" (.int (8 : Int32))) (E1 : Exa Z h0 x1 "java/lang/String") (V1 : Fld Z h0 x1 "java/lang/String" "value" "[B" (.ref t1)) (C1 : Fld Z h0 x1 "java/lang/String" "coder" "B" (.int (0 : Int32))) (K1 : Arv Z h0 t1 kb1 .byte (2 : Int32) [(.int (own_by c0)), (.int (own_by c1))] (.int (0 : Int32))) (hq0 : ¬ c0 < 0 ∧ ¬ (255 : Int32) < c0) :
    Ctr FrameEnd l Z (⟨"java/lang/String", "charAt", "(I)C"⟩ : MethodName) jdk_42_method_56_code 2 (some .char) ws ({ frames := 4, cells := 0, slots := 0, locals := 60 } : Room) #[(.ref x1), (.int (0 : Int32))] h0 TrueV (PureQ (some (.int c0)) h0) := by
  refine Ctr.intro (plainFor_of_name pn_java_lang_String) (Ls := #[.val (.ref x1), .val (.int (0 : Int32))]) (fun m => by first | (simp [entryFrame, mkF, argsToLocals, Value.category]; done) | rfl) ?_
  intro p e s m below meth c T0 hx hby hml hown hnm hret hlk hZ hV hsh e0 X0
  have N0 := Fr.nil n0
  show Done _ p e below s _ _ (T0.setTop (mkF m 0 #[oR x1, oI (0 : Int32)] []))
  refine Done.step (fun _ => XS.aloadN X0.here hx rfl (hb hby d15_0) rfl rfl) ?_
  show Done _ p e below s _ _ (T0.setTop (mkF m 1 #[oR x1, oI (0 : Int32)] [(.ref x1)]))
  refine Done.callVP X0 hx hZ (C := "java/lang/String") hown (wAt hw 72 rfl) (wAt hw 73 rfl) (notFace_of_selects (args := #[]) (mvT hZ (wAt hw 75 rfl))) (wAt hw 75 rfl) (wAt hw 74 rfl) (wAt hw 11 rfl) (wAt hw 76 rfl) (by decide) (rmIL0 l Z a0 hw [] x1 z fm h0 n0 Z0 O0 SC hz SF rF SA SH SL C1) e0 E1 (g := (mkF m 1 #[oR x1, oI (0 : Int32)] [(.ref x1)])) rfl (by rw [hml]; rfl) [] [] 0 (lenOf pd_11 rfl) rfl rfl (by show 2 * 0 + _ ≤ _; exact Nat.le_of_eq rfl) (hb hby d15_1) (by decide) (by decide) (by decide) (by decide) rfl rfl ?_
  intro T1 X1 e1
  show Done _ p e below s _ _ (T1.setTop (mkF m 4 #[oR x1, oI (0 : Int32)] [(.int (1 : Int32))]))
  refine Done.step (fun _ => XS.ifNo X1.here hx rfl (hb hby d15_4) rfl (XT.i0_eq_f (by decide))) ?_
  show Done _ p e below s _ _ (T1.setTop (mkF m 7 #[oR x1, oI (0 : Int32)] []))
  refine Done.step (fun _ => XS.aloadN X1.here hx rfl (hb hby d15_7) rfl rfl) ?_
  show Done _ p e below s _ _ (T1.setTop (mkF m 8 #[oR x1, oI (0 : Int32)] [(.ref x1)]))
  obtain ⟨T2, X2, e2, st2⟩ := getF X1 hx hZ hown (host := "") (Or.inl (wAt hw 29 rfl)) Via.refl e1 V1 (g := (mkF m 8 #[oR x1, oI (0 : Int32)] [(.ref x1)])) rfl rfl (hb hby d15_8)
  refine Done.step st2 ?_
  show Done _ p e below s _ _ (T2.setTop (mkF m 11 #[oR x1, oI (0 : Int32)] [(.ref t1)]))
  refine Done.step (fun _ => XS.iloadN X2.here hx rfl (hb hby d15_11) rfl) ?_
  show Done _ p e below s _ _ (T2.setTop (mkF m 12 #[oR x1, oI (0 : Int32)] [(.int (0 : Int32)), (.ref t1)]))
  refine Done.callSP X2 hx hZ hown (wAt hw 77 rfl) (wAt hw 78 rfl) (wAt hw 58 rfl) (wAt hw 79 rfl) (by decide) (rA020 l Z a0 hw [] t1 kb1 c0 c1 z fm h0 n0 Z0 O0 SC hz SF rF SA SH SL K1 hq0) e2 (g := (mkF m 12 #[oR x1, oI (0 : Int32)] [(.int (0 : Int32)), (.ref t1)])) rfl (by rw [hml]; rfl) [(.ref t1), (.int (0 : Int32))] [] 0 (lenOf pd_6 rfl) rfl rfl (by show 2 * 0 + _ ≤ _; exact Nat.le_of_eq rfl) (hb hby d15_12) (by decide) (by decide) (by decide) (by decide) rfl rfl ?_
  intro T3 X3 e3
  show Done _ p e below s _ _ (T3.setTop (mkF m 15 #[oR x1, oI (0 : Int32)] [(.int c0)]))
  exact Done.retN (leavesF X3 hlk (by decide) (by decide)) X3 hx (t := .char) hret (by simp) (hb hby d15_15) ⟨by rw [own_nar2 (own_wide hq0)], e3, rfl⟩
set_option maxRecDepth 65536 in
set_option maxHeartbeats 40000000 in
theorem rA021 (l : Launch) (Z : State) (a0 : Array Value) (hw : ∀ d ∈ tables_1, d.before a0 Z = true) (ws : List Jvm.Cond) (t1 : Addr) (kb1 : ClassId) (c0 c1 : Int32) (z : Int32) (fm : Value) (h0 : Heap) (n0 : Nat) (Z0 : n0 ≤ h0.size) (O0 : Old Z n0 h0) (SC : Sta Z Z.heap "java/lang/String" "COMPACT_STRINGS" "Z" (.int z)) (hz : ¬ z = 0) (SF : Sta Z Z.heap "jdk/internal/util/Preconditions" "SIOOBE_FORMATTER" "Ljava/util/function/BiFunction;" fm) (rF : fm.isRef = true) (SA : Sta Z Z.heap "java/lang/StringUTF16" "$assertionsDisabled" "Z" (.int (1 : Int32))) (SH : Sta Z Z.heap "java/lang/StringUTF16" "HI_BYTE_SHIFT" "I" (.int (0 : Int32))) (SL : Sta Z Z.heap "java/lang/StringUTF16" "LO_BYTE_SHIFT" "I" (.int (8 : Int32))) (K1 : Arv Z h0 t1 kb1 .byte (2 : Int32) [(.int (own_by c0)), (.int (own_by c1))] (.int (0 : Int32))) (hq1 : ¬ c1 < 0 ∧ ¬ (255 : Int32) < c1) :
    Ctr FrameEnd l Z (⟨"java/lang/StringLatin1", "charAt", "([BI)C"⟩ : MethodName) jdk_43_method_2_code 2 (some .char) ws ({ frames := 2, cells := 0, slots := 0, locals := 29 } : Room) #[(.ref t1), (.int (1 : Int32))] h0 TrueV (PureQ (some (.int c1)) h0) := by
  refine Ctr.intro (plainFor_of_name pn_java_lang_StringLatin1) (Ls := #[.val (.ref t1), .val (.int (1 : Int32))]) (fun m => by first | (simp [entryFrame, mkF, argsToLocals, Value.category]; done) | rfl) ?_
  intro p e s m below meth c T0 hx hby hml hown hnm hret hlk hZ hV hsh e0 X0
  have N0 := Fr.nil n0
  show Done _ p e below s _ _ (T0.setTop (mkF m 0 #[oR t1, oI (1 : Int32)] []))
  refine Done.step (fun _ => XS.iloadN X0.here hx rfl (hb hby d17_0) rfl) ?_
  show Done _ p e below s _ _ (T0.setTop (mkF m 1 #[oR t1, oI (1 : Int32)] [(.int (1 : Int32))]))
  refine Done.step (fun _ => XS.aloadN X0.here hx rfl (hb hby d17_1) rfl rfl) ?_
  show Done _ p e below s _ _ (T0.setTop (mkF m 2 #[oR t1, oI (1 : Int32)] [(.ref t1), (.int (1 : Int32))]))
  obtain ⟨cl1, Ar1, q1, S1, Nn1, H1, G1⟩ := id K1
  refine Done.step (X0.arraylength hx (by first | exact Ar1.1 | (rw [e0]; exact Ar1.1)) (State.isArrayOf_alike hZ.alike Ar1.2.1) (g := (mkF m 2 #[oR t1, oI (1 : Int32)] [(.ref t1), (.int (1 : Int32))])) rfl rfl (hb hby d17_2)) ?_
  rw [len_of S1 Nn1]
  show Done _ p e below s _ _ (T0.setTop (mkF m 3 #[oR t1, oI (1 : Int32)] [(.int (2 : Int32)), (.int (1 : Int32))]))
  refine Done.callSP X0 hx hZ hown (wAt hw 80 rfl) (wAt hw 81 rfl) (wAt hw 11 rfl) (wAt hw 82 rfl) (by decide) (rmCI l Z a0 hw [] (1 : Int32) (2 : Int32) z fm h0 n0 Z0 O0 SC hz SF rF SA SH SL (by decide) (by decide)) e0 (g := (mkF m 3 #[oR t1, oI (1 : Int32)] [(.int (2 : Int32)), (.int (1 : Int32))])) rfl (by rw [hml]; rfl) [(.int (1 : Int32)), (.int (2 : Int32))] [] 0 (lenOf pd_10 rfl) rfl rfl (by show 2 * 0 + _ ≤ _; exact Nat.le_of_eq rfl) (hb hby d17_3) (by decide) (by decide) (by decide) (by decide) rfl rfl ?_
  intro T2 X2 e2
  show Done _ p e below s _ _ (T2.setTop (mkF m 6 #[oR t1, oI (1 : Int32)] []))
  refine Done.step (fun _ => XS.aloadN X2.here hx rfl (hb hby d17_6) rfl rfl) ?_
  show Done _ p e below s _ _ (T2.setTop (mkF m 7 #[oR t1, oI (1 : Int32)] [(.ref t1)]))
  refine Done.step (fun _ => XS.iloadN X2.here hx rfl (hb hby d17_7) rfl) ?_
  show Done _ p e below s _ _ (T2.setTop (mkF m 8 #[oR t1, oI (1 : Int32)] [(.int (1 : Int32)), (.ref t1)]))
  obtain ⟨cl3, Ar3, q3, S3, Nn3, H3, G3⟩ := id K1
  have hin3 : ¬ ((1 : Int32) < 0 ∨ cl3.slots.size ≤ ((1 : Int32)).toNatClampNeg) := inb_of S3 ⟨by decide, by decide⟩
  have hat3 := Has.at H3 hin3 (v := (.int (own_by c1))) rfl
  refine Done.step (X2.baloadBytes hx (j := (1 : Int32)) (v := (.int (own_by c1))) (by first | exact Ar3.1 | (rw [e2]; exact Ar3.1)) (State.isArrayOf_alike hZ.alike Ar3.2.1) Ar3.2.2 hin3 hat3 (g := (mkF m 8 #[oR t1, oI (1 : Int32)] [(.int (1 : Int32)), (.ref t1)])) rfl rfl (hb hby d17_8)) ?_
  show Done _ p e below s _ _ (T2.setTop (mkF m 9 #[oR t1, oI (1 : Int32)] [(.int (own_by c1))]))
  refine Done.step (fun _ => XT.sipushV X2.here hx rfl (255 : Int32) (hb hby d17_9) (by decide)) ?_
  show Done _ p e below s _ _ (T2.setTop (mkF m 12 #[oR t1, oI (1 : Int32)] [(.int (255 : Int32)), (.int (own_by c1))]))
  refine Done.step (fun _ => XS.iand X2.here hx rfl (hb hby d17_12) rfl) ?_
  show Done _ p e below s _ _ (T2.setTop (mkF m 13 #[oR t1, oI (1 : Int32)] [(.int ((own_by c1) &&& (255 : Int32)))]))
  refine Done.step (fun _ => XT.i2c X2.here hx rfl (hb hby d17_13) rfl) ?_
  show Done _ p e below s _ _ (T2.setTop (mkF m 14 #[oR t1, oI (1 : Int32)] [(.int (((own_by c1) &&& (255 : Int32)).toUInt32.toUInt16.toUInt32.toInt32))]))
  exact Done.retN (leavesF X2 hlk (by decide) (by decide)) X2 hx (t := .char) hret (by simp) (hb hby d17_14) ⟨by rw [own_narI, own_jb hq1, own_c255 hq1], e2, rfl⟩
set_option maxRecDepth 65536 in
set_option maxHeartbeats 40000000 in
theorem rC021 (l : Launch) (Z : State) (a0 : Array Value) (hw : ∀ d ∈ tables_1, d.before a0 Z = true) (ws : List Jvm.Cond) (x1 t1 : Addr) (kb1 : ClassId) (c0 c1 : Int32) (z : Int32) (fm : Value) (h0 : Heap) (n0 : Nat) (Z0 : n0 ≤ h0.size) (O0 : Old Z n0 h0) (SC : Sta Z Z.heap "java/lang/String" "COMPACT_STRINGS" "Z" (.int z)) (hz : ¬ z = 0) (SF : Sta Z Z.heap "jdk/internal/util/Preconditions" "SIOOBE_FORMATTER" "Ljava/util/function/BiFunction;" fm) (rF : fm.isRef = true) (SA : Sta Z Z.heap "java/lang/StringUTF16" "$assertionsDisabled" "Z" (.int (1 : Int32))) (SH : Sta Z Z.heap "java/lang/StringUTF16" "HI_BYTE_SHIFT" "I" (.int (0 : Int32))) (SL : Sta Z Z.heap "java/lang/StringUTF16" "LO_BYTE_SHIFT" "I" (.int (8 : Int32))) (E1 : Exa Z h0 x1 "java/lang/String") (V1 : Fld Z h0 x1 "java/lang/String" "value" "[B" (.ref t1)) (C1 : Fld Z h0 x1 "java/lang/String" "coder" "B" (.int (0 : Int32))) (K1 : Arv Z h0 t1 kb1 .byte (2 : Int32) [(.int (own_by c0)), (.int (own_by c1))] (.int (0 : Int32))) (hq1 : ¬ c1 < 0 ∧ ¬ (255 : Int32) < c1) :
    Ctr FrameEnd l Z (⟨"java/lang/String", "charAt", "(I)C"⟩ : MethodName) jdk_42_method_56_code 2 (some .char) ws ({ frames := 4, cells := 0, slots := 0, locals := 60 } : Room) #[(.ref x1), (.int (1 : Int32))] h0 TrueV (PureQ (some (.int c1)) h0) := by
  refine Ctr.intro (plainFor_of_name pn_java_lang_String) (Ls := #[.val (.ref x1), .val (.int (1 : Int32))]) (fun m => by first | (simp [entryFrame, mkF, argsToLocals, Value.category]; done) | rfl) ?_
  intro p e s m below meth c T0 hx hby hml hown hnm hret hlk hZ hV hsh e0 X0
  have N0 := Fr.nil n0
  show Done _ p e below s _ _ (T0.setTop (mkF m 0 #[oR x1, oI (1 : Int32)] []))
  refine Done.step (fun _ => XS.aloadN X0.here hx rfl (hb hby d15_0) rfl rfl) ?_
  show Done _ p e below s _ _ (T0.setTop (mkF m 1 #[oR x1, oI (1 : Int32)] [(.ref x1)]))
  refine Done.callVP X0 hx hZ (C := "java/lang/String") hown (wAt hw 72 rfl) (wAt hw 73 rfl) (notFace_of_selects (args := #[]) (mvT hZ (wAt hw 75 rfl))) (wAt hw 75 rfl) (wAt hw 74 rfl) (wAt hw 11 rfl) (wAt hw 76 rfl) (by decide) (rmIL0 l Z a0 hw [] x1 z fm h0 n0 Z0 O0 SC hz SF rF SA SH SL C1) e0 E1 (g := (mkF m 1 #[oR x1, oI (1 : Int32)] [(.ref x1)])) rfl (by rw [hml]; rfl) [] [] 0 (lenOf pd_11 rfl) rfl rfl (by show 2 * 0 + _ ≤ _; exact Nat.le_of_eq rfl) (hb hby d15_1) (by decide) (by decide) (by decide) (by decide) rfl rfl ?_
  intro T1 X1 e1
  show Done _ p e below s _ _ (T1.setTop (mkF m 4 #[oR x1, oI (1 : Int32)] [(.int (1 : Int32))]))
  refine Done.step (fun _ => XS.ifNo X1.here hx rfl (hb hby d15_4) rfl (XT.i0_eq_f (by decide))) ?_
  show Done _ p e below s _ _ (T1.setTop (mkF m 7 #[oR x1, oI (1 : Int32)] []))
  refine Done.step (fun _ => XS.aloadN X1.here hx rfl (hb hby d15_7) rfl rfl) ?_
  show Done _ p e below s _ _ (T1.setTop (mkF m 8 #[oR x1, oI (1 : Int32)] [(.ref x1)]))
  obtain ⟨T2, X2, e2, st2⟩ := getF X1 hx hZ hown (host := "") (Or.inl (wAt hw 29 rfl)) Via.refl e1 V1 (g := (mkF m 8 #[oR x1, oI (1 : Int32)] [(.ref x1)])) rfl rfl (hb hby d15_8)
  refine Done.step st2 ?_
  show Done _ p e below s _ _ (T2.setTop (mkF m 11 #[oR x1, oI (1 : Int32)] [(.ref t1)]))
  refine Done.step (fun _ => XS.iloadN X2.here hx rfl (hb hby d15_11) rfl) ?_
  show Done _ p e below s _ _ (T2.setTop (mkF m 12 #[oR x1, oI (1 : Int32)] [(.int (1 : Int32)), (.ref t1)]))
  refine Done.callSP X2 hx hZ hown (wAt hw 77 rfl) (wAt hw 78 rfl) (wAt hw 58 rfl) (wAt hw 79 rfl) (by decide) (rA021 l Z a0 hw [] t1 kb1 c0 c1 z fm h0 n0 Z0 O0 SC hz SF rF SA SH SL K1 hq1) e2 (g := (mkF m 12 #[oR x1, oI (1 : Int32)] [(.int (1 : Int32)), (.ref t1)])) rfl (by rw [hml]; rfl) [(.ref t1), (.int (1 : Int32))] [] 0 (lenOf pd_6 rfl) rfl rfl (by show 2 * 0 + _ ≤ _; exact Nat.le_of_eq rfl) (hb hby d15_12) (by decide) (by decide) (by decide) (by decide) rfl rfl ?_
  intro T3 X3 e3
  show Done _ p e below s _ _ (T3.setTop (mkF m 15 #[oR x1, oI (1 : Int32)] [(.int c1)]))
  exact Done.retN (leavesF X3 hlk (by decide) (by decide)) X3 hx (t := .char) hret (by simp) (hb hby d15_15) ⟨by rw [own_nar2 (own_wide hq1)], e3, rfl⟩
set_option maxRecDepth 65536 in
set_option maxHeartbeats 40000000 in
theorem rL12 (l : Launch) (Z : State) (a0 : Array Value) (hw : ∀ d ∈ tables_1, d.before a0 Z = true) (ws : List Jvm.Cond) (x1 t1 : Addr) (kb1 : ClassId) (c0 c1 : Int32) (z : Int32) (fm : Value) (h0 : Heap) (n0 : Nat) (Z0 : n0 ≤ h0.size) (O0 : Old Z n0 h0) (SC : Sta Z Z.heap "java/lang/String" "COMPACT_STRINGS" "Z" (.int z)) (hz : ¬ z = 0) (SF : Sta Z Z.heap "jdk/internal/util/Preconditions" "SIOOBE_FORMATTER" "Ljava/util/function/BiFunction;" fm) (rF : fm.isRef = true) (SA : Sta Z Z.heap "java/lang/StringUTF16" "$assertionsDisabled" "Z" (.int (1 : Int32))) (SH : Sta Z Z.heap "java/lang/StringUTF16" "HI_BYTE_SHIFT" "I" (.int (0 : Int32))) (SL : Sta Z Z.heap "java/lang/StringUTF16" "LO_BYTE_SHIFT" "I" (.int (8 : Int32))) (E1 : Exa Z h0 x1 "java/lang/String") (V1 : Fld Z h0 x1 "java/lang/String" "value" "[B" (.ref t1)) (C1 : Fld Z h0 x1 "java/lang/String" "coder" "B" (.int (1 : Int32))) (K1 : Arv Z h0 t1 kb1 .byte (4 : Int32) [(.int (own_hi c0)), (.int (own_lo c0)), (.int (own_hi c1)), (.int (own_lo c1))] (.int (0 : Int32))) :
    Ctr FrameEnd l Z (⟨"java/lang/String", "length", "()I"⟩ : MethodName) jdk_42_method_54_code 1 (some .int) ws ({ frames := 1, cells := 0, slots := 0, locals := 13 } : Room) #[(.ref x1)] h0 TrueV (PureQ (some (.int (2 : Int32))) h0) := by
  refine Ctr.intro (plainFor_of_name pn_java_lang_String) (Ls := #[.val (.ref x1)]) (fun m => by first | (simp [entryFrame, mkF, argsToLocals, Value.category]; done) | rfl) ?_
  intro p e s m below meth c T0 hx hby hml hown hnm hret hlk hZ hV hsh e0 X0
  have N0 := Fr.nil n0
  show Done _ p e below s _ _ (T0.setTop (mkF m 0 #[oR x1] []))
  refine Done.step (fun _ => XS.aloadN X0.here hx rfl (hb hby d7_0) rfl rfl) ?_
  show Done _ p e below s _ _ (T0.setTop (mkF m 1 #[oR x1] [(.ref x1)]))
  obtain ⟨T1, X1, e1, st1⟩ := getF X0 hx hZ hown (host := "") (Or.inl (wAt hw 29 rfl)) Via.refl e0 V1 (g := (mkF m 1 #[oR x1] [(.ref x1)])) rfl rfl (hb hby d7_1)
  refine Done.step st1 ?_
  show Done _ p e below s _ _ (T1.setTop (mkF m 4 #[oR x1] [(.ref t1)]))
  obtain ⟨cl2, Ar2, q2, S2, Nn2, H2, G2⟩ := id K1
  refine Done.step (X1.arraylength hx (by first | exact Ar2.1 | (rw [e1]; exact Ar2.1)) (State.isArrayOf_alike hZ.alike Ar2.2.1) (g := (mkF m 4 #[oR x1] [(.ref t1)])) rfl rfl (hb hby d7_4)) ?_
  rw [len_of S2 Nn2]
  show Done _ p e below s _ _ (T1.setTop (mkF m 5 #[oR x1] [(.int (4 : Int32))]))
  refine Done.step (fun _ => XS.aloadN X1.here hx rfl (hb hby d7_5) rfl rfl) ?_
  show Done _ p e below s _ _ (T1.setTop (mkF m 6 #[oR x1] [(.ref x1), (.int (4 : Int32))]))
  refine Done.callVP X1 hx hZ (C := "java/lang/String") hown (wAt hw 40 rfl) (wAt hw 41 rfl) (notFace_of_selects (args := #[]) (mvT hZ (wAt hw 43 rfl))) (wAt hw 43 rfl) (wAt hw 42 rfl) (wAt hw 11 rfl) (wAt hw 44 rfl) (by decide) (rmCo1 l Z a0 hw [] x1 z fm h0 n0 Z0 O0 SC hz SF rF SA SH SL C1) e1 E1 (g := (mkF m 6 #[oR x1] [(.ref x1), (.int (4 : Int32))])) rfl (by rw [hml]; rfl) [] [(.int (4 : Int32))] 1 (lenOf pd_9 rfl) rfl rfl (by show 2 * 0 + _ ≤ _; exact Nat.le_of_eq rfl) (hb hby d7_6) (by decide) (by decide) (by decide) (by decide) rfl rfl ?_
  intro T3 X3 e3
  show Done _ p e below s _ _ (T3.setTop (mkF m 9 #[oR x1] [(.int (1 : Int32)), (.int (4 : Int32))]))
  refine Done.step (fun _ => XT.ishr X3.here hx rfl (hb hby d7_9) rfl) ?_
  show Done _ p e below s _ _ (T3.setTop (mkF m 10 #[oR x1] [(.int (2 : Int32))]))
  exact Done.retI (leavesF X3 hlk (by decide) (by decide)) X3 hx hret (hb hby d7_10) ⟨rfl, e3, rfl⟩
set_option maxRecDepth 65536 in
set_option maxHeartbeats 40000000 in
theorem rU2 (l : Launch) (Z : State) (a0 : Array Value) (hw : ∀ d ∈ tables_1, d.before a0 Z = true) (ws : List Jvm.Cond) (t1 : Addr) (kb1 : ClassId) (c0 c1 : Int32) (z : Int32) (fm : Value) (h0 : Heap) (n0 : Nat) (Z0 : n0 ≤ h0.size) (O0 : Old Z n0 h0) (SC : Sta Z Z.heap "java/lang/String" "COMPACT_STRINGS" "Z" (.int z)) (hz : ¬ z = 0) (SF : Sta Z Z.heap "jdk/internal/util/Preconditions" "SIOOBE_FORMATTER" "Ljava/util/function/BiFunction;" fm) (rF : fm.isRef = true) (SA : Sta Z Z.heap "java/lang/StringUTF16" "$assertionsDisabled" "Z" (.int (1 : Int32))) (SH : Sta Z Z.heap "java/lang/StringUTF16" "HI_BYTE_SHIFT" "I" (.int (0 : Int32))) (SL : Sta Z Z.heap "java/lang/StringUTF16" "LO_BYTE_SHIFT" "I" (.int (8 : Int32))) (K1 : Arv Z h0 t1 kb1 .byte (4 : Int32) [(.int (own_hi c0)), (.int (own_lo c0)), (.int (own_hi c1)), (.int (own_lo c1))] (.int (0 : Int32))) :
    Ctr FrameEnd l Z (⟨"java/lang/StringUTF16", "length", "([B)I"⟩ : MethodName) jdk_52_method_6_code 1 (some .int) ws ({ frames := 0, cells := 0, slots := 0, locals := 0 } : Room) #[(.ref t1)] h0 TrueV (PureQ (some (.int (2 : Int32))) h0) := by
  refine Ctr.intro (plainFor_of_name pn_java_lang_StringUTF16) (Ls := #[.val (.ref t1)]) (fun m => by first | (simp [entryFrame, mkF, argsToLocals, Value.category]; done) | rfl) ?_
  intro p e s m below meth c T0 hx hby hml hown hnm hret hlk hZ hV hsh e0 X0
  have N0 := Fr.nil n0
  show Done _ p e below s _ _ (T0.setTop (mkF m 0 #[oR t1] []))
  refine Done.step (fun _ => XS.aloadN X0.here hx rfl (hb hby d30_0) rfl rfl) ?_
  show Done _ p e below s _ _ (T0.setTop (mkF m 1 #[oR t1] [(.ref t1)]))
  obtain ⟨cl1, Ar1, q1, S1, Nn1, H1, G1⟩ := id K1
  refine Done.step (X0.arraylength hx (by first | exact Ar1.1 | (rw [e0]; exact Ar1.1)) (State.isArrayOf_alike hZ.alike Ar1.2.1) (g := (mkF m 1 #[oR t1] [(.ref t1)])) rfl rfl (hb hby d30_1)) ?_
  rw [len_of S1 Nn1]
  show Done _ p e below s _ _ (T0.setTop (mkF m 2 #[oR t1] [(.int (4 : Int32))]))
  refine Done.step (fun _ => XT.iconstV X0.here hx rfl (1 : Int32) (hb hby d30_2) (by decide)) ?_
  show Done _ p e below s _ _ (T0.setTop (mkF m 3 #[oR t1] [(.int (1 : Int32)), (.int (4 : Int32))]))
  refine Done.step (fun _ => XT.ishr X0.here hx rfl (hb hby d30_3) rfl) ?_
  show Done _ p e below s _ _ (T0.setTop (mkF m 4 #[oR t1] [(.int (2 : Int32))]))
  exact Done.retI (leavesF X0 hlk (by decide) (by decide)) X0 hx hret (hb hby d30_4) ⟨rfl, e0, rfl⟩
set_option maxRecDepth 65536 in
set_option maxHeartbeats 40000000 in
theorem rV20 (l : Launch) (Z : State) (a0 : Array Value) (hw : ∀ d ∈ tables_1, d.before a0 Z = true) (ws : List Jvm.Cond) (t1 : Addr) (kb1 : ClassId) (c0 c1 : Int32) (z : Int32) (fm : Value) (h0 : Heap) (n0 : Nat) (Z0 : n0 ≤ h0.size) (O0 : Old Z n0 h0) (SC : Sta Z Z.heap "java/lang/String" "COMPACT_STRINGS" "Z" (.int z)) (hz : ¬ z = 0) (SF : Sta Z Z.heap "jdk/internal/util/Preconditions" "SIOOBE_FORMATTER" "Ljava/util/function/BiFunction;" fm) (rF : fm.isRef = true) (SA : Sta Z Z.heap "java/lang/StringUTF16" "$assertionsDisabled" "Z" (.int (1 : Int32))) (SH : Sta Z Z.heap "java/lang/StringUTF16" "HI_BYTE_SHIFT" "I" (.int (0 : Int32))) (SL : Sta Z Z.heap "java/lang/StringUTF16" "LO_BYTE_SHIFT" "I" (.int (8 : Int32))) (K1 : Arv Z h0 t1 kb1 .byte (4 : Int32) [(.int (own_hi c0)), (.int (own_lo c0)), (.int (own_hi c1)), (.int (own_lo c1))] (.int (0 : Int32))) :
    Ctr FrameEnd l Z (⟨"java/lang/StringUTF16", "checkIndex", "(I[B)V"⟩ : MethodName) jdk_52_method_91_code 2 none ws ({ frames := 2, cells := 0, slots := 0, locals := 29 } : Room) #[(.int (0 : Int32)), (.ref t1)] h0 TrueV (PureQ none h0) := by
  refine Ctr.intro (plainFor_of_name pn_java_lang_StringUTF16) (Ls := #[.val (.int (0 : Int32)), .val (.ref t1)]) (fun m => by first | (simp [entryFrame, mkF, argsToLocals, Value.category]; done) | rfl) ?_
  intro p e s m below meth c T0 hx hby hml hown hnm hret hlk hZ hV hsh e0 X0
  have N0 := Fr.nil n0
  show Done _ p e below s _ _ (T0.setTop (mkF m 0 #[oI (0 : Int32), oR t1] []))
  refine Done.step (fun _ => XS.iloadN X0.here hx rfl (hb hby d29_0) rfl) ?_
  show Done _ p e below s _ _ (T0.setTop (mkF m 1 #[oI (0 : Int32), oR t1] [(.int (0 : Int32))]))
  refine Done.step (fun _ => XS.aloadN X0.here hx rfl (hb hby d29_1) rfl rfl) ?_
  show Done _ p e below s _ _ (T0.setTop (mkF m 2 #[oI (0 : Int32), oR t1] [(.ref t1), (.int (0 : Int32))]))
  refine Done.callSP X0 hx hZ hown (wAt hw 123 rfl) (wAt hw 124 rfl) (wAt hw 90 rfl) (wAt hw 125 rfl) (by decide) (rU2 l Z a0 hw [] t1 kb1 c0 c1 z fm h0 n0 Z0 O0 SC hz SF rF SA SH SL K1) e0 (g := (mkF m 2 #[oI (0 : Int32), oR t1] [(.ref t1), (.int (0 : Int32))])) rfl (by rw [hml]; rfl) [(.ref t1)] [(.int (0 : Int32))] 1 (lenOf pd_12 rfl) rfl rfl (by show 2 * 0 + _ ≤ _; exact Nat.le_of_eq rfl) (hb hby d29_2) (by decide) (by decide) (by decide) (by decide) rfl rfl ?_
  intro T1 X1 e1
  show Done _ p e below s _ _ (T1.setTop (mkF m 5 #[oI (0 : Int32), oR t1] [(.int (2 : Int32)), (.int (0 : Int32))]))
  refine Done.callSP X1 hx hZ hown (wAt hw 126 rfl) (wAt hw 81 rfl) (wAt hw 11 rfl) (wAt hw 82 rfl) (by decide) (rmCI l Z a0 hw [] (0 : Int32) (2 : Int32) z fm h0 n0 Z0 O0 SC hz SF rF SA SH SL (by decide) (by decide)) e1 (g := (mkF m 5 #[oI (0 : Int32), oR t1] [(.int (2 : Int32)), (.int (0 : Int32))])) rfl (by rw [hml]; rfl) [(.int (0 : Int32)), (.int (2 : Int32))] [] 0 (lenOf pd_10 rfl) rfl rfl (by show 2 * 0 + _ ≤ _; exact Nat.le_of_eq rfl) (hb hby d29_5) (by decide) (by decide) (by decide) (by decide) rfl rfl ?_
  intro T2 X2 e2
  show Done _ p e below s _ _ (T2.setTop (mkF m 8 #[oI (0 : Int32), oR t1] []))
  exact Done.retV (leavesF X2 hlk (by decide) (by decide)) X2 hx hret (hb hby d29_8) ⟨rfl, e2, rfl⟩
set_option maxRecDepth 65536 in
set_option maxHeartbeats 40000000 in
theorem rA120 (l : Launch) (Z : State) (a0 : Array Value) (hw : ∀ d ∈ tables_1, d.before a0 Z = true) (ws : List Jvm.Cond) (t1 : Addr) (kb1 : ClassId) (c0 c1 : Int32) (z : Int32) (fm : Value) (h0 : Heap) (n0 : Nat) (Z0 : n0 ≤ h0.size) (O0 : Old Z n0 h0) (SC : Sta Z Z.heap "java/lang/String" "COMPACT_STRINGS" "Z" (.int z)) (hz : ¬ z = 0) (SF : Sta Z Z.heap "jdk/internal/util/Preconditions" "SIOOBE_FORMATTER" "Ljava/util/function/BiFunction;" fm) (rF : fm.isRef = true) (SA : Sta Z Z.heap "java/lang/StringUTF16" "$assertionsDisabled" "Z" (.int (1 : Int32))) (SH : Sta Z Z.heap "java/lang/StringUTF16" "HI_BYTE_SHIFT" "I" (.int (0 : Int32))) (SL : Sta Z Z.heap "java/lang/StringUTF16" "LO_BYTE_SHIFT" "I" (.int (8 : Int32))) (K1 : Arv Z h0 t1 kb1 .byte (4 : Int32) [(.int (own_hi c0)), (.int (own_lo c0)), (.int (own_hi c1)), (.int (own_lo c1))] (.int (0 : Int32))) (hq0 : ¬ c0 < 0 ∧ ¬ (65535 : Int32) < c0) :
    Ctr FrameEnd l Z (⟨"java/lang/StringUTF16", "charAt", "([BI)C"⟩ : MethodName) jdk_52_method_83_code 2 (some .char) ws ({ frames := 3, cells := 0, slots := 0, locals := 44 } : Room) #[(.ref t1), (.int (0 : Int32))] h0 TrueV (PureQ (some (.int c0)) h0) := by
  refine Ctr.intro (plainFor_of_name pn_java_lang_StringUTF16) (Ls := #[.val (.ref t1), .val (.int (0 : Int32))]) (fun m => by first | (simp [entryFrame, mkF, argsToLocals, Value.category]; done) | rfl) ?_
  intro p e s m below meth c T0 hx hby hml hown hnm hret hlk hZ hV hsh e0 X0
  have N0 := Fr.nil n0
  show Done _ p e below s _ _ (T0.setTop (mkF m 0 #[oR t1, oI (0 : Int32)] []))
  refine Done.step (fun _ => XS.iloadN X0.here hx rfl (hb hby d28_0) rfl) ?_
  show Done _ p e below s _ _ (T0.setTop (mkF m 1 #[oR t1, oI (0 : Int32)] [(.int (0 : Int32))]))
  refine Done.step (fun _ => XS.aloadN X0.here hx rfl (hb hby d28_1) rfl rfl) ?_
  show Done _ p e below s _ _ (T0.setTop (mkF m 2 #[oR t1, oI (0 : Int32)] [(.ref t1), (.int (0 : Int32))]))
  refine Done.callSP X0 hx hZ hown (wAt hw 120 rfl) (wAt hw 121 rfl) (wAt hw 90 rfl) (wAt hw 122 rfl) (by decide) (rV20 l Z a0 hw [] t1 kb1 c0 c1 z fm h0 n0 Z0 O0 SC hz SF rF SA SH SL K1) e0 (g := (mkF m 2 #[oR t1, oI (0 : Int32)] [(.ref t1), (.int (0 : Int32))])) rfl (by rw [hml]; rfl) [(.int (0 : Int32)), (.ref t1)] [] 0 (lenOf pd_13 rfl) rfl rfl (by show 2 * 0 + _ ≤ _; exact Nat.le_of_eq rfl) (hb hby d28_2) (by decide) (by decide) (by decide) (by decide) rfl rfl ?_
  intro T1 X1 e1
  show Done _ p e below s _ _ (T1.setTop (mkF m 5 #[oR t1, oI (0 : Int32)] []))
  refine Done.step (fun _ => XS.aloadN X1.here hx rfl (hb hby d28_5) rfl rfl) ?_
  show Done _ p e below s _ _ (T1.setTop (mkF m 6 #[oR t1, oI (0 : Int32)] [(.ref t1)]))
  refine Done.step (fun _ => XS.iloadN X1.here hx rfl (hb hby d28_6) rfl) ?_
  show Done _ p e below s _ _ (T1.setTop (mkF m 7 #[oR t1, oI (0 : Int32)] [(.int (0 : Int32)), (.ref t1)]))
  refine Done.callSP X1 hx hZ hown (wAt hw 111 rfl) (wAt hw 112 rfl) (wAt hw 90 rfl) (wAt hw 113 rfl) (by decide) (ug_20 l Z a0 hw [] t1 kb1 (own_hi c0) (own_lo c0) (own_hi c1) (own_lo c1) h0 n0 Z0 O0 SA SH SL K1) e1 (g := (mkF m 7 #[oR t1, oI (0 : Int32)] [(.int (0 : Int32)), (.ref t1)])) rfl (by rw [hml]; rfl) [(.ref t1), (.int (0 : Int32))] [] 0 (lenOf pd_6 rfl) rfl rfl (by show 2 * 0 + _ ≤ _; exact Nat.le_of_eq rfl) (hb hby d28_7) (by decide) (by decide) (by decide) (by decide) rfl rfl ?_
  intro T2 X2 e2
  show Done _ p e below s _ _ (T2.setTop (mkF m 10 #[oR t1, oI (0 : Int32)] [(.int (own_join (own_hi c0) (own_lo c0)))]))
  exact Done.retN (leavesF X2 hlk (by decide) (by decide)) X2 hx (t := .char) hret (by simp) (hb hby d28_10) ⟨by rw [own_narj, own_jn hq0], e2, rfl⟩
set_option maxRecDepth 65536 in
set_option maxHeartbeats 40000000 in
theorem rC120 (l : Launch) (Z : State) (a0 : Array Value) (hw : ∀ d ∈ tables_1, d.before a0 Z = true) (ws : List Jvm.Cond) (x1 t1 : Addr) (kb1 : ClassId) (c0 c1 : Int32) (z : Int32) (fm : Value) (h0 : Heap) (n0 : Nat) (Z0 : n0 ≤ h0.size) (O0 : Old Z n0 h0) (SC : Sta Z Z.heap "java/lang/String" "COMPACT_STRINGS" "Z" (.int z)) (hz : ¬ z = 0) (SF : Sta Z Z.heap "jdk/internal/util/Preconditions" "SIOOBE_FORMATTER" "Ljava/util/function/BiFunction;" fm) (rF : fm.isRef = true) (SA : Sta Z Z.heap "java/lang/StringUTF16" "$assertionsDisabled" "Z" (.int (1 : Int32))) (SH : Sta Z Z.heap "java/lang/StringUTF16" "HI_BYTE_SHIFT" "I" (.int (0 : Int32))) (SL : Sta Z Z.heap "java/lang/StringUTF16" "LO_BYTE_SHIFT" "I" (.int (8 : Int32))) (E1 : Exa Z h0 x1 "java/lang/String") (V1 : Fld Z h0 x1 "java/lang/String" "value" "[B" (.ref t1)) (C1 : Fld Z h0 x1 "java/lang/String" "coder" "B" (.int (1 : Int32))) (K1 : Arv Z h0 t1 kb1 .byte (4 : Int32) [(.int (own_hi c0)), (.int (own_lo c0)), (.int (own_hi c1)), (.int (own_lo c1))] (.int (0 : Int32))) (hq0 : ¬ c0 < 0 ∧ ¬ (65535 : Int32) < c0) :
    Ctr FrameEnd l Z (⟨"java/lang/String", "charAt", "(I)C"⟩ : MethodName) jdk_42_method_56_code 2 (some .char) ws ({ frames := 4, cells := 0, slots := 0, locals := 60 } : Room) #[(.ref x1), (.int (0 : Int32))] h0 TrueV (PureQ (some (.int c0)) h0) := by
  refine Ctr.intro (plainFor_of_name pn_java_lang_String) (Ls := #[.val (.ref x1), .val (.int (0 : Int32))]) (fun m => by first | (simp [entryFrame, mkF, argsToLocals, Value.category]; done) | rfl) ?_
  intro p e s m below meth c T0 hx hby hml hown hnm hret hlk hZ hV hsh e0 X0
  have N0 := Fr.nil n0
  show Done _ p e below s _ _ (T0.setTop (mkF m 0 #[oR x1, oI (0 : Int32)] []))
  refine Done.step (fun _ => XS.aloadN X0.here hx rfl (hb hby d15_0) rfl rfl) ?_
  show Done _ p e below s _ _ (T0.setTop (mkF m 1 #[oR x1, oI (0 : Int32)] [(.ref x1)]))
  refine Done.callVP X0 hx hZ (C := "java/lang/String") hown (wAt hw 72 rfl) (wAt hw 73 rfl) (notFace_of_selects (args := #[]) (mvT hZ (wAt hw 75 rfl))) (wAt hw 75 rfl) (wAt hw 74 rfl) (wAt hw 11 rfl) (wAt hw 76 rfl) (by decide) (rmIL1 l Z a0 hw [] x1 z fm h0 n0 Z0 O0 SC hz SF rF SA SH SL C1) e0 E1 (g := (mkF m 1 #[oR x1, oI (0 : Int32)] [(.ref x1)])) rfl (by rw [hml]; rfl) [] [] 0 (lenOf pd_11 rfl) rfl rfl (by show 2 * 0 + _ ≤ _; exact Nat.le_of_eq rfl) (hb hby d15_1) (by decide) (by decide) (by decide) (by decide) rfl rfl ?_
  intro T1 X1 e1
  show Done _ p e below s _ _ (T1.setTop (mkF m 4 #[oR x1, oI (0 : Int32)] [(.int (0 : Int32))]))
  refine Done.step (fun _ => XS.ifYes X1.here hx rfl (pc0 := 4) (pc' := 16) rfl (hb hby d15_4) rfl (XT.i0_eq_t rfl) (by decide) (by decide)) ?_
  show Done _ p e below s _ _ (T1.setTop (mkF m 16 #[oR x1, oI (0 : Int32)] []))
  refine Done.step (fun _ => XS.aloadN X1.here hx rfl (hb hby d15_16) rfl rfl) ?_
  show Done _ p e below s _ _ (T1.setTop (mkF m 17 #[oR x1, oI (0 : Int32)] [(.ref x1)]))
  obtain ⟨T2, X2, e2, st2⟩ := getF X1 hx hZ hown (host := "") (Or.inl (wAt hw 29 rfl)) Via.refl e1 V1 (g := (mkF m 17 #[oR x1, oI (0 : Int32)] [(.ref x1)])) rfl rfl (hb hby d15_17)
  refine Done.step st2 ?_
  show Done _ p e below s _ _ (T2.setTop (mkF m 20 #[oR x1, oI (0 : Int32)] [(.ref t1)]))
  refine Done.step (fun _ => XS.iloadN X2.here hx rfl (hb hby d15_20) rfl) ?_
  show Done _ p e below s _ _ (T2.setTop (mkF m 21 #[oR x1, oI (0 : Int32)] [(.int (0 : Int32)), (.ref t1)]))
  refine Done.callSP X2 hx hZ hown (wAt hw 117 rfl) (wAt hw 118 rfl) (wAt hw 90 rfl) (wAt hw 119 rfl) (by decide) (rA120 l Z a0 hw [] t1 kb1 c0 c1 z fm h0 n0 Z0 O0 SC hz SF rF SA SH SL K1 hq0) e2 (g := (mkF m 21 #[oR x1, oI (0 : Int32)] [(.int (0 : Int32)), (.ref t1)])) rfl (by rw [hml]; rfl) [(.ref t1), (.int (0 : Int32))] [] 0 (lenOf pd_6 rfl) rfl rfl (by show 2 * 0 + _ ≤ _; exact Nat.le_of_eq rfl) (hb hby d15_21) (by decide) (by decide) (by decide) (by decide) rfl rfl ?_
  intro T3 X3 e3
  show Done _ p e below s _ _ (T3.setTop (mkF m 24 #[oR x1, oI (0 : Int32)] [(.int c0)]))
  exact Done.retN (leavesF X3 hlk (by decide) (by decide)) X3 hx (t := .char) hret (by simp) (hb hby d15_24) ⟨by rw [own_nar2 hq0], e3, rfl⟩
set_option maxRecDepth 65536 in
set_option maxHeartbeats 40000000 in
theorem rV21 (l : Launch) (Z : State) (a0 : Array Value) (hw : ∀ d ∈ tables_1, d.before a0 Z = true) (ws : List Jvm.Cond) (t1 : Addr) (kb1 : ClassId) (c0 c1 : Int32) (z : Int32) (fm : Value) (h0 : Heap) (n0 : Nat) (Z0 : n0 ≤ h0.size) (O0 : Old Z n0 h0) (SC : Sta Z Z.heap "java/lang/String" "COMPACT_STRINGS" "Z" (.int z)) (hz : ¬ z = 0) (SF : Sta Z Z.heap "jdk/internal/util/Preconditions" "SIOOBE_FORMATTER" "Ljava/util/function/BiFunction;" fm) (rF : fm.isRef = true) (SA : Sta Z Z.heap "java/lang/StringUTF16" "$assertionsDisabled" "Z" (.int (1 : Int32))) (SH : Sta Z Z.heap "java/lang/StringUTF16" "HI_BYTE_SHIFT" "I" (.int (0 : Int32))) (SL : Sta Z Z.heap "java/lang/StringUTF16" "LO_BYTE_SHIFT" "I" (.int (8 : Int32))) (K1 : Arv Z h0 t1 kb1 .byte (4 : Int32) [(.int (own_hi c0)), (.int (own_lo c0)), (.int (own_hi c1)), (.int (own_lo c1))] (.int (0 : Int32))) :
    Ctr FrameEnd l Z (⟨"java/lang/StringUTF16", "checkIndex", "(I[B)V"⟩ : MethodName) jdk_52_method_91_code 2 none ws ({ frames := 2, cells := 0, slots := 0, locals := 29 } : Room) #[(.int (1 : Int32)), (.ref t1)] h0 TrueV (PureQ none h0) := by
  refine Ctr.intro (plainFor_of_name pn_java_lang_StringUTF16) (Ls := #[.val (.int (1 : Int32)), .val (.ref t1)]) (fun m => by first | (simp [entryFrame, mkF, argsToLocals, Value.category]; done) | rfl) ?_
  intro p e s m below meth c T0 hx hby hml hown hnm hret hlk hZ hV hsh e0 X0
  have N0 := Fr.nil n0
  show Done _ p e below s _ _ (T0.setTop (mkF m 0 #[oI (1 : Int32), oR t1] []))
  refine Done.step (fun _ => XS.iloadN X0.here hx rfl (hb hby d29_0) rfl) ?_
  show Done _ p e below s _ _ (T0.setTop (mkF m 1 #[oI (1 : Int32), oR t1] [(.int (1 : Int32))]))
  refine Done.step (fun _ => XS.aloadN X0.here hx rfl (hb hby d29_1) rfl rfl) ?_
  show Done _ p e below s _ _ (T0.setTop (mkF m 2 #[oI (1 : Int32), oR t1] [(.ref t1), (.int (1 : Int32))]))
  refine Done.callSP X0 hx hZ hown (wAt hw 123 rfl) (wAt hw 124 rfl) (wAt hw 90 rfl) (wAt hw 125 rfl) (by decide) (rU2 l Z a0 hw [] t1 kb1 c0 c1 z fm h0 n0 Z0 O0 SC hz SF rF SA SH SL K1) e0 (g := (mkF m 2 #[oI (1 : Int32), oR t1] [(.ref t1), (.int (1 : Int32))])) rfl (by rw [hml]; rfl) [(.ref t1)] [(.int (1 : Int32))] 1 (lenOf pd_12 rfl) rfl rfl (by show 2 * 0 + _ ≤ _; exact Nat.le_of_eq rfl) (hb hby d29_2) (by decide) (by decide) (by decide) (by decide) rfl rfl ?_
  intro T1 X1 e1
  show Done _ p e below s _ _ (T1.setTop (mkF m 5 #[oI (1 : Int32), oR t1] [(.int (2 : Int32)), (.int (1 : Int32))]))
  refine Done.callSP X1 hx hZ hown (wAt hw 126 rfl) (wAt hw 81 rfl) (wAt hw 11 rfl) (wAt hw 82 rfl) (by decide) (rmCI l Z a0 hw [] (1 : Int32) (2 : Int32) z fm h0 n0 Z0 O0 SC hz SF rF SA SH SL (by decide) (by decide)) e1 (g := (mkF m 5 #[oI (1 : Int32), oR t1] [(.int (2 : Int32)), (.int (1 : Int32))])) rfl (by rw [hml]; rfl) [(.int (1 : Int32)), (.int (2 : Int32))] [] 0 (lenOf pd_10 rfl) rfl rfl (by show 2 * 0 + _ ≤ _; exact Nat.le_of_eq rfl) (hb hby d29_5) (by decide) (by decide) (by decide) (by decide) rfl rfl ?_
  intro T2 X2 e2
  show Done _ p e below s _ _ (T2.setTop (mkF m 8 #[oI (1 : Int32), oR t1] []))
  exact Done.retV (leavesF X2 hlk (by decide) (by decide)) X2 hx hret (hb hby d29_8) ⟨rfl, e2, rfl⟩
set_option maxRecDepth 65536 in
set_option maxHeartbeats 40000000 in
theorem rA121 (l : Launch) (Z : State) (a0 : Array Value) (hw : ∀ d ∈ tables_1, d.before a0 Z = true) (ws : List Jvm.Cond) (t1 : Addr) (kb1 : ClassId) (c0 c1 : Int32) (z : Int32) (fm : Value) (h0 : Heap) (n0 : Nat) (Z0 : n0 ≤ h0.size) (O0 : Old Z n0 h0) (SC : Sta Z Z.heap "java/lang/String" "COMPACT_STRINGS" "Z" (.int z)) (hz : ¬ z = 0) (SF : Sta Z Z.heap "jdk/internal/util/Preconditions" "SIOOBE_FORMATTER" "Ljava/util/function/BiFunction;" fm) (rF : fm.isRef = true) (SA : Sta Z Z.heap "java/lang/StringUTF16" "$assertionsDisabled" "Z" (.int (1 : Int32))) (SH : Sta Z Z.heap "java/lang/StringUTF16" "HI_BYTE_SHIFT" "I" (.int (0 : Int32))) (SL : Sta Z Z.heap "java/lang/StringUTF16" "LO_BYTE_SHIFT" "I" (.int (8 : Int32))) (K1 : Arv Z h0 t1 kb1 .byte (4 : Int32) [(.int (own_hi c0)), (.int (own_lo c0)), (.int (own_hi c1)), (.int (own_lo c1))] (.int (0 : Int32))) (hq1 : ¬ c1 < 0 ∧ ¬ (65535 : Int32) < c1) :
    Ctr FrameEnd l Z (⟨"java/lang/StringUTF16", "charAt", "([BI)C"⟩ : MethodName) jdk_52_method_83_code 2 (some .char) ws ({ frames := 3, cells := 0, slots := 0, locals := 44 } : Room) #[(.ref t1), (.int (1 : Int32))] h0 TrueV (PureQ (some (.int c1)) h0) := by
  refine Ctr.intro (plainFor_of_name pn_java_lang_StringUTF16) (Ls := #[.val (.ref t1), .val (.int (1 : Int32))]) (fun m => by first | (simp [entryFrame, mkF, argsToLocals, Value.category]; done) | rfl) ?_
  intro p e s m below meth c T0 hx hby hml hown hnm hret hlk hZ hV hsh e0 X0
  have N0 := Fr.nil n0
  show Done _ p e below s _ _ (T0.setTop (mkF m 0 #[oR t1, oI (1 : Int32)] []))
  refine Done.step (fun _ => XS.iloadN X0.here hx rfl (hb hby d28_0) rfl) ?_
  show Done _ p e below s _ _ (T0.setTop (mkF m 1 #[oR t1, oI (1 : Int32)] [(.int (1 : Int32))]))
  refine Done.step (fun _ => XS.aloadN X0.here hx rfl (hb hby d28_1) rfl rfl) ?_
  show Done _ p e below s _ _ (T0.setTop (mkF m 2 #[oR t1, oI (1 : Int32)] [(.ref t1), (.int (1 : Int32))]))
  refine Done.callSP X0 hx hZ hown (wAt hw 120 rfl) (wAt hw 121 rfl) (wAt hw 90 rfl) (wAt hw 122 rfl) (by decide) (rV21 l Z a0 hw [] t1 kb1 c0 c1 z fm h0 n0 Z0 O0 SC hz SF rF SA SH SL K1) e0 (g := (mkF m 2 #[oR t1, oI (1 : Int32)] [(.ref t1), (.int (1 : Int32))])) rfl (by rw [hml]; rfl) [(.int (1 : Int32)), (.ref t1)] [] 0 (lenOf pd_13 rfl) rfl rfl (by show 2 * 0 + _ ≤ _; exact Nat.le_of_eq rfl) (hb hby d28_2) (by decide) (by decide) (by decide) (by decide) rfl rfl ?_
  intro T1 X1 e1
  show Done _ p e below s _ _ (T1.setTop (mkF m 5 #[oR t1, oI (1 : Int32)] []))
  refine Done.step (fun _ => XS.aloadN X1.here hx rfl (hb hby d28_5) rfl rfl) ?_
  show Done _ p e below s _ _ (T1.setTop (mkF m 6 #[oR t1, oI (1 : Int32)] [(.ref t1)]))
  refine Done.step (fun _ => XS.iloadN X1.here hx rfl (hb hby d28_6) rfl) ?_
  show Done _ p e below s _ _ (T1.setTop (mkF m 7 #[oR t1, oI (1 : Int32)] [(.int (1 : Int32)), (.ref t1)]))
  refine Done.callSP X1 hx hZ hown (wAt hw 111 rfl) (wAt hw 112 rfl) (wAt hw 90 rfl) (wAt hw 113 rfl) (by decide) (ug_21 l Z a0 hw [] t1 kb1 (own_hi c0) (own_lo c0) (own_hi c1) (own_lo c1) h0 n0 Z0 O0 SA SH SL K1) e1 (g := (mkF m 7 #[oR t1, oI (1 : Int32)] [(.int (1 : Int32)), (.ref t1)])) rfl (by rw [hml]; rfl) [(.ref t1), (.int (1 : Int32))] [] 0 (lenOf pd_6 rfl) rfl rfl (by show 2 * 0 + _ ≤ _; exact Nat.le_of_eq rfl) (hb hby d28_7) (by decide) (by decide) (by decide) (by decide) rfl rfl ?_
  intro T2 X2 e2
  show Done _ p e below s _ _ (T2.setTop (mkF m 10 #[oR t1, oI (1 : Int32)] [(.int (own_join (own_hi c1) (own_lo c1)))]))
  exact Done.retN (leavesF X2 hlk (by decide) (by decide)) X2 hx (t := .char) hret (by simp) (hb hby d28_10) ⟨by rw [own_narj, own_jn hq1], e2, rfl⟩
set_option maxRecDepth 65536 in
set_option maxHeartbeats 40000000 in
theorem rC121 (l : Launch) (Z : State) (a0 : Array Value) (hw : ∀ d ∈ tables_1, d.before a0 Z = true) (ws : List Jvm.Cond) (x1 t1 : Addr) (kb1 : ClassId) (c0 c1 : Int32) (z : Int32) (fm : Value) (h0 : Heap) (n0 : Nat) (Z0 : n0 ≤ h0.size) (O0 : Old Z n0 h0) (SC : Sta Z Z.heap "java/lang/String" "COMPACT_STRINGS" "Z" (.int z)) (hz : ¬ z = 0) (SF : Sta Z Z.heap "jdk/internal/util/Preconditions" "SIOOBE_FORMATTER" "Ljava/util/function/BiFunction;" fm) (rF : fm.isRef = true) (SA : Sta Z Z.heap "java/lang/StringUTF16" "$assertionsDisabled" "Z" (.int (1 : Int32))) (SH : Sta Z Z.heap "java/lang/StringUTF16" "HI_BYTE_SHIFT" "I" (.int (0 : Int32))) (SL : Sta Z Z.heap "java/lang/StringUTF16" "LO_BYTE_SHIFT" "I" (.int (8 : Int32))) (E1 : Exa Z h0 x1 "java/lang/String") (V1 : Fld Z h0 x1 "java/lang/String" "value" "[B" (.ref t1)) (C1 : Fld Z h0 x1 "java/lang/String" "coder" "B" (.int (1 : Int32))) (K1 : Arv Z h0 t1 kb1 .byte (4 : Int32) [(.int (own_hi c0)), (.int (own_lo c0)), (.int (own_hi c1)), (.int (own_lo c1))] (.int (0 : Int32))) (hq1 : ¬ c1 < 0 ∧ ¬ (65535 : Int32) < c1) :
    Ctr FrameEnd l Z (⟨"java/lang/String", "charAt", "(I)C"⟩ : MethodName) jdk_42_method_56_code 2 (some .char) ws ({ frames := 4, cells := 0, slots := 0, locals := 60 } : Room) #[(.ref x1), (.int (1 : Int32))] h0 TrueV (PureQ (some (.int c1)) h0) := by
  refine Ctr.intro (plainFor_of_name pn_java_lang_String) (Ls := #[.val (.ref x1), .val (.int (1 : Int32))]) (fun m => by first | (simp [entryFrame, mkF, argsToLocals, Value.category]; done) | rfl) ?_
  intro p e s m below meth c T0 hx hby hml hown hnm hret hlk hZ hV hsh e0 X0
  have N0 := Fr.nil n0
  show Done _ p e below s _ _ (T0.setTop (mkF m 0 #[oR x1, oI (1 : Int32)] []))
  refine Done.step (fun _ => XS.aloadN X0.here hx rfl (hb hby d15_0) rfl rfl) ?_
  show Done _ p e below s _ _ (T0.setTop (mkF m 1 #[oR x1, oI (1 : Int32)] [(.ref x1)]))
  refine Done.callVP X0 hx hZ (C := "java/lang/String") hown (wAt hw 72 rfl) (wAt hw 73 rfl) (notFace_of_selects (args := #[]) (mvT hZ (wAt hw 75 rfl))) (wAt hw 75 rfl) (wAt hw 74 rfl) (wAt hw 11 rfl) (wAt hw 76 rfl) (by decide) (rmIL1 l Z a0 hw [] x1 z fm h0 n0 Z0 O0 SC hz SF rF SA SH SL C1) e0 E1 (g := (mkF m 1 #[oR x1, oI (1 : Int32)] [(.ref x1)])) rfl (by rw [hml]; rfl) [] [] 0 (lenOf pd_11 rfl) rfl rfl (by show 2 * 0 + _ ≤ _; exact Nat.le_of_eq rfl) (hb hby d15_1) (by decide) (by decide) (by decide) (by decide) rfl rfl ?_
  intro T1 X1 e1
  show Done _ p e below s _ _ (T1.setTop (mkF m 4 #[oR x1, oI (1 : Int32)] [(.int (0 : Int32))]))
  refine Done.step (fun _ => XS.ifYes X1.here hx rfl (pc0 := 4) (pc' := 16) rfl (hb hby d15_4) rfl (XT.i0_eq_t rfl) (by decide) (by decide)) ?_
  show Done _ p e below s _ _ (T1.setTop (mkF m 16 #[oR x1, oI (1 : Int32)] []))
  refine Done.step (fun _ => XS.aloadN X1.here hx rfl (hb hby d15_16) rfl rfl) ?_
  show Done _ p e below s _ _ (T1.setTop (mkF m 17 #[oR x1, oI (1 : Int32)] [(.ref x1)]))
  obtain ⟨T2, X2, e2, st2⟩ := getF X1 hx hZ hown (host := "") (Or.inl (wAt hw 29 rfl)) Via.refl e1 V1 (g := (mkF m 17 #[oR x1, oI (1 : Int32)] [(.ref x1)])) rfl rfl (hb hby d15_17)
  refine Done.step st2 ?_
  show Done _ p e below s _ _ (T2.setTop (mkF m 20 #[oR x1, oI (1 : Int32)] [(.ref t1)]))
  refine Done.step (fun _ => XS.iloadN X2.here hx rfl (hb hby d15_20) rfl) ?_
  show Done _ p e below s _ _ (T2.setTop (mkF m 21 #[oR x1, oI (1 : Int32)] [(.int (1 : Int32)), (.ref t1)]))
  refine Done.callSP X2 hx hZ hown (wAt hw 117 rfl) (wAt hw 118 rfl) (wAt hw 90 rfl) (wAt hw 119 rfl) (by decide) (rA121 l Z a0 hw [] t1 kb1 c0 c1 z fm h0 n0 Z0 O0 SC hz SF rF SA SH SL K1 hq1) e2 (g := (mkF m 21 #[oR x1, oI (1 : Int32)] [(.int (1 : Int32)), (.ref t1)])) rfl (by rw [hml]; rfl) [(.ref t1), (.int (1 : Int32))] [] 0 (lenOf pd_6 rfl) rfl rfl (by show 2 * 0 + _ ≤ _; exact Nat.le_of_eq rfl) (hb hby d15_21) (by decide) (by decide) (by decide) (by decide) rfl rfl ?_
  intro T3 X3 e3
  show Done _ p e below s _ _ (T3.setTop (mkF m 24 #[oR x1, oI (1 : Int32)] [(.int c1)]))
  exact Done.retN (leavesF X3 hlk (by decide) (by decide)) X3 hx (t := .char) hret (by simp) (hb hby d15_24) ⟨by rw [own_nar2 hq1], e3, rfl⟩
def SD_2 (Z : State) (h0 : Heap) (x1 t1 : Addr) (kb1 : ClassId) (c0 c1 : Int32) : Prop := ((¬ (255 : Int32) < c0 ∧ ¬ (255 : Int32) < c1) ∧ Fld Z h0 x1 "java/lang/String" "coder" "B" (.int (0 : Int32)) ∧ Arv Z h0 t1 kb1 .byte (2 : Int32) [(.int (own_by c0)), (.int (own_by c1))] (.int (0 : Int32))) ∨ (¬ (¬ (255 : Int32) < c0 ∧ ¬ (255 : Int32) < c1) ∧ Fld Z h0 x1 "java/lang/String" "coder" "B" (.int (1 : Int32)) ∧ Arv Z h0 t1 kb1 .byte (4 : Int32) [(.int (own_hi c0)), (.int (own_lo c0)), (.int (own_hi c1)), (.int (own_lo c1))] (.int (0 : Int32)))
theorem rLd2 (l : Launch) (Z : State) (a0 : Array Value) (hw : ∀ d ∈ tables_1, d.before a0 Z = true) (ws : List Jvm.Cond) (x1 t1 : Addr) (kb1 : ClassId) (c0 c1 : Int32) (z : Int32) (fm : Value) (h0 : Heap) (n0 : Nat) (Z0 : n0 ≤ h0.size) (O0 : Old Z n0 h0) (SC : Sta Z Z.heap "java/lang/String" "COMPACT_STRINGS" "Z" (.int z)) (hz : ¬ z = 0) (SF : Sta Z Z.heap "jdk/internal/util/Preconditions" "SIOOBE_FORMATTER" "Ljava/util/function/BiFunction;" fm) (rF : fm.isRef = true) (SA : Sta Z Z.heap "java/lang/StringUTF16" "$assertionsDisabled" "Z" (.int (1 : Int32))) (SH : Sta Z Z.heap "java/lang/StringUTF16" "HI_BYTE_SHIFT" "I" (.int (0 : Int32))) (SL : Sta Z Z.heap "java/lang/StringUTF16" "LO_BYTE_SHIFT" "I" (.int (8 : Int32))) (E1 : Exa Z h0 x1 "java/lang/String") (V1 : Fld Z h0 x1 "java/lang/String" "value" "[B" (.ref t1)) (D1 : SD_2 Z h0 x1 t1 kb1 c0 c1) : Ctr FrameEnd l Z (⟨"java/lang/String", "length", "()I"⟩ : MethodName) jdk_42_method_54_code 1 (some .int) ws ({ frames := 1, cells := 0, slots := 0, locals := 13 } : Room) #[(.ref x1)] h0 TrueV (PureQ (some (.int (2 : Int32))) h0) := by
  rcases D1 with ⟨hsm, C1, K1⟩ | ⟨hsm, C1, K1⟩
  · exact rL02 l Z a0 hw ws x1 t1 kb1 c0 c1 z fm h0 n0 Z0 O0 SC hz SF rF SA SH SL E1 V1 C1 K1
  · exact rL12 l Z a0 hw ws x1 t1 kb1 c0 c1 z fm h0 n0 Z0 O0 SC hz SF rF SA SH SL E1 V1 C1 K1
theorem rCd20 (l : Launch) (Z : State) (a0 : Array Value) (hw : ∀ d ∈ tables_1, d.before a0 Z = true) (ws : List Jvm.Cond) (x1 t1 : Addr) (kb1 : ClassId) (c0 c1 : Int32) (z : Int32) (fm : Value) (h0 : Heap) (n0 : Nat) (Z0 : n0 ≤ h0.size) (O0 : Old Z n0 h0) (SC : Sta Z Z.heap "java/lang/String" "COMPACT_STRINGS" "Z" (.int z)) (hz : ¬ z = 0) (SF : Sta Z Z.heap "jdk/internal/util/Preconditions" "SIOOBE_FORMATTER" "Ljava/util/function/BiFunction;" fm) (rF : fm.isRef = true) (SA : Sta Z Z.heap "java/lang/StringUTF16" "$assertionsDisabled" "Z" (.int (1 : Int32))) (SH : Sta Z Z.heap "java/lang/StringUTF16" "HI_BYTE_SHIFT" "I" (.int (0 : Int32))) (SL : Sta Z Z.heap "java/lang/StringUTF16" "LO_BYTE_SHIFT" "I" (.int (8 : Int32))) (E1 : Exa Z h0 x1 "java/lang/String") (V1 : Fld Z h0 x1 "java/lang/String" "value" "[B" (.ref t1)) (D1 : SD_2 Z h0 x1 t1 kb1 c0 c1) (hb0 : ¬ c0 < 0 ∧ ¬ (65535 : Int32) < c0) : Ctr FrameEnd l Z (⟨"java/lang/String", "charAt", "(I)C"⟩ : MethodName) jdk_42_method_56_code 2 (some .char) ws ({ frames := 4, cells := 0, slots := 0, locals := 60 } : Room) #[(.ref x1), (.int (0 : Int32))] h0 TrueV (PureQ (some (.int c0)) h0) := by
  rcases D1 with ⟨hsm, C1, K1⟩ | ⟨hsm, C1, K1⟩
  · exact rC020 l Z a0 hw ws x1 t1 kb1 c0 c1 z fm h0 n0 Z0 O0 SC hz SF rF SA SH SL E1 V1 C1 K1 ⟨hb0.1, hsm.1⟩
  · exact rC120 l Z a0 hw ws x1 t1 kb1 c0 c1 z fm h0 n0 Z0 O0 SC hz SF rF SA SH SL E1 V1 C1 K1 hb0
theorem rCd21 (l : Launch) (Z : State) (a0 : Array Value) (hw : ∀ d ∈ tables_1, d.before a0 Z = true) (ws : List Jvm.Cond) (x1 t1 : Addr) (kb1 : ClassId) (c0 c1 : Int32) (z : Int32) (fm : Value) (h0 : Heap) (n0 : Nat) (Z0 : n0 ≤ h0.size) (O0 : Old Z n0 h0) (SC : Sta Z Z.heap "java/lang/String" "COMPACT_STRINGS" "Z" (.int z)) (hz : ¬ z = 0) (SF : Sta Z Z.heap "jdk/internal/util/Preconditions" "SIOOBE_FORMATTER" "Ljava/util/function/BiFunction;" fm) (rF : fm.isRef = true) (SA : Sta Z Z.heap "java/lang/StringUTF16" "$assertionsDisabled" "Z" (.int (1 : Int32))) (SH : Sta Z Z.heap "java/lang/StringUTF16" "HI_BYTE_SHIFT" "I" (.int (0 : Int32))) (SL : Sta Z Z.heap "java/lang/StringUTF16" "LO_BYTE_SHIFT" "I" (.int (8 : Int32))) (E1 : Exa Z h0 x1 "java/lang/String") (V1 : Fld Z h0 x1 "java/lang/String" "value" "[B" (.ref t1)) (D1 : SD_2 Z h0 x1 t1 kb1 c0 c1) (hb1 : ¬ c1 < 0 ∧ ¬ (65535 : Int32) < c1) : Ctr FrameEnd l Z (⟨"java/lang/String", "charAt", "(I)C"⟩ : MethodName) jdk_42_method_56_code 2 (some .char) ws ({ frames := 4, cells := 0, slots := 0, locals := 60 } : Room) #[(.ref x1), (.int (1 : Int32))] h0 TrueV (PureQ (some (.int c1)) h0) := by
  rcases D1 with ⟨hsm, C1, K1⟩ | ⟨hsm, C1, K1⟩
  · exact rC021 l Z a0 hw ws x1 t1 kb1 c0 c1 z fm h0 n0 Z0 O0 SC hz SF rF SA SH SL E1 V1 C1 K1 ⟨hb1.1, hsm.2⟩
  · exact rC121 l Z a0 hw ws x1 t1 kb1 c0 c1 z fm h0 n0 Z0 O0 SC hz SF rF SA SH SL E1 V1 C1 K1 hb1
set_option maxRecDepth 65536 in
set_option maxHeartbeats 40000000 in
theorem rL04 (l : Launch) (Z : State) (a0 : Array Value) (hw : ∀ d ∈ tables_1, d.before a0 Z = true) (ws : List Jvm.Cond) (x1 t1 : Addr) (kb1 : ClassId) (c0 c1 c2 c3 : Int32) (z : Int32) (fm : Value) (h0 : Heap) (n0 : Nat) (Z0 : n0 ≤ h0.size) (O0 : Old Z n0 h0) (SC : Sta Z Z.heap "java/lang/String" "COMPACT_STRINGS" "Z" (.int z)) (hz : ¬ z = 0) (SF : Sta Z Z.heap "jdk/internal/util/Preconditions" "SIOOBE_FORMATTER" "Ljava/util/function/BiFunction;" fm) (rF : fm.isRef = true) (SA : Sta Z Z.heap "java/lang/StringUTF16" "$assertionsDisabled" "Z" (.int (1 : Int32))) (SH : Sta Z Z.heap "java/lang/StringUTF16" "HI_BYTE_SHIFT" "I" (.int (0 : Int32))) (SL : Sta Z Z.heap "java/lang/StringUTF16" "LO_BYTE_SHIFT" "I" (.int (8 : Int32))) (E1 : Exa Z h0 x1 "java/lang/String") (V1 : Fld Z h0 x1 "java/lang/String" "value" "[B" (.ref t1)) (C1 : Fld Z h0 x1 "java/lang/String" "coder" "B" (.int (0 : Int32))) (K1 : Arv Z h0 t1 kb1 .byte (4 : Int32) [(.int (own_by c0)), (.int (own_by c1)), (.int (own_by c2)), (.int (own_by c3))] (.int (0 : Int32))) :
    Ctr FrameEnd l Z (⟨"java/lang/String", "length", "()I"⟩ : MethodName) jdk_42_method_54_code 1 (some .int) ws ({ frames := 1, cells := 0, slots := 0, locals := 13 } : Room) #[(.ref x1)] h0 TrueV (PureQ (some (.int (4 : Int32))) h0) := by
  refine Ctr.intro (plainFor_of_name pn_java_lang_String) (Ls := #[.val (.ref x1)]) (fun m => by first | (simp [entryFrame, mkF, argsToLocals, Value.category]; done) | rfl) ?_
  intro p e s m below meth c T0 hx hby hml hown hnm hret hlk hZ hV hsh e0 X0
  have N0 := Fr.nil n0
  show Done _ p e below s _ _ (T0.setTop (mkF m 0 #[oR x1] []))
  refine Done.step (fun _ => XS.aloadN X0.here hx rfl (hb hby d7_0) rfl rfl) ?_
  show Done _ p e below s _ _ (T0.setTop (mkF m 1 #[oR x1] [(.ref x1)]))
  obtain ⟨T1, X1, e1, st1⟩ := getF X0 hx hZ hown (host := "") (Or.inl (wAt hw 29 rfl)) Via.refl e0 V1 (g := (mkF m 1 #[oR x1] [(.ref x1)])) rfl rfl (hb hby d7_1)
  refine Done.step st1 ?_
  show Done _ p e below s _ _ (T1.setTop (mkF m 4 #[oR x1] [(.ref t1)]))
  obtain ⟨cl2, Ar2, q2, S2, Nn2, H2, G2⟩ := id K1
  refine Done.step (X1.arraylength hx (by first | exact Ar2.1 | (rw [e1]; exact Ar2.1)) (State.isArrayOf_alike hZ.alike Ar2.2.1) (g := (mkF m 4 #[oR x1] [(.ref t1)])) rfl rfl (hb hby d7_4)) ?_
  rw [len_of S2 Nn2]
  show Done _ p e below s _ _ (T1.setTop (mkF m 5 #[oR x1] [(.int (4 : Int32))]))
  refine Done.step (fun _ => XS.aloadN X1.here hx rfl (hb hby d7_5) rfl rfl) ?_
  show Done _ p e below s _ _ (T1.setTop (mkF m 6 #[oR x1] [(.ref x1), (.int (4 : Int32))]))
  refine Done.callVP X1 hx hZ (C := "java/lang/String") hown (wAt hw 40 rfl) (wAt hw 41 rfl) (notFace_of_selects (args := #[]) (mvT hZ (wAt hw 43 rfl))) (wAt hw 43 rfl) (wAt hw 42 rfl) (wAt hw 11 rfl) (wAt hw 44 rfl) (by decide) (rmCo0 l Z a0 hw [] x1 z fm h0 n0 Z0 O0 SC hz SF rF SA SH SL C1) e1 E1 (g := (mkF m 6 #[oR x1] [(.ref x1), (.int (4 : Int32))])) rfl (by rw [hml]; rfl) [] [(.int (4 : Int32))] 1 (lenOf pd_9 rfl) rfl rfl (by show 2 * 0 + _ ≤ _; exact Nat.le_of_eq rfl) (hb hby d7_6) (by decide) (by decide) (by decide) (by decide) rfl rfl ?_
  intro T3 X3 e3
  show Done _ p e below s _ _ (T3.setTop (mkF m 9 #[oR x1] [(.int (0 : Int32)), (.int (4 : Int32))]))
  refine Done.step (fun _ => XT.ishr X3.here hx rfl (hb hby d7_9) rfl) ?_
  show Done _ p e below s _ _ (T3.setTop (mkF m 10 #[oR x1] [(.int (4 : Int32))]))
  exact Done.retI (leavesF X3 hlk (by decide) (by decide)) X3 hx hret (hb hby d7_10) ⟨rfl, e3, rfl⟩
set_option maxRecDepth 65536 in
set_option maxHeartbeats 40000000 in
theorem rA040 (l : Launch) (Z : State) (a0 : Array Value) (hw : ∀ d ∈ tables_1, d.before a0 Z = true) (ws : List Jvm.Cond) (t1 : Addr) (kb1 : ClassId) (c0 c1 c2 c3 : Int32) (z : Int32) (fm : Value) (h0 : Heap) (n0 : Nat) (Z0 : n0 ≤ h0.size) (O0 : Old Z n0 h0) (SC : Sta Z Z.heap "java/lang/String" "COMPACT_STRINGS" "Z" (.int z)) (hz : ¬ z = 0) (SF : Sta Z Z.heap "jdk/internal/util/Preconditions" "SIOOBE_FORMATTER" "Ljava/util/function/BiFunction;" fm) (rF : fm.isRef = true) (SA : Sta Z Z.heap "java/lang/StringUTF16" "$assertionsDisabled" "Z" (.int (1 : Int32))) (SH : Sta Z Z.heap "java/lang/StringUTF16" "HI_BYTE_SHIFT" "I" (.int (0 : Int32))) (SL : Sta Z Z.heap "java/lang/StringUTF16" "LO_BYTE_SHIFT" "I" (.int (8 : Int32))) (K1 : Arv Z h0 t1 kb1 .byte (4 : Int32) [(.int (own_by c0)), (.int (own_by c1)), (.int (own_by c2)), (.int (own_by c3))] (.int (0 : Int32))) (hq0 : ¬ c0 < 0 ∧ ¬ (255 : Int32) < c0) :
    Ctr FrameEnd l Z (⟨"java/lang/StringLatin1", "charAt", "([BI)C"⟩ : MethodName) jdk_43_method_2_code 2 (some .char) ws ({ frames := 2, cells := 0, slots := 0, locals := 29 } : Room) #[(.ref t1), (.int (0 : Int32))] h0 TrueV (PureQ (some (.int c0)) h0) := by
  refine Ctr.intro (plainFor_of_name pn_java_lang_StringLatin1) (Ls := #[.val (.ref t1), .val (.int (0 : Int32))]) (fun m => by first | (simp [entryFrame, mkF, argsToLocals, Value.category]; done) | rfl) ?_
  intro p e s m below meth c T0 hx hby hml hown hnm hret hlk hZ hV hsh e0 X0
  have N0 := Fr.nil n0
  show Done _ p e below s _ _ (T0.setTop (mkF m 0 #[oR t1, oI (0 : Int32)] []))
  refine Done.step (fun _ => XS.iloadN X0.here hx rfl (hb hby d17_0) rfl) ?_
  show Done _ p e below s _ _ (T0.setTop (mkF m 1 #[oR t1, oI (0 : Int32)] [(.int (0 : Int32))]))
  refine Done.step (fun _ => XS.aloadN X0.here hx rfl (hb hby d17_1) rfl rfl) ?_
  show Done _ p e below s _ _ (T0.setTop (mkF m 2 #[oR t1, oI (0 : Int32)] [(.ref t1), (.int (0 : Int32))]))
  obtain ⟨cl1, Ar1, q1, S1, Nn1, H1, G1⟩ := id K1
  refine Done.step (X0.arraylength hx (by first | exact Ar1.1 | (rw [e0]; exact Ar1.1)) (State.isArrayOf_alike hZ.alike Ar1.2.1) (g := (mkF m 2 #[oR t1, oI (0 : Int32)] [(.ref t1), (.int (0 : Int32))])) rfl rfl (hb hby d17_2)) ?_
  rw [len_of S1 Nn1]
  show Done _ p e below s _ _ (T0.setTop (mkF m 3 #[oR t1, oI (0 : Int32)] [(.int (4 : Int32)), (.int (0 : Int32))]))
  refine Done.callSP X0 hx hZ hown (wAt hw 80 rfl) (wAt hw 81 rfl) (wAt hw 11 rfl) (wAt hw 82 rfl) (by decide) (rmCI l Z a0 hw [] (0 : Int32) (4 : Int32) z fm h0 n0 Z0 O0 SC hz SF rF SA SH SL (by decide) (by decide)) e0 (g := (mkF m 3 #[oR t1, oI (0 : Int32)] [(.int (4 : Int32)), (.int (0 : Int32))])) rfl (by rw [hml]; rfl) [(.int (0 : Int32)), (.int (4 : Int32))] [] 0 (lenOf pd_10 rfl) rfl rfl (by show 2 * 0 + _ ≤ _; exact Nat.le_of_eq rfl) (hb hby d17_3) (by decide) (by decide) (by decide) (by decide) rfl rfl ?_
  intro T2 X2 e2
  show Done _ p e below s _ _ (T2.setTop (mkF m 6 #[oR t1, oI (0 : Int32)] []))
  refine Done.step (fun _ => XS.aloadN X2.here hx rfl (hb hby d17_6) rfl rfl) ?_
  show Done _ p e below s _ _ (T2.setTop (mkF m 7 #[oR t1, oI (0 : Int32)] [(.ref t1)]))
  refine Done.step (fun _ => XS.iloadN X2.here hx rfl (hb hby d17_7) rfl) ?_
  show Done _ p e below s _ _ (T2.setTop (mkF m 8 #[oR t1, oI (0 : Int32)] [(.int (0 : Int32)), (.ref t1)]))
  obtain ⟨cl3, Ar3, q3, S3, Nn3, H3, G3⟩ := id K1
  have hin3 : ¬ ((0 : Int32) < 0 ∨ cl3.slots.size ≤ ((0 : Int32)).toNatClampNeg) := inb_of S3 ⟨by decide, by decide⟩
  have hat3 := Has.at H3 hin3 (v := (.int (own_by c0))) rfl
  refine Done.step (X2.baloadBytes hx (j := (0 : Int32)) (v := (.int (own_by c0))) (by first | exact Ar3.1 | (rw [e2]; exact Ar3.1)) (State.isArrayOf_alike hZ.alike Ar3.2.1) Ar3.2.2 hin3 hat3 (g := (mkF m 8 #[oR t1, oI (0 : Int32)] [(.int (0 : Int32)), (.ref t1)])) rfl rfl (hb hby d17_8)) ?_
  show Done _ p e below s _ _ (T2.setTop (mkF m 9 #[oR t1, oI (0 : Int32)] [(.int (own_by c0))]))
  refine Done.step (fun _ => XT.sipushV X2.here hx rfl (255 : Int32) (hb hby d17_9) (by decide)) ?_
  show Done _ p e below s _ _ (T2.setTop (mkF m 12 #[oR t1, oI (0 : Int32)] [(.int (255 : Int32)), (.int (own_by c0))]))
  refine Done.step (fun _ => XS.iand X2.here hx rfl (hb hby d17_12) rfl) ?_
  show Done _ p e below s _ _ (T2.setTop (mkF m 13 #[oR t1, oI (0 : Int32)] [(.int ((own_by c0) &&& (255 : Int32)))]))
  refine Done.step (fun _ => XT.i2c X2.here hx rfl (hb hby d17_13) rfl) ?_
  show Done _ p e below s _ _ (T2.setTop (mkF m 14 #[oR t1, oI (0 : Int32)] [(.int (((own_by c0) &&& (255 : Int32)).toUInt32.toUInt16.toUInt32.toInt32))]))
  exact Done.retN (leavesF X2 hlk (by decide) (by decide)) X2 hx (t := .char) hret (by simp) (hb hby d17_14) ⟨by rw [own_narI, own_jb hq0, own_c255 hq0], e2, rfl⟩
set_option maxRecDepth 65536 in
set_option maxHeartbeats 40000000 in
theorem rC040 (l : Launch) (Z : State) (a0 : Array Value) (hw : ∀ d ∈ tables_1, d.before a0 Z = true) (ws : List Jvm.Cond) (x1 t1 : Addr) (kb1 : ClassId) (c0 c1 c2 c3 : Int32) (z : Int32) (fm : Value) (h0 : Heap) (n0 : Nat) (Z0 : n0 ≤ h0.size) (O0 : Old Z n0 h0) (SC : Sta Z Z.heap "java/lang/String" "COMPACT_STRINGS" "Z" (.int z)) (hz : ¬ z = 0) (SF : Sta Z Z.heap "jdk/internal/util/Preconditions" "SIOOBE_FORMATTER" "Ljava/util/function/BiFunction;" fm) (rF : fm.isRef = true) (SA : Sta Z Z.heap "java/lang/StringUTF16" "$assertionsDisabled" "Z" (.int (1 : Int32))) (SH : Sta Z Z.heap "java/lang/StringUTF16" "HI_BYTE_SHIFT" "I" (.int (0 : Int32))) (SL : Sta Z Z.heap "java/lang/StringUTF16" "LO_BYTE_SHIFT" "I" (.int (8 : Int32))) (E1 : Exa Z h0 x1 "java/lang/String") (V1 : Fld Z h0 x1 "java/lang/String" "value" "[B" (.ref t1)) (C1 : Fld Z h0 x1 "java/lang/String" "coder" "B" (.int (0 : Int32))) (K1 : Arv Z h0 t1 kb1 .byte (4 : Int32) [(.int (own_by c0)), (.int (own_by c1)), (.int (own_by c2)), (.int (own_by c3))] (.int (0 : Int32))) (hq0 : ¬ c0 < 0 ∧ ¬ (255 : Int32) < c0) :
    Ctr FrameEnd l Z (⟨"java/lang/String", "charAt", "(I)C"⟩ : MethodName) jdk_42_method_56_code 2 (some .char) ws ({ frames := 4, cells := 0, slots := 0, locals := 60 } : Room) #[(.ref x1), (.int (0 : Int32))] h0 TrueV (PureQ (some (.int c0)) h0) := by
  refine Ctr.intro (plainFor_of_name pn_java_lang_String) (Ls := #[.val (.ref x1), .val (.int (0 : Int32))]) (fun m => by first | (simp [entryFrame, mkF, argsToLocals, Value.category]; done) | rfl) ?_
  intro p e s m below meth c T0 hx hby hml hown hnm hret hlk hZ hV hsh e0 X0
  have N0 := Fr.nil n0
  show Done _ p e below s _ _ (T0.setTop (mkF m 0 #[oR x1, oI (0 : Int32)] []))
  refine Done.step (fun _ => XS.aloadN X0.here hx rfl (hb hby d15_0) rfl rfl) ?_
  show Done _ p e below s _ _ (T0.setTop (mkF m 1 #[oR x1, oI (0 : Int32)] [(.ref x1)]))
  refine Done.callVP X0 hx hZ (C := "java/lang/String") hown (wAt hw 72 rfl) (wAt hw 73 rfl) (notFace_of_selects (args := #[]) (mvT hZ (wAt hw 75 rfl))) (wAt hw 75 rfl) (wAt hw 74 rfl) (wAt hw 11 rfl) (wAt hw 76 rfl) (by decide) (rmIL0 l Z a0 hw [] x1 z fm h0 n0 Z0 O0 SC hz SF rF SA SH SL C1) e0 E1 (g := (mkF m 1 #[oR x1, oI (0 : Int32)] [(.ref x1)])) rfl (by rw [hml]; rfl) [] [] 0 (lenOf pd_11 rfl) rfl rfl (by show 2 * 0 + _ ≤ _; exact Nat.le_of_eq rfl) (hb hby d15_1) (by decide) (by decide) (by decide) (by decide) rfl rfl ?_
  intro T1 X1 e1
  show Done _ p e below s _ _ (T1.setTop (mkF m 4 #[oR x1, oI (0 : Int32)] [(.int (1 : Int32))]))
  refine Done.step (fun _ => XS.ifNo X1.here hx rfl (hb hby d15_4) rfl (XT.i0_eq_f (by decide))) ?_
  show Done _ p e below s _ _ (T1.setTop (mkF m 7 #[oR x1, oI (0 : Int32)] []))
  refine Done.step (fun _ => XS.aloadN X1.here hx rfl (hb hby d15_7) rfl rfl) ?_
  show Done _ p e below s _ _ (T1.setTop (mkF m 8 #[oR x1, oI (0 : Int32)] [(.ref x1)]))
  obtain ⟨T2, X2, e2, st2⟩ := getF X1 hx hZ hown (host := "") (Or.inl (wAt hw 29 rfl)) Via.refl e1 V1 (g := (mkF m 8 #[oR x1, oI (0 : Int32)] [(.ref x1)])) rfl rfl (hb hby d15_8)
  refine Done.step st2 ?_
  show Done _ p e below s _ _ (T2.setTop (mkF m 11 #[oR x1, oI (0 : Int32)] [(.ref t1)]))
  refine Done.step (fun _ => XS.iloadN X2.here hx rfl (hb hby d15_11) rfl) ?_
  show Done _ p e below s _ _ (T2.setTop (mkF m 12 #[oR x1, oI (0 : Int32)] [(.int (0 : Int32)), (.ref t1)]))
  refine Done.callSP X2 hx hZ hown (wAt hw 77 rfl) (wAt hw 78 rfl) (wAt hw 58 rfl) (wAt hw 79 rfl) (by decide) (rA040 l Z a0 hw [] t1 kb1 c0 c1 c2 c3 z fm h0 n0 Z0 O0 SC hz SF rF SA SH SL K1 hq0) e2 (g := (mkF m 12 #[oR x1, oI (0 : Int32)] [(.int (0 : Int32)), (.ref t1)])) rfl (by rw [hml]; rfl) [(.ref t1), (.int (0 : Int32))] [] 0 (lenOf pd_6 rfl) rfl rfl (by show 2 * 0 + _ ≤ _; exact Nat.le_of_eq rfl) (hb hby d15_12) (by decide) (by decide) (by decide) (by decide) rfl rfl ?_
  intro T3 X3 e3
  show Done _ p e below s _ _ (T3.setTop (mkF m 15 #[oR x1, oI (0 : Int32)] [(.int c0)]))
  exact Done.retN (leavesF X3 hlk (by decide) (by decide)) X3 hx (t := .char) hret (by simp) (hb hby d15_15) ⟨by rw [own_nar2 (own_wide hq0)], e3, rfl⟩
set_option maxRecDepth 65536 in
set_option maxHeartbeats 40000000 in
theorem rA041 (l : Launch) (Z : State) (a0 : Array Value) (hw : ∀ d ∈ tables_1, d.before a0 Z = true) (ws : List Jvm.Cond) (t1 : Addr) (kb1 : ClassId) (c0 c1 c2 c3 : Int32) (z : Int32) (fm : Value) (h0 : Heap) (n0 : Nat) (Z0 : n0 ≤ h0.size) (O0 : Old Z n0 h0) (SC : Sta Z Z.heap "java/lang/String" "COMPACT_STRINGS" "Z" (.int z)) (hz : ¬ z = 0) (SF : Sta Z Z.heap "jdk/internal/util/Preconditions" "SIOOBE_FORMATTER" "Ljava/util/function/BiFunction;" fm) (rF : fm.isRef = true) (SA : Sta Z Z.heap "java/lang/StringUTF16" "$assertionsDisabled" "Z" (.int (1 : Int32))) (SH : Sta Z Z.heap "java/lang/StringUTF16" "HI_BYTE_SHIFT" "I" (.int (0 : Int32))) (SL : Sta Z Z.heap "java/lang/StringUTF16" "LO_BYTE_SHIFT" "I" (.int (8 : Int32))) (K1 : Arv Z h0 t1 kb1 .byte (4 : Int32) [(.int (own_by c0)), (.int (own_by c1)), (.int (own_by c2)), (.int (own_by c3))] (.int (0 : Int32))) (hq1 : ¬ c1 < 0 ∧ ¬ (255 : Int32) < c1) :
    Ctr FrameEnd l Z (⟨"java/lang/StringLatin1", "charAt", "([BI)C"⟩ : MethodName) jdk_43_method_2_code 2 (some .char) ws ({ frames := 2, cells := 0, slots := 0, locals := 29 } : Room) #[(.ref t1), (.int (1 : Int32))] h0 TrueV (PureQ (some (.int c1)) h0) := by
  refine Ctr.intro (plainFor_of_name pn_java_lang_StringLatin1) (Ls := #[.val (.ref t1), .val (.int (1 : Int32))]) (fun m => by first | (simp [entryFrame, mkF, argsToLocals, Value.category]; done) | rfl) ?_
  intro p e s m below meth c T0 hx hby hml hown hnm hret hlk hZ hV hsh e0 X0
  have N0 := Fr.nil n0
  show Done _ p e below s _ _ (T0.setTop (mkF m 0 #[oR t1, oI (1 : Int32)] []))
  refine Done.step (fun _ => XS.iloadN X0.here hx rfl (hb hby d17_0) rfl) ?_
  show Done _ p e below s _ _ (T0.setTop (mkF m 1 #[oR t1, oI (1 : Int32)] [(.int (1 : Int32))]))
  refine Done.step (fun _ => XS.aloadN X0.here hx rfl (hb hby d17_1) rfl rfl) ?_
  show Done _ p e below s _ _ (T0.setTop (mkF m 2 #[oR t1, oI (1 : Int32)] [(.ref t1), (.int (1 : Int32))]))
  obtain ⟨cl1, Ar1, q1, S1, Nn1, H1, G1⟩ := id K1
  refine Done.step (X0.arraylength hx (by first | exact Ar1.1 | (rw [e0]; exact Ar1.1)) (State.isArrayOf_alike hZ.alike Ar1.2.1) (g := (mkF m 2 #[oR t1, oI (1 : Int32)] [(.ref t1), (.int (1 : Int32))])) rfl rfl (hb hby d17_2)) ?_
  rw [len_of S1 Nn1]
  show Done _ p e below s _ _ (T0.setTop (mkF m 3 #[oR t1, oI (1 : Int32)] [(.int (4 : Int32)), (.int (1 : Int32))]))
  refine Done.callSP X0 hx hZ hown (wAt hw 80 rfl) (wAt hw 81 rfl) (wAt hw 11 rfl) (wAt hw 82 rfl) (by decide) (rmCI l Z a0 hw [] (1 : Int32) (4 : Int32) z fm h0 n0 Z0 O0 SC hz SF rF SA SH SL (by decide) (by decide)) e0 (g := (mkF m 3 #[oR t1, oI (1 : Int32)] [(.int (4 : Int32)), (.int (1 : Int32))])) rfl (by rw [hml]; rfl) [(.int (1 : Int32)), (.int (4 : Int32))] [] 0 (lenOf pd_10 rfl) rfl rfl (by show 2 * 0 + _ ≤ _; exact Nat.le_of_eq rfl) (hb hby d17_3) (by decide) (by decide) (by decide) (by decide) rfl rfl ?_
  intro T2 X2 e2
  show Done _ p e below s _ _ (T2.setTop (mkF m 6 #[oR t1, oI (1 : Int32)] []))
  refine Done.step (fun _ => XS.aloadN X2.here hx rfl (hb hby d17_6) rfl rfl) ?_
  show Done _ p e below s _ _ (T2.setTop (mkF m 7 #[oR t1, oI (1 : Int32)] [(.ref t1)]))
  refine Done.step (fun _ => XS.iloadN X2.here hx rfl (hb hby d17_7) rfl) ?_
  show Done _ p e below s _ _ (T2.setTop (mkF m 8 #[oR t1, oI (1 : Int32)] [(.int (1 : Int32)), (.ref t1)]))
  obtain ⟨cl3, Ar3, q3, S3, Nn3, H3, G3⟩ := id K1
  have hin3 : ¬ ((1 : Int32) < 0 ∨ cl3.slots.size ≤ ((1 : Int32)).toNatClampNeg) := inb_of S3 ⟨by decide, by decide⟩
  have hat3 := Has.at H3 hin3 (v := (.int (own_by c1))) rfl
  refine Done.step (X2.baloadBytes hx (j := (1 : Int32)) (v := (.int (own_by c1))) (by first | exact Ar3.1 | (rw [e2]; exact Ar3.1)) (State.isArrayOf_alike hZ.alike Ar3.2.1) Ar3.2.2 hin3 hat3 (g := (mkF m 8 #[oR t1, oI (1 : Int32)] [(.int (1 : Int32)), (.ref t1)])) rfl rfl (hb hby d17_8)) ?_
  show Done _ p e below s _ _ (T2.setTop (mkF m 9 #[oR t1, oI (1 : Int32)] [(.int (own_by c1))]))
  refine Done.step (fun _ => XT.sipushV X2.here hx rfl (255 : Int32) (hb hby d17_9) (by decide)) ?_
  show Done _ p e below s _ _ (T2.setTop (mkF m 12 #[oR t1, oI (1 : Int32)] [(.int (255 : Int32)), (.int (own_by c1))]))
  refine Done.step (fun _ => XS.iand X2.here hx rfl (hb hby d17_12) rfl) ?_
  show Done _ p e below s _ _ (T2.setTop (mkF m 13 #[oR t1, oI (1 : Int32)] [(.int ((own_by c1) &&& (255 : Int32)))]))
  refine Done.step (fun _ => XT.i2c X2.here hx rfl (hb hby d17_13) rfl) ?_
  show Done _ p e below s _ _ (T2.setTop (mkF m 14 #[oR t1, oI (1 : Int32)] [(.int (((own_by c1) &&& (255 : Int32)).toUInt32.toUInt16.toUInt32.toInt32))]))
  exact Done.retN (leavesF X2 hlk (by decide) (by decide)) X2 hx (t := .char) hret (by simp) (hb hby d17_14) ⟨by rw [own_narI, own_jb hq1, own_c255 hq1], e2, rfl⟩
set_option maxRecDepth 65536 in
set_option maxHeartbeats 40000000 in
theorem rC041 (l : Launch) (Z : State) (a0 : Array Value) (hw : ∀ d ∈ tables_1, d.before a0 Z = true) (ws : List Jvm.Cond) (x1 t1 : Addr) (kb1 : ClassId) (c0 c1 c2 c3 : Int32) (z : Int32) (fm : Value) (h0 : Heap) (n0 : Nat) (Z0 : n0 ≤ h0.size) (O0 : Old Z n0 h0) (SC : Sta Z Z.heap "java/lang/String" "COMPACT_STRINGS" "Z" (.int z)) (hz : ¬ z = 0) (SF : Sta Z Z.heap "jdk/internal/util/Preconditions" "SIOOBE_FORMATTER" "Ljava/util/function/BiFunction;" fm) (rF : fm.isRef = true) (SA : Sta Z Z.heap "java/lang/StringUTF16" "$assertionsDisabled" "Z" (.int (1 : Int32))) (SH : Sta Z Z.heap "java/lang/StringUTF16" "HI_BYTE_SHIFT" "I" (.int (0 : Int32))) (SL : Sta Z Z.heap "java/lang/StringUTF16" "LO_BYTE_SHIFT" "I" (.int (8 : Int32))) (E1 : Exa Z h0 x1 "java/lang/String") (V1 : Fld Z h0 x1 "java/lang/String" "value" "[B" (.ref t1)) (C1 : Fld Z h0 x1 "java/lang/String" "coder" "B" (.int (0 : Int32))) (K1 : Arv Z h0 t1 kb1 .byte (4 : Int32) [(.int (own_by c0)), (.int (own_by c1)), (.int (own_by c2)), (.int (own_by c3))] (.int (0 : Int32))) (hq1 : ¬ c1 < 0 ∧ ¬ (255 : Int32) < c1) :
    Ctr FrameEnd l Z (⟨"java/lang/String", "charAt", "(I)C"⟩ : MethodName) jdk_42_method_56_code 2 (some .char) ws ({ frames := 4, cells := 0, slots := 0, locals := 60 } : Room) #[(.ref x1), (.int (1 : Int32))] h0 TrueV (PureQ (some (.int c1)) h0) := by
  refine Ctr.intro (plainFor_of_name pn_java_lang_String) (Ls := #[.val (.ref x1), .val (.int (1 : Int32))]) (fun m => by first | (simp [entryFrame, mkF, argsToLocals, Value.category]; done) | rfl) ?_
  intro p e s m below meth c T0 hx hby hml hown hnm hret hlk hZ hV hsh e0 X0
  have N0 := Fr.nil n0
  show Done _ p e below s _ _ (T0.setTop (mkF m 0 #[oR x1, oI (1 : Int32)] []))
  refine Done.step (fun _ => XS.aloadN X0.here hx rfl (hb hby d15_0) rfl rfl) ?_
  show Done _ p e below s _ _ (T0.setTop (mkF m 1 #[oR x1, oI (1 : Int32)] [(.ref x1)]))
  refine Done.callVP X0 hx hZ (C := "java/lang/String") hown (wAt hw 72 rfl) (wAt hw 73 rfl) (notFace_of_selects (args := #[]) (mvT hZ (wAt hw 75 rfl))) (wAt hw 75 rfl) (wAt hw 74 rfl) (wAt hw 11 rfl) (wAt hw 76 rfl) (by decide) (rmIL0 l Z a0 hw [] x1 z fm h0 n0 Z0 O0 SC hz SF rF SA SH SL C1) e0 E1 (g := (mkF m 1 #[oR x1, oI (1 : Int32)] [(.ref x1)])) rfl (by rw [hml]; rfl) [] [] 0 (lenOf pd_11 rfl) rfl rfl (by show 2 * 0 + _ ≤ _; exact Nat.le_of_eq rfl) (hb hby d15_1) (by decide) (by decide) (by decide) (by decide) rfl rfl ?_
  intro T1 X1 e1
  show Done _ p e below s _ _ (T1.setTop (mkF m 4 #[oR x1, oI (1 : Int32)] [(.int (1 : Int32))]))
  refine Done.step (fun _ => XS.ifNo X1.here hx rfl (hb hby d15_4) rfl (XT.i0_eq_f (by decide))) ?_
  show Done _ p e below s _ _ (T1.setTop (mkF m 7 #[oR x1, oI (1 : Int32)] []))
  refine Done.step (fun _ => XS.aloadN X1.here hx rfl (hb hby d15_7) rfl rfl) ?_
  show Done _ p e below s _ _ (T1.setTop (mkF m 8 #[oR x1, oI (1 : Int32)] [(.ref x1)]))
  obtain ⟨T2, X2, e2, st2⟩ := getF X1 hx hZ hown (host := "") (Or.inl (wAt hw 29 rfl)) Via.refl e1 V1 (g := (mkF m 8 #[oR x1, oI (1 : Int32)] [(.ref x1)])) rfl rfl (hb hby d15_8)
  refine Done.step st2 ?_
  show Done _ p e below s _ _ (T2.setTop (mkF m 11 #[oR x1, oI (1 : Int32)] [(.ref t1)]))
  refine Done.step (fun _ => XS.iloadN X2.here hx rfl (hb hby d15_11) rfl) ?_
  show Done _ p e below s _ _ (T2.setTop (mkF m 12 #[oR x1, oI (1 : Int32)] [(.int (1 : Int32)), (.ref t1)]))
  refine Done.callSP X2 hx hZ hown (wAt hw 77 rfl) (wAt hw 78 rfl) (wAt hw 58 rfl) (wAt hw 79 rfl) (by decide) (rA041 l Z a0 hw [] t1 kb1 c0 c1 c2 c3 z fm h0 n0 Z0 O0 SC hz SF rF SA SH SL K1 hq1) e2 (g := (mkF m 12 #[oR x1, oI (1 : Int32)] [(.int (1 : Int32)), (.ref t1)])) rfl (by rw [hml]; rfl) [(.ref t1), (.int (1 : Int32))] [] 0 (lenOf pd_6 rfl) rfl rfl (by show 2 * 0 + _ ≤ _; exact Nat.le_of_eq rfl) (hb hby d15_12) (by decide) (by decide) (by decide) (by decide) rfl rfl ?_
  intro T3 X3 e3
  show Done _ p e below s _ _ (T3.setTop (mkF m 15 #[oR x1, oI (1 : Int32)] [(.int c1)]))
  exact Done.retN (leavesF X3 hlk (by decide) (by decide)) X3 hx (t := .char) hret (by simp) (hb hby d15_15) ⟨by rw [own_nar2 (own_wide hq1)], e3, rfl⟩
set_option maxRecDepth 65536 in
set_option maxHeartbeats 40000000 in
theorem rA042 (l : Launch) (Z : State) (a0 : Array Value) (hw : ∀ d ∈ tables_1, d.before a0 Z = true) (ws : List Jvm.Cond) (t1 : Addr) (kb1 : ClassId) (c0 c1 c2 c3 : Int32) (z : Int32) (fm : Value) (h0 : Heap) (n0 : Nat) (Z0 : n0 ≤ h0.size) (O0 : Old Z n0 h0) (SC : Sta Z Z.heap "java/lang/String" "COMPACT_STRINGS" "Z" (.int z)) (hz : ¬ z = 0) (SF : Sta Z Z.heap "jdk/internal/util/Preconditions" "SIOOBE_FORMATTER" "Ljava/util/function/BiFunction;" fm) (rF : fm.isRef = true) (SA : Sta Z Z.heap "java/lang/StringUTF16" "$assertionsDisabled" "Z" (.int (1 : Int32))) (SH : Sta Z Z.heap "java/lang/StringUTF16" "HI_BYTE_SHIFT" "I" (.int (0 : Int32))) (SL : Sta Z Z.heap "java/lang/StringUTF16" "LO_BYTE_SHIFT" "I" (.int (8 : Int32))) (K1 : Arv Z h0 t1 kb1 .byte (4 : Int32) [(.int (own_by c0)), (.int (own_by c1)), (.int (own_by c2)), (.int (own_by c3))] (.int (0 : Int32))) (hq2 : ¬ c2 < 0 ∧ ¬ (255 : Int32) < c2) :
    Ctr FrameEnd l Z (⟨"java/lang/StringLatin1", "charAt", "([BI)C"⟩ : MethodName) jdk_43_method_2_code 2 (some .char) ws ({ frames := 2, cells := 0, slots := 0, locals := 29 } : Room) #[(.ref t1), (.int (2 : Int32))] h0 TrueV (PureQ (some (.int c2)) h0) := by
  refine Ctr.intro (plainFor_of_name pn_java_lang_StringLatin1) (Ls := #[.val (.ref t1), .val (.int (2 : Int32))]) (fun m => by first | (simp [entryFrame, mkF, argsToLocals, Value.category]; done) | rfl) ?_
  intro p e s m below meth c T0 hx hby hml hown hnm hret hlk hZ hV hsh e0 X0
  have N0 := Fr.nil n0
  show Done _ p e below s _ _ (T0.setTop (mkF m 0 #[oR t1, oI (2 : Int32)] []))
  refine Done.step (fun _ => XS.iloadN X0.here hx rfl (hb hby d17_0) rfl) ?_
  show Done _ p e below s _ _ (T0.setTop (mkF m 1 #[oR t1, oI (2 : Int32)] [(.int (2 : Int32))]))
  refine Done.step (fun _ => XS.aloadN X0.here hx rfl (hb hby d17_1) rfl rfl) ?_
  show Done _ p e below s _ _ (T0.setTop (mkF m 2 #[oR t1, oI (2 : Int32)] [(.ref t1), (.int (2 : Int32))]))
  obtain ⟨cl1, Ar1, q1, S1, Nn1, H1, G1⟩ := id K1
  refine Done.step (X0.arraylength hx (by first | exact Ar1.1 | (rw [e0]; exact Ar1.1)) (State.isArrayOf_alike hZ.alike Ar1.2.1) (g := (mkF m 2 #[oR t1, oI (2 : Int32)] [(.ref t1), (.int (2 : Int32))])) rfl rfl (hb hby d17_2)) ?_
  rw [len_of S1 Nn1]
  show Done _ p e below s _ _ (T0.setTop (mkF m 3 #[oR t1, oI (2 : Int32)] [(.int (4 : Int32)), (.int (2 : Int32))]))
  refine Done.callSP X0 hx hZ hown (wAt hw 80 rfl) (wAt hw 81 rfl) (wAt hw 11 rfl) (wAt hw 82 rfl) (by decide) (rmCI l Z a0 hw [] (2 : Int32) (4 : Int32) z fm h0 n0 Z0 O0 SC hz SF rF SA SH SL (by decide) (by decide)) e0 (g := (mkF m 3 #[oR t1, oI (2 : Int32)] [(.int (4 : Int32)), (.int (2 : Int32))])) rfl (by rw [hml]; rfl) [(.int (2 : Int32)), (.int (4 : Int32))] [] 0 (lenOf pd_10 rfl) rfl rfl (by show 2 * 0 + _ ≤ _; exact Nat.le_of_eq rfl) (hb hby d17_3) (by decide) (by decide) (by decide) (by decide) rfl rfl ?_
  intro T2 X2 e2
  show Done _ p e below s _ _ (T2.setTop (mkF m 6 #[oR t1, oI (2 : Int32)] []))
  refine Done.step (fun _ => XS.aloadN X2.here hx rfl (hb hby d17_6) rfl rfl) ?_
  show Done _ p e below s _ _ (T2.setTop (mkF m 7 #[oR t1, oI (2 : Int32)] [(.ref t1)]))
  refine Done.step (fun _ => XS.iloadN X2.here hx rfl (hb hby d17_7) rfl) ?_
  show Done _ p e below s _ _ (T2.setTop (mkF m 8 #[oR t1, oI (2 : Int32)] [(.int (2 : Int32)), (.ref t1)]))
  obtain ⟨cl3, Ar3, q3, S3, Nn3, H3, G3⟩ := id K1
  have hin3 : ¬ ((2 : Int32) < 0 ∨ cl3.slots.size ≤ ((2 : Int32)).toNatClampNeg) := inb_of S3 ⟨by decide, by decide⟩
  have hat3 := Has.at H3 hin3 (v := (.int (own_by c2))) rfl
  refine Done.step (X2.baloadBytes hx (j := (2 : Int32)) (v := (.int (own_by c2))) (by first | exact Ar3.1 | (rw [e2]; exact Ar3.1)) (State.isArrayOf_alike hZ.alike Ar3.2.1) Ar3.2.2 hin3 hat3 (g := (mkF m 8 #[oR t1, oI (2 : Int32)] [(.int (2 : Int32)), (.ref t1)])) rfl rfl (hb hby d17_8)) ?_
  show Done _ p e below s _ _ (T2.setTop (mkF m 9 #[oR t1, oI (2 : Int32)] [(.int (own_by c2))]))
  refine Done.step (fun _ => XT.sipushV X2.here hx rfl (255 : Int32) (hb hby d17_9) (by decide)) ?_
  show Done _ p e below s _ _ (T2.setTop (mkF m 12 #[oR t1, oI (2 : Int32)] [(.int (255 : Int32)), (.int (own_by c2))]))
  refine Done.step (fun _ => XS.iand X2.here hx rfl (hb hby d17_12) rfl) ?_
  show Done _ p e below s _ _ (T2.setTop (mkF m 13 #[oR t1, oI (2 : Int32)] [(.int ((own_by c2) &&& (255 : Int32)))]))
  refine Done.step (fun _ => XT.i2c X2.here hx rfl (hb hby d17_13) rfl) ?_
  show Done _ p e below s _ _ (T2.setTop (mkF m 14 #[oR t1, oI (2 : Int32)] [(.int (((own_by c2) &&& (255 : Int32)).toUInt32.toUInt16.toUInt32.toInt32))]))
  exact Done.retN (leavesF X2 hlk (by decide) (by decide)) X2 hx (t := .char) hret (by simp) (hb hby d17_14) ⟨by rw [own_narI, own_jb hq2, own_c255 hq2], e2, rfl⟩
set_option maxRecDepth 65536 in
set_option maxHeartbeats 40000000 in
theorem rC042 (l : Launch) (Z : State) (a0 : Array Value) (hw : ∀ d ∈ tables_1, d.before a0 Z = true) (ws : List Jvm.Cond) (x1 t1 : Addr) (kb1 : ClassId) (c0 c1 c2 c3 : Int32) (z : Int32) (fm : Value) (h0 : Heap) (n0 : Nat) (Z0 : n0 ≤ h0.size) (O0 : Old Z n0 h0) (SC : Sta Z Z.heap "java/lang/String" "COMPACT_STRINGS" "Z" (.int z)) (hz : ¬ z = 0) (SF : Sta Z Z.heap "jdk/internal/util/Preconditions" "SIOOBE_FORMATTER" "Ljava/util/function/BiFunction;" fm) (rF : fm.isRef = true) (SA : Sta Z Z.heap "java/lang/StringUTF16" "$assertionsDisabled" "Z" (.int (1 : Int32))) (SH : Sta Z Z.heap "java/lang/StringUTF16" "HI_BYTE_SHIFT" "I" (.int (0 : Int32))) (SL : Sta Z Z.heap "java/lang/StringUTF16" "LO_BYTE_SHIFT" "I" (.int (8 : Int32))) (E1 : Exa Z h0 x1 "java/lang/String") (V1 : Fld Z h0 x1 "java/lang/String" "value" "[B" (.ref t1)) (C1 : Fld Z h0 x1 "java/lang/String" "coder" "B" (.int (0 : Int32))) (K1 : Arv Z h0 t1 kb1 .byte (4 : Int32) [(.int (own_by c0)), (.int (own_by c1)), (.int (own_by c2)), (.int (own_by c3))] (.int (0 : Int32))) (hq2 : ¬ c2 < 0 ∧ ¬ (255 : Int32) < c2) :
    Ctr FrameEnd l Z (⟨"java/lang/String", "charAt", "(I)C"⟩ : MethodName) jdk_42_method_56_code 2 (some .char) ws ({ frames := 4, cells := 0, slots := 0, locals := 60 } : Room) #[(.ref x1), (.int (2 : Int32))] h0 TrueV (PureQ (some (.int c2)) h0) := by
  refine Ctr.intro (plainFor_of_name pn_java_lang_String) (Ls := #[.val (.ref x1), .val (.int (2 : Int32))]) (fun m => by first | (simp [entryFrame, mkF, argsToLocals, Value.category]; done) | rfl) ?_
  intro p e s m below meth c T0 hx hby hml hown hnm hret hlk hZ hV hsh e0 X0
  have N0 := Fr.nil n0
  show Done _ p e below s _ _ (T0.setTop (mkF m 0 #[oR x1, oI (2 : Int32)] []))
  refine Done.step (fun _ => XS.aloadN X0.here hx rfl (hb hby d15_0) rfl rfl) ?_
  show Done _ p e below s _ _ (T0.setTop (mkF m 1 #[oR x1, oI (2 : Int32)] [(.ref x1)]))
  refine Done.callVP X0 hx hZ (C := "java/lang/String") hown (wAt hw 72 rfl) (wAt hw 73 rfl) (notFace_of_selects (args := #[]) (mvT hZ (wAt hw 75 rfl))) (wAt hw 75 rfl) (wAt hw 74 rfl) (wAt hw 11 rfl) (wAt hw 76 rfl) (by decide) (rmIL0 l Z a0 hw [] x1 z fm h0 n0 Z0 O0 SC hz SF rF SA SH SL C1) e0 E1 (g := (mkF m 1 #[oR x1, oI (2 : Int32)] [(.ref x1)])) rfl (by rw [hml]; rfl) [] [] 0 (lenOf pd_11 rfl) rfl rfl (by show 2 * 0 + _ ≤ _; exact Nat.le_of_eq rfl) (hb hby d15_1) (by decide) (by decide) (by decide) (by decide) rfl rfl ?_
  intro T1 X1 e1
  show Done _ p e below s _ _ (T1.setTop (mkF m 4 #[oR x1, oI (2 : Int32)] [(.int (1 : Int32))]))
  refine Done.step (fun _ => XS.ifNo X1.here hx rfl (hb hby d15_4) rfl (XT.i0_eq_f (by decide))) ?_
  show Done _ p e below s _ _ (T1.setTop (mkF m 7 #[oR x1, oI (2 : Int32)] []))
  refine Done.step (fun _ => XS.aloadN X1.here hx rfl (hb hby d15_7) rfl rfl) ?_
  show Done _ p e below s _ _ (T1.setTop (mkF m 8 #[oR x1, oI (2 : Int32)] [(.ref x1)]))
  obtain ⟨T2, X2, e2, st2⟩ := getF X1 hx hZ hown (host := "") (Or.inl (wAt hw 29 rfl)) Via.refl e1 V1 (g := (mkF m 8 #[oR x1, oI (2 : Int32)] [(.ref x1)])) rfl rfl (hb hby d15_8)
  refine Done.step st2 ?_
  show Done _ p e below s _ _ (T2.setTop (mkF m 11 #[oR x1, oI (2 : Int32)] [(.ref t1)]))
  refine Done.step (fun _ => XS.iloadN X2.here hx rfl (hb hby d15_11) rfl) ?_
  show Done _ p e below s _ _ (T2.setTop (mkF m 12 #[oR x1, oI (2 : Int32)] [(.int (2 : Int32)), (.ref t1)]))
  refine Done.callSP X2 hx hZ hown (wAt hw 77 rfl) (wAt hw 78 rfl) (wAt hw 58 rfl) (wAt hw 79 rfl) (by decide) (rA042 l Z a0 hw [] t1 kb1 c0 c1 c2 c3 z fm h0 n0 Z0 O0 SC hz SF rF SA SH SL K1 hq2) e2 (g := (mkF m 12 #[oR x1, oI (2 : Int32)] [(.int (2 : Int32)), (.ref t1)])) rfl (by rw [hml]; rfl) [(.ref t1), (.int (2 : Int32))] [] 0 (lenOf pd_6 rfl) rfl rfl (by show 2 * 0 + _ ≤ _; exact Nat.le_of_eq rfl) (hb hby d15_12) (by decide) (by decide) (by decide) (by decide) rfl rfl ?_
  intro T3 X3 e3
  show Done _ p e below s _ _ (T3.setTop (mkF m 15 #[oR x1, oI (2 : Int32)] [(.int c2)]))
  exact Done.retN (leavesF X3 hlk (by decide) (by decide)) X3 hx (t := .char) hret (by simp) (hb hby d15_15) ⟨by rw [own_nar2 (own_wide hq2)], e3, rfl⟩
set_option maxRecDepth 65536 in
set_option maxHeartbeats 40000000 in
theorem rA043 (l : Launch) (Z : State) (a0 : Array Value) (hw : ∀ d ∈ tables_1, d.before a0 Z = true) (ws : List Jvm.Cond) (t1 : Addr) (kb1 : ClassId) (c0 c1 c2 c3 : Int32) (z : Int32) (fm : Value) (h0 : Heap) (n0 : Nat) (Z0 : n0 ≤ h0.size) (O0 : Old Z n0 h0) (SC : Sta Z Z.heap "java/lang/String" "COMPACT_STRINGS" "Z" (.int z)) (hz : ¬ z = 0) (SF : Sta Z Z.heap "jdk/internal/util/Preconditions" "SIOOBE_FORMATTER" "Ljava/util/function/BiFunction;" fm) (rF : fm.isRef = true) (SA : Sta Z Z.heap "java/lang/StringUTF16" "$assertionsDisabled" "Z" (.int (1 : Int32))) (SH : Sta Z Z.heap "java/lang/StringUTF16" "HI_BYTE_SHIFT" "I" (.int (0 : Int32))) (SL : Sta Z Z.heap "java/lang/StringUTF16" "LO_BYTE_SHIFT" "I" (.int (8 : Int32))) (K1 : Arv Z h0 t1 kb1 .byte (4 : Int32) [(.int (own_by c0)), (.int (own_by c1)), (.int (own_by c2)), (.int (own_by c3))] (.int (0 : Int32))) (hq3 : ¬ c3 < 0 ∧ ¬ (255 : Int32) < c3) :
    Ctr FrameEnd l Z (⟨"java/lang/StringLatin1", "charAt", "([BI)C"⟩ : MethodName) jdk_43_method_2_code 2 (some .char) ws ({ frames := 2, cells := 0, slots := 0, locals := 29 } : Room) #[(.ref t1), (.int (3 : Int32))] h0 TrueV (PureQ (some (.int c3)) h0) := by
  refine Ctr.intro (plainFor_of_name pn_java_lang_StringLatin1) (Ls := #[.val (.ref t1), .val (.int (3 : Int32))]) (fun m => by first | (simp [entryFrame, mkF, argsToLocals, Value.category]; done) | rfl) ?_
  intro p e s m below meth c T0 hx hby hml hown hnm hret hlk hZ hV hsh e0 X0
  have N0 := Fr.nil n0
  show Done _ p e below s _ _ (T0.setTop (mkF m 0 #[oR t1, oI (3 : Int32)] []))
  refine Done.step (fun _ => XS.iloadN X0.here hx rfl (hb hby d17_0) rfl) ?_
  show Done _ p e below s _ _ (T0.setTop (mkF m 1 #[oR t1, oI (3 : Int32)] [(.int (3 : Int32))]))
  refine Done.step (fun _ => XS.aloadN X0.here hx rfl (hb hby d17_1) rfl rfl) ?_
  show Done _ p e below s _ _ (T0.setTop (mkF m 2 #[oR t1, oI (3 : Int32)] [(.ref t1), (.int (3 : Int32))]))
  obtain ⟨cl1, Ar1, q1, S1, Nn1, H1, G1⟩ := id K1
  refine Done.step (X0.arraylength hx (by first | exact Ar1.1 | (rw [e0]; exact Ar1.1)) (State.isArrayOf_alike hZ.alike Ar1.2.1) (g := (mkF m 2 #[oR t1, oI (3 : Int32)] [(.ref t1), (.int (3 : Int32))])) rfl rfl (hb hby d17_2)) ?_
  rw [len_of S1 Nn1]
  show Done _ p e below s _ _ (T0.setTop (mkF m 3 #[oR t1, oI (3 : Int32)] [(.int (4 : Int32)), (.int (3 : Int32))]))
  refine Done.callSP X0 hx hZ hown (wAt hw 80 rfl) (wAt hw 81 rfl) (wAt hw 11 rfl) (wAt hw 82 rfl) (by decide) (rmCI l Z a0 hw [] (3 : Int32) (4 : Int32) z fm h0 n0 Z0 O0 SC hz SF rF SA SH SL (by decide) (by decide)) e0 (g := (mkF m 3 #[oR t1, oI (3 : Int32)] [(.int (4 : Int32)), (.int (3 : Int32))])) rfl (by rw [hml]; rfl) [(.int (3 : Int32)), (.int (4 : Int32))] [] 0 (lenOf pd_10 rfl) rfl rfl (by show 2 * 0 + _ ≤ _; exact Nat.le_of_eq rfl) (hb hby d17_3) (by decide) (by decide) (by decide) (by decide) rfl rfl ?_
  intro T2 X2 e2
  show Done _ p e below s _ _ (T2.setTop (mkF m 6 #[oR t1, oI (3 : Int32)] []))
  refine Done.step (fun _ => XS.aloadN X2.here hx rfl (hb hby d17_6) rfl rfl) ?_
  show Done _ p e below s _ _ (T2.setTop (mkF m 7 #[oR t1, oI (3 : Int32)] [(.ref t1)]))
  refine Done.step (fun _ => XS.iloadN X2.here hx rfl (hb hby d17_7) rfl) ?_
  show Done _ p e below s _ _ (T2.setTop (mkF m 8 #[oR t1, oI (3 : Int32)] [(.int (3 : Int32)), (.ref t1)]))
  obtain ⟨cl3, Ar3, q3, S3, Nn3, H3, G3⟩ := id K1
  have hin3 : ¬ ((3 : Int32) < 0 ∨ cl3.slots.size ≤ ((3 : Int32)).toNatClampNeg) := inb_of S3 ⟨by decide, by decide⟩
  have hat3 := Has.at H3 hin3 (v := (.int (own_by c3))) rfl
  refine Done.step (X2.baloadBytes hx (j := (3 : Int32)) (v := (.int (own_by c3))) (by first | exact Ar3.1 | (rw [e2]; exact Ar3.1)) (State.isArrayOf_alike hZ.alike Ar3.2.1) Ar3.2.2 hin3 hat3 (g := (mkF m 8 #[oR t1, oI (3 : Int32)] [(.int (3 : Int32)), (.ref t1)])) rfl rfl (hb hby d17_8)) ?_
  show Done _ p e below s _ _ (T2.setTop (mkF m 9 #[oR t1, oI (3 : Int32)] [(.int (own_by c3))]))
  refine Done.step (fun _ => XT.sipushV X2.here hx rfl (255 : Int32) (hb hby d17_9) (by decide)) ?_
  show Done _ p e below s _ _ (T2.setTop (mkF m 12 #[oR t1, oI (3 : Int32)] [(.int (255 : Int32)), (.int (own_by c3))]))
  refine Done.step (fun _ => XS.iand X2.here hx rfl (hb hby d17_12) rfl) ?_
  show Done _ p e below s _ _ (T2.setTop (mkF m 13 #[oR t1, oI (3 : Int32)] [(.int ((own_by c3) &&& (255 : Int32)))]))
  refine Done.step (fun _ => XT.i2c X2.here hx rfl (hb hby d17_13) rfl) ?_
  show Done _ p e below s _ _ (T2.setTop (mkF m 14 #[oR t1, oI (3 : Int32)] [(.int (((own_by c3) &&& (255 : Int32)).toUInt32.toUInt16.toUInt32.toInt32))]))
  exact Done.retN (leavesF X2 hlk (by decide) (by decide)) X2 hx (t := .char) hret (by simp) (hb hby d17_14) ⟨by rw [own_narI, own_jb hq3, own_c255 hq3], e2, rfl⟩
set_option maxRecDepth 65536 in
set_option maxHeartbeats 40000000 in
theorem rC043 (l : Launch) (Z : State) (a0 : Array Value) (hw : ∀ d ∈ tables_1, d.before a0 Z = true) (ws : List Jvm.Cond) (x1 t1 : Addr) (kb1 : ClassId) (c0 c1 c2 c3 : Int32) (z : Int32) (fm : Value) (h0 : Heap) (n0 : Nat) (Z0 : n0 ≤ h0.size) (O0 : Old Z n0 h0) (SC : Sta Z Z.heap "java/lang/String" "COMPACT_STRINGS" "Z" (.int z)) (hz : ¬ z = 0) (SF : Sta Z Z.heap "jdk/internal/util/Preconditions" "SIOOBE_FORMATTER" "Ljava/util/function/BiFunction;" fm) (rF : fm.isRef = true) (SA : Sta Z Z.heap "java/lang/StringUTF16" "$assertionsDisabled" "Z" (.int (1 : Int32))) (SH : Sta Z Z.heap "java/lang/StringUTF16" "HI_BYTE_SHIFT" "I" (.int (0 : Int32))) (SL : Sta Z Z.heap "java/lang/StringUTF16" "LO_BYTE_SHIFT" "I" (.int (8 : Int32))) (E1 : Exa Z h0 x1 "java/lang/String") (V1 : Fld Z h0 x1 "java/lang/String" "value" "[B" (.ref t1)) (C1 : Fld Z h0 x1 "java/lang/String" "coder" "B" (.int (0 : Int32))) (K1 : Arv Z h0 t1 kb1 .byte (4 : Int32) [(.int (own_by c0)), (.int (own_by c1)), (.int (own_by c2)), (.int (own_by c3))] (.int (0 : Int32))) (hq3 : ¬ c3 < 0 ∧ ¬ (255 : Int32) < c3) :
    Ctr FrameEnd l Z (⟨"java/lang/String", "charAt", "(I)C"⟩ : MethodName) jdk_42_method_56_code 2 (some .char) ws ({ frames := 4, cells := 0, slots := 0, locals := 60 } : Room) #[(.ref x1), (.int (3 : Int32))] h0 TrueV (PureQ (some (.int c3)) h0) := by
  refine Ctr.intro (plainFor_of_name pn_java_lang_String) (Ls := #[.val (.ref x1), .val (.int (3 : Int32))]) (fun m => by first | (simp [entryFrame, mkF, argsToLocals, Value.category]; done) | rfl) ?_
  intro p e s m below meth c T0 hx hby hml hown hnm hret hlk hZ hV hsh e0 X0
  have N0 := Fr.nil n0
  show Done _ p e below s _ _ (T0.setTop (mkF m 0 #[oR x1, oI (3 : Int32)] []))
  refine Done.step (fun _ => XS.aloadN X0.here hx rfl (hb hby d15_0) rfl rfl) ?_
  show Done _ p e below s _ _ (T0.setTop (mkF m 1 #[oR x1, oI (3 : Int32)] [(.ref x1)]))
  refine Done.callVP X0 hx hZ (C := "java/lang/String") hown (wAt hw 72 rfl) (wAt hw 73 rfl) (notFace_of_selects (args := #[]) (mvT hZ (wAt hw 75 rfl))) (wAt hw 75 rfl) (wAt hw 74 rfl) (wAt hw 11 rfl) (wAt hw 76 rfl) (by decide) (rmIL0 l Z a0 hw [] x1 z fm h0 n0 Z0 O0 SC hz SF rF SA SH SL C1) e0 E1 (g := (mkF m 1 #[oR x1, oI (3 : Int32)] [(.ref x1)])) rfl (by rw [hml]; rfl) [] [] 0 (lenOf pd_11 rfl) rfl rfl (by show 2 * 0 + _ ≤ _; exact Nat.le_of_eq rfl) (hb hby d15_1) (by decide) (by decide) (by decide) (by decide) rfl rfl ?_
  intro T1 X1 e1
  show Done _ p e below s _ _ (T1.setTop (mkF m 4 #[oR x1, oI (3 : Int32)] [(.int (1 : Int32))]))
  refine Done.step (fun _ => XS.ifNo X1.here hx rfl (hb hby d15_4) rfl (XT.i0_eq_f (by decide))) ?_
  show Done _ p e below s _ _ (T1.setTop (mkF m 7 #[oR x1, oI (3 : Int32)] []))
  refine Done.step (fun _ => XS.aloadN X1.here hx rfl (hb hby d15_7) rfl rfl) ?_
  show Done _ p e below s _ _ (T1.setTop (mkF m 8 #[oR x1, oI (3 : Int32)] [(.ref x1)]))
  obtain ⟨T2, X2, e2, st2⟩ := getF X1 hx hZ hown (host := "") (Or.inl (wAt hw 29 rfl)) Via.refl e1 V1 (g := (mkF m 8 #[oR x1, oI (3 : Int32)] [(.ref x1)])) rfl rfl (hb hby d15_8)
  refine Done.step st2 ?_
  show Done _ p e below s _ _ (T2.setTop (mkF m 11 #[oR x1, oI (3 : Int32)] [(.ref t1)]))
  refine Done.step (fun _ => XS.iloadN X2.here hx rfl (hb hby d15_11) rfl) ?_
  show Done _ p e below s _ _ (T2.setTop (mkF m 12 #[oR x1, oI (3 : Int32)] [(.int (3 : Int32)), (.ref t1)]))
  refine Done.callSP X2 hx hZ hown (wAt hw 77 rfl) (wAt hw 78 rfl) (wAt hw 58 rfl) (wAt hw 79 rfl) (by decide) (rA043 l Z a0 hw [] t1 kb1 c0 c1 c2 c3 z fm h0 n0 Z0 O0 SC hz SF rF SA SH SL K1 hq3) e2 (g := (mkF m 12 #[oR x1, oI (3 : Int32)] [(.int (3 : Int32)), (.ref t1)])) rfl (by rw [hml]; rfl) [(.ref t1), (.int (3 : Int32))] [] 0 (lenOf pd_6 rfl) rfl rfl (by show 2 * 0 + _ ≤ _; exact Nat.le_of_eq rfl) (hb hby d15_12) (by decide) (by decide) (by decide) (by decide) rfl rfl ?_
  intro T3 X3 e3
  show Done _ p e below s _ _ (T3.setTop (mkF m 15 #[oR x1, oI (3 : Int32)] [(.int c3)]))
  exact Done.retN (leavesF X3 hlk (by decide) (by decide)) X3 hx (t := .char) hret (by simp) (hb hby d15_15) ⟨by rw [own_nar2 (own_wide hq3)], e3, rfl⟩
set_option maxRecDepth 65536 in
set_option maxHeartbeats 40000000 in
theorem rL14 (l : Launch) (Z : State) (a0 : Array Value) (hw : ∀ d ∈ tables_1, d.before a0 Z = true) (ws : List Jvm.Cond) (x1 t1 : Addr) (kb1 : ClassId) (c0 c1 c2 c3 : Int32) (z : Int32) (fm : Value) (h0 : Heap) (n0 : Nat) (Z0 : n0 ≤ h0.size) (O0 : Old Z n0 h0) (SC : Sta Z Z.heap "java/lang/String" "COMPACT_STRINGS" "Z" (.int z)) (hz : ¬ z = 0) (SF : Sta Z Z.heap "jdk/internal/util/Preconditions" "SIOOBE_FORMATTER" "Ljava/util/function/BiFunction;" fm) (rF : fm.isRef = true) (SA : Sta Z Z.heap "java/lang/StringUTF16" "$assertionsDisabled" "Z" (.int (1 : Int32))) (SH : Sta Z Z.heap "java/lang/StringUTF16" "HI_BYTE_SHIFT" "I" (.int (0 : Int32))) (SL : Sta Z Z.heap "java/lang/StringUTF16" "LO_BYTE_SHIFT" "I" (.int (8 : Int32))) (E1 : Exa Z h0 x1 "java/lang/String") (V1 : Fld Z h0 x1 "java/lang/String" "value" "[B" (.ref t1)) (C1 : Fld Z h0 x1 "java/lang/String" "coder" "B" (.int (1 : Int32))) (K1 : Arv Z h0 t1 kb1 .byte (8 : Int32) [(.int (own_hi c0)), (.int (own_lo c0)), (.int (own_hi c1)), (.int (own_lo c1)), (.int (own_hi c2)), (.int (own_lo c2)), (.int (own_hi c3)), (.int (own_lo c3))] (.int (0 : Int32))) :
    Ctr FrameEnd l Z (⟨"java/lang/String", "length", "()I"⟩ : MethodName) jdk_42_method_54_code 1 (some .int) ws ({ frames := 1, cells := 0, slots := 0, locals := 13 } : Room) #[(.ref x1)] h0 TrueV (PureQ (some (.int (4 : Int32))) h0) := by
  refine Ctr.intro (plainFor_of_name pn_java_lang_String) (Ls := #[.val (.ref x1)]) (fun m => by first | (simp [entryFrame, mkF, argsToLocals, Value.category]; done) | rfl) ?_
  intro p e s m below meth c T0 hx hby hml hown hnm hret hlk hZ hV hsh e0 X0
  have N0 := Fr.nil n0
  show Done _ p e below s _ _ (T0.setTop (mkF m 0 #[oR x1] []))
  refine Done.step (fun _ => XS.aloadN X0.here hx rfl (hb hby d7_0) rfl rfl) ?_
  show Done _ p e below s _ _ (T0.setTop (mkF m 1 #[oR x1] [(.ref x1)]))
  obtain ⟨T1, X1, e1, st1⟩ := getF X0 hx hZ hown (host := "") (Or.inl (wAt hw 29 rfl)) Via.refl e0 V1 (g := (mkF m 1 #[oR x1] [(.ref x1)])) rfl rfl (hb hby d7_1)
  refine Done.step st1 ?_
  show Done _ p e below s _ _ (T1.setTop (mkF m 4 #[oR x1] [(.ref t1)]))
  obtain ⟨cl2, Ar2, q2, S2, Nn2, H2, G2⟩ := id K1
  refine Done.step (X1.arraylength hx (by first | exact Ar2.1 | (rw [e1]; exact Ar2.1)) (State.isArrayOf_alike hZ.alike Ar2.2.1) (g := (mkF m 4 #[oR x1] [(.ref t1)])) rfl rfl (hb hby d7_4)) ?_
  rw [len_of S2 Nn2]
  show Done _ p e below s _ _ (T1.setTop (mkF m 5 #[oR x1] [(.int (8 : Int32))]))
  refine Done.step (fun _ => XS.aloadN X1.here hx rfl (hb hby d7_5) rfl rfl) ?_
  show Done _ p e below s _ _ (T1.setTop (mkF m 6 #[oR x1] [(.ref x1), (.int (8 : Int32))]))
  refine Done.callVP X1 hx hZ (C := "java/lang/String") hown (wAt hw 40 rfl) (wAt hw 41 rfl) (notFace_of_selects (args := #[]) (mvT hZ (wAt hw 43 rfl))) (wAt hw 43 rfl) (wAt hw 42 rfl) (wAt hw 11 rfl) (wAt hw 44 rfl) (by decide) (rmCo1 l Z a0 hw [] x1 z fm h0 n0 Z0 O0 SC hz SF rF SA SH SL C1) e1 E1 (g := (mkF m 6 #[oR x1] [(.ref x1), (.int (8 : Int32))])) rfl (by rw [hml]; rfl) [] [(.int (8 : Int32))] 1 (lenOf pd_9 rfl) rfl rfl (by show 2 * 0 + _ ≤ _; exact Nat.le_of_eq rfl) (hb hby d7_6) (by decide) (by decide) (by decide) (by decide) rfl rfl ?_
  intro T3 X3 e3
  show Done _ p e below s _ _ (T3.setTop (mkF m 9 #[oR x1] [(.int (1 : Int32)), (.int (8 : Int32))]))
  refine Done.step (fun _ => XT.ishr X3.here hx rfl (hb hby d7_9) rfl) ?_
  show Done _ p e below s _ _ (T3.setTop (mkF m 10 #[oR x1] [(.int (4 : Int32))]))
  exact Done.retI (leavesF X3 hlk (by decide) (by decide)) X3 hx hret (hb hby d7_10) ⟨rfl, e3, rfl⟩
set_option maxRecDepth 65536 in
set_option maxHeartbeats 40000000 in
theorem rU4 (l : Launch) (Z : State) (a0 : Array Value) (hw : ∀ d ∈ tables_1, d.before a0 Z = true) (ws : List Jvm.Cond) (t1 : Addr) (kb1 : ClassId) (c0 c1 c2 c3 : Int32) (z : Int32) (fm : Value) (h0 : Heap) (n0 : Nat) (Z0 : n0 ≤ h0.size) (O0 : Old Z n0 h0) (SC : Sta Z Z.heap "java/lang/String" "COMPACT_STRINGS" "Z" (.int z)) (hz : ¬ z = 0) (SF : Sta Z Z.heap "jdk/internal/util/Preconditions" "SIOOBE_FORMATTER" "Ljava/util/function/BiFunction;" fm) (rF : fm.isRef = true) (SA : Sta Z Z.heap "java/lang/StringUTF16" "$assertionsDisabled" "Z" (.int (1 : Int32))) (SH : Sta Z Z.heap "java/lang/StringUTF16" "HI_BYTE_SHIFT" "I" (.int (0 : Int32))) (SL : Sta Z Z.heap "java/lang/StringUTF16" "LO_BYTE_SHIFT" "I" (.int (8 : Int32))) (K1 : Arv Z h0 t1 kb1 .byte (8 : Int32) [(.int (own_hi c0)), (.int (own_lo c0)), (.int (own_hi c1)), (.int (own_lo c1)), (.int (own_hi c2)), (.int (own_lo c2)), (.int (own_hi c3)), (.int (own_lo c3))] (.int (0 : Int32))) :
    Ctr FrameEnd l Z (⟨"java/lang/StringUTF16", "length", "([B)I"⟩ : MethodName) jdk_52_method_6_code 1 (some .int) ws ({ frames := 0, cells := 0, slots := 0, locals := 0 } : Room) #[(.ref t1)] h0 TrueV (PureQ (some (.int (4 : Int32))) h0) := by
  refine Ctr.intro (plainFor_of_name pn_java_lang_StringUTF16) (Ls := #[.val (.ref t1)]) (fun m => by first | (simp [entryFrame, mkF, argsToLocals, Value.category]; done) | rfl) ?_
  intro p e s m below meth c T0 hx hby hml hown hnm hret hlk hZ hV hsh e0 X0
  have N0 := Fr.nil n0
  show Done _ p e below s _ _ (T0.setTop (mkF m 0 #[oR t1] []))
  refine Done.step (fun _ => XS.aloadN X0.here hx rfl (hb hby d30_0) rfl rfl) ?_
  show Done _ p e below s _ _ (T0.setTop (mkF m 1 #[oR t1] [(.ref t1)]))
  obtain ⟨cl1, Ar1, q1, S1, Nn1, H1, G1⟩ := id K1
  refine Done.step (X0.arraylength hx (by first | exact Ar1.1 | (rw [e0]; exact Ar1.1)) (State.isArrayOf_alike hZ.alike Ar1.2.1) (g := (mkF m 1 #[oR t1] [(.ref t1)])) rfl rfl (hb hby d30_1)) ?_
  rw [len_of S1 Nn1]
  show Done _ p e below s _ _ (T0.setTop (mkF m 2 #[oR t1] [(.int (8 : Int32))]))
  refine Done.step (fun _ => XT.iconstV X0.here hx rfl (1 : Int32) (hb hby d30_2) (by decide)) ?_
  show Done _ p e below s _ _ (T0.setTop (mkF m 3 #[oR t1] [(.int (1 : Int32)), (.int (8 : Int32))]))
  refine Done.step (fun _ => XT.ishr X0.here hx rfl (hb hby d30_3) rfl) ?_
  show Done _ p e below s _ _ (T0.setTop (mkF m 4 #[oR t1] [(.int (4 : Int32))]))
  exact Done.retI (leavesF X0 hlk (by decide) (by decide)) X0 hx hret (hb hby d30_4) ⟨rfl, e0, rfl⟩
set_option maxRecDepth 65536 in
set_option maxHeartbeats 40000000 in
theorem rV40 (l : Launch) (Z : State) (a0 : Array Value) (hw : ∀ d ∈ tables_1, d.before a0 Z = true) (ws : List Jvm.Cond) (t1 : Addr) (kb1 : ClassId) (c0 c1 c2 c3 : Int32) (z : Int32) (fm : Value) (h0 : Heap) (n0 : Nat) (Z0 : n0 ≤ h0.size) (O0 : Old Z n0 h0) (SC : Sta Z Z.heap "java/lang/String" "COMPACT_STRINGS" "Z" (.int z)) (hz : ¬ z = 0) (SF : Sta Z Z.heap "jdk/internal/util/Preconditions" "SIOOBE_FORMATTER" "Ljava/util/function/BiFunction;" fm) (rF : fm.isRef = true) (SA : Sta Z Z.heap "java/lang/StringUTF16" "$assertionsDisabled" "Z" (.int (1 : Int32))) (SH : Sta Z Z.heap "java/lang/StringUTF16" "HI_BYTE_SHIFT" "I" (.int (0 : Int32))) (SL : Sta Z Z.heap "java/lang/StringUTF16" "LO_BYTE_SHIFT" "I" (.int (8 : Int32))) (K1 : Arv Z h0 t1 kb1 .byte (8 : Int32) [(.int (own_hi c0)), (.int (own_lo c0)), (.int (own_hi c1)), (.int (own_lo c1)), (.int (own_hi c2)), (.int (own_lo c2)), (.int (own_hi c3)), (.int (own_lo c3))] (.int (0 : Int32))) :
    Ctr FrameEnd l Z (⟨"java/lang/StringUTF16", "checkIndex", "(I[B)V"⟩ : MethodName) jdk_52_method_91_code 2 none ws ({ frames := 2, cells := 0, slots := 0, locals := 29 } : Room) #[(.int (0 : Int32)), (.ref t1)] h0 TrueV (PureQ none h0) := by
  refine Ctr.intro (plainFor_of_name pn_java_lang_StringUTF16) (Ls := #[.val (.int (0 : Int32)), .val (.ref t1)]) (fun m => by first | (simp [entryFrame, mkF, argsToLocals, Value.category]; done) | rfl) ?_
  intro p e s m below meth c T0 hx hby hml hown hnm hret hlk hZ hV hsh e0 X0
  have N0 := Fr.nil n0
  show Done _ p e below s _ _ (T0.setTop (mkF m 0 #[oI (0 : Int32), oR t1] []))
  refine Done.step (fun _ => XS.iloadN X0.here hx rfl (hb hby d29_0) rfl) ?_
  show Done _ p e below s _ _ (T0.setTop (mkF m 1 #[oI (0 : Int32), oR t1] [(.int (0 : Int32))]))
  refine Done.step (fun _ => XS.aloadN X0.here hx rfl (hb hby d29_1) rfl rfl) ?_
  show Done _ p e below s _ _ (T0.setTop (mkF m 2 #[oI (0 : Int32), oR t1] [(.ref t1), (.int (0 : Int32))]))
  refine Done.callSP X0 hx hZ hown (wAt hw 123 rfl) (wAt hw 124 rfl) (wAt hw 90 rfl) (wAt hw 125 rfl) (by decide) (rU4 l Z a0 hw [] t1 kb1 c0 c1 c2 c3 z fm h0 n0 Z0 O0 SC hz SF rF SA SH SL K1) e0 (g := (mkF m 2 #[oI (0 : Int32), oR t1] [(.ref t1), (.int (0 : Int32))])) rfl (by rw [hml]; rfl) [(.ref t1)] [(.int (0 : Int32))] 1 (lenOf pd_12 rfl) rfl rfl (by show 2 * 0 + _ ≤ _; exact Nat.le_of_eq rfl) (hb hby d29_2) (by decide) (by decide) (by decide) (by decide) rfl rfl ?_
  intro T1 X1 e1
  show Done _ p e below s _ _ (T1.setTop (mkF m 5 #[oI (0 : Int32), oR t1] [(.int (4 : Int32)), (.int (0 : Int32))]))
  refine Done.callSP X1 hx hZ hown (wAt hw 126 rfl) (wAt hw 81 rfl) (wAt hw 11 rfl) (wAt hw 82 rfl) (by decide) (rmCI l Z a0 hw [] (0 : Int32) (4 : Int32) z fm h0 n0 Z0 O0 SC hz SF rF SA SH SL (by decide) (by decide)) e1 (g := (mkF m 5 #[oI (0 : Int32), oR t1] [(.int (4 : Int32)), (.int (0 : Int32))])) rfl (by rw [hml]; rfl) [(.int (0 : Int32)), (.int (4 : Int32))] [] 0 (lenOf pd_10 rfl) rfl rfl (by show 2 * 0 + _ ≤ _; exact Nat.le_of_eq rfl) (hb hby d29_5) (by decide) (by decide) (by decide) (by decide) rfl rfl ?_
  intro T2 X2 e2
  show Done _ p e below s _ _ (T2.setTop (mkF m 8 #[oI (0 : Int32), oR t1] []))
  exact Done.retV (leavesF X2 hlk (by decide) (by decide)) X2 hx hret (hb hby d29_8) ⟨rfl, e2, rfl⟩
set_option maxRecDepth 65536 in
set_option maxHeartbeats 40000000 in
theorem rA140 (l : Launch) (Z : State) (a0 : Array Value) (hw : ∀ d ∈ tables_1, d.before a0 Z = true) (ws : List Jvm.Cond) (t1 : Addr) (kb1 : ClassId) (c0 c1 c2 c3 : Int32) (z : Int32) (fm : Value) (h0 : Heap) (n0 : Nat) (Z0 : n0 ≤ h0.size) (O0 : Old Z n0 h0) (SC : Sta Z Z.heap "java/lang/String" "COMPACT_STRINGS" "Z" (.int z)) (hz : ¬ z = 0) (SF : Sta Z Z.heap "jdk/internal/util/Preconditions" "SIOOBE_FORMATTER" "Ljava/util/function/BiFunction;" fm) (rF : fm.isRef = true) (SA : Sta Z Z.heap "java/lang/StringUTF16" "$assertionsDisabled" "Z" (.int (1 : Int32))) (SH : Sta Z Z.heap "java/lang/StringUTF16" "HI_BYTE_SHIFT" "I" (.int (0 : Int32))) (SL : Sta Z Z.heap "java/lang/StringUTF16" "LO_BYTE_SHIFT" "I" (.int (8 : Int32))) (K1 : Arv Z h0 t1 kb1 .byte (8 : Int32) [(.int (own_hi c0)), (.int (own_lo c0)), (.int (own_hi c1)), (.int (own_lo c1)), (.int (own_hi c2)), (.int (own_lo c2)), (.int (own_hi c3)), (.int (own_lo c3))] (.int (0 : Int32))) (hq0 : ¬ c0 < 0 ∧ ¬ (65535 : Int32) < c0) :
    Ctr FrameEnd l Z (⟨"java/lang/StringUTF16", "charAt", "([BI)C"⟩ : MethodName) jdk_52_method_83_code 2 (some .char) ws ({ frames := 3, cells := 0, slots := 0, locals := 44 } : Room) #[(.ref t1), (.int (0 : Int32))] h0 TrueV (PureQ (some (.int c0)) h0) := by
  refine Ctr.intro (plainFor_of_name pn_java_lang_StringUTF16) (Ls := #[.val (.ref t1), .val (.int (0 : Int32))]) (fun m => by first | (simp [entryFrame, mkF, argsToLocals, Value.category]; done) | rfl) ?_
  intro p e s m below meth c T0 hx hby hml hown hnm hret hlk hZ hV hsh e0 X0
  have N0 := Fr.nil n0
  show Done _ p e below s _ _ (T0.setTop (mkF m 0 #[oR t1, oI (0 : Int32)] []))
  refine Done.step (fun _ => XS.iloadN X0.here hx rfl (hb hby d28_0) rfl) ?_
  show Done _ p e below s _ _ (T0.setTop (mkF m 1 #[oR t1, oI (0 : Int32)] [(.int (0 : Int32))]))
  refine Done.step (fun _ => XS.aloadN X0.here hx rfl (hb hby d28_1) rfl rfl) ?_
  show Done _ p e below s _ _ (T0.setTop (mkF m 2 #[oR t1, oI (0 : Int32)] [(.ref t1), (.int (0 : Int32))]))
  refine Done.callSP X0 hx hZ hown (wAt hw 120 rfl) (wAt hw 121 rfl) (wAt hw 90 rfl) (wAt hw 122 rfl) (by decide) (rV40 l Z a0 hw [] t1 kb1 c0 c1 c2 c3 z fm h0 n0 Z0 O0 SC hz SF rF SA SH SL K1) e0 (g := (mkF m 2 #[oR t1, oI (0 : Int32)] [(.ref t1), (.int (0 : Int32))])) rfl (by rw [hml]; rfl) [(.int (0 : Int32)), (.ref t1)] [] 0 (lenOf pd_13 rfl) rfl rfl (by show 2 * 0 + _ ≤ _; exact Nat.le_of_eq rfl) (hb hby d28_2) (by decide) (by decide) (by decide) (by decide) rfl rfl ?_
  intro T1 X1 e1
  show Done _ p e below s _ _ (T1.setTop (mkF m 5 #[oR t1, oI (0 : Int32)] []))
  refine Done.step (fun _ => XS.aloadN X1.here hx rfl (hb hby d28_5) rfl rfl) ?_
  show Done _ p e below s _ _ (T1.setTop (mkF m 6 #[oR t1, oI (0 : Int32)] [(.ref t1)]))
  refine Done.step (fun _ => XS.iloadN X1.here hx rfl (hb hby d28_6) rfl) ?_
  show Done _ p e below s _ _ (T1.setTop (mkF m 7 #[oR t1, oI (0 : Int32)] [(.int (0 : Int32)), (.ref t1)]))
  refine Done.callSP X1 hx hZ hown (wAt hw 111 rfl) (wAt hw 112 rfl) (wAt hw 90 rfl) (wAt hw 113 rfl) (by decide) (ug_40 l Z a0 hw [] t1 kb1 (own_hi c0) (own_lo c0) (own_hi c1) (own_lo c1) (own_hi c2) (own_lo c2) (own_hi c3) (own_lo c3) h0 n0 Z0 O0 SA SH SL K1) e1 (g := (mkF m 7 #[oR t1, oI (0 : Int32)] [(.int (0 : Int32)), (.ref t1)])) rfl (by rw [hml]; rfl) [(.ref t1), (.int (0 : Int32))] [] 0 (lenOf pd_6 rfl) rfl rfl (by show 2 * 0 + _ ≤ _; exact Nat.le_of_eq rfl) (hb hby d28_7) (by decide) (by decide) (by decide) (by decide) rfl rfl ?_
  intro T2 X2 e2
  show Done _ p e below s _ _ (T2.setTop (mkF m 10 #[oR t1, oI (0 : Int32)] [(.int (own_join (own_hi c0) (own_lo c0)))]))
  exact Done.retN (leavesF X2 hlk (by decide) (by decide)) X2 hx (t := .char) hret (by simp) (hb hby d28_10) ⟨by rw [own_narj, own_jn hq0], e2, rfl⟩
set_option maxRecDepth 65536 in
set_option maxHeartbeats 40000000 in
theorem rC140 (l : Launch) (Z : State) (a0 : Array Value) (hw : ∀ d ∈ tables_1, d.before a0 Z = true) (ws : List Jvm.Cond) (x1 t1 : Addr) (kb1 : ClassId) (c0 c1 c2 c3 : Int32) (z : Int32) (fm : Value) (h0 : Heap) (n0 : Nat) (Z0 : n0 ≤ h0.size) (O0 : Old Z n0 h0) (SC : Sta Z Z.heap "java/lang/String" "COMPACT_STRINGS" "Z" (.int z)) (hz : ¬ z = 0) (SF : Sta Z Z.heap "jdk/internal/util/Preconditions" "SIOOBE_FORMATTER" "Ljava/util/function/BiFunction;" fm) (rF : fm.isRef = true) (SA : Sta Z Z.heap "java/lang/StringUTF16" "$assertionsDisabled" "Z" (.int (1 : Int32))) (SH : Sta Z Z.heap "java/lang/StringUTF16" "HI_BYTE_SHIFT" "I" (.int (0 : Int32))) (SL : Sta Z Z.heap "java/lang/StringUTF16" "LO_BYTE_SHIFT" "I" (.int (8 : Int32))) (E1 : Exa Z h0 x1 "java/lang/String") (V1 : Fld Z h0 x1 "java/lang/String" "value" "[B" (.ref t1)) (C1 : Fld Z h0 x1 "java/lang/String" "coder" "B" (.int (1 : Int32))) (K1 : Arv Z h0 t1 kb1 .byte (8 : Int32) [(.int (own_hi c0)), (.int (own_lo c0)), (.int (own_hi c1)), (.int (own_lo c1)), (.int (own_hi c2)), (.int (own_lo c2)), (.int (own_hi c3)), (.int (own_lo c3))] (.int (0 : Int32))) (hq0 : ¬ c0 < 0 ∧ ¬ (65535 : Int32) < c0) :
    Ctr FrameEnd l Z (⟨"java/lang/String", "charAt", "(I)C"⟩ : MethodName) jdk_42_method_56_code 2 (some .char) ws ({ frames := 4, cells := 0, slots := 0, locals := 60 } : Room) #[(.ref x1), (.int (0 : Int32))] h0 TrueV (PureQ (some (.int c0)) h0) := by
  refine Ctr.intro (plainFor_of_name pn_java_lang_String) (Ls := #[.val (.ref x1), .val (.int (0 : Int32))]) (fun m => by first | (simp [entryFrame, mkF, argsToLocals, Value.category]; done) | rfl) ?_
  intro p e s m below meth c T0 hx hby hml hown hnm hret hlk hZ hV hsh e0 X0
  have N0 := Fr.nil n0
  show Done _ p e below s _ _ (T0.setTop (mkF m 0 #[oR x1, oI (0 : Int32)] []))
  refine Done.step (fun _ => XS.aloadN X0.here hx rfl (hb hby d15_0) rfl rfl) ?_
  show Done _ p e below s _ _ (T0.setTop (mkF m 1 #[oR x1, oI (0 : Int32)] [(.ref x1)]))
  refine Done.callVP X0 hx hZ (C := "java/lang/String") hown (wAt hw 72 rfl) (wAt hw 73 rfl) (notFace_of_selects (args := #[]) (mvT hZ (wAt hw 75 rfl))) (wAt hw 75 rfl) (wAt hw 74 rfl) (wAt hw 11 rfl) (wAt hw 76 rfl) (by decide) (rmIL1 l Z a0 hw [] x1 z fm h0 n0 Z0 O0 SC hz SF rF SA SH SL C1) e0 E1 (g := (mkF m 1 #[oR x1, oI (0 : Int32)] [(.ref x1)])) rfl (by rw [hml]; rfl) [] [] 0 (lenOf pd_11 rfl) rfl rfl (by show 2 * 0 + _ ≤ _; exact Nat.le_of_eq rfl) (hb hby d15_1) (by decide) (by decide) (by decide) (by decide) rfl rfl ?_
  intro T1 X1 e1
  show Done _ p e below s _ _ (T1.setTop (mkF m 4 #[oR x1, oI (0 : Int32)] [(.int (0 : Int32))]))
  refine Done.step (fun _ => XS.ifYes X1.here hx rfl (pc0 := 4) (pc' := 16) rfl (hb hby d15_4) rfl (XT.i0_eq_t rfl) (by decide) (by decide)) ?_
  show Done _ p e below s _ _ (T1.setTop (mkF m 16 #[oR x1, oI (0 : Int32)] []))
  refine Done.step (fun _ => XS.aloadN X1.here hx rfl (hb hby d15_16) rfl rfl) ?_
  show Done _ p e below s _ _ (T1.setTop (mkF m 17 #[oR x1, oI (0 : Int32)] [(.ref x1)]))
  obtain ⟨T2, X2, e2, st2⟩ := getF X1 hx hZ hown (host := "") (Or.inl (wAt hw 29 rfl)) Via.refl e1 V1 (g := (mkF m 17 #[oR x1, oI (0 : Int32)] [(.ref x1)])) rfl rfl (hb hby d15_17)
  refine Done.step st2 ?_
  show Done _ p e below s _ _ (T2.setTop (mkF m 20 #[oR x1, oI (0 : Int32)] [(.ref t1)]))
  refine Done.step (fun _ => XS.iloadN X2.here hx rfl (hb hby d15_20) rfl) ?_
  show Done _ p e below s _ _ (T2.setTop (mkF m 21 #[oR x1, oI (0 : Int32)] [(.int (0 : Int32)), (.ref t1)]))
  refine Done.callSP X2 hx hZ hown (wAt hw 117 rfl) (wAt hw 118 rfl) (wAt hw 90 rfl) (wAt hw 119 rfl) (by decide) (rA140 l Z a0 hw [] t1 kb1 c0 c1 c2 c3 z fm h0 n0 Z0 O0 SC hz SF rF SA SH SL K1 hq0) e2 (g := (mkF m 21 #[oR x1, oI (0 : Int32)] [(.int (0 : Int32)), (.ref t1)])) rfl (by rw [hml]; rfl) [(.ref t1), (.int (0 : Int32))] [] 0 (lenOf pd_6 rfl) rfl rfl (by show 2 * 0 + _ ≤ _; exact Nat.le_of_eq rfl) (hb hby d15_21) (by decide) (by decide) (by decide) (by decide) rfl rfl ?_
  intro T3 X3 e3
  show Done _ p e below s _ _ (T3.setTop (mkF m 24 #[oR x1, oI (0 : Int32)] [(.int c0)]))
  exact Done.retN (leavesF X3 hlk (by decide) (by decide)) X3 hx (t := .char) hret (by simp) (hb hby d15_24) ⟨by rw [own_nar2 hq0], e3, rfl⟩
set_option maxRecDepth 65536 in
set_option maxHeartbeats 40000000 in
theorem rV41 (l : Launch) (Z : State) (a0 : Array Value) (hw : ∀ d ∈ tables_1, d.before a0 Z = true) (ws : List Jvm.Cond) (t1 : Addr) (kb1 : ClassId) (c0 c1 c2 c3 : Int32) (z : Int32) (fm : Value) (h0 : Heap) (n0 : Nat) (Z0 : n0 ≤ h0.size) (O0 : Old Z n0 h0) (SC : Sta Z Z.heap "java/lang/String" "COMPACT_STRINGS" "Z" (.int z)) (hz : ¬ z = 0) (SF : Sta Z Z.heap "jdk/internal/util/Preconditions" "SIOOBE_FORMATTER" "Ljava/util/function/BiFunction;" fm) (rF : fm.isRef = true) (SA : Sta Z Z.heap "java/lang/StringUTF16" "$assertionsDisabled" "Z" (.int (1 : Int32))) (SH : Sta Z Z.heap "java/lang/StringUTF16" "HI_BYTE_SHIFT" "I" (.int (0 : Int32))) (SL : Sta Z Z.heap "java/lang/StringUTF16" "LO_BYTE_SHIFT" "I" (.int (8 : Int32))) (K1 : Arv Z h0 t1 kb1 .byte (8 : Int32) [(.int (own_hi c0)), (.int (own_lo c0)), (.int (own_hi c1)), (.int (own_lo c1)), (.int (own_hi c2)), (.int (own_lo c2)), (.int (own_hi c3)), (.int (own_lo c3))] (.int (0 : Int32))) :
    Ctr FrameEnd l Z (⟨"java/lang/StringUTF16", "checkIndex", "(I[B)V"⟩ : MethodName) jdk_52_method_91_code 2 none ws ({ frames := 2, cells := 0, slots := 0, locals := 29 } : Room) #[(.int (1 : Int32)), (.ref t1)] h0 TrueV (PureQ none h0) := by
  refine Ctr.intro (plainFor_of_name pn_java_lang_StringUTF16) (Ls := #[.val (.int (1 : Int32)), .val (.ref t1)]) (fun m => by first | (simp [entryFrame, mkF, argsToLocals, Value.category]; done) | rfl) ?_
  intro p e s m below meth c T0 hx hby hml hown hnm hret hlk hZ hV hsh e0 X0
  have N0 := Fr.nil n0
  show Done _ p e below s _ _ (T0.setTop (mkF m 0 #[oI (1 : Int32), oR t1] []))
  refine Done.step (fun _ => XS.iloadN X0.here hx rfl (hb hby d29_0) rfl) ?_
  show Done _ p e below s _ _ (T0.setTop (mkF m 1 #[oI (1 : Int32), oR t1] [(.int (1 : Int32))]))
  refine Done.step (fun _ => XS.aloadN X0.here hx rfl (hb hby d29_1) rfl rfl) ?_
  show Done _ p e below s _ _ (T0.setTop (mkF m 2 #[oI (1 : Int32), oR t1] [(.ref t1), (.int (1 : Int32))]))
  refine Done.callSP X0 hx hZ hown (wAt hw 123 rfl) (wAt hw 124 rfl) (wAt hw 90 rfl) (wAt hw 125 rfl) (by decide) (rU4 l Z a0 hw [] t1 kb1 c0 c1 c2 c3 z fm h0 n0 Z0 O0 SC hz SF rF SA SH SL K1) e0 (g := (mkF m 2 #[oI (1 : Int32), oR t1] [(.ref t1), (.int (1 : Int32))])) rfl (by rw [hml]; rfl) [(.ref t1)] [(.int (1 : Int32))] 1 (lenOf pd_12 rfl) rfl rfl (by show 2 * 0 + _ ≤ _; exact Nat.le_of_eq rfl) (hb hby d29_2) (by decide) (by decide) (by decide) (by decide) rfl rfl ?_
  intro T1 X1 e1
  show Done _ p e below s _ _ (T1.setTop (mkF m 5 #[oI (1 : Int32), oR t1] [(.int (4 : Int32)), (.int (1 : Int32))]))
  refine Done.callSP X1 hx hZ hown (wAt hw 126 rfl) (wAt hw 81 rfl) (wAt hw 11 rfl) (wAt hw 82 rfl) (by decide) (rmCI l Z a0 hw [] (1 : Int32) (4 : Int32) z fm h0 n0 Z0 O0 SC hz SF rF SA SH SL (by decide) (by decide)) e1 (g := (mkF m 5 #[oI (1 : Int32), oR t1] [(.int (4 : Int32)), (.int (1 : Int32))])) rfl (by rw [hml]; rfl) [(.int (1 : Int32)), (.int (4 : Int32))] [] 0 (lenOf pd_10 rfl) rfl rfl (by show 2 * 0 + _ ≤ _; exact Nat.le_of_eq rfl) (hb hby d29_5) (by decide) (by decide) (by decide) (by decide) rfl rfl ?_
  intro T2 X2 e2
  show Done _ p e below s _ _ (T2.setTop (mkF m 8 #[oI (1 : Int32), oR t1] []))
  exact Done.retV (leavesF X2 hlk (by decide) (by decide)) X2 hx hret (hb hby d29_8) ⟨rfl, e2, rfl⟩
set_option maxRecDepth 65536 in
set_option maxHeartbeats 40000000 in
theorem rA141 (l : Launch) (Z : State) (a0 : Array Value) (hw : ∀ d ∈ tables_1, d.before a0 Z = true) (ws : List Jvm.Cond) (t1 : Addr) (kb1 : ClassId) (c0 c1 c2 c3 : Int32) (z : Int32) (fm : Value) (h0 : Heap) (n0 : Nat) (Z0 : n0 ≤ h0.size) (O0 : Old Z n0 h0) (SC : Sta Z Z.heap "java/lang/String" "COMPACT_STRINGS" "Z" (.int z)) (hz : ¬ z = 0) (SF : Sta Z Z.heap "jdk/internal/util/Preconditions" "SIOOBE_FORMATTER" "Ljava/util/function/BiFunction;" fm) (rF : fm.isRef = true) (SA : Sta Z Z.heap "java/lang/StringUTF16" "$assertionsDisabled" "Z" (.int (1 : Int32))) (SH : Sta Z Z.heap "java/lang/StringUTF16" "HI_BYTE_SHIFT" "I" (.int (0 : Int32))) (SL : Sta Z Z.heap "java/lang/StringUTF16" "LO_BYTE_SHIFT" "I" (.int (8 : Int32))) (K1 : Arv Z h0 t1 kb1 .byte (8 : Int32) [(.int (own_hi c0)), (.int (own_lo c0)), (.int (own_hi c1)), (.int (own_lo c1)), (.int (own_hi c2)), (.int (own_lo c2)), (.int (own_hi c3)), (.int (own_lo c3))] (.int (0 : Int32))) (hq1 : ¬ c1 < 0 ∧ ¬ (65535 : Int32) < c1) :
    Ctr FrameEnd l Z (⟨"java/lang/StringUTF16", "charAt", "([BI)C"⟩ : MethodName) jdk_52_method_83_code 2 (some .char) ws ({ frames := 3, cells := 0, slots := 0, locals := 44 } : Room) #[(.ref t1), (.int (1 : Int32))] h0 TrueV (PureQ (some (.int c1)) h0) := by
  refine Ctr.intro (plainFor_of_name pn_java_lang_StringUTF16) (Ls := #[.val (.ref t1), .val (.int (1 : Int32))]) (fun m => by first | (simp [entryFrame, mkF, argsToLocals, Value.category]; done) | rfl) ?_
  intro p e s m below meth c T0 hx hby hml hown hnm hret hlk hZ hV hsh e0 X0
  have N0 := Fr.nil n0
  show Done _ p e below s _ _ (T0.setTop (mkF m 0 #[oR t1, oI (1 : Int32)] []))
  refine Done.step (fun _ => XS.iloadN X0.here hx rfl (hb hby d28_0) rfl) ?_
  show Done _ p e below s _ _ (T0.setTop (mkF m 1 #[oR t1, oI (1 : Int32)] [(.int (1 : Int32))]))
  refine Done.step (fun _ => XS.aloadN X0.here hx rfl (hb hby d28_1) rfl rfl) ?_
  show Done _ p e below s _ _ (T0.setTop (mkF m 2 #[oR t1, oI (1 : Int32)] [(.ref t1), (.int (1 : Int32))]))
  refine Done.callSP X0 hx hZ hown (wAt hw 120 rfl) (wAt hw 121 rfl) (wAt hw 90 rfl) (wAt hw 122 rfl) (by decide) (rV41 l Z a0 hw [] t1 kb1 c0 c1 c2 c3 z fm h0 n0 Z0 O0 SC hz SF rF SA SH SL K1) e0 (g := (mkF m 2 #[oR t1, oI (1 : Int32)] [(.ref t1), (.int (1 : Int32))])) rfl (by rw [hml]; rfl) [(.int (1 : Int32)), (.ref t1)] [] 0 (lenOf pd_13 rfl) rfl rfl (by show 2 * 0 + _ ≤ _; exact Nat.le_of_eq rfl) (hb hby d28_2) (by decide) (by decide) (by decide) (by decide) rfl rfl ?_
  intro T1 X1 e1
  show Done _ p e below s _ _ (T1.setTop (mkF m 5 #[oR t1, oI (1 : Int32)] []))
  refine Done.step (fun _ => XS.aloadN X1.here hx rfl (hb hby d28_5) rfl rfl) ?_
  show Done _ p e below s _ _ (T1.setTop (mkF m 6 #[oR t1, oI (1 : Int32)] [(.ref t1)]))
  refine Done.step (fun _ => XS.iloadN X1.here hx rfl (hb hby d28_6) rfl) ?_
  show Done _ p e below s _ _ (T1.setTop (mkF m 7 #[oR t1, oI (1 : Int32)] [(.int (1 : Int32)), (.ref t1)]))
  refine Done.callSP X1 hx hZ hown (wAt hw 111 rfl) (wAt hw 112 rfl) (wAt hw 90 rfl) (wAt hw 113 rfl) (by decide) (ug_41 l Z a0 hw [] t1 kb1 (own_hi c0) (own_lo c0) (own_hi c1) (own_lo c1) (own_hi c2) (own_lo c2) (own_hi c3) (own_lo c3) h0 n0 Z0 O0 SA SH SL K1) e1 (g := (mkF m 7 #[oR t1, oI (1 : Int32)] [(.int (1 : Int32)), (.ref t1)])) rfl (by rw [hml]; rfl) [(.ref t1), (.int (1 : Int32))] [] 0 (lenOf pd_6 rfl) rfl rfl (by show 2 * 0 + _ ≤ _; exact Nat.le_of_eq rfl) (hb hby d28_7) (by decide) (by decide) (by decide) (by decide) rfl rfl ?_
  intro T2 X2 e2
  show Done _ p e below s _ _ (T2.setTop (mkF m 10 #[oR t1, oI (1 : Int32)] [(.int (own_join (own_hi c1) (own_lo c1)))]))
  exact Done.retN (leavesF X2 hlk (by decide) (by decide)) X2 hx (t := .char) hret (by simp) (hb hby d28_10) ⟨by rw [own_narj, own_jn hq1], e2, rfl⟩
set_option maxRecDepth 65536 in
set_option maxHeartbeats 40000000 in
theorem rC141 (l : Launch) (Z : State) (a0 : Array Value) (hw : ∀ d ∈ tables_1, d.before a0 Z = true) (ws : List Jvm.Cond) (x1 t1 : Addr) (kb1 : ClassId) (c0 c1 c2 c3 : Int32) (z : Int32) (fm : Value) (h0 : Heap) (n0 : Nat) (Z0 : n0 ≤ h0.size) (O0 : Old Z n0 h0) (SC : Sta Z Z.heap "java/lang/String" "COMPACT_STRINGS" "Z" (.int z)) (hz : ¬ z = 0) (SF : Sta Z Z.heap "jdk/internal/util/Preconditions" "SIOOBE_FORMATTER" "Ljava/util/function/BiFunction;" fm) (rF : fm.isRef = true) (SA : Sta Z Z.heap "java/lang/StringUTF16" "$assertionsDisabled" "Z" (.int (1 : Int32))) (SH : Sta Z Z.heap "java/lang/StringUTF16" "HI_BYTE_SHIFT" "I" (.int (0 : Int32))) (SL : Sta Z Z.heap "java/lang/StringUTF16" "LO_BYTE_SHIFT" "I" (.int (8 : Int32))) (E1 : Exa Z h0 x1 "java/lang/String") (V1 : Fld Z h0 x1 "java/lang/String" "value" "[B" (.ref t1)) (C1 : Fld Z h0 x1 "java/lang/String" "coder" "B" (.int (1 : Int32))) (K1 : Arv Z h0 t1 kb1 .byte (8 : Int32) [(.int (own_hi c0)), (.int (own_lo c0)), (.int (own_hi c1)), (.int (own_lo c1)), (.int (own_hi c2)), (.int (own_lo c2)), (.int (own_hi c3)), (.int (own_lo c3))] (.int (0 : Int32))) (hq1 : ¬ c1 < 0 ∧ ¬ (65535 : Int32) < c1) :
    Ctr FrameEnd l Z (⟨"java/lang/String", "charAt", "(I)C"⟩ : MethodName) jdk_42_method_56_code 2 (some .char) ws ({ frames := 4, cells := 0, slots := 0, locals := 60 } : Room) #[(.ref x1), (.int (1 : Int32))] h0 TrueV (PureQ (some (.int c1)) h0) := by
  refine Ctr.intro (plainFor_of_name pn_java_lang_String) (Ls := #[.val (.ref x1), .val (.int (1 : Int32))]) (fun m => by first | (simp [entryFrame, mkF, argsToLocals, Value.category]; done) | rfl) ?_
  intro p e s m below meth c T0 hx hby hml hown hnm hret hlk hZ hV hsh e0 X0
  have N0 := Fr.nil n0
  show Done _ p e below s _ _ (T0.setTop (mkF m 0 #[oR x1, oI (1 : Int32)] []))
  refine Done.step (fun _ => XS.aloadN X0.here hx rfl (hb hby d15_0) rfl rfl) ?_
  show Done _ p e below s _ _ (T0.setTop (mkF m 1 #[oR x1, oI (1 : Int32)] [(.ref x1)]))
  refine Done.callVP X0 hx hZ (C := "java/lang/String") hown (wAt hw 72 rfl) (wAt hw 73 rfl) (notFace_of_selects (args := #[]) (mvT hZ (wAt hw 75 rfl))) (wAt hw 75 rfl) (wAt hw 74 rfl) (wAt hw 11 rfl) (wAt hw 76 rfl) (by decide) (rmIL1 l Z a0 hw [] x1 z fm h0 n0 Z0 O0 SC hz SF rF SA SH SL C1) e0 E1 (g := (mkF m 1 #[oR x1, oI (1 : Int32)] [(.ref x1)])) rfl (by rw [hml]; rfl) [] [] 0 (lenOf pd_11 rfl) rfl rfl (by show 2 * 0 + _ ≤ _; exact Nat.le_of_eq rfl) (hb hby d15_1) (by decide) (by decide) (by decide) (by decide) rfl rfl ?_
  intro T1 X1 e1
  show Done _ p e below s _ _ (T1.setTop (mkF m 4 #[oR x1, oI (1 : Int32)] [(.int (0 : Int32))]))
  refine Done.step (fun _ => XS.ifYes X1.here hx rfl (pc0 := 4) (pc' := 16) rfl (hb hby d15_4) rfl (XT.i0_eq_t rfl) (by decide) (by decide)) ?_
  show Done _ p e below s _ _ (T1.setTop (mkF m 16 #[oR x1, oI (1 : Int32)] []))
  refine Done.step (fun _ => XS.aloadN X1.here hx rfl (hb hby d15_16) rfl rfl) ?_
  show Done _ p e below s _ _ (T1.setTop (mkF m 17 #[oR x1, oI (1 : Int32)] [(.ref x1)]))
  obtain ⟨T2, X2, e2, st2⟩ := getF X1 hx hZ hown (host := "") (Or.inl (wAt hw 29 rfl)) Via.refl e1 V1 (g := (mkF m 17 #[oR x1, oI (1 : Int32)] [(.ref x1)])) rfl rfl (hb hby d15_17)
  refine Done.step st2 ?_
  show Done _ p e below s _ _ (T2.setTop (mkF m 20 #[oR x1, oI (1 : Int32)] [(.ref t1)]))
  refine Done.step (fun _ => XS.iloadN X2.here hx rfl (hb hby d15_20) rfl) ?_
  show Done _ p e below s _ _ (T2.setTop (mkF m 21 #[oR x1, oI (1 : Int32)] [(.int (1 : Int32)), (.ref t1)]))
  refine Done.callSP X2 hx hZ hown (wAt hw 117 rfl) (wAt hw 118 rfl) (wAt hw 90 rfl) (wAt hw 119 rfl) (by decide) (rA141 l Z a0 hw [] t1 kb1 c0 c1 c2 c3 z fm h0 n0 Z0 O0 SC hz SF rF SA SH SL K1 hq1) e2 (g := (mkF m 21 #[oR x1, oI (1 : Int32)] [(.int (1 : Int32)), (.ref t1)])) rfl (by rw [hml]; rfl) [(.ref t1), (.int (1 : Int32))] [] 0 (lenOf pd_6 rfl) rfl rfl (by show 2 * 0 + _ ≤ _; exact Nat.le_of_eq rfl) (hb hby d15_21) (by decide) (by decide) (by decide) (by decide) rfl rfl ?_
  intro T3 X3 e3
  show Done _ p e below s _ _ (T3.setTop (mkF m 24 #[oR x1, oI (1 : Int32)] [(.int c1)]))
  exact Done.retN (leavesF X3 hlk (by decide) (by decide)) X3 hx (t := .char) hret (by simp) (hb hby d15_24) ⟨by rw [own_nar2 hq1], e3, rfl⟩
set_option maxRecDepth 65536 in
set_option maxHeartbeats 40000000 in
theorem rV42 (l : Launch) (Z : State) (a0 : Array Value) (hw : ∀ d ∈ tables_1, d.before a0 Z = true) (ws : List Jvm.Cond) (t1 : Addr) (kb1 : ClassId) (c0 c1 c2 c3 : Int32) (z : Int32) (fm : Value) (h0 : Heap) (n0 : Nat) (Z0 : n0 ≤ h0.size) (O0 : Old Z n0 h0) (SC : Sta Z Z.heap "java/lang/String" "COMPACT_STRINGS" "Z" (.int z)) (hz : ¬ z = 0) (SF : Sta Z Z.heap "jdk/internal/util/Preconditions" "SIOOBE_FORMATTER" "Ljava/util/function/BiFunction;" fm) (rF : fm.isRef = true) (SA : Sta Z Z.heap "java/lang/StringUTF16" "$assertionsDisabled" "Z" (.int (1 : Int32))) (SH : Sta Z Z.heap "java/lang/StringUTF16" "HI_BYTE_SHIFT" "I" (.int (0 : Int32))) (SL : Sta Z Z.heap "java/lang/StringUTF16" "LO_BYTE_SHIFT" "I" (.int (8 : Int32))) (K1 : Arv Z h0 t1 kb1 .byte (8 : Int32) [(.int (own_hi c0)), (.int (own_lo c0)), (.int (own_hi c1)), (.int (own_lo c1)), (.int (own_hi c2)), (.int (own_lo c2)), (.int (own_hi c3)), (.int (own_lo c3))] (.int (0 : Int32))) :
    Ctr FrameEnd l Z (⟨"java/lang/StringUTF16", "checkIndex", "(I[B)V"⟩ : MethodName) jdk_52_method_91_code 2 none ws ({ frames := 2, cells := 0, slots := 0, locals := 29 } : Room) #[(.int (2 : Int32)), (.ref t1)] h0 TrueV (PureQ none h0) := by
  refine Ctr.intro (plainFor_of_name pn_java_lang_StringUTF16) (Ls := #[.val (.int (2 : Int32)), .val (.ref t1)]) (fun m => by first | (simp [entryFrame, mkF, argsToLocals, Value.category]; done) | rfl) ?_
  intro p e s m below meth c T0 hx hby hml hown hnm hret hlk hZ hV hsh e0 X0
  have N0 := Fr.nil n0
  show Done _ p e below s _ _ (T0.setTop (mkF m 0 #[oI (2 : Int32), oR t1] []))
  refine Done.step (fun _ => XS.iloadN X0.here hx rfl (hb hby d29_0) rfl) ?_
  show Done _ p e below s _ _ (T0.setTop (mkF m 1 #[oI (2 : Int32), oR t1] [(.int (2 : Int32))]))
  refine Done.step (fun _ => XS.aloadN X0.here hx rfl (hb hby d29_1) rfl rfl) ?_
  show Done _ p e below s _ _ (T0.setTop (mkF m 2 #[oI (2 : Int32), oR t1] [(.ref t1), (.int (2 : Int32))]))
  refine Done.callSP X0 hx hZ hown (wAt hw 123 rfl) (wAt hw 124 rfl) (wAt hw 90 rfl) (wAt hw 125 rfl) (by decide) (rU4 l Z a0 hw [] t1 kb1 c0 c1 c2 c3 z fm h0 n0 Z0 O0 SC hz SF rF SA SH SL K1) e0 (g := (mkF m 2 #[oI (2 : Int32), oR t1] [(.ref t1), (.int (2 : Int32))])) rfl (by rw [hml]; rfl) [(.ref t1)] [(.int (2 : Int32))] 1 (lenOf pd_12 rfl) rfl rfl (by show 2 * 0 + _ ≤ _; exact Nat.le_of_eq rfl) (hb hby d29_2) (by decide) (by decide) (by decide) (by decide) rfl rfl ?_
  intro T1 X1 e1
  show Done _ p e below s _ _ (T1.setTop (mkF m 5 #[oI (2 : Int32), oR t1] [(.int (4 : Int32)), (.int (2 : Int32))]))
  refine Done.callSP X1 hx hZ hown (wAt hw 126 rfl) (wAt hw 81 rfl) (wAt hw 11 rfl) (wAt hw 82 rfl) (by decide) (rmCI l Z a0 hw [] (2 : Int32) (4 : Int32) z fm h0 n0 Z0 O0 SC hz SF rF SA SH SL (by decide) (by decide)) e1 (g := (mkF m 5 #[oI (2 : Int32), oR t1] [(.int (4 : Int32)), (.int (2 : Int32))])) rfl (by rw [hml]; rfl) [(.int (2 : Int32)), (.int (4 : Int32))] [] 0 (lenOf pd_10 rfl) rfl rfl (by show 2 * 0 + _ ≤ _; exact Nat.le_of_eq rfl) (hb hby d29_5) (by decide) (by decide) (by decide) (by decide) rfl rfl ?_
  intro T2 X2 e2
  show Done _ p e below s _ _ (T2.setTop (mkF m 8 #[oI (2 : Int32), oR t1] []))
  exact Done.retV (leavesF X2 hlk (by decide) (by decide)) X2 hx hret (hb hby d29_8) ⟨rfl, e2, rfl⟩
set_option maxRecDepth 65536 in
set_option maxHeartbeats 40000000 in
theorem rA142 (l : Launch) (Z : State) (a0 : Array Value) (hw : ∀ d ∈ tables_1, d.before a0 Z = true) (ws : List Jvm.Cond) (t1 : Addr) (kb1 : ClassId) (c0 c1 c2 c3 : Int32) (z : Int32) (fm : Value) (h0 : Heap) (n0 : Nat) (Z0 : n0 ≤ h0.size) (O0 : Old Z n0 h0) (SC : Sta Z Z.heap "java/lang/String" "COMPACT_STRINGS" "Z" (.int z)) (hz : ¬ z = 0) (SF : Sta Z Z.heap "jdk/internal/util/Preconditions" "SIOOBE_FORMATTER" "Ljava/util/function/BiFunction;" fm) (rF : fm.isRef = true) (SA : Sta Z Z.heap "java/lang/StringUTF16" "$assertionsDisabled" "Z" (.int (1 : Int32))) (SH : Sta Z Z.heap "java/lang/StringUTF16" "HI_BYTE_SHIFT" "I" (.int (0 : Int32))) (SL : Sta Z Z.heap "java/lang/StringUTF16" "LO_BYTE_SHIFT" "I" (.int (8 : Int32))) (K1 : Arv Z h0 t1 kb1 .byte (8 : Int32) [(.int (own_hi c0)), (.int (own_lo c0)), (.int (own_hi c1)), (.int (own_lo c1)), (.int (own_hi c2)), (.int (own_lo c2)), (.int (own_hi c3)), (.int (own_lo c3))] (.int (0 : Int32))) (hq2 : ¬ c2 < 0 ∧ ¬ (65535 : Int32) < c2) :
    Ctr FrameEnd l Z (⟨"java/lang/StringUTF16", "charAt", "([BI)C"⟩ : MethodName) jdk_52_method_83_code 2 (some .char) ws ({ frames := 3, cells := 0, slots := 0, locals := 44 } : Room) #[(.ref t1), (.int (2 : Int32))] h0 TrueV (PureQ (some (.int c2)) h0) := by
  refine Ctr.intro (plainFor_of_name pn_java_lang_StringUTF16) (Ls := #[.val (.ref t1), .val (.int (2 : Int32))]) (fun m => by first | (simp [entryFrame, mkF, argsToLocals, Value.category]; done) | rfl) ?_
  intro p e s m below meth c T0 hx hby hml hown hnm hret hlk hZ hV hsh e0 X0
  have N0 := Fr.nil n0
  show Done _ p e below s _ _ (T0.setTop (mkF m 0 #[oR t1, oI (2 : Int32)] []))
  refine Done.step (fun _ => XS.iloadN X0.here hx rfl (hb hby d28_0) rfl) ?_
  show Done _ p e below s _ _ (T0.setTop (mkF m 1 #[oR t1, oI (2 : Int32)] [(.int (2 : Int32))]))
  refine Done.step (fun _ => XS.aloadN X0.here hx rfl (hb hby d28_1) rfl rfl) ?_
  show Done _ p e below s _ _ (T0.setTop (mkF m 2 #[oR t1, oI (2 : Int32)] [(.ref t1), (.int (2 : Int32))]))
  refine Done.callSP X0 hx hZ hown (wAt hw 120 rfl) (wAt hw 121 rfl) (wAt hw 90 rfl) (wAt hw 122 rfl) (by decide) (rV42 l Z a0 hw [] t1 kb1 c0 c1 c2 c3 z fm h0 n0 Z0 O0 SC hz SF rF SA SH SL K1) e0 (g := (mkF m 2 #[oR t1, oI (2 : Int32)] [(.ref t1), (.int (2 : Int32))])) rfl (by rw [hml]; rfl) [(.int (2 : Int32)), (.ref t1)] [] 0 (lenOf pd_13 rfl) rfl rfl (by show 2 * 0 + _ ≤ _; exact Nat.le_of_eq rfl) (hb hby d28_2) (by decide) (by decide) (by decide) (by decide) rfl rfl ?_
  intro T1 X1 e1
  show Done _ p e below s _ _ (T1.setTop (mkF m 5 #[oR t1, oI (2 : Int32)] []))
  refine Done.step (fun _ => XS.aloadN X1.here hx rfl (hb hby d28_5) rfl rfl) ?_
  show Done _ p e below s _ _ (T1.setTop (mkF m 6 #[oR t1, oI (2 : Int32)] [(.ref t1)]))
  refine Done.step (fun _ => XS.iloadN X1.here hx rfl (hb hby d28_6) rfl) ?_
  show Done _ p e below s _ _ (T1.setTop (mkF m 7 #[oR t1, oI (2 : Int32)] [(.int (2 : Int32)), (.ref t1)]))
  refine Done.callSP X1 hx hZ hown (wAt hw 111 rfl) (wAt hw 112 rfl) (wAt hw 90 rfl) (wAt hw 113 rfl) (by decide) (ug_42 l Z a0 hw [] t1 kb1 (own_hi c0) (own_lo c0) (own_hi c1) (own_lo c1) (own_hi c2) (own_lo c2) (own_hi c3) (own_lo c3) h0 n0 Z0 O0 SA SH SL K1) e1 (g := (mkF m 7 #[oR t1, oI (2 : Int32)] [(.int (2 : Int32)), (.ref t1)])) rfl (by rw [hml]; rfl) [(.ref t1), (.int (2 : Int32))] [] 0 (lenOf pd_6 rfl) rfl rfl (by show 2 * 0 + _ ≤ _; exact Nat.le_of_eq rfl) (hb hby d28_7) (by decide) (by decide) (by decide) (by decide) rfl rfl ?_
  intro T2 X2 e2
  show Done _ p e below s _ _ (T2.setTop (mkF m 10 #[oR t1, oI (2 : Int32)] [(.int (own_join (own_hi c2) (own_lo c2)))]))
  exact Done.retN (leavesF X2 hlk (by decide) (by decide)) X2 hx (t := .char) hret (by simp) (hb hby d28_10) ⟨by rw [own_narj, own_jn hq2], e2, rfl⟩
set_option maxRecDepth 65536 in
set_option maxHeartbeats 40000000 in
theorem rC142 (l : Launch) (Z : State) (a0 : Array Value) (hw : ∀ d ∈ tables_1, d.before a0 Z = true) (ws : List Jvm.Cond) (x1 t1 : Addr) (kb1 : ClassId) (c0 c1 c2 c3 : Int32) (z : Int32) (fm : Value) (h0 : Heap) (n0 : Nat) (Z0 : n0 ≤ h0.size) (O0 : Old Z n0 h0) (SC : Sta Z Z.heap "java/lang/String" "COMPACT_STRINGS" "Z" (.int z)) (hz : ¬ z = 0) (SF : Sta Z Z.heap "jdk/internal/util/Preconditions" "SIOOBE_FORMATTER" "Ljava/util/function/BiFunction;" fm) (rF : fm.isRef = true) (SA : Sta Z Z.heap "java/lang/StringUTF16" "$assertionsDisabled" "Z" (.int (1 : Int32))) (SH : Sta Z Z.heap "java/lang/StringUTF16" "HI_BYTE_SHIFT" "I" (.int (0 : Int32))) (SL : Sta Z Z.heap "java/lang/StringUTF16" "LO_BYTE_SHIFT" "I" (.int (8 : Int32))) (E1 : Exa Z h0 x1 "java/lang/String") (V1 : Fld Z h0 x1 "java/lang/String" "value" "[B" (.ref t1)) (C1 : Fld Z h0 x1 "java/lang/String" "coder" "B" (.int (1 : Int32))) (K1 : Arv Z h0 t1 kb1 .byte (8 : Int32) [(.int (own_hi c0)), (.int (own_lo c0)), (.int (own_hi c1)), (.int (own_lo c1)), (.int (own_hi c2)), (.int (own_lo c2)), (.int (own_hi c3)), (.int (own_lo c3))] (.int (0 : Int32))) (hq2 : ¬ c2 < 0 ∧ ¬ (65535 : Int32) < c2) :
    Ctr FrameEnd l Z (⟨"java/lang/String", "charAt", "(I)C"⟩ : MethodName) jdk_42_method_56_code 2 (some .char) ws ({ frames := 4, cells := 0, slots := 0, locals := 60 } : Room) #[(.ref x1), (.int (2 : Int32))] h0 TrueV (PureQ (some (.int c2)) h0) := by
  refine Ctr.intro (plainFor_of_name pn_java_lang_String) (Ls := #[.val (.ref x1), .val (.int (2 : Int32))]) (fun m => by first | (simp [entryFrame, mkF, argsToLocals, Value.category]; done) | rfl) ?_
  intro p e s m below meth c T0 hx hby hml hown hnm hret hlk hZ hV hsh e0 X0
  have N0 := Fr.nil n0
  show Done _ p e below s _ _ (T0.setTop (mkF m 0 #[oR x1, oI (2 : Int32)] []))
  refine Done.step (fun _ => XS.aloadN X0.here hx rfl (hb hby d15_0) rfl rfl) ?_
  show Done _ p e below s _ _ (T0.setTop (mkF m 1 #[oR x1, oI (2 : Int32)] [(.ref x1)]))
  refine Done.callVP X0 hx hZ (C := "java/lang/String") hown (wAt hw 72 rfl) (wAt hw 73 rfl) (notFace_of_selects (args := #[]) (mvT hZ (wAt hw 75 rfl))) (wAt hw 75 rfl) (wAt hw 74 rfl) (wAt hw 11 rfl) (wAt hw 76 rfl) (by decide) (rmIL1 l Z a0 hw [] x1 z fm h0 n0 Z0 O0 SC hz SF rF SA SH SL C1) e0 E1 (g := (mkF m 1 #[oR x1, oI (2 : Int32)] [(.ref x1)])) rfl (by rw [hml]; rfl) [] [] 0 (lenOf pd_11 rfl) rfl rfl (by show 2 * 0 + _ ≤ _; exact Nat.le_of_eq rfl) (hb hby d15_1) (by decide) (by decide) (by decide) (by decide) rfl rfl ?_
  intro T1 X1 e1
  show Done _ p e below s _ _ (T1.setTop (mkF m 4 #[oR x1, oI (2 : Int32)] [(.int (0 : Int32))]))
  refine Done.step (fun _ => XS.ifYes X1.here hx rfl (pc0 := 4) (pc' := 16) rfl (hb hby d15_4) rfl (XT.i0_eq_t rfl) (by decide) (by decide)) ?_
  show Done _ p e below s _ _ (T1.setTop (mkF m 16 #[oR x1, oI (2 : Int32)] []))
  refine Done.step (fun _ => XS.aloadN X1.here hx rfl (hb hby d15_16) rfl rfl) ?_
  show Done _ p e below s _ _ (T1.setTop (mkF m 17 #[oR x1, oI (2 : Int32)] [(.ref x1)]))
  obtain ⟨T2, X2, e2, st2⟩ := getF X1 hx hZ hown (host := "") (Or.inl (wAt hw 29 rfl)) Via.refl e1 V1 (g := (mkF m 17 #[oR x1, oI (2 : Int32)] [(.ref x1)])) rfl rfl (hb hby d15_17)
  refine Done.step st2 ?_
  show Done _ p e below s _ _ (T2.setTop (mkF m 20 #[oR x1, oI (2 : Int32)] [(.ref t1)]))
  refine Done.step (fun _ => XS.iloadN X2.here hx rfl (hb hby d15_20) rfl) ?_
  show Done _ p e below s _ _ (T2.setTop (mkF m 21 #[oR x1, oI (2 : Int32)] [(.int (2 : Int32)), (.ref t1)]))
  refine Done.callSP X2 hx hZ hown (wAt hw 117 rfl) (wAt hw 118 rfl) (wAt hw 90 rfl) (wAt hw 119 rfl) (by decide) (rA142 l Z a0 hw [] t1 kb1 c0 c1 c2 c3 z fm h0 n0 Z0 O0 SC hz SF rF SA SH SL K1 hq2) e2 (g := (mkF m 21 #[oR x1, oI (2 : Int32)] [(.int (2 : Int32)), (.ref t1)])) rfl (by rw [hml]; rfl) [(.ref t1), (.int (2 : Int32))] [] 0 (lenOf pd_6 rfl) rfl rfl (by show 2 * 0 + _ ≤ _; exact Nat.le_of_eq rfl) (hb hby d15_21) (by decide) (by decide) (by decide) (by decide) rfl rfl ?_
  intro T3 X3 e3
  show Done _ p e below s _ _ (T3.setTop (mkF m 24 #[oR x1, oI (2 : Int32)] [(.int c2)]))
  exact Done.retN (leavesF X3 hlk (by decide) (by decide)) X3 hx (t := .char) hret (by simp) (hb hby d15_24) ⟨by rw [own_nar2 hq2], e3, rfl⟩
set_option maxRecDepth 65536 in
set_option maxHeartbeats 40000000 in
theorem rV43 (l : Launch) (Z : State) (a0 : Array Value) (hw : ∀ d ∈ tables_1, d.before a0 Z = true) (ws : List Jvm.Cond) (t1 : Addr) (kb1 : ClassId) (c0 c1 c2 c3 : Int32) (z : Int32) (fm : Value) (h0 : Heap) (n0 : Nat) (Z0 : n0 ≤ h0.size) (O0 : Old Z n0 h0) (SC : Sta Z Z.heap "java/lang/String" "COMPACT_STRINGS" "Z" (.int z)) (hz : ¬ z = 0) (SF : Sta Z Z.heap "jdk/internal/util/Preconditions" "SIOOBE_FORMATTER" "Ljava/util/function/BiFunction;" fm) (rF : fm.isRef = true) (SA : Sta Z Z.heap "java/lang/StringUTF16" "$assertionsDisabled" "Z" (.int (1 : Int32))) (SH : Sta Z Z.heap "java/lang/StringUTF16" "HI_BYTE_SHIFT" "I" (.int (0 : Int32))) (SL : Sta Z Z.heap "java/lang/StringUTF16" "LO_BYTE_SHIFT" "I" (.int (8 : Int32))) (K1 : Arv Z h0 t1 kb1 .byte (8 : Int32) [(.int (own_hi c0)), (.int (own_lo c0)), (.int (own_hi c1)), (.int (own_lo c1)), (.int (own_hi c2)), (.int (own_lo c2)), (.int (own_hi c3)), (.int (own_lo c3))] (.int (0 : Int32))) :
    Ctr FrameEnd l Z (⟨"java/lang/StringUTF16", "checkIndex", "(I[B)V"⟩ : MethodName) jdk_52_method_91_code 2 none ws ({ frames := 2, cells := 0, slots := 0, locals := 29 } : Room) #[(.int (3 : Int32)), (.ref t1)] h0 TrueV (PureQ none h0) := by
  refine Ctr.intro (plainFor_of_name pn_java_lang_StringUTF16) (Ls := #[.val (.int (3 : Int32)), .val (.ref t1)]) (fun m => by first | (simp [entryFrame, mkF, argsToLocals, Value.category]; done) | rfl) ?_
  intro p e s m below meth c T0 hx hby hml hown hnm hret hlk hZ hV hsh e0 X0
  have N0 := Fr.nil n0
  show Done _ p e below s _ _ (T0.setTop (mkF m 0 #[oI (3 : Int32), oR t1] []))
  refine Done.step (fun _ => XS.iloadN X0.here hx rfl (hb hby d29_0) rfl) ?_
  show Done _ p e below s _ _ (T0.setTop (mkF m 1 #[oI (3 : Int32), oR t1] [(.int (3 : Int32))]))
  refine Done.step (fun _ => XS.aloadN X0.here hx rfl (hb hby d29_1) rfl rfl) ?_
  show Done _ p e below s _ _ (T0.setTop (mkF m 2 #[oI (3 : Int32), oR t1] [(.ref t1), (.int (3 : Int32))]))
  refine Done.callSP X0 hx hZ hown (wAt hw 123 rfl) (wAt hw 124 rfl) (wAt hw 90 rfl) (wAt hw 125 rfl) (by decide) (rU4 l Z a0 hw [] t1 kb1 c0 c1 c2 c3 z fm h0 n0 Z0 O0 SC hz SF rF SA SH SL K1) e0 (g := (mkF m 2 #[oI (3 : Int32), oR t1] [(.ref t1), (.int (3 : Int32))])) rfl (by rw [hml]; rfl) [(.ref t1)] [(.int (3 : Int32))] 1 (lenOf pd_12 rfl) rfl rfl (by show 2 * 0 + _ ≤ _; exact Nat.le_of_eq rfl) (hb hby d29_2) (by decide) (by decide) (by decide) (by decide) rfl rfl ?_
  intro T1 X1 e1
  show Done _ p e below s _ _ (T1.setTop (mkF m 5 #[oI (3 : Int32), oR t1] [(.int (4 : Int32)), (.int (3 : Int32))]))
  refine Done.callSP X1 hx hZ hown (wAt hw 126 rfl) (wAt hw 81 rfl) (wAt hw 11 rfl) (wAt hw 82 rfl) (by decide) (rmCI l Z a0 hw [] (3 : Int32) (4 : Int32) z fm h0 n0 Z0 O0 SC hz SF rF SA SH SL (by decide) (by decide)) e1 (g := (mkF m 5 #[oI (3 : Int32), oR t1] [(.int (4 : Int32)), (.int (3 : Int32))])) rfl (by rw [hml]; rfl) [(.int (3 : Int32)), (.int (4 : Int32))] [] 0 (lenOf pd_10 rfl) rfl rfl (by show 2 * 0 + _ ≤ _; exact Nat.le_of_eq rfl) (hb hby d29_5) (by decide) (by decide) (by decide) (by decide) rfl rfl ?_
  intro T2 X2 e2
  show Done _ p e below s _ _ (T2.setTop (mkF m 8 #[oI (3 : Int32), oR t1] []))
  exact Done.retV (leavesF X2 hlk (by decide) (by decide)) X2 hx hret (hb hby d29_8) ⟨rfl, e2, rfl⟩
set_option maxRecDepth 65536 in
set_option maxHeartbeats 40000000 in
theorem rA143 (l : Launch) (Z : State) (a0 : Array Value) (hw : ∀ d ∈ tables_1, d.before a0 Z = true) (ws : List Jvm.Cond) (t1 : Addr) (kb1 : ClassId) (c0 c1 c2 c3 : Int32) (z : Int32) (fm : Value) (h0 : Heap) (n0 : Nat) (Z0 : n0 ≤ h0.size) (O0 : Old Z n0 h0) (SC : Sta Z Z.heap "java/lang/String" "COMPACT_STRINGS" "Z" (.int z)) (hz : ¬ z = 0) (SF : Sta Z Z.heap "jdk/internal/util/Preconditions" "SIOOBE_FORMATTER" "Ljava/util/function/BiFunction;" fm) (rF : fm.isRef = true) (SA : Sta Z Z.heap "java/lang/StringUTF16" "$assertionsDisabled" "Z" (.int (1 : Int32))) (SH : Sta Z Z.heap "java/lang/StringUTF16" "HI_BYTE_SHIFT" "I" (.int (0 : Int32))) (SL : Sta Z Z.heap "java/lang/StringUTF16" "LO_BYTE_SHIFT" "I" (.int (8 : Int32))) (K1 : Arv Z h0 t1 kb1 .byte (8 : Int32) [(.int (own_hi c0)), (.int (own_lo c0)), (.int (own_hi c1)), (.int (own_lo c1)), (.int (own_hi c2)), (.int (own_lo c2)), (.int (own_hi c3)), (.int (own_lo c3))] (.int (0 : Int32))) (hq3 : ¬ c3 < 0 ∧ ¬ (65535 : Int32) < c3) :
    Ctr FrameEnd l Z (⟨"java/lang/StringUTF16", "charAt", "([BI)C"⟩ : MethodName) jdk_52_method_83_code 2 (some .char) ws ({ frames := 3, cells := 0, slots := 0, locals := 44 } : Room) #[(.ref t1), (.int (3 : Int32))] h0 TrueV (PureQ (some (.int c3)) h0) := by
  refine Ctr.intro (plainFor_of_name pn_java_lang_StringUTF16) (Ls := #[.val (.ref t1), .val (.int (3 : Int32))]) (fun m => by first | (simp [entryFrame, mkF, argsToLocals, Value.category]; done) | rfl) ?_
  intro p e s m below meth c T0 hx hby hml hown hnm hret hlk hZ hV hsh e0 X0
  have N0 := Fr.nil n0
  show Done _ p e below s _ _ (T0.setTop (mkF m 0 #[oR t1, oI (3 : Int32)] []))
  refine Done.step (fun _ => XS.iloadN X0.here hx rfl (hb hby d28_0) rfl) ?_
  show Done _ p e below s _ _ (T0.setTop (mkF m 1 #[oR t1, oI (3 : Int32)] [(.int (3 : Int32))]))
  refine Done.step (fun _ => XS.aloadN X0.here hx rfl (hb hby d28_1) rfl rfl) ?_
  show Done _ p e below s _ _ (T0.setTop (mkF m 2 #[oR t1, oI (3 : Int32)] [(.ref t1), (.int (3 : Int32))]))
  refine Done.callSP X0 hx hZ hown (wAt hw 120 rfl) (wAt hw 121 rfl) (wAt hw 90 rfl) (wAt hw 122 rfl) (by decide) (rV43 l Z a0 hw [] t1 kb1 c0 c1 c2 c3 z fm h0 n0 Z0 O0 SC hz SF rF SA SH SL K1) e0 (g := (mkF m 2 #[oR t1, oI (3 : Int32)] [(.ref t1), (.int (3 : Int32))])) rfl (by rw [hml]; rfl) [(.int (3 : Int32)), (.ref t1)] [] 0 (lenOf pd_13 rfl) rfl rfl (by show 2 * 0 + _ ≤ _; exact Nat.le_of_eq rfl) (hb hby d28_2) (by decide) (by decide) (by decide) (by decide) rfl rfl ?_
  intro T1 X1 e1
  show Done _ p e below s _ _ (T1.setTop (mkF m 5 #[oR t1, oI (3 : Int32)] []))
  refine Done.step (fun _ => XS.aloadN X1.here hx rfl (hb hby d28_5) rfl rfl) ?_
  show Done _ p e below s _ _ (T1.setTop (mkF m 6 #[oR t1, oI (3 : Int32)] [(.ref t1)]))
  refine Done.step (fun _ => XS.iloadN X1.here hx rfl (hb hby d28_6) rfl) ?_
  show Done _ p e below s _ _ (T1.setTop (mkF m 7 #[oR t1, oI (3 : Int32)] [(.int (3 : Int32)), (.ref t1)]))
  refine Done.callSP X1 hx hZ hown (wAt hw 111 rfl) (wAt hw 112 rfl) (wAt hw 90 rfl) (wAt hw 113 rfl) (by decide) (ug_43 l Z a0 hw [] t1 kb1 (own_hi c0) (own_lo c0) (own_hi c1) (own_lo c1) (own_hi c2) (own_lo c2) (own_hi c3) (own_lo c3) h0 n0 Z0 O0 SA SH SL K1) e1 (g := (mkF m 7 #[oR t1, oI (3 : Int32)] [(.int (3 : Int32)), (.ref t1)])) rfl (by rw [hml]; rfl) [(.ref t1), (.int (3 : Int32))] [] 0 (lenOf pd_6 rfl) rfl rfl (by show 2 * 0 + _ ≤ _; exact Nat.le_of_eq rfl) (hb hby d28_7) (by decide) (by decide) (by decide) (by decide) rfl rfl ?_
  intro T2 X2 e2
  show Done _ p e below s _ _ (T2.setTop (mkF m 10 #[oR t1, oI (3 : Int32)] [(.int (own_join (own_hi c3) (own_lo c3)))]))
  exact Done.retN (leavesF X2 hlk (by decide) (by decide)) X2 hx (t := .char) hret (by simp) (hb hby d28_10) ⟨by rw [own_narj, own_jn hq3], e2, rfl⟩
set_option maxRecDepth 65536 in
set_option maxHeartbeats 40000000 in
theorem rC143 (l : Launch) (Z : State) (a0 : Array Value) (hw : ∀ d ∈ tables_1, d.before a0 Z = true) (ws : List Jvm.Cond) (x1 t1 : Addr) (kb1 : ClassId) (c0 c1 c2 c3 : Int32) (z : Int32) (fm : Value) (h0 : Heap) (n0 : Nat) (Z0 : n0 ≤ h0.size) (O0 : Old Z n0 h0) (SC : Sta Z Z.heap "java/lang/String" "COMPACT_STRINGS" "Z" (.int z)) (hz : ¬ z = 0) (SF : Sta Z Z.heap "jdk/internal/util/Preconditions" "SIOOBE_FORMATTER" "Ljava/util/function/BiFunction;" fm) (rF : fm.isRef = true) (SA : Sta Z Z.heap "java/lang/StringUTF16" "$assertionsDisabled" "Z" (.int (1 : Int32))) (SH : Sta Z Z.heap "java/lang/StringUTF16" "HI_BYTE_SHIFT" "I" (.int (0 : Int32))) (SL : Sta Z Z.heap "java/lang/StringUTF16" "LO_BYTE_SHIFT" "I" (.int (8 : Int32))) (E1 : Exa Z h0 x1 "java/lang/String") (V1 : Fld Z h0 x1 "java/lang/String" "value" "[B" (.ref t1)) (C1 : Fld Z h0 x1 "java/lang/String" "coder" "B" (.int (1 : Int32))) (K1 : Arv Z h0 t1 kb1 .byte (8 : Int32) [(.int (own_hi c0)), (.int (own_lo c0)), (.int (own_hi c1)), (.int (own_lo c1)), (.int (own_hi c2)), (.int (own_lo c2)), (.int (own_hi c3)), (.int (own_lo c3))] (.int (0 : Int32))) (hq3 : ¬ c3 < 0 ∧ ¬ (65535 : Int32) < c3) :
    Ctr FrameEnd l Z (⟨"java/lang/String", "charAt", "(I)C"⟩ : MethodName) jdk_42_method_56_code 2 (some .char) ws ({ frames := 4, cells := 0, slots := 0, locals := 60 } : Room) #[(.ref x1), (.int (3 : Int32))] h0 TrueV (PureQ (some (.int c3)) h0) := by
  refine Ctr.intro (plainFor_of_name pn_java_lang_String) (Ls := #[.val (.ref x1), .val (.int (3 : Int32))]) (fun m => by first | (simp [entryFrame, mkF, argsToLocals, Value.category]; done) | rfl) ?_
  intro p e s m below meth c T0 hx hby hml hown hnm hret hlk hZ hV hsh e0 X0
  have N0 := Fr.nil n0
  show Done _ p e below s _ _ (T0.setTop (mkF m 0 #[oR x1, oI (3 : Int32)] []))
  refine Done.step (fun _ => XS.aloadN X0.here hx rfl (hb hby d15_0) rfl rfl) ?_
  show Done _ p e below s _ _ (T0.setTop (mkF m 1 #[oR x1, oI (3 : Int32)] [(.ref x1)]))
  refine Done.callVP X0 hx hZ (C := "java/lang/String") hown (wAt hw 72 rfl) (wAt hw 73 rfl) (notFace_of_selects (args := #[]) (mvT hZ (wAt hw 75 rfl))) (wAt hw 75 rfl) (wAt hw 74 rfl) (wAt hw 11 rfl) (wAt hw 76 rfl) (by decide) (rmIL1 l Z a0 hw [] x1 z fm h0 n0 Z0 O0 SC hz SF rF SA SH SL C1) e0 E1 (g := (mkF m 1 #[oR x1, oI (3 : Int32)] [(.ref x1)])) rfl (by rw [hml]; rfl) [] [] 0 (lenOf pd_11 rfl) rfl rfl (by show 2 * 0 + _ ≤ _; exact Nat.le_of_eq rfl) (hb hby d15_1) (by decide) (by decide) (by decide) (by decide) rfl rfl ?_
  intro T1 X1 e1
  show Done _ p e below s _ _ (T1.setTop (mkF m 4 #[oR x1, oI (3 : Int32)] [(.int (0 : Int32))]))
  refine Done.step (fun _ => XS.ifYes X1.here hx rfl (pc0 := 4) (pc' := 16) rfl (hb hby d15_4) rfl (XT.i0_eq_t rfl) (by decide) (by decide)) ?_
  show Done _ p e below s _ _ (T1.setTop (mkF m 16 #[oR x1, oI (3 : Int32)] []))
  refine Done.step (fun _ => XS.aloadN X1.here hx rfl (hb hby d15_16) rfl rfl) ?_
  show Done _ p e below s _ _ (T1.setTop (mkF m 17 #[oR x1, oI (3 : Int32)] [(.ref x1)]))
  obtain ⟨T2, X2, e2, st2⟩ := getF X1 hx hZ hown (host := "") (Or.inl (wAt hw 29 rfl)) Via.refl e1 V1 (g := (mkF m 17 #[oR x1, oI (3 : Int32)] [(.ref x1)])) rfl rfl (hb hby d15_17)
  refine Done.step st2 ?_
  show Done _ p e below s _ _ (T2.setTop (mkF m 20 #[oR x1, oI (3 : Int32)] [(.ref t1)]))
  refine Done.step (fun _ => XS.iloadN X2.here hx rfl (hb hby d15_20) rfl) ?_
  show Done _ p e below s _ _ (T2.setTop (mkF m 21 #[oR x1, oI (3 : Int32)] [(.int (3 : Int32)), (.ref t1)]))
  refine Done.callSP X2 hx hZ hown (wAt hw 117 rfl) (wAt hw 118 rfl) (wAt hw 90 rfl) (wAt hw 119 rfl) (by decide) (rA143 l Z a0 hw [] t1 kb1 c0 c1 c2 c3 z fm h0 n0 Z0 O0 SC hz SF rF SA SH SL K1 hq3) e2 (g := (mkF m 21 #[oR x1, oI (3 : Int32)] [(.int (3 : Int32)), (.ref t1)])) rfl (by rw [hml]; rfl) [(.ref t1), (.int (3 : Int32))] [] 0 (lenOf pd_6 rfl) rfl rfl (by show 2 * 0 + _ ≤ _; exact Nat.le_of_eq rfl) (hb hby d15_21) (by decide) (by decide) (by decide) (by decide) rfl rfl ?_
  intro T3 X3 e3
  show Done _ p e below s _ _ (T3.setTop (mkF m 24 #[oR x1, oI (3 : Int32)] [(.int c3)]))
  exact Done.retN (leavesF X3 hlk (by decide) (by decide)) X3 hx (t := .char) hret (by simp) (hb hby d15_24) ⟨by rw [own_nar2 hq3], e3, rfl⟩
def SD_4 (Z : State) (h0 : Heap) (x1 t1 : Addr) (kb1 : ClassId) (c0 c1 c2 c3 : Int32) : Prop := ((¬ (255 : Int32) < c0 ∧ ¬ (255 : Int32) < c1 ∧ ¬ (255 : Int32) < c2 ∧ ¬ (255 : Int32) < c3) ∧ Fld Z h0 x1 "java/lang/String" "coder" "B" (.int (0 : Int32)) ∧ Arv Z h0 t1 kb1 .byte (4 : Int32) [(.int (own_by c0)), (.int (own_by c1)), (.int (own_by c2)), (.int (own_by c3))] (.int (0 : Int32))) ∨ (¬ (¬ (255 : Int32) < c0 ∧ ¬ (255 : Int32) < c1 ∧ ¬ (255 : Int32) < c2 ∧ ¬ (255 : Int32) < c3) ∧ Fld Z h0 x1 "java/lang/String" "coder" "B" (.int (1 : Int32)) ∧ Arv Z h0 t1 kb1 .byte (8 : Int32) [(.int (own_hi c0)), (.int (own_lo c0)), (.int (own_hi c1)), (.int (own_lo c1)), (.int (own_hi c2)), (.int (own_lo c2)), (.int (own_hi c3)), (.int (own_lo c3))] (.int (0 : Int32)))
theorem rLd4 (l : Launch) (Z : State) (a0 : Array Value) (hw : ∀ d ∈ tables_1, d.before a0 Z = true) (ws : List Jvm.Cond) (x1 t1 : Addr) (kb1 : ClassId) (c0 c1 c2 c3 : Int32) (z : Int32) (fm : Value) (h0 : Heap) (n0 : Nat) (Z0 : n0 ≤ h0.size) (O0 : Old Z n0 h0) (SC : Sta Z Z.heap "java/lang/String" "COMPACT_STRINGS" "Z" (.int z)) (hz : ¬ z = 0) (SF : Sta Z Z.heap "jdk/internal/util/Preconditions" "SIOOBE_FORMATTER" "Ljava/util/function/BiFunction;" fm) (rF : fm.isRef = true) (SA : Sta Z Z.heap "java/lang/StringUTF16" "$assertionsDisabled" "Z" (.int (1 : Int32))) (SH : Sta Z Z.heap "java/lang/StringUTF16" "HI_BYTE_SHIFT" "I" (.int (0 : Int32))) (SL : Sta Z Z.heap "java/lang/StringUTF16" "LO_BYTE_SHIFT" "I" (.int (8 : Int32))) (E1 : Exa Z h0 x1 "java/lang/String") (V1 : Fld Z h0 x1 "java/lang/String" "value" "[B" (.ref t1)) (D1 : SD_4 Z h0 x1 t1 kb1 c0 c1 c2 c3) : Ctr FrameEnd l Z (⟨"java/lang/String", "length", "()I"⟩ : MethodName) jdk_42_method_54_code 1 (some .int) ws ({ frames := 1, cells := 0, slots := 0, locals := 13 } : Room) #[(.ref x1)] h0 TrueV (PureQ (some (.int (4 : Int32))) h0) := by
  rcases D1 with ⟨hsm, C1, K1⟩ | ⟨hsm, C1, K1⟩
  · exact rL04 l Z a0 hw ws x1 t1 kb1 c0 c1 c2 c3 z fm h0 n0 Z0 O0 SC hz SF rF SA SH SL E1 V1 C1 K1
  · exact rL14 l Z a0 hw ws x1 t1 kb1 c0 c1 c2 c3 z fm h0 n0 Z0 O0 SC hz SF rF SA SH SL E1 V1 C1 K1
theorem rCd40 (l : Launch) (Z : State) (a0 : Array Value) (hw : ∀ d ∈ tables_1, d.before a0 Z = true) (ws : List Jvm.Cond) (x1 t1 : Addr) (kb1 : ClassId) (c0 c1 c2 c3 : Int32) (z : Int32) (fm : Value) (h0 : Heap) (n0 : Nat) (Z0 : n0 ≤ h0.size) (O0 : Old Z n0 h0) (SC : Sta Z Z.heap "java/lang/String" "COMPACT_STRINGS" "Z" (.int z)) (hz : ¬ z = 0) (SF : Sta Z Z.heap "jdk/internal/util/Preconditions" "SIOOBE_FORMATTER" "Ljava/util/function/BiFunction;" fm) (rF : fm.isRef = true) (SA : Sta Z Z.heap "java/lang/StringUTF16" "$assertionsDisabled" "Z" (.int (1 : Int32))) (SH : Sta Z Z.heap "java/lang/StringUTF16" "HI_BYTE_SHIFT" "I" (.int (0 : Int32))) (SL : Sta Z Z.heap "java/lang/StringUTF16" "LO_BYTE_SHIFT" "I" (.int (8 : Int32))) (E1 : Exa Z h0 x1 "java/lang/String") (V1 : Fld Z h0 x1 "java/lang/String" "value" "[B" (.ref t1)) (D1 : SD_4 Z h0 x1 t1 kb1 c0 c1 c2 c3) (hb0 : ¬ c0 < 0 ∧ ¬ (65535 : Int32) < c0) : Ctr FrameEnd l Z (⟨"java/lang/String", "charAt", "(I)C"⟩ : MethodName) jdk_42_method_56_code 2 (some .char) ws ({ frames := 4, cells := 0, slots := 0, locals := 60 } : Room) #[(.ref x1), (.int (0 : Int32))] h0 TrueV (PureQ (some (.int c0)) h0) := by
  rcases D1 with ⟨hsm, C1, K1⟩ | ⟨hsm, C1, K1⟩
  · exact rC040 l Z a0 hw ws x1 t1 kb1 c0 c1 c2 c3 z fm h0 n0 Z0 O0 SC hz SF rF SA SH SL E1 V1 C1 K1 ⟨hb0.1, hsm.1⟩
  · exact rC140 l Z a0 hw ws x1 t1 kb1 c0 c1 c2 c3 z fm h0 n0 Z0 O0 SC hz SF rF SA SH SL E1 V1 C1 K1 hb0
theorem rCd41 (l : Launch) (Z : State) (a0 : Array Value) (hw : ∀ d ∈ tables_1, d.before a0 Z = true) (ws : List Jvm.Cond) (x1 t1 : Addr) (kb1 : ClassId) (c0 c1 c2 c3 : Int32) (z : Int32) (fm : Value) (h0 : Heap) (n0 : Nat) (Z0 : n0 ≤ h0.size) (O0 : Old Z n0 h0) (SC : Sta Z Z.heap "java/lang/String" "COMPACT_STRINGS" "Z" (.int z)) (hz : ¬ z = 0) (SF : Sta Z Z.heap "jdk/internal/util/Preconditions" "SIOOBE_FORMATTER" "Ljava/util/function/BiFunction;" fm) (rF : fm.isRef = true) (SA : Sta Z Z.heap "java/lang/StringUTF16" "$assertionsDisabled" "Z" (.int (1 : Int32))) (SH : Sta Z Z.heap "java/lang/StringUTF16" "HI_BYTE_SHIFT" "I" (.int (0 : Int32))) (SL : Sta Z Z.heap "java/lang/StringUTF16" "LO_BYTE_SHIFT" "I" (.int (8 : Int32))) (E1 : Exa Z h0 x1 "java/lang/String") (V1 : Fld Z h0 x1 "java/lang/String" "value" "[B" (.ref t1)) (D1 : SD_4 Z h0 x1 t1 kb1 c0 c1 c2 c3) (hb1 : ¬ c1 < 0 ∧ ¬ (65535 : Int32) < c1) : Ctr FrameEnd l Z (⟨"java/lang/String", "charAt", "(I)C"⟩ : MethodName) jdk_42_method_56_code 2 (some .char) ws ({ frames := 4, cells := 0, slots := 0, locals := 60 } : Room) #[(.ref x1), (.int (1 : Int32))] h0 TrueV (PureQ (some (.int c1)) h0) := by
  rcases D1 with ⟨hsm, C1, K1⟩ | ⟨hsm, C1, K1⟩
  · exact rC041 l Z a0 hw ws x1 t1 kb1 c0 c1 c2 c3 z fm h0 n0 Z0 O0 SC hz SF rF SA SH SL E1 V1 C1 K1 ⟨hb1.1, hsm.2.1⟩
  · exact rC141 l Z a0 hw ws x1 t1 kb1 c0 c1 c2 c3 z fm h0 n0 Z0 O0 SC hz SF rF SA SH SL E1 V1 C1 K1 hb1
theorem rCd42 (l : Launch) (Z : State) (a0 : Array Value) (hw : ∀ d ∈ tables_1, d.before a0 Z = true) (ws : List Jvm.Cond) (x1 t1 : Addr) (kb1 : ClassId) (c0 c1 c2 c3 : Int32) (z : Int32) (fm : Value) (h0 : Heap) (n0 : Nat) (Z0 : n0 ≤ h0.size) (O0 : Old Z n0 h0) (SC : Sta Z Z.heap "java/lang/String" "COMPACT_STRINGS" "Z" (.int z)) (hz : ¬ z = 0) (SF : Sta Z Z.heap "jdk/internal/util/Preconditions" "SIOOBE_FORMATTER" "Ljava/util/function/BiFunction;" fm) (rF : fm.isRef = true) (SA : Sta Z Z.heap "java/lang/StringUTF16" "$assertionsDisabled" "Z" (.int (1 : Int32))) (SH : Sta Z Z.heap "java/lang/StringUTF16" "HI_BYTE_SHIFT" "I" (.int (0 : Int32))) (SL : Sta Z Z.heap "java/lang/StringUTF16" "LO_BYTE_SHIFT" "I" (.int (8 : Int32))) (E1 : Exa Z h0 x1 "java/lang/String") (V1 : Fld Z h0 x1 "java/lang/String" "value" "[B" (.ref t1)) (D1 : SD_4 Z h0 x1 t1 kb1 c0 c1 c2 c3) (hb2 : ¬ c2 < 0 ∧ ¬ (65535 : Int32) < c2) : Ctr FrameEnd l Z (⟨"java/lang/String", "charAt", "(I)C"⟩ : MethodName) jdk_42_method_56_code 2 (some .char) ws ({ frames := 4, cells := 0, slots := 0, locals := 60 } : Room) #[(.ref x1), (.int (2 : Int32))] h0 TrueV (PureQ (some (.int c2)) h0) := by
  rcases D1 with ⟨hsm, C1, K1⟩ | ⟨hsm, C1, K1⟩
  · exact rC042 l Z a0 hw ws x1 t1 kb1 c0 c1 c2 c3 z fm h0 n0 Z0 O0 SC hz SF rF SA SH SL E1 V1 C1 K1 ⟨hb2.1, hsm.2.2.1⟩
  · exact rC142 l Z a0 hw ws x1 t1 kb1 c0 c1 c2 c3 z fm h0 n0 Z0 O0 SC hz SF rF SA SH SL E1 V1 C1 K1 hb2
theorem rCd43 (l : Launch) (Z : State) (a0 : Array Value) (hw : ∀ d ∈ tables_1, d.before a0 Z = true) (ws : List Jvm.Cond) (x1 t1 : Addr) (kb1 : ClassId) (c0 c1 c2 c3 : Int32) (z : Int32) (fm : Value) (h0 : Heap) (n0 : Nat) (Z0 : n0 ≤ h0.size) (O0 : Old Z n0 h0) (SC : Sta Z Z.heap "java/lang/String" "COMPACT_STRINGS" "Z" (.int z)) (hz : ¬ z = 0) (SF : Sta Z Z.heap "jdk/internal/util/Preconditions" "SIOOBE_FORMATTER" "Ljava/util/function/BiFunction;" fm) (rF : fm.isRef = true) (SA : Sta Z Z.heap "java/lang/StringUTF16" "$assertionsDisabled" "Z" (.int (1 : Int32))) (SH : Sta Z Z.heap "java/lang/StringUTF16" "HI_BYTE_SHIFT" "I" (.int (0 : Int32))) (SL : Sta Z Z.heap "java/lang/StringUTF16" "LO_BYTE_SHIFT" "I" (.int (8 : Int32))) (E1 : Exa Z h0 x1 "java/lang/String") (V1 : Fld Z h0 x1 "java/lang/String" "value" "[B" (.ref t1)) (D1 : SD_4 Z h0 x1 t1 kb1 c0 c1 c2 c3) (hb3 : ¬ c3 < 0 ∧ ¬ (65535 : Int32) < c3) : Ctr FrameEnd l Z (⟨"java/lang/String", "charAt", "(I)C"⟩ : MethodName) jdk_42_method_56_code 2 (some .char) ws ({ frames := 4, cells := 0, slots := 0, locals := 60 } : Room) #[(.ref x1), (.int (3 : Int32))] h0 TrueV (PureQ (some (.int c3)) h0) := by
  rcases D1 with ⟨hsm, C1, K1⟩ | ⟨hsm, C1, K1⟩
  · exact rC043 l Z a0 hw ws x1 t1 kb1 c0 c1 c2 c3 z fm h0 n0 Z0 O0 SC hz SF rF SA SH SL E1 V1 C1 K1 ⟨hb3.1, hsm.2.2.2⟩
  · exact rC143 l Z a0 hw ws x1 t1 kb1 c0 c1 c2 c3 z fm h0 n0 Z0 O0 SC hz SF rF SA SH SL E1 V1 C1 K1 hb3
def own_ub (c : Int32) : Int32 := if c < (128 : Int32) then 1 else if c < (2048 : Int32) then 2 else if ¬ c < (55296 : Int32) ∧ c < (57344 : Int32) then 2 else 3
def own_bb (c : Int32) : Int32 := if (127 : Int32) < c then (if (2047 : Int32) < c then 3 else 2) else 1
def own_B (c : Int32) : Prop := (¬ c < 0 ∧ ¬ (65535 : Int32) < c) ∧ ¬ (¬ c < (55296 : Int32) ∧ c < (57344 : Int32))
def own_S (c : Int32) : Prop := (¬ c < 0 ∧ ¬ (65535 : Int32) < c) ∧ (¬ c < (55296 : Int32) ∧ c < (57344 : Int32))
theorem own_ubb {c : Int32} (h : own_B c) : own_ub c = own_bb c := by
  obtain ⟨-, h⟩ := h
  have a1 : (127 : Int32) < c ↔ ¬ c < (128 : Int32) := by
    rw [Int32.lt_iff_toInt_lt, Int32.lt_iff_toInt_lt]; have e1 : (127 : Int32).toInt = 127 := rfl; have e2 : (128 : Int32).toInt = 128 := rfl; omega
  have a2 : (2047 : Int32) < c ↔ ¬ c < (2048 : Int32) := by
    rw [Int32.lt_iff_toInt_lt, Int32.lt_iff_toInt_lt]; have e1 : (2047 : Int32).toInt = 2047 := rfl; have e2 : (2048 : Int32).toInt = 2048 := rfl; omega
  unfold own_ub own_bb
  rw [if_neg h]
  by_cases q : c < (128 : Int32)
  · rw [if_pos q, if_neg (fun z => a1.mp z q)]
  · rw [if_neg q, if_pos (a1.mpr q)]
    by_cases q2 : c < (2048 : Int32)
    · rw [if_pos q2, if_neg (fun z => a2.mp z q2)]
    · rw [if_neg q2, if_pos (a2.mpr q2)]
theorem own_ubs {c : Int32} (h : own_S c) : own_ub c = 2 := by
  obtain ⟨-, h⟩ := h
  unfold own_ub
  rw [if_pos h]
  by_cases q : c < (128 : Int32)
  · exfalso; rw [Int32.lt_iff_toInt_lt] at q h; have e1 : (128 : Int32).toInt = 128 := rfl; have e2 : (55296 : Int32).toInt = 55296 := rfl; omega
  · rw [if_neg q]; split <;> rfl
theorem own_xor (k : Nat) (h : k < 2048) : (55296 + k) ^^^ 8192 = 63488 + k := (by decide +kernel : ∀ k < 2048, (55296 + k) ^^^ 8192 = 63488 + k) k h
theorem own_orH (k : Nat) (h : k < 1024) : 55296 ||| k = 55296 + k := (by decide +kernel : ∀ k < 1024, 55296 ||| k = 55296 + k) k h
theorem own_orL (k : Nat) (h : k < 1024) : 56320 ||| k = 56320 + k := (by decide +kernel : ∀ k < 1024, 56320 ||| k = 56320 + k) k h
theorem own_ofn {A : Int32} {n : Nat} (h : A.toBitVec.toNat = n) (hn : n < 2147483648) : A.toInt = n := by
  rw [← Int32.toInt_toBitVec, BitVec.toInt_eq_toNat_of_lt (by omega), h]
theorem own_65535 (x : Int32) : (x &&& (65535 : Int32)).toInt = x.toInt % 2 ^ 16 := Jvm.Kit.i32_mask x _ (k := 16) (by decide) (by decide)
theorem own_1023 (x : Int32) : (x &&& (1023 : Int32)).toInt = x.toInt % 2 ^ 10 := Jvm.Kit.i32_mask x _ (k := 10) (by decide) (by decide)
def own_c16 (x : Int32) : Int32 := nar .char (x.toUInt32.toUInt16.toUInt32.toInt32)
theorem own_c16v (x : Int32) : (own_c16 x).toInt = x.toInt % 65536 := by unfold own_c16; rw [own_narI, own_toInt16]
def own_bmp (x : Int32) : Int32 := if (x &&& (65535 : Int32)) < (55296 : Int32) then own_c16 (x &&& (65535 : Int32)) else if (57343 : Int32) < (x &&& (65535 : Int32)) then own_c16 (x &&& (65535 : Int32)) else own_c16 ((x &&& (65535 : Int32)) ^^^ (8192 : Int32))
def own_high (x : Int32) : Int32 := own_c16 ((55296 : Int32) ||| (x &&& (1023 : Int32)))
def own_low (x : Int32) : Int32 := own_c16 ((56320 : Int32) ||| (x &&& (1023 : Int32)))
theorem own_bmpB (x : Int32) : own_B (own_bmp x) := by
  have e0 : (0 : Int32).toInt = 0 := rfl
  have e1 : (65535 : Int32).toInt = 65535 := rfl
  have e2 : (55296 : Int32).toInt = 55296 := rfl
  have e3 : (57344 : Int32).toInt = 57344 := rfl
  have e4 : (57343 : Int32).toInt = 57343 := rfl
  have hm := own_65535 x
  unfold own_B own_bmp
  simp only [Int32.lt_iff_toInt_lt, e0, e1, e2, e3, e4]
  split
  · rw [own_c16v]; omega
  · split
    · rw [own_c16v]; omega
    · have n1 := own_nn (A := x &&& (65535 : Int32)) (by omega)
      have n2 : ((x &&& (65535 : Int32)) ^^^ (8192 : Int32)).toBitVec.toNat = 63488 + ((x &&& (65535 : Int32)).toInt.toNat - 55296) := by
        rw [Int32.toBitVec_xor, BitVec.toNat_xor, n1]
        have := own_xor ((x &&& (65535 : Int32)).toInt.toNat - 55296) (by omega)
        rw [show 55296 + ((x &&& (65535 : Int32)).toInt.toNat - 55296) = (x &&& (65535 : Int32)).toInt.toNat by omega] at this
        exact this
      have n3 := own_ofn n2 (by omega)
      rw [own_c16v]; omega
theorem own_hiB (x : Int32) : own_S (own_high x) := by
  have e0 : (0 : Int32).toInt = 0 := rfl
  have e1 : (65535 : Int32).toInt = 65535 := rfl
  have e2 : (55296 : Int32).toInt = 55296 := rfl
  have e3 : (57344 : Int32).toInt = 57344 := rfl
  have hm := own_1023 x
  unfold own_S own_high
  have n1 := own_nn (A := x &&& (1023 : Int32)) (by omega)
  have n2 : ((55296 : Int32) ||| (x &&& (1023 : Int32))).toBitVec.toNat = 55296 + (x &&& (1023 : Int32)).toInt.toNat := by
    rw [Int32.toBitVec_or, BitVec.toNat_or, n1]; exact own_orH _ (by omega)
  have n3 := own_ofn n2 (by omega)
  simp only [Int32.lt_iff_toInt_lt, e0, e1, e2, e3, own_c16v]
  omega
theorem own_loB (x : Int32) : own_S (own_low x) := by
  have e0 : (0 : Int32).toInt = 0 := rfl
  have e1 : (65535 : Int32).toInt = 65535 := rfl
  have e2 : (55296 : Int32).toInt = 55296 := rfl
  have e3 : (57344 : Int32).toInt = 57344 := rfl
  have hm := own_1023 x
  unfold own_S own_low
  have n1 := own_nn (A := x &&& (1023 : Int32)) (by omega)
  have n2 : ((56320 : Int32) ||| (x &&& (1023 : Int32))).toBitVec.toNat = 56320 + (x &&& (1023 : Int32)).toInt.toNat := by
    rw [Int32.toBitVec_or, BitVec.toNat_or, n1]; exact own_orL _ (by omega)
  have n3 := own_ofn n2 (by omega)
  simp only [Int32.lt_iff_toInt_lt, e0, e1, e2, e3, own_c16v]
  omega
theorem pn_com_example_wide_weir_wideweir_http_QueryUtf8LengthPinLaw : plainName "com/example/wide_weir/wideweir/http/QueryUtf8LengthPinLaw" = true := by first | (simp [plainName, overriddenIn]; done) | decide +kernel
theorem d1_0 : decode method_2_code 0 = .ok (.iload_n 0, 1) := by decide +kernel
theorem d1_1 : decode method_2_code 1 = .ok (.ldc 7, 2) := by decide +kernel
theorem d1_3 : decode method_2_code 3 = .ok (.iand, 1) := by decide +kernel
theorem d1_4 : decode method_2_code 4 = .ok (.istore_n 1, 1) := by decide +kernel
theorem d1_5 : decode method_2_code 5 = .ok (.iload_n 1, 1) := by decide +kernel
theorem d1_6 : decode method_2_code 6 = .ok (.ldc 8, 2) := by decide +kernel
theorem d1_8 : decode method_2_code 8 = .ok (.if_icmp .lt 15, 3) := by decide +kernel
theorem d1_23 : decode method_2_code 23 = .ok (.iload_n 1, 1) := by decide +kernel
theorem d1_24 : decode method_2_code 24 = .ok (.i2c, 1) := by decide +kernel
theorem d1_25 : decode method_2_code 25 = .ok (.ireturn, 1) := by decide +kernel
theorem d1_11 : decode method_2_code 11 = .ok (.iload_n 1, 1) := by decide +kernel
theorem d1_12 : decode method_2_code 12 = .ok (.ldc 9, 2) := by decide +kernel
theorem d1_14 : decode method_2_code 14 = .ok (.if_icmp .gt 9, 3) := by decide +kernel
theorem d1_17 : decode method_2_code 17 = .ok (.iload_n 1, 1) := by decide +kernel
theorem d1_18 : decode method_2_code 18 = .ok (.sipush 8192, 3) := by decide +kernel
theorem d1_21 : decode method_2_code 21 = .ok (.ixor, 1) := by decide +kernel
theorem d1_22 : decode method_2_code 22 = .ok (.istore_n 1, 1) := by decide +kernel
set_option maxRecDepth 65536 in
set_option maxHeartbeats 40000000 in
theorem rB (l : Launch) (Z : State) (a0 : Array Value) (hw : ∀ d ∈ tables_1, d.before a0 Z = true) (ws : List Jvm.Cond) (xv : Int32) (h0 : Heap) (n0 : Nat) (Z0 : n0 ≤ h0.size)  :
    Ctr FrameEnd l Z (⟨"com/example/wide_weir/wideweir/http/QueryUtf8LengthPinLaw", "bmp", "(I)C"⟩ : MethodName) method_2_code 2 (some .char) ws ({ frames := 0, cells := 0, slots := 0, locals := 0 } : Room) #[(.int xv)] h0 TrueV (PureQ (some (.int (own_bmp xv))) h0) := by
  refine Ctr.intro (plainFor_of_name pn_com_example_wide_weir_wideweir_http_QueryUtf8LengthPinLaw) (Ls := #[.val (.int xv), .unset]) (fun m => by first | (simp [entryFrame, mkF, argsToLocals, Value.category]; done) | rfl) ?_
  intro p e s m below meth c T0 hx hby hml hown hnm hret hlk hZ hV hsh e0 X0
  have N0 := Fr.nil n0
  show Done _ p e below s _ _ (T0.setTop (mkF m 0 #[oI xv, .unset] []))
  refine Done.step (fun _ => XS.iloadN X0.here hx rfl (hb hby d1_0) rfl) ?_
  show Done _ p e below s _ _ (T0.setTop (mkF m 1 #[oI xv, .unset] [(.int xv)]))
  refine Done.step (fun _ => Stand.ldcI X0 hx hown (mvT hZ (wAt hw 4 rfl)) (g := (mkF m 1 #[oI xv, .unset] [(.int xv)])) rfl (hb hby d1_1)) ?_
  show Done _ p e below s _ _ (T0.setTop (mkF m 3 #[oI xv, .unset] [(.int (65535 : Int32)), (.int xv)]))
  refine Done.step (fun _ => XS.iand X0.here hx rfl (hb hby d1_3) rfl) ?_
  show Done _ p e below s _ _ (T0.setTop (mkF m 4 #[oI xv, .unset] [(.int (xv &&& (65535 : Int32)))]))
  refine Done.step (fun _ => XS.istoreN X0.here hx rfl (hb hby d1_4) rfl (l' := #[oI xv, oI (xv &&& (65535 : Int32))]) rfl) ?_
  show Done _ p e below s _ _ (T0.setTop (mkF m 5 #[oI xv, oI (xv &&& (65535 : Int32))] []))
  refine Done.step (fun _ => XS.iloadN X0.here hx rfl (hb hby d1_5) rfl) ?_
  show Done _ p e below s _ _ (T0.setTop (mkF m 6 #[oI xv, oI (xv &&& (65535 : Int32))] [(.int (xv &&& (65535 : Int32)))]))
  refine Done.step (fun _ => Stand.ldcI X0 hx hown (mvT hZ (wAt hw 5 rfl)) (g := (mkF m 6 #[oI xv, oI (xv &&& (65535 : Int32))] [(.int (xv &&& (65535 : Int32)))])) rfl (hb hby d1_6)) ?_
  show Done _ p e below s _ _ (T0.setTop (mkF m 8 #[oI xv, oI (xv &&& (65535 : Int32))] [(.int (55296 : Int32)), (.int (xv &&& (65535 : Int32)))]))
  by_cases hc1 : (xv &&& (65535 : Int32)) < (55296 : Int32)
  · refine Done.step (fun _ => XS.icmpYes X0.here hx rfl (pc0 := 8) (pc' := 23) rfl (hb hby d1_8) rfl (XT.ii_lt_t hc1) (by decide) (by decide)) ?_
    show Done _ p e below s _ _ (T0.setTop (mkF m 23 #[oI xv, oI (xv &&& (65535 : Int32))] []))
    refine Done.step (fun _ => XS.iloadN X0.here hx rfl (hb hby d1_23) rfl) ?_
    show Done _ p e below s _ _ (T0.setTop (mkF m 24 #[oI xv, oI (xv &&& (65535 : Int32))] [(.int (xv &&& (65535 : Int32)))]))
    refine Done.step (fun _ => XT.i2c X0.here hx rfl (hb hby d1_24) rfl) ?_
    show Done _ p e below s _ _ (T0.setTop (mkF m 25 #[oI xv, oI (xv &&& (65535 : Int32))] [(.int ((xv &&& (65535 : Int32)).toUInt32.toUInt16.toUInt32.toInt32))]))
    exact Done.retN (leavesF X0 hlk (by decide) (by decide)) X0 hx (t := .char) hret (by simp) (hb hby d1_25) ⟨by unfold own_bmp; rw [if_pos hc1]; rfl, e0, rfl⟩
  · refine Done.step (fun _ => XS.icmpNo X0.here hx rfl (hb hby d1_8) rfl (XT.ii_lt_f hc1)) ?_
    show Done _ p e below s _ _ (T0.setTop (mkF m 11 #[oI xv, oI (xv &&& (65535 : Int32))] []))
    refine Done.step (fun _ => XS.iloadN X0.here hx rfl (hb hby d1_11) rfl) ?_
    show Done _ p e below s _ _ (T0.setTop (mkF m 12 #[oI xv, oI (xv &&& (65535 : Int32))] [(.int (xv &&& (65535 : Int32)))]))
    refine Done.step (fun _ => Stand.ldcI X0 hx hown (mvT hZ (wAt hw 133 rfl)) (g := (mkF m 12 #[oI xv, oI (xv &&& (65535 : Int32))] [(.int (xv &&& (65535 : Int32)))])) rfl (hb hby d1_12)) ?_
    show Done _ p e below s _ _ (T0.setTop (mkF m 14 #[oI xv, oI (xv &&& (65535 : Int32))] [(.int (57343 : Int32)), (.int (xv &&& (65535 : Int32)))]))
    by_cases hc2 : (57343 : Int32) < (xv &&& (65535 : Int32))
    · refine Done.step (fun _ => XS.icmpYes X0.here hx rfl (pc0 := 14) (pc' := 23) rfl (hb hby d1_14) rfl (XT.ii_gt_t hc2) (by decide) (by decide)) ?_
      show Done _ p e below s _ _ (T0.setTop (mkF m 23 #[oI xv, oI (xv &&& (65535 : Int32))] []))
      refine Done.step (fun _ => XS.iloadN X0.here hx rfl (hb hby d1_23) rfl) ?_
      show Done _ p e below s _ _ (T0.setTop (mkF m 24 #[oI xv, oI (xv &&& (65535 : Int32))] [(.int (xv &&& (65535 : Int32)))]))
      refine Done.step (fun _ => XT.i2c X0.here hx rfl (hb hby d1_24) rfl) ?_
      show Done _ p e below s _ _ (T0.setTop (mkF m 25 #[oI xv, oI (xv &&& (65535 : Int32))] [(.int ((xv &&& (65535 : Int32)).toUInt32.toUInt16.toUInt32.toInt32))]))
      exact Done.retN (leavesF X0 hlk (by decide) (by decide)) X0 hx (t := .char) hret (by simp) (hb hby d1_25) ⟨by unfold own_bmp; rw [if_neg hc1, if_pos hc2]; rfl, e0, rfl⟩
    · refine Done.step (fun _ => XS.icmpNo X0.here hx rfl (hb hby d1_14) rfl (XT.ii_gt_f hc2)) ?_
      show Done _ p e below s _ _ (T0.setTop (mkF m 17 #[oI xv, oI (xv &&& (65535 : Int32))] []))
      refine Done.step (fun _ => XS.iloadN X0.here hx rfl (hb hby d1_17) rfl) ?_
      show Done _ p e below s _ _ (T0.setTop (mkF m 18 #[oI xv, oI (xv &&& (65535 : Int32))] [(.int (xv &&& (65535 : Int32)))]))
      refine Done.step (fun _ => XT.sipushV X0.here hx rfl (8192 : Int32) (hb hby d1_18) (by decide)) ?_
      show Done _ p e below s _ _ (T0.setTop (mkF m 21 #[oI xv, oI (xv &&& (65535 : Int32))] [(.int (8192 : Int32)), (.int (xv &&& (65535 : Int32)))]))
      refine Done.step (fun _ => XT.ixor X0.here hx rfl (hb hby d1_21) rfl) ?_
      show Done _ p e below s _ _ (T0.setTop (mkF m 22 #[oI xv, oI (xv &&& (65535 : Int32))] [(.int ((xv &&& (65535 : Int32)) ^^^ (8192 : Int32)))]))
      refine Done.step (fun _ => XS.istoreN X0.here hx rfl (hb hby d1_22) rfl (l' := #[oI xv, oI ((xv &&& (65535 : Int32)) ^^^ (8192 : Int32))]) rfl) ?_
      show Done _ p e below s _ _ (T0.setTop (mkF m 23 #[oI xv, oI ((xv &&& (65535 : Int32)) ^^^ (8192 : Int32))] []))
      refine Done.step (fun _ => XS.iloadN X0.here hx rfl (hb hby d1_23) rfl) ?_
      show Done _ p e below s _ _ (T0.setTop (mkF m 24 #[oI xv, oI ((xv &&& (65535 : Int32)) ^^^ (8192 : Int32))] [(.int ((xv &&& (65535 : Int32)) ^^^ (8192 : Int32)))]))
      refine Done.step (fun _ => XT.i2c X0.here hx rfl (hb hby d1_24) rfl) ?_
      show Done _ p e below s _ _ (T0.setTop (mkF m 25 #[oI xv, oI ((xv &&& (65535 : Int32)) ^^^ (8192 : Int32))] [(.int (((xv &&& (65535 : Int32)) ^^^ (8192 : Int32)).toUInt32.toUInt16.toUInt32.toInt32))]))
      exact Done.retN (leavesF X0 hlk (by decide) (by decide)) X0 hx (t := .char) hret (by simp) (hb hby d1_25) ⟨by unfold own_bmp; rw [if_neg hc1, if_neg hc2]; rfl, e0, rfl⟩
theorem d9_0 : decode method_4_code 0 = .ok (.ldc 8, 2) := by decide +kernel
theorem d9_2 : decode method_4_code 2 = .ok (.iload_n 0, 1) := by decide +kernel
theorem d9_3 : decode method_4_code 3 = .ok (.sipush 1023, 3) := by decide +kernel
theorem d9_6 : decode method_4_code 6 = .ok (.iand, 1) := by decide +kernel
theorem d9_7 : decode method_4_code 7 = .ok (.ior, 1) := by decide +kernel
theorem d9_8 : decode method_4_code 8 = .ok (.i2c, 1) := by decide +kernel
theorem d9_9 : decode method_4_code 9 = .ok (.ireturn, 1) := by decide +kernel
set_option maxRecDepth 65536 in
set_option maxHeartbeats 40000000 in
theorem rHi (l : Launch) (Z : State) (a0 : Array Value) (hw : ∀ d ∈ tables_1, d.before a0 Z = true) (ws : List Jvm.Cond) (xv : Int32) (h0 : Heap) (n0 : Nat) (Z0 : n0 ≤ h0.size)  :
    Ctr FrameEnd l Z (⟨"com/example/wide_weir/wideweir/http/QueryUtf8LengthPinLaw", "high", "(I)C"⟩ : MethodName) method_4_code 1 (some .char) ws ({ frames := 0, cells := 0, slots := 0, locals := 0 } : Room) #[(.int xv)] h0 TrueV (PureQ (some (.int (own_high xv))) h0) := by
  refine Ctr.intro (plainFor_of_name pn_com_example_wide_weir_wideweir_http_QueryUtf8LengthPinLaw) (Ls := #[.val (.int xv)]) (fun m => by first | (simp [entryFrame, mkF, argsToLocals, Value.category]; done) | rfl) ?_
  intro p e s m below meth c T0 hx hby hml hown hnm hret hlk hZ hV hsh e0 X0
  have N0 := Fr.nil n0
  show Done _ p e below s _ _ (T0.setTop (mkF m 0 #[oI xv] []))
  refine Done.step (fun _ => Stand.ldcI X0 hx hown (mvT hZ (wAt hw 5 rfl)) (g := (mkF m 0 #[oI xv] [])) rfl (hb hby d9_0)) ?_
  show Done _ p e below s _ _ (T0.setTop (mkF m 2 #[oI xv] [(.int (55296 : Int32))]))
  refine Done.step (fun _ => XS.iloadN X0.here hx rfl (hb hby d9_2) rfl) ?_
  show Done _ p e below s _ _ (T0.setTop (mkF m 3 #[oI xv] [(.int xv), (.int (55296 : Int32))]))
  refine Done.step (fun _ => XT.sipushV X0.here hx rfl (1023 : Int32) (hb hby d9_3) (by decide)) ?_
  show Done _ p e below s _ _ (T0.setTop (mkF m 6 #[oI xv] [(.int (1023 : Int32)), (.int xv), (.int (55296 : Int32))]))
  refine Done.step (fun _ => XS.iand X0.here hx rfl (hb hby d9_6) rfl) ?_
  show Done _ p e below s _ _ (T0.setTop (mkF m 7 #[oI xv] [(.int (xv &&& (1023 : Int32))), (.int (55296 : Int32))]))
  refine Done.step (fun _ => XT.ior X0.here hx rfl (hb hby d9_7) rfl) ?_
  show Done _ p e below s _ _ (T0.setTop (mkF m 8 #[oI xv] [(.int ((55296 : Int32) ||| (xv &&& (1023 : Int32))))]))
  refine Done.step (fun _ => XT.i2c X0.here hx rfl (hb hby d9_8) rfl) ?_
  show Done _ p e below s _ _ (T0.setTop (mkF m 9 #[oI xv] [(.int (((55296 : Int32) ||| (xv &&& (1023 : Int32))).toUInt32.toUInt16.toUInt32.toInt32))]))
  exact Done.retN (leavesF X0 hlk (by decide) (by decide)) X0 hx (t := .char) hret (by simp) (hb hby d9_9) ⟨rfl, e0, rfl⟩
theorem d10_0 : decode method_5_code 0 = .ok (.ldc 10, 2) := by decide +kernel
theorem d10_2 : decode method_5_code 2 = .ok (.iload_n 0, 1) := by decide +kernel
theorem d10_3 : decode method_5_code 3 = .ok (.sipush 1023, 3) := by decide +kernel
theorem d10_6 : decode method_5_code 6 = .ok (.iand, 1) := by decide +kernel
theorem d10_7 : decode method_5_code 7 = .ok (.ior, 1) := by decide +kernel
theorem d10_8 : decode method_5_code 8 = .ok (.i2c, 1) := by decide +kernel
theorem d10_9 : decode method_5_code 9 = .ok (.ireturn, 1) := by decide +kernel
set_option maxRecDepth 65536 in
set_option maxHeartbeats 40000000 in
theorem rLo (l : Launch) (Z : State) (a0 : Array Value) (hw : ∀ d ∈ tables_1, d.before a0 Z = true) (ws : List Jvm.Cond) (xv : Int32) (h0 : Heap) (n0 : Nat) (Z0 : n0 ≤ h0.size)  :
    Ctr FrameEnd l Z (⟨"com/example/wide_weir/wideweir/http/QueryUtf8LengthPinLaw", "low", "(I)C"⟩ : MethodName) method_5_code 1 (some .char) ws ({ frames := 0, cells := 0, slots := 0, locals := 0 } : Room) #[(.int xv)] h0 TrueV (PureQ (some (.int (own_low xv))) h0) := by
  refine Ctr.intro (plainFor_of_name pn_com_example_wide_weir_wideweir_http_QueryUtf8LengthPinLaw) (Ls := #[.val (.int xv)]) (fun m => by first | (simp [entryFrame, mkF, argsToLocals, Value.category]; done) | rfl) ?_
  intro p e s m below meth c T0 hx hby hml hown hnm hret hlk hZ hV hsh e0 X0
  have N0 := Fr.nil n0
  show Done _ p e below s _ _ (T0.setTop (mkF m 0 #[oI xv] []))
  refine Done.step (fun _ => Stand.ldcI X0 hx hown (mvT hZ (wAt hw 52 rfl)) (g := (mkF m 0 #[oI xv] [])) rfl (hb hby d10_0)) ?_
  show Done _ p e below s _ _ (T0.setTop (mkF m 2 #[oI xv] [(.int (56320 : Int32))]))
  refine Done.step (fun _ => XS.iloadN X0.here hx rfl (hb hby d10_2) rfl) ?_
  show Done _ p e below s _ _ (T0.setTop (mkF m 3 #[oI xv] [(.int xv), (.int (56320 : Int32))]))
  refine Done.step (fun _ => XT.sipushV X0.here hx rfl (1023 : Int32) (hb hby d10_3) (by decide)) ?_
  show Done _ p e below s _ _ (T0.setTop (mkF m 6 #[oI xv] [(.int (1023 : Int32)), (.int xv), (.int (56320 : Int32))]))
  refine Done.step (fun _ => XS.iand X0.here hx rfl (hb hby d10_6) rfl) ?_
  show Done _ p e below s _ _ (T0.setTop (mkF m 7 #[oI xv] [(.int (xv &&& (1023 : Int32))), (.int (56320 : Int32))]))
  refine Done.step (fun _ => XT.ior X0.here hx rfl (hb hby d10_7) rfl) ?_
  show Done _ p e below s _ _ (T0.setTop (mkF m 8 #[oI xv] [(.int ((56320 : Int32) ||| (xv &&& (1023 : Int32))))]))
  refine Done.step (fun _ => XT.i2c X0.here hx rfl (hb hby d10_8) rfl) ?_
  show Done _ p e below s _ _ (T0.setTop (mkF m 9 #[oI xv] [(.int (((56320 : Int32) ||| (xv &&& (1023 : Int32))).toUInt32.toUInt16.toUInt32.toInt32))]))
  exact Done.retN (leavesF X0 hlk (by decide) (by decide)) X0 hx (t := .char) hret (by simp) (hb hby d10_9) ⟨rfl, e0, rfl⟩
theorem d2_0 : decode method_3_code 0 = .ok (.iload_n 0, 1) := by decide +kernel
theorem d2_1 : decode method_3_code 1 = .ok (.bipush 127, 2) := by decide +kernel
theorem d2_3 : decode method_3_code 3 = .ok (.if_icmp .gt 5, 3) := by decide +kernel
theorem d2_8 : decode method_3_code 8 = .ok (.iload_n 0, 1) := by decide +kernel
theorem d2_9 : decode method_3_code 9 = .ok (.sipush 2047, 3) := by decide +kernel
theorem d2_12 : decode method_3_code 12 = .ok (.if_icmp .gt 5, 3) := by decide +kernel
theorem d2_17 : decode method_3_code 17 = .ok (.iconst 3, 1) := by decide +kernel
theorem d2_18 : decode method_3_code 18 = .ok (.ireturn, 1) := by decide +kernel
theorem d2_15 : decode method_3_code 15 = .ok (.iconst 2, 1) := by decide +kernel
theorem d2_16 : decode method_3_code 16 = .ok (.ireturn, 1) := by decide +kernel
theorem d2_6 : decode method_3_code 6 = .ok (.iconst 1, 1) := by decide +kernel
theorem d2_7 : decode method_3_code 7 = .ok (.ireturn, 1) := by decide +kernel
set_option maxRecDepth 65536 in
set_option maxHeartbeats 40000000 in
theorem rBB (l : Launch) (Z : State) (a0 : Array Value) (hw : ∀ d ∈ tables_1, d.before a0 Z = true) (ws : List Jvm.Cond) (xv : Int32) (h0 : Heap) (n0 : Nat) (Z0 : n0 ≤ h0.size)  :
    Ctr FrameEnd l Z (⟨"com/example/wide_weir/wideweir/http/QueryUtf8LengthPinLaw", "bmpBytes", "(C)I"⟩ : MethodName) method_3_code 1 (some .int) ws ({ frames := 0, cells := 0, slots := 0, locals := 0 } : Room) #[(.int xv)] h0 TrueV (PureQ (some (.int (own_bb xv))) h0) := by
  refine Ctr.intro (plainFor_of_name pn_com_example_wide_weir_wideweir_http_QueryUtf8LengthPinLaw) (Ls := #[.val (.int xv)]) (fun m => by first | (simp [entryFrame, mkF, argsToLocals, Value.category]; done) | rfl) ?_
  intro p e s m below meth c T0 hx hby hml hown hnm hret hlk hZ hV hsh e0 X0
  have N0 := Fr.nil n0
  show Done _ p e below s _ _ (T0.setTop (mkF m 0 #[oI xv] []))
  refine Done.step (fun _ => XS.iloadN X0.here hx rfl (hb hby d2_0) rfl) ?_
  show Done _ p e below s _ _ (T0.setTop (mkF m 1 #[oI xv] [(.int xv)]))
  refine Done.step (fun _ => XT.bipushV X0.here hx rfl (127 : Int32) (hb hby d2_1) (by decide)) ?_
  show Done _ p e below s _ _ (T0.setTop (mkF m 3 #[oI xv] [(.int (127 : Int32)), (.int xv)]))
  by_cases hc1 : (127 : Int32) < xv
  · refine Done.step (fun _ => XS.icmpYes X0.here hx rfl (pc0 := 3) (pc' := 8) rfl (hb hby d2_3) rfl (XT.ii_gt_t hc1) (by decide) (by decide)) ?_
    show Done _ p e below s _ _ (T0.setTop (mkF m 8 #[oI xv] []))
    refine Done.step (fun _ => XS.iloadN X0.here hx rfl (hb hby d2_8) rfl) ?_
    show Done _ p e below s _ _ (T0.setTop (mkF m 9 #[oI xv] [(.int xv)]))
    refine Done.step (fun _ => XT.sipushV X0.here hx rfl (2047 : Int32) (hb hby d2_9) (by decide)) ?_
    show Done _ p e below s _ _ (T0.setTop (mkF m 12 #[oI xv] [(.int (2047 : Int32)), (.int xv)]))
    by_cases hc2 : (2047 : Int32) < xv
    · refine Done.step (fun _ => XS.icmpYes X0.here hx rfl (pc0 := 12) (pc' := 17) rfl (hb hby d2_12) rfl (XT.ii_gt_t hc2) (by decide) (by decide)) ?_
      show Done _ p e below s _ _ (T0.setTop (mkF m 17 #[oI xv] []))
      refine Done.step (fun _ => XT.iconstV X0.here hx rfl (3 : Int32) (hb hby d2_17) (by decide)) ?_
      show Done _ p e below s _ _ (T0.setTop (mkF m 18 #[oI xv] [(.int (3 : Int32))]))
      exact Done.retI (leavesF X0 hlk (by decide) (by decide)) X0 hx hret (hb hby d2_18) ⟨by unfold own_bb; rw [if_pos hc1, if_pos hc2], e0, rfl⟩
    · refine Done.step (fun _ => XS.icmpNo X0.here hx rfl (hb hby d2_12) rfl (XT.ii_gt_f hc2)) ?_
      show Done _ p e below s _ _ (T0.setTop (mkF m 15 #[oI xv] []))
      refine Done.step (fun _ => XT.iconstV X0.here hx rfl (2 : Int32) (hb hby d2_15) (by decide)) ?_
      show Done _ p e below s _ _ (T0.setTop (mkF m 16 #[oI xv] [(.int (2 : Int32))]))
      exact Done.retI (leavesF X0 hlk (by decide) (by decide)) X0 hx hret (hb hby d2_16) ⟨by unfold own_bb; rw [if_pos hc1, if_neg hc2], e0, rfl⟩
  · refine Done.step (fun _ => XS.icmpNo X0.here hx rfl (hb hby d2_3) rfl (XT.ii_gt_f hc1)) ?_
    show Done _ p e below s _ _ (T0.setTop (mkF m 6 #[oI xv] []))
    refine Done.step (fun _ => XT.iconstV X0.here hx rfl (1 : Int32) (hb hby d2_6) (by decide)) ?_
    show Done _ p e below s _ _ (T0.setTop (mkF m 7 #[oI xv] [(.int (1 : Int32))]))
    exact Done.retI (leavesF X0 hlk (by decide) (by decide)) X0 hx hret (hb hby d2_7) ⟨by unfold own_bb; rw [if_neg hc1], e0, rfl⟩
theorem pn_java_lang_Character : plainName "java/lang/Character" = true := by first | (simp [plainName, overriddenIn]; done) | decide +kernel
theorem d31_0 : decode jdk_89_method_16_code 0 = .ok (.iload_n 0, 1) := by decide +kernel
theorem d31_1 : decode jdk_89_method_16_code 1 = .ok (.ldc 75, 2) := by decide +kernel
theorem d31_3 : decode jdk_89_method_16_code 3 = .ok (.if_icmp .lt 13, 3) := by decide +kernel
theorem d31_16 : decode jdk_89_method_16_code 16 = .ok (.iconst 0, 1) := by decide +kernel
theorem d31_17 : decode jdk_89_method_16_code 17 = .ok (.ireturn, 1) := by decide +kernel
theorem d31_6 : decode jdk_89_method_16_code 6 = .ok (.iload_n 0, 1) := by decide +kernel
theorem d31_7 : decode jdk_89_method_16_code 7 = .ok (.ldc 77, 2) := by decide +kernel
theorem d31_9 : decode jdk_89_method_16_code 9 = .ok (.if_icmp .ge 7, 3) := by decide +kernel
theorem d31_12 : decode jdk_89_method_16_code 12 = .ok (.iconst 1, 1) := by decide +kernel
theorem d31_13 : decode jdk_89_method_16_code 13 = .ok (.goto 4, 3) := by decide +kernel
set_option maxRecDepth 65536 in
set_option maxHeartbeats 40000000 in
theorem rIS (l : Launch) (Z : State) (a0 : Array Value) (hw : ∀ d ∈ tables_1, d.before a0 Z = true) (ws : List Jvm.Cond) (xv r : Int32) (h0 : Heap) (n0 : Nat) (Z0 : n0 ≤ h0.size) (hr : r = bP (¬ xv < (55296 : Int32) ∧ xv < (57344 : Int32))) :
    Ctr FrameEnd l Z (⟨"java/lang/Character", "isSurrogate", "(C)Z"⟩ : MethodName) jdk_89_method_16_code 1 (some .boolean) ws ({ frames := 0, cells := 0, slots := 0, locals := 0 } : Room) #[(.int xv)] h0 TrueV (PureQ (some (.int r)) h0) := by
  refine Ctr.intro (plainFor_of_name pn_java_lang_Character) (Ls := #[.val (.int xv)]) (fun m => by first | (simp [entryFrame, mkF, argsToLocals, Value.category]; done) | rfl) ?_
  intro p e s m below meth c T0 hx hby hml hown hnm hret hlk hZ hV hsh e0 X0
  have N0 := Fr.nil n0
  show Done _ p e below s _ _ (T0.setTop (mkF m 0 #[oI xv] []))
  refine Done.step (fun _ => XS.iloadN X0.here hx rfl (hb hby d31_0) rfl) ?_
  show Done _ p e below s _ _ (T0.setTop (mkF m 1 #[oI xv] [(.int xv)]))
  refine Done.step (fun _ => Stand.ldcI X0 hx hown (mvT hZ (wAt hw 131 rfl)) (g := (mkF m 1 #[oI xv] [(.int xv)])) rfl (hb hby d31_1)) ?_
  show Done _ p e below s _ _ (T0.setTop (mkF m 3 #[oI xv] [(.int (55296 : Int32)), (.int xv)]))
  by_cases hc1 : xv < (55296 : Int32)
  · refine Done.step (fun _ => XS.icmpYes X0.here hx rfl (pc0 := 3) (pc' := 16) rfl (hb hby d31_3) rfl (XT.ii_lt_t hc1) (by decide) (by decide)) ?_
    show Done _ p e below s _ _ (T0.setTop (mkF m 16 #[oI xv] []))
    refine Done.step (fun _ => XT.iconstV X0.here hx rfl (0 : Int32) (hb hby d31_16) (by decide)) ?_
    show Done _ p e below s _ _ (T0.setTop (mkF m 17 #[oI xv] [(.int (0 : Int32))]))
    exact Done.retN (leavesF X0 hlk (by decide) (by decide)) X0 hx (t := .boolean) hret (by simp) (hb hby d31_17) ⟨by rw [hr, bP_f (fun q => q.1 hc1)]; rfl, e0, rfl⟩
  · refine Done.step (fun _ => XS.icmpNo X0.here hx rfl (hb hby d31_3) rfl (XT.ii_lt_f hc1)) ?_
    show Done _ p e below s _ _ (T0.setTop (mkF m 6 #[oI xv] []))
    refine Done.step (fun _ => XS.iloadN X0.here hx rfl (hb hby d31_6) rfl) ?_
    show Done _ p e below s _ _ (T0.setTop (mkF m 7 #[oI xv] [(.int xv)]))
    refine Done.step (fun _ => Stand.ldcI X0 hx hown (mvT hZ (wAt hw 132 rfl)) (g := (mkF m 7 #[oI xv] [(.int xv)])) rfl (hb hby d31_7)) ?_
    show Done _ p e below s _ _ (T0.setTop (mkF m 9 #[oI xv] [(.int (57344 : Int32)), (.int xv)]))
    by_cases hc2 : xv < (57344 : Int32)
    · refine Done.step (fun _ => XS.icmpNo X0.here hx rfl (hb hby d31_9) rfl (XT.ii_ge_f hc2)) ?_
      show Done _ p e below s _ _ (T0.setTop (mkF m 12 #[oI xv] []))
      refine Done.step (fun _ => XT.iconstV X0.here hx rfl (1 : Int32) (hb hby d31_12) (by decide)) ?_
      show Done _ p e below s _ _ (T0.setTop (mkF m 13 #[oI xv] [(.int (1 : Int32))]))
      refine Done.step (fun _ => XS.goto X0.here hx rfl (pc0 := 13) (pc' := 17) rfl (hb hby d31_13) (by decide) (by decide)) ?_
      show Done _ p e below s _ _ (T0.setTop (mkF m 17 #[oI xv] [(.int (1 : Int32))]))
      exact Done.retN (leavesF X0 hlk (by decide) (by decide)) X0 hx (t := .boolean) hret (by simp) (hb hby d31_17) ⟨by rw [hr, bP_t ⟨hc1, hc2⟩]; rfl, e0, rfl⟩
    · refine Done.step (fun _ => XS.icmpYes X0.here hx rfl (pc0 := 9) (pc' := 16) rfl (hb hby d31_9) rfl (XT.ii_ge_t hc2) (by decide) (by decide)) ?_
      show Done _ p e below s _ _ (T0.setTop (mkF m 16 #[oI xv] []))
      refine Done.step (fun _ => XT.iconstV X0.here hx rfl (0 : Int32) (hb hby d31_16) (by decide)) ?_
      show Done _ p e below s _ _ (T0.setTop (mkF m 17 #[oI xv] [(.int (0 : Int32))]))
      exact Done.retN (leavesF X0 hlk (by decide) (by decide)) X0 hx (t := .boolean) hret (by simp) (hb hby d31_17) ⟨by rw [hr, bP_f (fun q => hc2 q.2)]; rfl, e0, rfl⟩
theorem pn_com_example_wide_weir_wideweir_http_Query : plainName "com/example/wide_weir/wideweir/http/Query" = true := by first | (simp [plainName, overriddenIn]; done) | decide +kernel
theorem d6_0 : decode prog_37_method_3_code 0 = .ok (.iconst 0, 1) := by decide +kernel
theorem d6_1 : decode prog_37_method_3_code 1 = .ok (.istore_n 1, 1) := by decide +kernel
theorem d6_2 : decode prog_37_method_3_code 2 = .ok (.iconst 0, 1) := by decide +kernel
theorem d6_3 : decode prog_37_method_3_code 3 = .ok (.istore_n 2, 1) := by decide +kernel
theorem d6_4 : decode prog_37_method_3_code 4 = .ok (.iload_n 2, 1) := by decide +kernel
theorem d6_5 : decode prog_37_method_3_code 5 = .ok (.aload_n 0, 1) := by decide +kernel
theorem d6_6 : decode prog_37_method_3_code 6 = .ok (.invokevirtual 70, 3) := by decide +kernel
theorem pd_14 : parseMethodDescriptor "()I" = some ⟨[], some .int⟩ := by decide +kernel
theorem d6_9 : decode prog_37_method_3_code 9 = .ok (.if_icmp .ge 57, 3) := by decide +kernel
theorem d6_66 : decode prog_37_method_3_code 66 = .ok (.iload_n 1, 1) := by decide +kernel
theorem d6_67 : decode prog_37_method_3_code 67 = .ok (.ireturn, 1) := by decide +kernel
set_option maxRecDepth 65536 in
set_option maxHeartbeats 40000000 in
theorem rQ0 (l : Launch) (Z : State) (a0 : Array Value) (hw : ∀ d ∈ tables_1, d.before a0 Z = true) (ws : List Jvm.Cond) (x1 t1 : Addr) (kb1 : ClassId)  (z : Int32) (fm : Value) (h0 : Heap) (n0 : Nat) (Z0 : n0 ≤ h0.size) (O0 : Old Z n0 h0) (SC : Sta Z Z.heap "java/lang/String" "COMPACT_STRINGS" "Z" (.int z)) (hz : ¬ z = 0) (SF : Sta Z Z.heap "jdk/internal/util/Preconditions" "SIOOBE_FORMATTER" "Ljava/util/function/BiFunction;" fm) (rF : fm.isRef = true) (SA : Sta Z Z.heap "java/lang/StringUTF16" "$assertionsDisabled" "Z" (.int (1 : Int32))) (SH : Sta Z Z.heap "java/lang/StringUTF16" "HI_BYTE_SHIFT" "I" (.int (0 : Int32))) (SL : Sta Z Z.heap "java/lang/StringUTF16" "LO_BYTE_SHIFT" "I" (.int (8 : Int32))) (E1 : Exa Z h0 x1 "java/lang/String") (V1 : Fld Z h0 x1 "java/lang/String" "value" "[B" (.ref t1)) (C1 : Fld Z h0 x1 "java/lang/String" "coder" "B" (.int (0 : Int32))) (K1 : Arv Z h0 t1 kb1 .byte (0 : Int32) [] (.int (0 : Int32))) :
    Ctr FrameEnd l Z (⟨"com/example/wide_weir/wideweir/http/Query", "utf8Length", "(Ljava/lang/String;)I"⟩ : MethodName) prog_37_method_3_code 4 (some .int) ws ({ frames := 5, cells := 0, slots := 0, locals := 80 } : Room) #[(.ref x1)] h0 TrueV (PureQ (some (.int (0 : Int32))) h0) := by
  refine Ctr.intro (plainFor_of_name pn_com_example_wide_weir_wideweir_http_Query) (Ls := #[.val (.ref x1), .unset, .unset, .unset]) (fun m => by first | (simp [entryFrame, mkF, argsToLocals, Value.category]; done) | rfl) ?_
  intro p e s m below meth c T0 hx hby hml hown hnm hret hlk hZ hV hsh e0 X0
  have N0 := Fr.nil n0
  show Done _ p e below s _ _ (T0.setTop (mkF m 0 #[oR x1, .unset, .unset, .unset] []))
  refine Done.step (fun _ => XT.iconstV X0.here hx rfl (0 : Int32) (hb hby d6_0) (by decide)) ?_
  show Done _ p e below s _ _ (T0.setTop (mkF m 1 #[oR x1, .unset, .unset, .unset] [(.int (0 : Int32))]))
  refine Done.step (fun _ => XS.istoreN X0.here hx rfl (hb hby d6_1) rfl (l' := #[oR x1, oI (0 : Int32), .unset, .unset]) rfl) ?_
  show Done _ p e below s _ _ (T0.setTop (mkF m 2 #[oR x1, oI (0 : Int32), .unset, .unset] []))
  refine Done.step (fun _ => XT.iconstV X0.here hx rfl (0 : Int32) (hb hby d6_2) (by decide)) ?_
  show Done _ p e below s _ _ (T0.setTop (mkF m 3 #[oR x1, oI (0 : Int32), .unset, .unset] [(.int (0 : Int32))]))
  refine Done.step (fun _ => XS.istoreN X0.here hx rfl (hb hby d6_3) rfl (l' := #[oR x1, oI (0 : Int32), oI (0 : Int32), .unset]) rfl) ?_
  show Done _ p e below s _ _ (T0.setTop (mkF m 4 #[oR x1, oI (0 : Int32), oI (0 : Int32), .unset] []))
  show Done _ p e below s _ _ (T0.setTop (mkF m 4 #[oR x1, oI (0 : Int32), oI (0 : Int32), .unset] []))
  refine Done.step (fun _ => XS.iloadN X0.here hx rfl (hb hby d6_4) rfl) ?_
  show Done _ p e below s _ _ (T0.setTop (mkF m 5 #[oR x1, oI (0 : Int32), oI (0 : Int32), .unset] [(.int (0 : Int32))]))
  refine Done.step (fun _ => XS.aloadN X0.here hx rfl (hb hby d6_5) rfl rfl) ?_
  show Done _ p e below s _ _ (T0.setTop (mkF m 6 #[oR x1, oI (0 : Int32), oI (0 : Int32), .unset] [(.ref x1), (.int (0 : Int32))]))
  refine Done.callVP X0 hx hZ (C := "java/lang/String") hown (wAt hw 35 rfl) (wAt hw 36 rfl) (notFace_of_selects (args := #[]) (mvT hZ (wAt hw 38 rfl))) (wAt hw 38 rfl) (wAt hw 37 rfl) (wAt hw 11 rfl) (wAt hw 39 rfl) (by decide) (rL00 l Z a0 hw [] x1 t1 kb1  z fm h0 n0 Z0 O0 SC hz SF rF SA SH SL E1 V1 C1 K1) e0 E1 (g := (mkF m 6 #[oR x1, oI (0 : Int32), oI (0 : Int32), .unset] [(.ref x1), (.int (0 : Int32))])) rfl (by rw [hml]; rfl) [] [(.int (0 : Int32))] 1 (lenOf pd_14 rfl) rfl rfl (by show 2 * 0 + _ ≤ _; exact Nat.le_of_eq rfl) (hb hby d6_6) (by decide) (by decide) (by decide) (by decide) rfl rfl ?_
  intro T1 X1 e1
  show Done _ p e below s _ _ (T1.setTop (mkF m 9 #[oR x1, oI (0 : Int32), oI (0 : Int32), .unset] [(.int (0 : Int32)), (.int (0 : Int32))]))
  refine Done.step (fun _ => XS.icmpYes X1.here hx rfl (pc0 := 9) (pc' := 66) rfl (hb hby d6_9) rfl (XT.ii_ge_t (by decide)) (by decide) (by decide)) ?_
  show Done _ p e below s _ _ (T1.setTop (mkF m 66 #[oR x1, oI (0 : Int32), oI (0 : Int32), .unset] []))
  refine Done.step (fun _ => XS.iloadN X1.here hx rfl (hb hby d6_66) rfl) ?_
  show Done _ p e below s _ _ (T1.setTop (mkF m 67 #[oR x1, oI (0 : Int32), oI (0 : Int32), .unset] [(.int (0 : Int32))]))
  exact Done.retI (leavesF X1 hlk (by decide) (by decide)) X1 hx hret (hb hby d6_67) ⟨rfl, e1, rfl⟩
theorem d6_12 : decode prog_37_method_3_code 12 = .ok (.aload_n 0, 1) := by decide +kernel
theorem d6_13 : decode prog_37_method_3_code 13 = .ok (.iload_n 2, 1) := by decide +kernel
theorem d6_14 : decode prog_37_method_3_code 14 = .ok (.invokevirtual 74, 3) := by decide +kernel
theorem pd_15 : parseMethodDescriptor "(I)C" = some ⟨[.int], some .char⟩ := by decide +kernel
theorem d6_17 : decode prog_37_method_3_code 17 = .ok (.istore_n 3, 1) := by decide +kernel
theorem d6_18 : decode prog_37_method_3_code 18 = .ok (.iload_n 3, 1) := by decide +kernel
theorem d6_19 : decode prog_37_method_3_code 19 = .ok (.sipush 128, 3) := by decide +kernel
theorem d6_22 : decode prog_37_method_3_code 22 = .ok (.if_icmp .ge 9, 3) := by decide +kernel
theorem d6_25 : decode prog_37_method_3_code 25 = .ok (.iinc 1 1, 3) := by decide +kernel
theorem d6_28 : decode prog_37_method_3_code 28 = .ok (.goto 32, 3) := by decide +kernel
theorem d6_60 : decode prog_37_method_3_code 60 = .ok (.iinc 2 1, 3) := by decide +kernel
theorem d6_63 : decode prog_37_method_3_code 63 = .ok (.goto (-59), 3) := by decide +kernel
theorem d6_31 : decode prog_37_method_3_code 31 = .ok (.iload_n 3, 1) := by decide +kernel
theorem d6_32 : decode prog_37_method_3_code 32 = .ok (.sipush 2048, 3) := by decide +kernel
theorem d6_35 : decode prog_37_method_3_code 35 = .ok (.if_icmp .ge 9, 3) := by decide +kernel
theorem d6_38 : decode prog_37_method_3_code 38 = .ok (.iinc 1 2, 3) := by decide +kernel
theorem d6_41 : decode prog_37_method_3_code 41 = .ok (.goto 19, 3) := by decide +kernel
theorem d6_44 : decode prog_37_method_3_code 44 = .ok (.iload_n 3, 1) := by decide +kernel
theorem d6_45 : decode prog_37_method_3_code 45 = .ok (.invokestatic 78, 3) := by decide +kernel
theorem pd_16 : parseMethodDescriptor "(C)Z" = some ⟨[.char], some .boolean⟩ := by decide +kernel
theorem d6_48 : decode prog_37_method_3_code 48 = .ok (.ifCond .eq 9, 3) := by decide +kernel
theorem d6_51 : decode prog_37_method_3_code 51 = .ok (.iinc 1 2, 3) := by decide +kernel
theorem d6_54 : decode prog_37_method_3_code 54 = .ok (.goto 6, 3) := by decide +kernel
theorem d6_57 : decode prog_37_method_3_code 57 = .ok (.iinc 1 3, 3) := by decide +kernel
set_option maxRecDepth 65536 in
set_option maxHeartbeats 40000000 in
theorem rQ1 (l : Launch) (Z : State) (a0 : Array Value) (hw : ∀ d ∈ tables_1, d.before a0 Z = true) (ws : List Jvm.Cond) (x1 t1 : Addr) (kb1 : ClassId) (c0 : Int32) (z : Int32) (fm : Value) (h0 : Heap) (n0 : Nat) (Z0 : n0 ≤ h0.size) (O0 : Old Z n0 h0) (SC : Sta Z Z.heap "java/lang/String" "COMPACT_STRINGS" "Z" (.int z)) (hz : ¬ z = 0) (SF : Sta Z Z.heap "jdk/internal/util/Preconditions" "SIOOBE_FORMATTER" "Ljava/util/function/BiFunction;" fm) (rF : fm.isRef = true) (SA : Sta Z Z.heap "java/lang/StringUTF16" "$assertionsDisabled" "Z" (.int (1 : Int32))) (SH : Sta Z Z.heap "java/lang/StringUTF16" "HI_BYTE_SHIFT" "I" (.int (0 : Int32))) (SL : Sta Z Z.heap "java/lang/StringUTF16" "LO_BYTE_SHIFT" "I" (.int (8 : Int32))) (E1 : Exa Z h0 x1 "java/lang/String") (V1 : Fld Z h0 x1 "java/lang/String" "value" "[B" (.ref t1)) (D1 : SD_1 Z h0 x1 t1 kb1 c0) (hb0 : ¬ c0 < 0 ∧ ¬ (65535 : Int32) < c0) :
    Ctr FrameEnd l Z (⟨"com/example/wide_weir/wideweir/http/Query", "utf8Length", "(Ljava/lang/String;)I"⟩ : MethodName) prog_37_method_3_code 4 (some .int) ws ({ frames := 5, cells := 0, slots := 0, locals := 80 } : Room) #[(.ref x1)] h0 TrueV (PureQ (some (.int ((0 : Int32) + own_ub c0))) h0) := by
  refine Ctr.intro (plainFor_of_name pn_com_example_wide_weir_wideweir_http_Query) (Ls := #[.val (.ref x1), .unset, .unset, .unset]) (fun m => by first | (simp [entryFrame, mkF, argsToLocals, Value.category]; done) | rfl) ?_
  intro p e s m below meth c T0 hx hby hml hown hnm hret hlk hZ hV hsh e0 X0
  have N0 := Fr.nil n0
  show Done _ p e below s _ _ (T0.setTop (mkF m 0 #[oR x1, .unset, .unset, .unset] []))
  refine Done.step (fun _ => XT.iconstV X0.here hx rfl (0 : Int32) (hb hby d6_0) (by decide)) ?_
  show Done _ p e below s _ _ (T0.setTop (mkF m 1 #[oR x1, .unset, .unset, .unset] [(.int (0 : Int32))]))
  refine Done.step (fun _ => XS.istoreN X0.here hx rfl (hb hby d6_1) rfl (l' := #[oR x1, oI (0 : Int32), .unset, .unset]) rfl) ?_
  show Done _ p e below s _ _ (T0.setTop (mkF m 2 #[oR x1, oI (0 : Int32), .unset, .unset] []))
  refine Done.step (fun _ => XT.iconstV X0.here hx rfl (0 : Int32) (hb hby d6_2) (by decide)) ?_
  show Done _ p e below s _ _ (T0.setTop (mkF m 3 #[oR x1, oI (0 : Int32), .unset, .unset] [(.int (0 : Int32))]))
  refine Done.step (fun _ => XS.istoreN X0.here hx rfl (hb hby d6_3) rfl (l' := #[oR x1, oI (0 : Int32), oI (0 : Int32), .unset]) rfl) ?_
  show Done _ p e below s _ _ (T0.setTop (mkF m 4 #[oR x1, oI (0 : Int32), oI (0 : Int32), .unset] []))
  have KL1 : ∀ (TL : State) (eL : TL.heap = h0) (XL : Stand p l e ({ frames := 5, cells := 0, slots := 0, locals := 80 } : Room) s m #[(.ref x1)] below meth c TL [] 0 0) (cnt dv : Int32) (hc : cnt = ((0 : Int32) + own_ub c0)), Done FrameEnd p e below s ({ frames := 5, cells := 0, slots := 0, locals := 80 } : Room) (PureQ (some (.int ((0 : Int32) + own_ub c0))) h0) (TL.setTop (mkF m 4 #[oR x1, oI cnt, oI (1 : Int32), oI dv] [])) := by
    intro TL eL XL cnt dv hc
    show Done _ p e below s _ _ (TL.setTop (mkF m 4 #[oR x1, oI cnt, oI (1 : Int32), oI dv] []))
    refine Done.step (fun _ => XS.iloadN XL.here hx rfl (hb hby d6_4) rfl) ?_
    show Done _ p e below s _ _ (TL.setTop (mkF m 5 #[oR x1, oI cnt, oI (1 : Int32), oI dv] [(.int (1 : Int32))]))
    refine Done.step (fun _ => XS.aloadN XL.here hx rfl (hb hby d6_5) rfl rfl) ?_
    show Done _ p e below s _ _ (TL.setTop (mkF m 6 #[oR x1, oI cnt, oI (1 : Int32), oI dv] [(.ref x1), (.int (1 : Int32))]))
    refine Done.callVP XL hx hZ (C := "java/lang/String") hown (wAt hw 35 rfl) (wAt hw 36 rfl) (notFace_of_selects (args := #[]) (mvT hZ (wAt hw 38 rfl))) (wAt hw 38 rfl) (wAt hw 37 rfl) (wAt hw 11 rfl) (wAt hw 39 rfl) (by decide) (rLd1 l Z a0 hw [] x1 t1 kb1 c0 z fm h0 n0 Z0 O0 SC hz SF rF SA SH SL E1 V1 D1) eL E1 (g := (mkF m 6 #[oR x1, oI cnt, oI (1 : Int32), oI dv] [(.ref x1), (.int (1 : Int32))])) rfl (by rw [hml]; rfl) [] [(.int (1 : Int32))] 1 (lenOf pd_14 rfl) rfl rfl (by show 2 * 0 + _ ≤ _; exact Nat.le_of_eq rfl) (hb hby d6_6) (by decide) (by decide) (by decide) (by decide) rfl rfl ?_
    intro T1 X1 e1
    show Done _ p e below s _ _ (T1.setTop (mkF m 9 #[oR x1, oI cnt, oI (1 : Int32), oI dv] [(.int (1 : Int32)), (.int (1 : Int32))]))
    refine Done.step (fun _ => XS.icmpYes X1.here hx rfl (pc0 := 9) (pc' := 66) rfl (hb hby d6_9) rfl (XT.ii_ge_t (by decide)) (by decide) (by decide)) ?_
    show Done _ p e below s _ _ (T1.setTop (mkF m 66 #[oR x1, oI cnt, oI (1 : Int32), oI dv] []))
    refine Done.step (fun _ => XS.iloadN X1.here hx rfl (hb hby d6_66) rfl) ?_
    show Done _ p e below s _ _ (T1.setTop (mkF m 67 #[oR x1, oI cnt, oI (1 : Int32), oI dv] [(.int cnt)]))
    exact Done.retI (leavesF X1 hlk (by decide) (by decide)) X1 hx hret (hb hby d6_67) ⟨by rw [hc], e1, rfl⟩
  show Done _ p e below s _ _ (T0.setTop (mkF m 4 #[oR x1, oI (0 : Int32), oI (0 : Int32), .unset] []))
  refine Done.step (fun _ => XS.iloadN X0.here hx rfl (hb hby d6_4) rfl) ?_
  show Done _ p e below s _ _ (T0.setTop (mkF m 5 #[oR x1, oI (0 : Int32), oI (0 : Int32), .unset] [(.int (0 : Int32))]))
  refine Done.step (fun _ => XS.aloadN X0.here hx rfl (hb hby d6_5) rfl rfl) ?_
  show Done _ p e below s _ _ (T0.setTop (mkF m 6 #[oR x1, oI (0 : Int32), oI (0 : Int32), .unset] [(.ref x1), (.int (0 : Int32))]))
  refine Done.callVP X0 hx hZ (C := "java/lang/String") hown (wAt hw 35 rfl) (wAt hw 36 rfl) (notFace_of_selects (args := #[]) (mvT hZ (wAt hw 38 rfl))) (wAt hw 38 rfl) (wAt hw 37 rfl) (wAt hw 11 rfl) (wAt hw 39 rfl) (by decide) (rLd1 l Z a0 hw [] x1 t1 kb1 c0 z fm h0 n0 Z0 O0 SC hz SF rF SA SH SL E1 V1 D1) e0 E1 (g := (mkF m 6 #[oR x1, oI (0 : Int32), oI (0 : Int32), .unset] [(.ref x1), (.int (0 : Int32))])) rfl (by rw [hml]; rfl) [] [(.int (0 : Int32))] 1 (lenOf pd_14 rfl) rfl rfl (by show 2 * 0 + _ ≤ _; exact Nat.le_of_eq rfl) (hb hby d6_6) (by decide) (by decide) (by decide) (by decide) rfl rfl ?_
  intro T2 X2 e2
  show Done _ p e below s _ _ (T2.setTop (mkF m 9 #[oR x1, oI (0 : Int32), oI (0 : Int32), .unset] [(.int (1 : Int32)), (.int (0 : Int32))]))
  refine Done.step (fun _ => XS.icmpNo X2.here hx rfl (hb hby d6_9) rfl (XT.ii_ge_f (by decide))) ?_
  show Done _ p e below s _ _ (T2.setTop (mkF m 12 #[oR x1, oI (0 : Int32), oI (0 : Int32), .unset] []))
  refine Done.step (fun _ => XS.aloadN X2.here hx rfl (hb hby d6_12) rfl rfl) ?_
  show Done _ p e below s _ _ (T2.setTop (mkF m 13 #[oR x1, oI (0 : Int32), oI (0 : Int32), .unset] [(.ref x1)]))
  refine Done.step (fun _ => XS.iloadN X2.here hx rfl (hb hby d6_13) rfl) ?_
  show Done _ p e below s _ _ (T2.setTop (mkF m 14 #[oR x1, oI (0 : Int32), oI (0 : Int32), .unset] [(.int (0 : Int32)), (.ref x1)]))
  refine Done.callVP X2 hx hZ (C := "java/lang/String") hown (wAt hw 67 rfl) (wAt hw 68 rfl) (notFace_of_selects (args := #[]) (mvT hZ (wAt hw 70 rfl))) (wAt hw 70 rfl) (wAt hw 69 rfl) (wAt hw 11 rfl) (wAt hw 71 rfl) (by decide) (rCd10 l Z a0 hw [] x1 t1 kb1 c0 z fm h0 n0 Z0 O0 SC hz SF rF SA SH SL E1 V1 D1 hb0) e2 E1 (g := (mkF m 14 #[oR x1, oI (0 : Int32), oI (0 : Int32), .unset] [(.int (0 : Int32)), (.ref x1)])) rfl (by rw [hml]; rfl) [(.int (0 : Int32))] [] 0 (lenOf pd_15 rfl) rfl rfl (by show 2 * 0 + _ ≤ _; exact Nat.le_of_eq rfl) (hb hby d6_14) (by decide) (by decide) (by decide) (by decide) rfl rfl ?_
  intro T3 X3 e3
  show Done _ p e below s _ _ (T3.setTop (mkF m 17 #[oR x1, oI (0 : Int32), oI (0 : Int32), .unset] [(.int c0)]))
  refine Done.step (fun _ => XS.istoreN X3.here hx rfl (hb hby d6_17) rfl (l' := #[oR x1, oI (0 : Int32), oI (0 : Int32), oI c0]) rfl) ?_
  show Done _ p e below s _ _ (T3.setTop (mkF m 18 #[oR x1, oI (0 : Int32), oI (0 : Int32), oI c0] []))
  refine Done.step (fun _ => XS.iloadN X3.here hx rfl (hb hby d6_18) rfl) ?_
  show Done _ p e below s _ _ (T3.setTop (mkF m 19 #[oR x1, oI (0 : Int32), oI (0 : Int32), oI c0] [(.int c0)]))
  refine Done.step (fun _ => XT.sipushV X3.here hx rfl (128 : Int32) (hb hby d6_19) (by decide)) ?_
  show Done _ p e below s _ _ (T3.setTop (mkF m 22 #[oR x1, oI (0 : Int32), oI (0 : Int32), oI c0] [(.int (128 : Int32)), (.int c0)]))
  by_cases hc4 : c0 < (128 : Int32)
  · refine Done.step (fun _ => XS.icmpNo X3.here hx rfl (hb hby d6_22) rfl (XT.ii_ge_f hc4)) ?_
    show Done _ p e below s _ _ (T3.setTop (mkF m 25 #[oR x1, oI (0 : Int32), oI (0 : Int32), oI c0] []))
    refine Done.step (fun _ => XS.iinc X3.here hx rfl (hb hby d6_25) rfl (l' := #[oR x1, oI (1 : Int32), oI (0 : Int32), oI c0]) rfl) ?_
    show Done _ p e below s _ _ (T3.setTop (mkF m 28 #[oR x1, oI (1 : Int32), oI (0 : Int32), oI c0] []))
    refine Done.step (fun _ => XS.goto X3.here hx rfl (pc0 := 28) (pc' := 60) rfl (hb hby d6_28) (by decide) (by decide)) ?_
    show Done _ p e below s _ _ (T3.setTop (mkF m 60 #[oR x1, oI (1 : Int32), oI (0 : Int32), oI c0] []))
    refine Done.step (fun _ => XS.iinc X3.here hx rfl (hb hby d6_60) rfl (l' := #[oR x1, oI (1 : Int32), oI (1 : Int32), oI c0]) rfl) ?_
    show Done _ p e below s _ _ (T3.setTop (mkF m 63 #[oR x1, oI (1 : Int32), oI (1 : Int32), oI c0] []))
    refine Done.step (fun _ => XS.goto X3.here hx rfl (pc0 := 63) (pc' := 4) rfl (hb hby d6_63) (by decide) (by decide)) ?_
    show Done _ p e below s _ _ (T3.setTop (mkF m 4 #[oR x1, oI (1 : Int32), oI (1 : Int32), oI c0] []))
    exact KL1 T3 e3 X3 (1 : Int32) c0 (by rw [show own_ub c0 = _ by unfold own_ub; rw [if_pos hc4]]; rfl)
  · refine Done.step (fun _ => XS.icmpYes X3.here hx rfl (pc0 := 22) (pc' := 31) rfl (hb hby d6_22) rfl (XT.ii_ge_t hc4) (by decide) (by decide)) ?_
    show Done _ p e below s _ _ (T3.setTop (mkF m 31 #[oR x1, oI (0 : Int32), oI (0 : Int32), oI c0] []))
    refine Done.step (fun _ => XS.iloadN X3.here hx rfl (hb hby d6_31) rfl) ?_
    show Done _ p e below s _ _ (T3.setTop (mkF m 32 #[oR x1, oI (0 : Int32), oI (0 : Int32), oI c0] [(.int c0)]))
    refine Done.step (fun _ => XT.sipushV X3.here hx rfl (2048 : Int32) (hb hby d6_32) (by decide)) ?_
    show Done _ p e below s _ _ (T3.setTop (mkF m 35 #[oR x1, oI (0 : Int32), oI (0 : Int32), oI c0] [(.int (2048 : Int32)), (.int c0)]))
    by_cases hc5 : c0 < (2048 : Int32)
    · refine Done.step (fun _ => XS.icmpNo X3.here hx rfl (hb hby d6_35) rfl (XT.ii_ge_f hc5)) ?_
      show Done _ p e below s _ _ (T3.setTop (mkF m 38 #[oR x1, oI (0 : Int32), oI (0 : Int32), oI c0] []))
      refine Done.step (fun _ => XS.iinc X3.here hx rfl (hb hby d6_38) rfl (l' := #[oR x1, oI (2 : Int32), oI (0 : Int32), oI c0]) rfl) ?_
      show Done _ p e below s _ _ (T3.setTop (mkF m 41 #[oR x1, oI (2 : Int32), oI (0 : Int32), oI c0] []))
      refine Done.step (fun _ => XS.goto X3.here hx rfl (pc0 := 41) (pc' := 60) rfl (hb hby d6_41) (by decide) (by decide)) ?_
      show Done _ p e below s _ _ (T3.setTop (mkF m 60 #[oR x1, oI (2 : Int32), oI (0 : Int32), oI c0] []))
      refine Done.step (fun _ => XS.iinc X3.here hx rfl (hb hby d6_60) rfl (l' := #[oR x1, oI (2 : Int32), oI (1 : Int32), oI c0]) rfl) ?_
      show Done _ p e below s _ _ (T3.setTop (mkF m 63 #[oR x1, oI (2 : Int32), oI (1 : Int32), oI c0] []))
      refine Done.step (fun _ => XS.goto X3.here hx rfl (pc0 := 63) (pc' := 4) rfl (hb hby d6_63) (by decide) (by decide)) ?_
      show Done _ p e below s _ _ (T3.setTop (mkF m 4 #[oR x1, oI (2 : Int32), oI (1 : Int32), oI c0] []))
      exact KL1 T3 e3 X3 (2 : Int32) c0 (by rw [show own_ub c0 = _ by unfold own_ub; rw [if_neg hc4, if_pos hc5]]; rfl)
    · refine Done.step (fun _ => XS.icmpYes X3.here hx rfl (pc0 := 35) (pc' := 44) rfl (hb hby d6_35) rfl (XT.ii_ge_t hc5) (by decide) (by decide)) ?_
      show Done _ p e below s _ _ (T3.setTop (mkF m 44 #[oR x1, oI (0 : Int32), oI (0 : Int32), oI c0] []))
      refine Done.step (fun _ => XS.iloadN X3.here hx rfl (hb hby d6_44) rfl) ?_
      show Done _ p e below s _ _ (T3.setTop (mkF m 45 #[oR x1, oI (0 : Int32), oI (0 : Int32), oI c0] [(.int c0)]))
      by_cases hc6 : (¬ c0 < (55296 : Int32) ∧ c0 < (57344 : Int32))
      · refine Done.callSP X3 hx hZ hown (wAt hw 127 rfl) (wAt hw 128 rfl) (wAt hw 129 rfl) (wAt hw 130 rfl) (by decide) (rIS l Z a0 hw [] c0 (1 : Int32) h0 n0 Z0 (bP_t hc6).symm) e3 (g := (mkF m 45 #[oR x1, oI (0 : Int32), oI (0 : Int32), oI c0] [(.int c0)])) rfl (by rw [hml]; rfl) [(.int c0)] [] 0 (lenOf pd_16 rfl) rfl rfl (by show 2 * 0 + _ ≤ _; exact Nat.le_of_eq rfl) (hb hby d6_45) (by decide) (by decide) (by decide) (by decide) rfl rfl ?_
        intro T7 X7 e7
        show Done _ p e below s _ _ (T7.setTop (mkF m 48 #[oR x1, oI (0 : Int32), oI (0 : Int32), oI c0] [(.int (1 : Int32))]))
        refine Done.step (fun _ => XS.ifNo X7.here hx rfl (hb hby d6_48) rfl (XT.i0_eq_f (by decide))) ?_
        show Done _ p e below s _ _ (T7.setTop (mkF m 51 #[oR x1, oI (0 : Int32), oI (0 : Int32), oI c0] []))
        refine Done.step (fun _ => XS.iinc X7.here hx rfl (hb hby d6_51) rfl (l' := #[oR x1, oI (2 : Int32), oI (0 : Int32), oI c0]) rfl) ?_
        show Done _ p e below s _ _ (T7.setTop (mkF m 54 #[oR x1, oI (2 : Int32), oI (0 : Int32), oI c0] []))
        refine Done.step (fun _ => XS.goto X7.here hx rfl (pc0 := 54) (pc' := 60) rfl (hb hby d6_54) (by decide) (by decide)) ?_
        show Done _ p e below s _ _ (T7.setTop (mkF m 60 #[oR x1, oI (2 : Int32), oI (0 : Int32), oI c0] []))
        refine Done.step (fun _ => XS.iinc X7.here hx rfl (hb hby d6_60) rfl (l' := #[oR x1, oI (2 : Int32), oI (1 : Int32), oI c0]) rfl) ?_
        show Done _ p e below s _ _ (T7.setTop (mkF m 63 #[oR x1, oI (2 : Int32), oI (1 : Int32), oI c0] []))
        refine Done.step (fun _ => XS.goto X7.here hx rfl (pc0 := 63) (pc' := 4) rfl (hb hby d6_63) (by decide) (by decide)) ?_
        show Done _ p e below s _ _ (T7.setTop (mkF m 4 #[oR x1, oI (2 : Int32), oI (1 : Int32), oI c0] []))
        exact KL1 T7 e7 X7 (2 : Int32) c0 (by rw [show own_ub c0 = _ by unfold own_ub; rw [if_neg hc4, if_neg hc5, if_pos hc6]]; rfl)
      · refine Done.callSP X3 hx hZ hown (wAt hw 127 rfl) (wAt hw 128 rfl) (wAt hw 129 rfl) (wAt hw 130 rfl) (by decide) (rIS l Z a0 hw [] c0 (0 : Int32) h0 n0 Z0 (bP_f hc6).symm) e3 (g := (mkF m 45 #[oR x1, oI (0 : Int32), oI (0 : Int32), oI c0] [(.int c0)])) rfl (by rw [hml]; rfl) [(.int c0)] [] 0 (lenOf pd_16 rfl) rfl rfl (by show 2 * 0 + _ ≤ _; exact Nat.le_of_eq rfl) (hb hby d6_45) (by decide) (by decide) (by decide) (by decide) rfl rfl ?_
        intro T8 X8 e8
        show Done _ p e below s _ _ (T8.setTop (mkF m 48 #[oR x1, oI (0 : Int32), oI (0 : Int32), oI c0] [(.int (0 : Int32))]))
        refine Done.step (fun _ => XS.ifYes X8.here hx rfl (pc0 := 48) (pc' := 57) rfl (hb hby d6_48) rfl (XT.i0_eq_t rfl) (by decide) (by decide)) ?_
        show Done _ p e below s _ _ (T8.setTop (mkF m 57 #[oR x1, oI (0 : Int32), oI (0 : Int32), oI c0] []))
        refine Done.step (fun _ => XS.iinc X8.here hx rfl (hb hby d6_57) rfl (l' := #[oR x1, oI (3 : Int32), oI (0 : Int32), oI c0]) rfl) ?_
        show Done _ p e below s _ _ (T8.setTop (mkF m 60 #[oR x1, oI (3 : Int32), oI (0 : Int32), oI c0] []))
        refine Done.step (fun _ => XS.iinc X8.here hx rfl (hb hby d6_60) rfl (l' := #[oR x1, oI (3 : Int32), oI (1 : Int32), oI c0]) rfl) ?_
        show Done _ p e below s _ _ (T8.setTop (mkF m 63 #[oR x1, oI (3 : Int32), oI (1 : Int32), oI c0] []))
        refine Done.step (fun _ => XS.goto X8.here hx rfl (pc0 := 63) (pc' := 4) rfl (hb hby d6_63) (by decide) (by decide)) ?_
        show Done _ p e below s _ _ (T8.setTop (mkF m 4 #[oR x1, oI (3 : Int32), oI (1 : Int32), oI c0] []))
        exact KL1 T8 e8 X8 (3 : Int32) c0 (by rw [show own_ub c0 = _ by unfold own_ub; rw [if_neg hc4, if_neg hc5, if_neg hc6]]; rfl)
set_option maxRecDepth 65536 in
set_option maxHeartbeats 40000000 in
theorem rQ2 (l : Launch) (Z : State) (a0 : Array Value) (hw : ∀ d ∈ tables_1, d.before a0 Z = true) (ws : List Jvm.Cond) (x1 t1 : Addr) (kb1 : ClassId) (c0 c1 : Int32) (z : Int32) (fm : Value) (h0 : Heap) (n0 : Nat) (Z0 : n0 ≤ h0.size) (O0 : Old Z n0 h0) (SC : Sta Z Z.heap "java/lang/String" "COMPACT_STRINGS" "Z" (.int z)) (hz : ¬ z = 0) (SF : Sta Z Z.heap "jdk/internal/util/Preconditions" "SIOOBE_FORMATTER" "Ljava/util/function/BiFunction;" fm) (rF : fm.isRef = true) (SA : Sta Z Z.heap "java/lang/StringUTF16" "$assertionsDisabled" "Z" (.int (1 : Int32))) (SH : Sta Z Z.heap "java/lang/StringUTF16" "HI_BYTE_SHIFT" "I" (.int (0 : Int32))) (SL : Sta Z Z.heap "java/lang/StringUTF16" "LO_BYTE_SHIFT" "I" (.int (8 : Int32))) (E1 : Exa Z h0 x1 "java/lang/String") (V1 : Fld Z h0 x1 "java/lang/String" "value" "[B" (.ref t1)) (D1 : SD_2 Z h0 x1 t1 kb1 c0 c1) (hb0 : ¬ c0 < 0 ∧ ¬ (65535 : Int32) < c0) (hb1 : ¬ c1 < 0 ∧ ¬ (65535 : Int32) < c1) :
    Ctr FrameEnd l Z (⟨"com/example/wide_weir/wideweir/http/Query", "utf8Length", "(Ljava/lang/String;)I"⟩ : MethodName) prog_37_method_3_code 4 (some .int) ws ({ frames := 5, cells := 0, slots := 0, locals := 80 } : Room) #[(.ref x1)] h0 TrueV (PureQ (some (.int (((0 : Int32) + own_ub c0) + own_ub c1))) h0) := by
  refine Ctr.intro (plainFor_of_name pn_com_example_wide_weir_wideweir_http_Query) (Ls := #[.val (.ref x1), .unset, .unset, .unset]) (fun m => by first | (simp [entryFrame, mkF, argsToLocals, Value.category]; done) | rfl) ?_
  intro p e s m below meth c T0 hx hby hml hown hnm hret hlk hZ hV hsh e0 X0
  have N0 := Fr.nil n0
  show Done _ p e below s _ _ (T0.setTop (mkF m 0 #[oR x1, .unset, .unset, .unset] []))
  refine Done.step (fun _ => XT.iconstV X0.here hx rfl (0 : Int32) (hb hby d6_0) (by decide)) ?_
  show Done _ p e below s _ _ (T0.setTop (mkF m 1 #[oR x1, .unset, .unset, .unset] [(.int (0 : Int32))]))
  refine Done.step (fun _ => XS.istoreN X0.here hx rfl (hb hby d6_1) rfl (l' := #[oR x1, oI (0 : Int32), .unset, .unset]) rfl) ?_
  show Done _ p e below s _ _ (T0.setTop (mkF m 2 #[oR x1, oI (0 : Int32), .unset, .unset] []))
  refine Done.step (fun _ => XT.iconstV X0.here hx rfl (0 : Int32) (hb hby d6_2) (by decide)) ?_
  show Done _ p e below s _ _ (T0.setTop (mkF m 3 #[oR x1, oI (0 : Int32), .unset, .unset] [(.int (0 : Int32))]))
  refine Done.step (fun _ => XS.istoreN X0.here hx rfl (hb hby d6_3) rfl (l' := #[oR x1, oI (0 : Int32), oI (0 : Int32), .unset]) rfl) ?_
  show Done _ p e below s _ _ (T0.setTop (mkF m 4 #[oR x1, oI (0 : Int32), oI (0 : Int32), .unset] []))
  have KL2 : ∀ (TL : State) (eL : TL.heap = h0) (XL : Stand p l e ({ frames := 5, cells := 0, slots := 0, locals := 80 } : Room) s m #[(.ref x1)] below meth c TL [] 0 0) (cnt dv : Int32) (hc : cnt = (((0 : Int32) + own_ub c0) + own_ub c1)), Done FrameEnd p e below s ({ frames := 5, cells := 0, slots := 0, locals := 80 } : Room) (PureQ (some (.int (((0 : Int32) + own_ub c0) + own_ub c1))) h0) (TL.setTop (mkF m 4 #[oR x1, oI cnt, oI (2 : Int32), oI dv] [])) := by
    intro TL eL XL cnt dv hc
    show Done _ p e below s _ _ (TL.setTop (mkF m 4 #[oR x1, oI cnt, oI (2 : Int32), oI dv] []))
    refine Done.step (fun _ => XS.iloadN XL.here hx rfl (hb hby d6_4) rfl) ?_
    show Done _ p e below s _ _ (TL.setTop (mkF m 5 #[oR x1, oI cnt, oI (2 : Int32), oI dv] [(.int (2 : Int32))]))
    refine Done.step (fun _ => XS.aloadN XL.here hx rfl (hb hby d6_5) rfl rfl) ?_
    show Done _ p e below s _ _ (TL.setTop (mkF m 6 #[oR x1, oI cnt, oI (2 : Int32), oI dv] [(.ref x1), (.int (2 : Int32))]))
    refine Done.callVP XL hx hZ (C := "java/lang/String") hown (wAt hw 35 rfl) (wAt hw 36 rfl) (notFace_of_selects (args := #[]) (mvT hZ (wAt hw 38 rfl))) (wAt hw 38 rfl) (wAt hw 37 rfl) (wAt hw 11 rfl) (wAt hw 39 rfl) (by decide) (rLd2 l Z a0 hw [] x1 t1 kb1 c0 c1 z fm h0 n0 Z0 O0 SC hz SF rF SA SH SL E1 V1 D1) eL E1 (g := (mkF m 6 #[oR x1, oI cnt, oI (2 : Int32), oI dv] [(.ref x1), (.int (2 : Int32))])) rfl (by rw [hml]; rfl) [] [(.int (2 : Int32))] 1 (lenOf pd_14 rfl) rfl rfl (by show 2 * 0 + _ ≤ _; exact Nat.le_of_eq rfl) (hb hby d6_6) (by decide) (by decide) (by decide) (by decide) rfl rfl ?_
    intro T1 X1 e1
    show Done _ p e below s _ _ (T1.setTop (mkF m 9 #[oR x1, oI cnt, oI (2 : Int32), oI dv] [(.int (2 : Int32)), (.int (2 : Int32))]))
    refine Done.step (fun _ => XS.icmpYes X1.here hx rfl (pc0 := 9) (pc' := 66) rfl (hb hby d6_9) rfl (XT.ii_ge_t (by decide)) (by decide) (by decide)) ?_
    show Done _ p e below s _ _ (T1.setTop (mkF m 66 #[oR x1, oI cnt, oI (2 : Int32), oI dv] []))
    refine Done.step (fun _ => XS.iloadN X1.here hx rfl (hb hby d6_66) rfl) ?_
    show Done _ p e below s _ _ (T1.setTop (mkF m 67 #[oR x1, oI cnt, oI (2 : Int32), oI dv] [(.int cnt)]))
    exact Done.retI (leavesF X1 hlk (by decide) (by decide)) X1 hx hret (hb hby d6_67) ⟨by rw [hc], e1, rfl⟩
  have KL1 : ∀ (TL : State) (eL : TL.heap = h0) (XL : Stand p l e ({ frames := 5, cells := 0, slots := 0, locals := 80 } : Room) s m #[(.ref x1)] below meth c TL [] 0 0) (cnt dv : Int32) (hc : cnt = ((0 : Int32) + own_ub c0)), Done FrameEnd p e below s ({ frames := 5, cells := 0, slots := 0, locals := 80 } : Room) (PureQ (some (.int (((0 : Int32) + own_ub c0) + own_ub c1))) h0) (TL.setTop (mkF m 4 #[oR x1, oI cnt, oI (1 : Int32), oI dv] [])) := by
    intro TL eL XL cnt dv hc
    show Done _ p e below s _ _ (TL.setTop (mkF m 4 #[oR x1, oI cnt, oI (1 : Int32), oI dv] []))
    refine Done.step (fun _ => XS.iloadN XL.here hx rfl (hb hby d6_4) rfl) ?_
    show Done _ p e below s _ _ (TL.setTop (mkF m 5 #[oR x1, oI cnt, oI (1 : Int32), oI dv] [(.int (1 : Int32))]))
    refine Done.step (fun _ => XS.aloadN XL.here hx rfl (hb hby d6_5) rfl rfl) ?_
    show Done _ p e below s _ _ (TL.setTop (mkF m 6 #[oR x1, oI cnt, oI (1 : Int32), oI dv] [(.ref x1), (.int (1 : Int32))]))
    refine Done.callVP XL hx hZ (C := "java/lang/String") hown (wAt hw 35 rfl) (wAt hw 36 rfl) (notFace_of_selects (args := #[]) (mvT hZ (wAt hw 38 rfl))) (wAt hw 38 rfl) (wAt hw 37 rfl) (wAt hw 11 rfl) (wAt hw 39 rfl) (by decide) (rLd2 l Z a0 hw [] x1 t1 kb1 c0 c1 z fm h0 n0 Z0 O0 SC hz SF rF SA SH SL E1 V1 D1) eL E1 (g := (mkF m 6 #[oR x1, oI cnt, oI (1 : Int32), oI dv] [(.ref x1), (.int (1 : Int32))])) rfl (by rw [hml]; rfl) [] [(.int (1 : Int32))] 1 (lenOf pd_14 rfl) rfl rfl (by show 2 * 0 + _ ≤ _; exact Nat.le_of_eq rfl) (hb hby d6_6) (by decide) (by decide) (by decide) (by decide) rfl rfl ?_
    intro T2 X2 e2
    show Done _ p e below s _ _ (T2.setTop (mkF m 9 #[oR x1, oI cnt, oI (1 : Int32), oI dv] [(.int (2 : Int32)), (.int (1 : Int32))]))
    refine Done.step (fun _ => XS.icmpNo X2.here hx rfl (hb hby d6_9) rfl (XT.ii_ge_f (by decide))) ?_
    show Done _ p e below s _ _ (T2.setTop (mkF m 12 #[oR x1, oI cnt, oI (1 : Int32), oI dv] []))
    refine Done.step (fun _ => XS.aloadN X2.here hx rfl (hb hby d6_12) rfl rfl) ?_
    show Done _ p e below s _ _ (T2.setTop (mkF m 13 #[oR x1, oI cnt, oI (1 : Int32), oI dv] [(.ref x1)]))
    refine Done.step (fun _ => XS.iloadN X2.here hx rfl (hb hby d6_13) rfl) ?_
    show Done _ p e below s _ _ (T2.setTop (mkF m 14 #[oR x1, oI cnt, oI (1 : Int32), oI dv] [(.int (1 : Int32)), (.ref x1)]))
    refine Done.callVP X2 hx hZ (C := "java/lang/String") hown (wAt hw 67 rfl) (wAt hw 68 rfl) (notFace_of_selects (args := #[]) (mvT hZ (wAt hw 70 rfl))) (wAt hw 70 rfl) (wAt hw 69 rfl) (wAt hw 11 rfl) (wAt hw 71 rfl) (by decide) (rCd21 l Z a0 hw [] x1 t1 kb1 c0 c1 z fm h0 n0 Z0 O0 SC hz SF rF SA SH SL E1 V1 D1 hb1) e2 E1 (g := (mkF m 14 #[oR x1, oI cnt, oI (1 : Int32), oI dv] [(.int (1 : Int32)), (.ref x1)])) rfl (by rw [hml]; rfl) [(.int (1 : Int32))] [] 0 (lenOf pd_15 rfl) rfl rfl (by show 2 * 0 + _ ≤ _; exact Nat.le_of_eq rfl) (hb hby d6_14) (by decide) (by decide) (by decide) (by decide) rfl rfl ?_
    intro T3 X3 e3
    show Done _ p e below s _ _ (T3.setTop (mkF m 17 #[oR x1, oI cnt, oI (1 : Int32), oI dv] [(.int c1)]))
    refine Done.step (fun _ => XS.istoreN X3.here hx rfl (hb hby d6_17) rfl (l' := #[oR x1, oI cnt, oI (1 : Int32), oI c1]) rfl) ?_
    show Done _ p e below s _ _ (T3.setTop (mkF m 18 #[oR x1, oI cnt, oI (1 : Int32), oI c1] []))
    refine Done.step (fun _ => XS.iloadN X3.here hx rfl (hb hby d6_18) rfl) ?_
    show Done _ p e below s _ _ (T3.setTop (mkF m 19 #[oR x1, oI cnt, oI (1 : Int32), oI c1] [(.int c1)]))
    refine Done.step (fun _ => XT.sipushV X3.here hx rfl (128 : Int32) (hb hby d6_19) (by decide)) ?_
    show Done _ p e below s _ _ (T3.setTop (mkF m 22 #[oR x1, oI cnt, oI (1 : Int32), oI c1] [(.int (128 : Int32)), (.int c1)]))
    by_cases hc4 : c1 < (128 : Int32)
    · refine Done.step (fun _ => XS.icmpNo X3.here hx rfl (hb hby d6_22) rfl (XT.ii_ge_f hc4)) ?_
      show Done _ p e below s _ _ (T3.setTop (mkF m 25 #[oR x1, oI cnt, oI (1 : Int32), oI c1] []))
      refine Done.step (fun _ => XS.iinc X3.here hx rfl (hb hby d6_25) rfl (l' := #[oR x1, oI (cnt + (1 : Int32)), oI (1 : Int32), oI c1]) rfl) ?_
      show Done _ p e below s _ _ (T3.setTop (mkF m 28 #[oR x1, oI (cnt + (1 : Int32)), oI (1 : Int32), oI c1] []))
      refine Done.step (fun _ => XS.goto X3.here hx rfl (pc0 := 28) (pc' := 60) rfl (hb hby d6_28) (by decide) (by decide)) ?_
      show Done _ p e below s _ _ (T3.setTop (mkF m 60 #[oR x1, oI (cnt + (1 : Int32)), oI (1 : Int32), oI c1] []))
      refine Done.step (fun _ => XS.iinc X3.here hx rfl (hb hby d6_60) rfl (l' := #[oR x1, oI (cnt + (1 : Int32)), oI (2 : Int32), oI c1]) rfl) ?_
      show Done _ p e below s _ _ (T3.setTop (mkF m 63 #[oR x1, oI (cnt + (1 : Int32)), oI (2 : Int32), oI c1] []))
      refine Done.step (fun _ => XS.goto X3.here hx rfl (pc0 := 63) (pc' := 4) rfl (hb hby d6_63) (by decide) (by decide)) ?_
      show Done _ p e below s _ _ (T3.setTop (mkF m 4 #[oR x1, oI (cnt + (1 : Int32)), oI (2 : Int32), oI c1] []))
      exact KL2 T3 e3 X3 (cnt + (1 : Int32)) c1 (by rw [hc, show own_ub c1 = _ by unfold own_ub; rw [if_pos hc4]])
    · refine Done.step (fun _ => XS.icmpYes X3.here hx rfl (pc0 := 22) (pc' := 31) rfl (hb hby d6_22) rfl (XT.ii_ge_t hc4) (by decide) (by decide)) ?_
      show Done _ p e below s _ _ (T3.setTop (mkF m 31 #[oR x1, oI cnt, oI (1 : Int32), oI c1] []))
      refine Done.step (fun _ => XS.iloadN X3.here hx rfl (hb hby d6_31) rfl) ?_
      show Done _ p e below s _ _ (T3.setTop (mkF m 32 #[oR x1, oI cnt, oI (1 : Int32), oI c1] [(.int c1)]))
      refine Done.step (fun _ => XT.sipushV X3.here hx rfl (2048 : Int32) (hb hby d6_32) (by decide)) ?_
      show Done _ p e below s _ _ (T3.setTop (mkF m 35 #[oR x1, oI cnt, oI (1 : Int32), oI c1] [(.int (2048 : Int32)), (.int c1)]))
      by_cases hc5 : c1 < (2048 : Int32)
      · refine Done.step (fun _ => XS.icmpNo X3.here hx rfl (hb hby d6_35) rfl (XT.ii_ge_f hc5)) ?_
        show Done _ p e below s _ _ (T3.setTop (mkF m 38 #[oR x1, oI cnt, oI (1 : Int32), oI c1] []))
        refine Done.step (fun _ => XS.iinc X3.here hx rfl (hb hby d6_38) rfl (l' := #[oR x1, oI (cnt + (2 : Int32)), oI (1 : Int32), oI c1]) rfl) ?_
        show Done _ p e below s _ _ (T3.setTop (mkF m 41 #[oR x1, oI (cnt + (2 : Int32)), oI (1 : Int32), oI c1] []))
        refine Done.step (fun _ => XS.goto X3.here hx rfl (pc0 := 41) (pc' := 60) rfl (hb hby d6_41) (by decide) (by decide)) ?_
        show Done _ p e below s _ _ (T3.setTop (mkF m 60 #[oR x1, oI (cnt + (2 : Int32)), oI (1 : Int32), oI c1] []))
        refine Done.step (fun _ => XS.iinc X3.here hx rfl (hb hby d6_60) rfl (l' := #[oR x1, oI (cnt + (2 : Int32)), oI (2 : Int32), oI c1]) rfl) ?_
        show Done _ p e below s _ _ (T3.setTop (mkF m 63 #[oR x1, oI (cnt + (2 : Int32)), oI (2 : Int32), oI c1] []))
        refine Done.step (fun _ => XS.goto X3.here hx rfl (pc0 := 63) (pc' := 4) rfl (hb hby d6_63) (by decide) (by decide)) ?_
        show Done _ p e below s _ _ (T3.setTop (mkF m 4 #[oR x1, oI (cnt + (2 : Int32)), oI (2 : Int32), oI c1] []))
        exact KL2 T3 e3 X3 (cnt + (2 : Int32)) c1 (by rw [hc, show own_ub c1 = _ by unfold own_ub; rw [if_neg hc4, if_pos hc5]])
      · refine Done.step (fun _ => XS.icmpYes X3.here hx rfl (pc0 := 35) (pc' := 44) rfl (hb hby d6_35) rfl (XT.ii_ge_t hc5) (by decide) (by decide)) ?_
        show Done _ p e below s _ _ (T3.setTop (mkF m 44 #[oR x1, oI cnt, oI (1 : Int32), oI c1] []))
        refine Done.step (fun _ => XS.iloadN X3.here hx rfl (hb hby d6_44) rfl) ?_
        show Done _ p e below s _ _ (T3.setTop (mkF m 45 #[oR x1, oI cnt, oI (1 : Int32), oI c1] [(.int c1)]))
        by_cases hc6 : (¬ c1 < (55296 : Int32) ∧ c1 < (57344 : Int32))
        · refine Done.callSP X3 hx hZ hown (wAt hw 127 rfl) (wAt hw 128 rfl) (wAt hw 129 rfl) (wAt hw 130 rfl) (by decide) (rIS l Z a0 hw [] c1 (1 : Int32) h0 n0 Z0 (bP_t hc6).symm) e3 (g := (mkF m 45 #[oR x1, oI cnt, oI (1 : Int32), oI c1] [(.int c1)])) rfl (by rw [hml]; rfl) [(.int c1)] [] 0 (lenOf pd_16 rfl) rfl rfl (by show 2 * 0 + _ ≤ _; exact Nat.le_of_eq rfl) (hb hby d6_45) (by decide) (by decide) (by decide) (by decide) rfl rfl ?_
          intro T7 X7 e7
          show Done _ p e below s _ _ (T7.setTop (mkF m 48 #[oR x1, oI cnt, oI (1 : Int32), oI c1] [(.int (1 : Int32))]))
          refine Done.step (fun _ => XS.ifNo X7.here hx rfl (hb hby d6_48) rfl (XT.i0_eq_f (by decide))) ?_
          show Done _ p e below s _ _ (T7.setTop (mkF m 51 #[oR x1, oI cnt, oI (1 : Int32), oI c1] []))
          refine Done.step (fun _ => XS.iinc X7.here hx rfl (hb hby d6_51) rfl (l' := #[oR x1, oI (cnt + (2 : Int32)), oI (1 : Int32), oI c1]) rfl) ?_
          show Done _ p e below s _ _ (T7.setTop (mkF m 54 #[oR x1, oI (cnt + (2 : Int32)), oI (1 : Int32), oI c1] []))
          refine Done.step (fun _ => XS.goto X7.here hx rfl (pc0 := 54) (pc' := 60) rfl (hb hby d6_54) (by decide) (by decide)) ?_
          show Done _ p e below s _ _ (T7.setTop (mkF m 60 #[oR x1, oI (cnt + (2 : Int32)), oI (1 : Int32), oI c1] []))
          refine Done.step (fun _ => XS.iinc X7.here hx rfl (hb hby d6_60) rfl (l' := #[oR x1, oI (cnt + (2 : Int32)), oI (2 : Int32), oI c1]) rfl) ?_
          show Done _ p e below s _ _ (T7.setTop (mkF m 63 #[oR x1, oI (cnt + (2 : Int32)), oI (2 : Int32), oI c1] []))
          refine Done.step (fun _ => XS.goto X7.here hx rfl (pc0 := 63) (pc' := 4) rfl (hb hby d6_63) (by decide) (by decide)) ?_
          show Done _ p e below s _ _ (T7.setTop (mkF m 4 #[oR x1, oI (cnt + (2 : Int32)), oI (2 : Int32), oI c1] []))
          exact KL2 T7 e7 X7 (cnt + (2 : Int32)) c1 (by rw [hc, show own_ub c1 = _ by unfold own_ub; rw [if_neg hc4, if_neg hc5, if_pos hc6]])
        · refine Done.callSP X3 hx hZ hown (wAt hw 127 rfl) (wAt hw 128 rfl) (wAt hw 129 rfl) (wAt hw 130 rfl) (by decide) (rIS l Z a0 hw [] c1 (0 : Int32) h0 n0 Z0 (bP_f hc6).symm) e3 (g := (mkF m 45 #[oR x1, oI cnt, oI (1 : Int32), oI c1] [(.int c1)])) rfl (by rw [hml]; rfl) [(.int c1)] [] 0 (lenOf pd_16 rfl) rfl rfl (by show 2 * 0 + _ ≤ _; exact Nat.le_of_eq rfl) (hb hby d6_45) (by decide) (by decide) (by decide) (by decide) rfl rfl ?_
          intro T8 X8 e8
          show Done _ p e below s _ _ (T8.setTop (mkF m 48 #[oR x1, oI cnt, oI (1 : Int32), oI c1] [(.int (0 : Int32))]))
          refine Done.step (fun _ => XS.ifYes X8.here hx rfl (pc0 := 48) (pc' := 57) rfl (hb hby d6_48) rfl (XT.i0_eq_t rfl) (by decide) (by decide)) ?_
          show Done _ p e below s _ _ (T8.setTop (mkF m 57 #[oR x1, oI cnt, oI (1 : Int32), oI c1] []))
          refine Done.step (fun _ => XS.iinc X8.here hx rfl (hb hby d6_57) rfl (l' := #[oR x1, oI (cnt + (3 : Int32)), oI (1 : Int32), oI c1]) rfl) ?_
          show Done _ p e below s _ _ (T8.setTop (mkF m 60 #[oR x1, oI (cnt + (3 : Int32)), oI (1 : Int32), oI c1] []))
          refine Done.step (fun _ => XS.iinc X8.here hx rfl (hb hby d6_60) rfl (l' := #[oR x1, oI (cnt + (3 : Int32)), oI (2 : Int32), oI c1]) rfl) ?_
          show Done _ p e below s _ _ (T8.setTop (mkF m 63 #[oR x1, oI (cnt + (3 : Int32)), oI (2 : Int32), oI c1] []))
          refine Done.step (fun _ => XS.goto X8.here hx rfl (pc0 := 63) (pc' := 4) rfl (hb hby d6_63) (by decide) (by decide)) ?_
          show Done _ p e below s _ _ (T8.setTop (mkF m 4 #[oR x1, oI (cnt + (3 : Int32)), oI (2 : Int32), oI c1] []))
          exact KL2 T8 e8 X8 (cnt + (3 : Int32)) c1 (by rw [hc, show own_ub c1 = _ by unfold own_ub; rw [if_neg hc4, if_neg hc5, if_neg hc6]])
  show Done _ p e below s _ _ (T0.setTop (mkF m 4 #[oR x1, oI (0 : Int32), oI (0 : Int32), .unset] []))
  refine Done.step (fun _ => XS.iloadN X0.here hx rfl (hb hby d6_4) rfl) ?_
  show Done _ p e below s _ _ (T0.setTop (mkF m 5 #[oR x1, oI (0 : Int32), oI (0 : Int32), .unset] [(.int (0 : Int32))]))
  refine Done.step (fun _ => XS.aloadN X0.here hx rfl (hb hby d6_5) rfl rfl) ?_
  show Done _ p e below s _ _ (T0.setTop (mkF m 6 #[oR x1, oI (0 : Int32), oI (0 : Int32), .unset] [(.ref x1), (.int (0 : Int32))]))
  refine Done.callVP X0 hx hZ (C := "java/lang/String") hown (wAt hw 35 rfl) (wAt hw 36 rfl) (notFace_of_selects (args := #[]) (mvT hZ (wAt hw 38 rfl))) (wAt hw 38 rfl) (wAt hw 37 rfl) (wAt hw 11 rfl) (wAt hw 39 rfl) (by decide) (rLd2 l Z a0 hw [] x1 t1 kb1 c0 c1 z fm h0 n0 Z0 O0 SC hz SF rF SA SH SL E1 V1 D1) e0 E1 (g := (mkF m 6 #[oR x1, oI (0 : Int32), oI (0 : Int32), .unset] [(.ref x1), (.int (0 : Int32))])) rfl (by rw [hml]; rfl) [] [(.int (0 : Int32))] 1 (lenOf pd_14 rfl) rfl rfl (by show 2 * 0 + _ ≤ _; exact Nat.le_of_eq rfl) (hb hby d6_6) (by decide) (by decide) (by decide) (by decide) rfl rfl ?_
  intro T9 X9 e9
  show Done _ p e below s _ _ (T9.setTop (mkF m 9 #[oR x1, oI (0 : Int32), oI (0 : Int32), .unset] [(.int (2 : Int32)), (.int (0 : Int32))]))
  refine Done.step (fun _ => XS.icmpNo X9.here hx rfl (hb hby d6_9) rfl (XT.ii_ge_f (by decide))) ?_
  show Done _ p e below s _ _ (T9.setTop (mkF m 12 #[oR x1, oI (0 : Int32), oI (0 : Int32), .unset] []))
  refine Done.step (fun _ => XS.aloadN X9.here hx rfl (hb hby d6_12) rfl rfl) ?_
  show Done _ p e below s _ _ (T9.setTop (mkF m 13 #[oR x1, oI (0 : Int32), oI (0 : Int32), .unset] [(.ref x1)]))
  refine Done.step (fun _ => XS.iloadN X9.here hx rfl (hb hby d6_13) rfl) ?_
  show Done _ p e below s _ _ (T9.setTop (mkF m 14 #[oR x1, oI (0 : Int32), oI (0 : Int32), .unset] [(.int (0 : Int32)), (.ref x1)]))
  refine Done.callVP X9 hx hZ (C := "java/lang/String") hown (wAt hw 67 rfl) (wAt hw 68 rfl) (notFace_of_selects (args := #[]) (mvT hZ (wAt hw 70 rfl))) (wAt hw 70 rfl) (wAt hw 69 rfl) (wAt hw 11 rfl) (wAt hw 71 rfl) (by decide) (rCd20 l Z a0 hw [] x1 t1 kb1 c0 c1 z fm h0 n0 Z0 O0 SC hz SF rF SA SH SL E1 V1 D1 hb0) e9 E1 (g := (mkF m 14 #[oR x1, oI (0 : Int32), oI (0 : Int32), .unset] [(.int (0 : Int32)), (.ref x1)])) rfl (by rw [hml]; rfl) [(.int (0 : Int32))] [] 0 (lenOf pd_15 rfl) rfl rfl (by show 2 * 0 + _ ≤ _; exact Nat.le_of_eq rfl) (hb hby d6_14) (by decide) (by decide) (by decide) (by decide) rfl rfl ?_
  intro T10 X10 e10
  show Done _ p e below s _ _ (T10.setTop (mkF m 17 #[oR x1, oI (0 : Int32), oI (0 : Int32), .unset] [(.int c0)]))
  refine Done.step (fun _ => XS.istoreN X10.here hx rfl (hb hby d6_17) rfl (l' := #[oR x1, oI (0 : Int32), oI (0 : Int32), oI c0]) rfl) ?_
  show Done _ p e below s _ _ (T10.setTop (mkF m 18 #[oR x1, oI (0 : Int32), oI (0 : Int32), oI c0] []))
  refine Done.step (fun _ => XS.iloadN X10.here hx rfl (hb hby d6_18) rfl) ?_
  show Done _ p e below s _ _ (T10.setTop (mkF m 19 #[oR x1, oI (0 : Int32), oI (0 : Int32), oI c0] [(.int c0)]))
  refine Done.step (fun _ => XT.sipushV X10.here hx rfl (128 : Int32) (hb hby d6_19) (by decide)) ?_
  show Done _ p e below s _ _ (T10.setTop (mkF m 22 #[oR x1, oI (0 : Int32), oI (0 : Int32), oI c0] [(.int (128 : Int32)), (.int c0)]))
  by_cases hc11 : c0 < (128 : Int32)
  · refine Done.step (fun _ => XS.icmpNo X10.here hx rfl (hb hby d6_22) rfl (XT.ii_ge_f hc11)) ?_
    show Done _ p e below s _ _ (T10.setTop (mkF m 25 #[oR x1, oI (0 : Int32), oI (0 : Int32), oI c0] []))
    refine Done.step (fun _ => XS.iinc X10.here hx rfl (hb hby d6_25) rfl (l' := #[oR x1, oI (1 : Int32), oI (0 : Int32), oI c0]) rfl) ?_
    show Done _ p e below s _ _ (T10.setTop (mkF m 28 #[oR x1, oI (1 : Int32), oI (0 : Int32), oI c0] []))
    refine Done.step (fun _ => XS.goto X10.here hx rfl (pc0 := 28) (pc' := 60) rfl (hb hby d6_28) (by decide) (by decide)) ?_
    show Done _ p e below s _ _ (T10.setTop (mkF m 60 #[oR x1, oI (1 : Int32), oI (0 : Int32), oI c0] []))
    refine Done.step (fun _ => XS.iinc X10.here hx rfl (hb hby d6_60) rfl (l' := #[oR x1, oI (1 : Int32), oI (1 : Int32), oI c0]) rfl) ?_
    show Done _ p e below s _ _ (T10.setTop (mkF m 63 #[oR x1, oI (1 : Int32), oI (1 : Int32), oI c0] []))
    refine Done.step (fun _ => XS.goto X10.here hx rfl (pc0 := 63) (pc' := 4) rfl (hb hby d6_63) (by decide) (by decide)) ?_
    show Done _ p e below s _ _ (T10.setTop (mkF m 4 #[oR x1, oI (1 : Int32), oI (1 : Int32), oI c0] []))
    exact KL1 T10 e10 X10 (1 : Int32) c0 (by rw [show own_ub c0 = _ by unfold own_ub; rw [if_pos hc11]]; rfl)
  · refine Done.step (fun _ => XS.icmpYes X10.here hx rfl (pc0 := 22) (pc' := 31) rfl (hb hby d6_22) rfl (XT.ii_ge_t hc11) (by decide) (by decide)) ?_
    show Done _ p e below s _ _ (T10.setTop (mkF m 31 #[oR x1, oI (0 : Int32), oI (0 : Int32), oI c0] []))
    refine Done.step (fun _ => XS.iloadN X10.here hx rfl (hb hby d6_31) rfl) ?_
    show Done _ p e below s _ _ (T10.setTop (mkF m 32 #[oR x1, oI (0 : Int32), oI (0 : Int32), oI c0] [(.int c0)]))
    refine Done.step (fun _ => XT.sipushV X10.here hx rfl (2048 : Int32) (hb hby d6_32) (by decide)) ?_
    show Done _ p e below s _ _ (T10.setTop (mkF m 35 #[oR x1, oI (0 : Int32), oI (0 : Int32), oI c0] [(.int (2048 : Int32)), (.int c0)]))
    by_cases hc12 : c0 < (2048 : Int32)
    · refine Done.step (fun _ => XS.icmpNo X10.here hx rfl (hb hby d6_35) rfl (XT.ii_ge_f hc12)) ?_
      show Done _ p e below s _ _ (T10.setTop (mkF m 38 #[oR x1, oI (0 : Int32), oI (0 : Int32), oI c0] []))
      refine Done.step (fun _ => XS.iinc X10.here hx rfl (hb hby d6_38) rfl (l' := #[oR x1, oI (2 : Int32), oI (0 : Int32), oI c0]) rfl) ?_
      show Done _ p e below s _ _ (T10.setTop (mkF m 41 #[oR x1, oI (2 : Int32), oI (0 : Int32), oI c0] []))
      refine Done.step (fun _ => XS.goto X10.here hx rfl (pc0 := 41) (pc' := 60) rfl (hb hby d6_41) (by decide) (by decide)) ?_
      show Done _ p e below s _ _ (T10.setTop (mkF m 60 #[oR x1, oI (2 : Int32), oI (0 : Int32), oI c0] []))
      refine Done.step (fun _ => XS.iinc X10.here hx rfl (hb hby d6_60) rfl (l' := #[oR x1, oI (2 : Int32), oI (1 : Int32), oI c0]) rfl) ?_
      show Done _ p e below s _ _ (T10.setTop (mkF m 63 #[oR x1, oI (2 : Int32), oI (1 : Int32), oI c0] []))
      refine Done.step (fun _ => XS.goto X10.here hx rfl (pc0 := 63) (pc' := 4) rfl (hb hby d6_63) (by decide) (by decide)) ?_
      show Done _ p e below s _ _ (T10.setTop (mkF m 4 #[oR x1, oI (2 : Int32), oI (1 : Int32), oI c0] []))
      exact KL1 T10 e10 X10 (2 : Int32) c0 (by rw [show own_ub c0 = _ by unfold own_ub; rw [if_neg hc11, if_pos hc12]]; rfl)
    · refine Done.step (fun _ => XS.icmpYes X10.here hx rfl (pc0 := 35) (pc' := 44) rfl (hb hby d6_35) rfl (XT.ii_ge_t hc12) (by decide) (by decide)) ?_
      show Done _ p e below s _ _ (T10.setTop (mkF m 44 #[oR x1, oI (0 : Int32), oI (0 : Int32), oI c0] []))
      refine Done.step (fun _ => XS.iloadN X10.here hx rfl (hb hby d6_44) rfl) ?_
      show Done _ p e below s _ _ (T10.setTop (mkF m 45 #[oR x1, oI (0 : Int32), oI (0 : Int32), oI c0] [(.int c0)]))
      by_cases hc13 : (¬ c0 < (55296 : Int32) ∧ c0 < (57344 : Int32))
      · refine Done.callSP X10 hx hZ hown (wAt hw 127 rfl) (wAt hw 128 rfl) (wAt hw 129 rfl) (wAt hw 130 rfl) (by decide) (rIS l Z a0 hw [] c0 (1 : Int32) h0 n0 Z0 (bP_t hc13).symm) e10 (g := (mkF m 45 #[oR x1, oI (0 : Int32), oI (0 : Int32), oI c0] [(.int c0)])) rfl (by rw [hml]; rfl) [(.int c0)] [] 0 (lenOf pd_16 rfl) rfl rfl (by show 2 * 0 + _ ≤ _; exact Nat.le_of_eq rfl) (hb hby d6_45) (by decide) (by decide) (by decide) (by decide) rfl rfl ?_
        intro T14 X14 e14
        show Done _ p e below s _ _ (T14.setTop (mkF m 48 #[oR x1, oI (0 : Int32), oI (0 : Int32), oI c0] [(.int (1 : Int32))]))
        refine Done.step (fun _ => XS.ifNo X14.here hx rfl (hb hby d6_48) rfl (XT.i0_eq_f (by decide))) ?_
        show Done _ p e below s _ _ (T14.setTop (mkF m 51 #[oR x1, oI (0 : Int32), oI (0 : Int32), oI c0] []))
        refine Done.step (fun _ => XS.iinc X14.here hx rfl (hb hby d6_51) rfl (l' := #[oR x1, oI (2 : Int32), oI (0 : Int32), oI c0]) rfl) ?_
        show Done _ p e below s _ _ (T14.setTop (mkF m 54 #[oR x1, oI (2 : Int32), oI (0 : Int32), oI c0] []))
        refine Done.step (fun _ => XS.goto X14.here hx rfl (pc0 := 54) (pc' := 60) rfl (hb hby d6_54) (by decide) (by decide)) ?_
        show Done _ p e below s _ _ (T14.setTop (mkF m 60 #[oR x1, oI (2 : Int32), oI (0 : Int32), oI c0] []))
        refine Done.step (fun _ => XS.iinc X14.here hx rfl (hb hby d6_60) rfl (l' := #[oR x1, oI (2 : Int32), oI (1 : Int32), oI c0]) rfl) ?_
        show Done _ p e below s _ _ (T14.setTop (mkF m 63 #[oR x1, oI (2 : Int32), oI (1 : Int32), oI c0] []))
        refine Done.step (fun _ => XS.goto X14.here hx rfl (pc0 := 63) (pc' := 4) rfl (hb hby d6_63) (by decide) (by decide)) ?_
        show Done _ p e below s _ _ (T14.setTop (mkF m 4 #[oR x1, oI (2 : Int32), oI (1 : Int32), oI c0] []))
        exact KL1 T14 e14 X14 (2 : Int32) c0 (by rw [show own_ub c0 = _ by unfold own_ub; rw [if_neg hc11, if_neg hc12, if_pos hc13]]; rfl)
      · refine Done.callSP X10 hx hZ hown (wAt hw 127 rfl) (wAt hw 128 rfl) (wAt hw 129 rfl) (wAt hw 130 rfl) (by decide) (rIS l Z a0 hw [] c0 (0 : Int32) h0 n0 Z0 (bP_f hc13).symm) e10 (g := (mkF m 45 #[oR x1, oI (0 : Int32), oI (0 : Int32), oI c0] [(.int c0)])) rfl (by rw [hml]; rfl) [(.int c0)] [] 0 (lenOf pd_16 rfl) rfl rfl (by show 2 * 0 + _ ≤ _; exact Nat.le_of_eq rfl) (hb hby d6_45) (by decide) (by decide) (by decide) (by decide) rfl rfl ?_
        intro T15 X15 e15
        show Done _ p e below s _ _ (T15.setTop (mkF m 48 #[oR x1, oI (0 : Int32), oI (0 : Int32), oI c0] [(.int (0 : Int32))]))
        refine Done.step (fun _ => XS.ifYes X15.here hx rfl (pc0 := 48) (pc' := 57) rfl (hb hby d6_48) rfl (XT.i0_eq_t rfl) (by decide) (by decide)) ?_
        show Done _ p e below s _ _ (T15.setTop (mkF m 57 #[oR x1, oI (0 : Int32), oI (0 : Int32), oI c0] []))
        refine Done.step (fun _ => XS.iinc X15.here hx rfl (hb hby d6_57) rfl (l' := #[oR x1, oI (3 : Int32), oI (0 : Int32), oI c0]) rfl) ?_
        show Done _ p e below s _ _ (T15.setTop (mkF m 60 #[oR x1, oI (3 : Int32), oI (0 : Int32), oI c0] []))
        refine Done.step (fun _ => XS.iinc X15.here hx rfl (hb hby d6_60) rfl (l' := #[oR x1, oI (3 : Int32), oI (1 : Int32), oI c0]) rfl) ?_
        show Done _ p e below s _ _ (T15.setTop (mkF m 63 #[oR x1, oI (3 : Int32), oI (1 : Int32), oI c0] []))
        refine Done.step (fun _ => XS.goto X15.here hx rfl (pc0 := 63) (pc' := 4) rfl (hb hby d6_63) (by decide) (by decide)) ?_
        show Done _ p e below s _ _ (T15.setTop (mkF m 4 #[oR x1, oI (3 : Int32), oI (1 : Int32), oI c0] []))
        exact KL1 T15 e15 X15 (3 : Int32) c0 (by rw [show own_ub c0 = _ by unfold own_ub; rw [if_neg hc11, if_neg hc12, if_neg hc13]]; rfl)
set_option maxRecDepth 65536 in
set_option maxHeartbeats 40000000 in
theorem rQ4 (l : Launch) (Z : State) (a0 : Array Value) (hw : ∀ d ∈ tables_1, d.before a0 Z = true) (ws : List Jvm.Cond) (x1 t1 : Addr) (kb1 : ClassId) (c0 c1 c2 c3 : Int32) (z : Int32) (fm : Value) (h0 : Heap) (n0 : Nat) (Z0 : n0 ≤ h0.size) (O0 : Old Z n0 h0) (SC : Sta Z Z.heap "java/lang/String" "COMPACT_STRINGS" "Z" (.int z)) (hz : ¬ z = 0) (SF : Sta Z Z.heap "jdk/internal/util/Preconditions" "SIOOBE_FORMATTER" "Ljava/util/function/BiFunction;" fm) (rF : fm.isRef = true) (SA : Sta Z Z.heap "java/lang/StringUTF16" "$assertionsDisabled" "Z" (.int (1 : Int32))) (SH : Sta Z Z.heap "java/lang/StringUTF16" "HI_BYTE_SHIFT" "I" (.int (0 : Int32))) (SL : Sta Z Z.heap "java/lang/StringUTF16" "LO_BYTE_SHIFT" "I" (.int (8 : Int32))) (E1 : Exa Z h0 x1 "java/lang/String") (V1 : Fld Z h0 x1 "java/lang/String" "value" "[B" (.ref t1)) (D1 : SD_4 Z h0 x1 t1 kb1 c0 c1 c2 c3) (hb0 : ¬ c0 < 0 ∧ ¬ (65535 : Int32) < c0) (hb1 : ¬ c1 < 0 ∧ ¬ (65535 : Int32) < c1) (hb2 : ¬ c2 < 0 ∧ ¬ (65535 : Int32) < c2) (hb3 : ¬ c3 < 0 ∧ ¬ (65535 : Int32) < c3) :
    Ctr FrameEnd l Z (⟨"com/example/wide_weir/wideweir/http/Query", "utf8Length", "(Ljava/lang/String;)I"⟩ : MethodName) prog_37_method_3_code 4 (some .int) ws ({ frames := 5, cells := 0, slots := 0, locals := 80 } : Room) #[(.ref x1)] h0 TrueV (PureQ (some (.int (((((0 : Int32) + own_ub c0) + own_ub c1) + own_ub c2) + own_ub c3))) h0) := by
  refine Ctr.intro (plainFor_of_name pn_com_example_wide_weir_wideweir_http_Query) (Ls := #[.val (.ref x1), .unset, .unset, .unset]) (fun m => by first | (simp [entryFrame, mkF, argsToLocals, Value.category]; done) | rfl) ?_
  intro p e s m below meth c T0 hx hby hml hown hnm hret hlk hZ hV hsh e0 X0
  have N0 := Fr.nil n0
  show Done _ p e below s _ _ (T0.setTop (mkF m 0 #[oR x1, .unset, .unset, .unset] []))
  refine Done.step (fun _ => XT.iconstV X0.here hx rfl (0 : Int32) (hb hby d6_0) (by decide)) ?_
  show Done _ p e below s _ _ (T0.setTop (mkF m 1 #[oR x1, .unset, .unset, .unset] [(.int (0 : Int32))]))
  refine Done.step (fun _ => XS.istoreN X0.here hx rfl (hb hby d6_1) rfl (l' := #[oR x1, oI (0 : Int32), .unset, .unset]) rfl) ?_
  show Done _ p e below s _ _ (T0.setTop (mkF m 2 #[oR x1, oI (0 : Int32), .unset, .unset] []))
  refine Done.step (fun _ => XT.iconstV X0.here hx rfl (0 : Int32) (hb hby d6_2) (by decide)) ?_
  show Done _ p e below s _ _ (T0.setTop (mkF m 3 #[oR x1, oI (0 : Int32), .unset, .unset] [(.int (0 : Int32))]))
  refine Done.step (fun _ => XS.istoreN X0.here hx rfl (hb hby d6_3) rfl (l' := #[oR x1, oI (0 : Int32), oI (0 : Int32), .unset]) rfl) ?_
  show Done _ p e below s _ _ (T0.setTop (mkF m 4 #[oR x1, oI (0 : Int32), oI (0 : Int32), .unset] []))
  have KL4 : ∀ (TL : State) (eL : TL.heap = h0) (XL : Stand p l e ({ frames := 5, cells := 0, slots := 0, locals := 80 } : Room) s m #[(.ref x1)] below meth c TL [] 0 0) (cnt dv : Int32) (hc : cnt = (((((0 : Int32) + own_ub c0) + own_ub c1) + own_ub c2) + own_ub c3)), Done FrameEnd p e below s ({ frames := 5, cells := 0, slots := 0, locals := 80 } : Room) (PureQ (some (.int (((((0 : Int32) + own_ub c0) + own_ub c1) + own_ub c2) + own_ub c3))) h0) (TL.setTop (mkF m 4 #[oR x1, oI cnt, oI (4 : Int32), oI dv] [])) := by
    intro TL eL XL cnt dv hc
    show Done _ p e below s _ _ (TL.setTop (mkF m 4 #[oR x1, oI cnt, oI (4 : Int32), oI dv] []))
    refine Done.step (fun _ => XS.iloadN XL.here hx rfl (hb hby d6_4) rfl) ?_
    show Done _ p e below s _ _ (TL.setTop (mkF m 5 #[oR x1, oI cnt, oI (4 : Int32), oI dv] [(.int (4 : Int32))]))
    refine Done.step (fun _ => XS.aloadN XL.here hx rfl (hb hby d6_5) rfl rfl) ?_
    show Done _ p e below s _ _ (TL.setTop (mkF m 6 #[oR x1, oI cnt, oI (4 : Int32), oI dv] [(.ref x1), (.int (4 : Int32))]))
    refine Done.callVP XL hx hZ (C := "java/lang/String") hown (wAt hw 35 rfl) (wAt hw 36 rfl) (notFace_of_selects (args := #[]) (mvT hZ (wAt hw 38 rfl))) (wAt hw 38 rfl) (wAt hw 37 rfl) (wAt hw 11 rfl) (wAt hw 39 rfl) (by decide) (rLd4 l Z a0 hw [] x1 t1 kb1 c0 c1 c2 c3 z fm h0 n0 Z0 O0 SC hz SF rF SA SH SL E1 V1 D1) eL E1 (g := (mkF m 6 #[oR x1, oI cnt, oI (4 : Int32), oI dv] [(.ref x1), (.int (4 : Int32))])) rfl (by rw [hml]; rfl) [] [(.int (4 : Int32))] 1 (lenOf pd_14 rfl) rfl rfl (by show 2 * 0 + _ ≤ _; exact Nat.le_of_eq rfl) (hb hby d6_6) (by decide) (by decide) (by decide) (by decide) rfl rfl ?_
    intro T1 X1 e1
    show Done _ p e below s _ _ (T1.setTop (mkF m 9 #[oR x1, oI cnt, oI (4 : Int32), oI dv] [(.int (4 : Int32)), (.int (4 : Int32))]))
    refine Done.step (fun _ => XS.icmpYes X1.here hx rfl (pc0 := 9) (pc' := 66) rfl (hb hby d6_9) rfl (XT.ii_ge_t (by decide)) (by decide) (by decide)) ?_
    show Done _ p e below s _ _ (T1.setTop (mkF m 66 #[oR x1, oI cnt, oI (4 : Int32), oI dv] []))
    refine Done.step (fun _ => XS.iloadN X1.here hx rfl (hb hby d6_66) rfl) ?_
    show Done _ p e below s _ _ (T1.setTop (mkF m 67 #[oR x1, oI cnt, oI (4 : Int32), oI dv] [(.int cnt)]))
    exact Done.retI (leavesF X1 hlk (by decide) (by decide)) X1 hx hret (hb hby d6_67) ⟨by rw [hc], e1, rfl⟩
  have KL3 : ∀ (TL : State) (eL : TL.heap = h0) (XL : Stand p l e ({ frames := 5, cells := 0, slots := 0, locals := 80 } : Room) s m #[(.ref x1)] below meth c TL [] 0 0) (cnt dv : Int32) (hc : cnt = ((((0 : Int32) + own_ub c0) + own_ub c1) + own_ub c2)), Done FrameEnd p e below s ({ frames := 5, cells := 0, slots := 0, locals := 80 } : Room) (PureQ (some (.int (((((0 : Int32) + own_ub c0) + own_ub c1) + own_ub c2) + own_ub c3))) h0) (TL.setTop (mkF m 4 #[oR x1, oI cnt, oI (3 : Int32), oI dv] [])) := by
    intro TL eL XL cnt dv hc
    show Done _ p e below s _ _ (TL.setTop (mkF m 4 #[oR x1, oI cnt, oI (3 : Int32), oI dv] []))
    refine Done.step (fun _ => XS.iloadN XL.here hx rfl (hb hby d6_4) rfl) ?_
    show Done _ p e below s _ _ (TL.setTop (mkF m 5 #[oR x1, oI cnt, oI (3 : Int32), oI dv] [(.int (3 : Int32))]))
    refine Done.step (fun _ => XS.aloadN XL.here hx rfl (hb hby d6_5) rfl rfl) ?_
    show Done _ p e below s _ _ (TL.setTop (mkF m 6 #[oR x1, oI cnt, oI (3 : Int32), oI dv] [(.ref x1), (.int (3 : Int32))]))
    refine Done.callVP XL hx hZ (C := "java/lang/String") hown (wAt hw 35 rfl) (wAt hw 36 rfl) (notFace_of_selects (args := #[]) (mvT hZ (wAt hw 38 rfl))) (wAt hw 38 rfl) (wAt hw 37 rfl) (wAt hw 11 rfl) (wAt hw 39 rfl) (by decide) (rLd4 l Z a0 hw [] x1 t1 kb1 c0 c1 c2 c3 z fm h0 n0 Z0 O0 SC hz SF rF SA SH SL E1 V1 D1) eL E1 (g := (mkF m 6 #[oR x1, oI cnt, oI (3 : Int32), oI dv] [(.ref x1), (.int (3 : Int32))])) rfl (by rw [hml]; rfl) [] [(.int (3 : Int32))] 1 (lenOf pd_14 rfl) rfl rfl (by show 2 * 0 + _ ≤ _; exact Nat.le_of_eq rfl) (hb hby d6_6) (by decide) (by decide) (by decide) (by decide) rfl rfl ?_
    intro T2 X2 e2
    show Done _ p e below s _ _ (T2.setTop (mkF m 9 #[oR x1, oI cnt, oI (3 : Int32), oI dv] [(.int (4 : Int32)), (.int (3 : Int32))]))
    refine Done.step (fun _ => XS.icmpNo X2.here hx rfl (hb hby d6_9) rfl (XT.ii_ge_f (by decide))) ?_
    show Done _ p e below s _ _ (T2.setTop (mkF m 12 #[oR x1, oI cnt, oI (3 : Int32), oI dv] []))
    refine Done.step (fun _ => XS.aloadN X2.here hx rfl (hb hby d6_12) rfl rfl) ?_
    show Done _ p e below s _ _ (T2.setTop (mkF m 13 #[oR x1, oI cnt, oI (3 : Int32), oI dv] [(.ref x1)]))
    refine Done.step (fun _ => XS.iloadN X2.here hx rfl (hb hby d6_13) rfl) ?_
    show Done _ p e below s _ _ (T2.setTop (mkF m 14 #[oR x1, oI cnt, oI (3 : Int32), oI dv] [(.int (3 : Int32)), (.ref x1)]))
    refine Done.callVP X2 hx hZ (C := "java/lang/String") hown (wAt hw 67 rfl) (wAt hw 68 rfl) (notFace_of_selects (args := #[]) (mvT hZ (wAt hw 70 rfl))) (wAt hw 70 rfl) (wAt hw 69 rfl) (wAt hw 11 rfl) (wAt hw 71 rfl) (by decide) (rCd43 l Z a0 hw [] x1 t1 kb1 c0 c1 c2 c3 z fm h0 n0 Z0 O0 SC hz SF rF SA SH SL E1 V1 D1 hb3) e2 E1 (g := (mkF m 14 #[oR x1, oI cnt, oI (3 : Int32), oI dv] [(.int (3 : Int32)), (.ref x1)])) rfl (by rw [hml]; rfl) [(.int (3 : Int32))] [] 0 (lenOf pd_15 rfl) rfl rfl (by show 2 * 0 + _ ≤ _; exact Nat.le_of_eq rfl) (hb hby d6_14) (by decide) (by decide) (by decide) (by decide) rfl rfl ?_
    intro T3 X3 e3
    show Done _ p e below s _ _ (T3.setTop (mkF m 17 #[oR x1, oI cnt, oI (3 : Int32), oI dv] [(.int c3)]))
    refine Done.step (fun _ => XS.istoreN X3.here hx rfl (hb hby d6_17) rfl (l' := #[oR x1, oI cnt, oI (3 : Int32), oI c3]) rfl) ?_
    show Done _ p e below s _ _ (T3.setTop (mkF m 18 #[oR x1, oI cnt, oI (3 : Int32), oI c3] []))
    refine Done.step (fun _ => XS.iloadN X3.here hx rfl (hb hby d6_18) rfl) ?_
    show Done _ p e below s _ _ (T3.setTop (mkF m 19 #[oR x1, oI cnt, oI (3 : Int32), oI c3] [(.int c3)]))
    refine Done.step (fun _ => XT.sipushV X3.here hx rfl (128 : Int32) (hb hby d6_19) (by decide)) ?_
    show Done _ p e below s _ _ (T3.setTop (mkF m 22 #[oR x1, oI cnt, oI (3 : Int32), oI c3] [(.int (128 : Int32)), (.int c3)]))
    by_cases hc4 : c3 < (128 : Int32)
    · refine Done.step (fun _ => XS.icmpNo X3.here hx rfl (hb hby d6_22) rfl (XT.ii_ge_f hc4)) ?_
      show Done _ p e below s _ _ (T3.setTop (mkF m 25 #[oR x1, oI cnt, oI (3 : Int32), oI c3] []))
      refine Done.step (fun _ => XS.iinc X3.here hx rfl (hb hby d6_25) rfl (l' := #[oR x1, oI (cnt + (1 : Int32)), oI (3 : Int32), oI c3]) rfl) ?_
      show Done _ p e below s _ _ (T3.setTop (mkF m 28 #[oR x1, oI (cnt + (1 : Int32)), oI (3 : Int32), oI c3] []))
      refine Done.step (fun _ => XS.goto X3.here hx rfl (pc0 := 28) (pc' := 60) rfl (hb hby d6_28) (by decide) (by decide)) ?_
      show Done _ p e below s _ _ (T3.setTop (mkF m 60 #[oR x1, oI (cnt + (1 : Int32)), oI (3 : Int32), oI c3] []))
      refine Done.step (fun _ => XS.iinc X3.here hx rfl (hb hby d6_60) rfl (l' := #[oR x1, oI (cnt + (1 : Int32)), oI (4 : Int32), oI c3]) rfl) ?_
      show Done _ p e below s _ _ (T3.setTop (mkF m 63 #[oR x1, oI (cnt + (1 : Int32)), oI (4 : Int32), oI c3] []))
      refine Done.step (fun _ => XS.goto X3.here hx rfl (pc0 := 63) (pc' := 4) rfl (hb hby d6_63) (by decide) (by decide)) ?_
      show Done _ p e below s _ _ (T3.setTop (mkF m 4 #[oR x1, oI (cnt + (1 : Int32)), oI (4 : Int32), oI c3] []))
      exact KL4 T3 e3 X3 (cnt + (1 : Int32)) c3 (by rw [hc, show own_ub c3 = _ by unfold own_ub; rw [if_pos hc4]])
    · refine Done.step (fun _ => XS.icmpYes X3.here hx rfl (pc0 := 22) (pc' := 31) rfl (hb hby d6_22) rfl (XT.ii_ge_t hc4) (by decide) (by decide)) ?_
      show Done _ p e below s _ _ (T3.setTop (mkF m 31 #[oR x1, oI cnt, oI (3 : Int32), oI c3] []))
      refine Done.step (fun _ => XS.iloadN X3.here hx rfl (hb hby d6_31) rfl) ?_
      show Done _ p e below s _ _ (T3.setTop (mkF m 32 #[oR x1, oI cnt, oI (3 : Int32), oI c3] [(.int c3)]))
      refine Done.step (fun _ => XT.sipushV X3.here hx rfl (2048 : Int32) (hb hby d6_32) (by decide)) ?_
      show Done _ p e below s _ _ (T3.setTop (mkF m 35 #[oR x1, oI cnt, oI (3 : Int32), oI c3] [(.int (2048 : Int32)), (.int c3)]))
      by_cases hc5 : c3 < (2048 : Int32)
      · refine Done.step (fun _ => XS.icmpNo X3.here hx rfl (hb hby d6_35) rfl (XT.ii_ge_f hc5)) ?_
        show Done _ p e below s _ _ (T3.setTop (mkF m 38 #[oR x1, oI cnt, oI (3 : Int32), oI c3] []))
        refine Done.step (fun _ => XS.iinc X3.here hx rfl (hb hby d6_38) rfl (l' := #[oR x1, oI (cnt + (2 : Int32)), oI (3 : Int32), oI c3]) rfl) ?_
        show Done _ p e below s _ _ (T3.setTop (mkF m 41 #[oR x1, oI (cnt + (2 : Int32)), oI (3 : Int32), oI c3] []))
        refine Done.step (fun _ => XS.goto X3.here hx rfl (pc0 := 41) (pc' := 60) rfl (hb hby d6_41) (by decide) (by decide)) ?_
        show Done _ p e below s _ _ (T3.setTop (mkF m 60 #[oR x1, oI (cnt + (2 : Int32)), oI (3 : Int32), oI c3] []))
        refine Done.step (fun _ => XS.iinc X3.here hx rfl (hb hby d6_60) rfl (l' := #[oR x1, oI (cnt + (2 : Int32)), oI (4 : Int32), oI c3]) rfl) ?_
        show Done _ p e below s _ _ (T3.setTop (mkF m 63 #[oR x1, oI (cnt + (2 : Int32)), oI (4 : Int32), oI c3] []))
        refine Done.step (fun _ => XS.goto X3.here hx rfl (pc0 := 63) (pc' := 4) rfl (hb hby d6_63) (by decide) (by decide)) ?_
        show Done _ p e below s _ _ (T3.setTop (mkF m 4 #[oR x1, oI (cnt + (2 : Int32)), oI (4 : Int32), oI c3] []))
        exact KL4 T3 e3 X3 (cnt + (2 : Int32)) c3 (by rw [hc, show own_ub c3 = _ by unfold own_ub; rw [if_neg hc4, if_pos hc5]])
      · refine Done.step (fun _ => XS.icmpYes X3.here hx rfl (pc0 := 35) (pc' := 44) rfl (hb hby d6_35) rfl (XT.ii_ge_t hc5) (by decide) (by decide)) ?_
        show Done _ p e below s _ _ (T3.setTop (mkF m 44 #[oR x1, oI cnt, oI (3 : Int32), oI c3] []))
        refine Done.step (fun _ => XS.iloadN X3.here hx rfl (hb hby d6_44) rfl) ?_
        show Done _ p e below s _ _ (T3.setTop (mkF m 45 #[oR x1, oI cnt, oI (3 : Int32), oI c3] [(.int c3)]))
        by_cases hc6 : (¬ c3 < (55296 : Int32) ∧ c3 < (57344 : Int32))
        · refine Done.callSP X3 hx hZ hown (wAt hw 127 rfl) (wAt hw 128 rfl) (wAt hw 129 rfl) (wAt hw 130 rfl) (by decide) (rIS l Z a0 hw [] c3 (1 : Int32) h0 n0 Z0 (bP_t hc6).symm) e3 (g := (mkF m 45 #[oR x1, oI cnt, oI (3 : Int32), oI c3] [(.int c3)])) rfl (by rw [hml]; rfl) [(.int c3)] [] 0 (lenOf pd_16 rfl) rfl rfl (by show 2 * 0 + _ ≤ _; exact Nat.le_of_eq rfl) (hb hby d6_45) (by decide) (by decide) (by decide) (by decide) rfl rfl ?_
          intro T7 X7 e7
          show Done _ p e below s _ _ (T7.setTop (mkF m 48 #[oR x1, oI cnt, oI (3 : Int32), oI c3] [(.int (1 : Int32))]))
          refine Done.step (fun _ => XS.ifNo X7.here hx rfl (hb hby d6_48) rfl (XT.i0_eq_f (by decide))) ?_
          show Done _ p e below s _ _ (T7.setTop (mkF m 51 #[oR x1, oI cnt, oI (3 : Int32), oI c3] []))
          refine Done.step (fun _ => XS.iinc X7.here hx rfl (hb hby d6_51) rfl (l' := #[oR x1, oI (cnt + (2 : Int32)), oI (3 : Int32), oI c3]) rfl) ?_
          show Done _ p e below s _ _ (T7.setTop (mkF m 54 #[oR x1, oI (cnt + (2 : Int32)), oI (3 : Int32), oI c3] []))
          refine Done.step (fun _ => XS.goto X7.here hx rfl (pc0 := 54) (pc' := 60) rfl (hb hby d6_54) (by decide) (by decide)) ?_
          show Done _ p e below s _ _ (T7.setTop (mkF m 60 #[oR x1, oI (cnt + (2 : Int32)), oI (3 : Int32), oI c3] []))
          refine Done.step (fun _ => XS.iinc X7.here hx rfl (hb hby d6_60) rfl (l' := #[oR x1, oI (cnt + (2 : Int32)), oI (4 : Int32), oI c3]) rfl) ?_
          show Done _ p e below s _ _ (T7.setTop (mkF m 63 #[oR x1, oI (cnt + (2 : Int32)), oI (4 : Int32), oI c3] []))
          refine Done.step (fun _ => XS.goto X7.here hx rfl (pc0 := 63) (pc' := 4) rfl (hb hby d6_63) (by decide) (by decide)) ?_
          show Done _ p e below s _ _ (T7.setTop (mkF m 4 #[oR x1, oI (cnt + (2 : Int32)), oI (4 : Int32), oI c3] []))
          exact KL4 T7 e7 X7 (cnt + (2 : Int32)) c3 (by rw [hc, show own_ub c3 = _ by unfold own_ub; rw [if_neg hc4, if_neg hc5, if_pos hc6]])
        · refine Done.callSP X3 hx hZ hown (wAt hw 127 rfl) (wAt hw 128 rfl) (wAt hw 129 rfl) (wAt hw 130 rfl) (by decide) (rIS l Z a0 hw [] c3 (0 : Int32) h0 n0 Z0 (bP_f hc6).symm) e3 (g := (mkF m 45 #[oR x1, oI cnt, oI (3 : Int32), oI c3] [(.int c3)])) rfl (by rw [hml]; rfl) [(.int c3)] [] 0 (lenOf pd_16 rfl) rfl rfl (by show 2 * 0 + _ ≤ _; exact Nat.le_of_eq rfl) (hb hby d6_45) (by decide) (by decide) (by decide) (by decide) rfl rfl ?_
          intro T8 X8 e8
          show Done _ p e below s _ _ (T8.setTop (mkF m 48 #[oR x1, oI cnt, oI (3 : Int32), oI c3] [(.int (0 : Int32))]))
          refine Done.step (fun _ => XS.ifYes X8.here hx rfl (pc0 := 48) (pc' := 57) rfl (hb hby d6_48) rfl (XT.i0_eq_t rfl) (by decide) (by decide)) ?_
          show Done _ p e below s _ _ (T8.setTop (mkF m 57 #[oR x1, oI cnt, oI (3 : Int32), oI c3] []))
          refine Done.step (fun _ => XS.iinc X8.here hx rfl (hb hby d6_57) rfl (l' := #[oR x1, oI (cnt + (3 : Int32)), oI (3 : Int32), oI c3]) rfl) ?_
          show Done _ p e below s _ _ (T8.setTop (mkF m 60 #[oR x1, oI (cnt + (3 : Int32)), oI (3 : Int32), oI c3] []))
          refine Done.step (fun _ => XS.iinc X8.here hx rfl (hb hby d6_60) rfl (l' := #[oR x1, oI (cnt + (3 : Int32)), oI (4 : Int32), oI c3]) rfl) ?_
          show Done _ p e below s _ _ (T8.setTop (mkF m 63 #[oR x1, oI (cnt + (3 : Int32)), oI (4 : Int32), oI c3] []))
          refine Done.step (fun _ => XS.goto X8.here hx rfl (pc0 := 63) (pc' := 4) rfl (hb hby d6_63) (by decide) (by decide)) ?_
          show Done _ p e below s _ _ (T8.setTop (mkF m 4 #[oR x1, oI (cnt + (3 : Int32)), oI (4 : Int32), oI c3] []))
          exact KL4 T8 e8 X8 (cnt + (3 : Int32)) c3 (by rw [hc, show own_ub c3 = _ by unfold own_ub; rw [if_neg hc4, if_neg hc5, if_neg hc6]])
  have KL2 : ∀ (TL : State) (eL : TL.heap = h0) (XL : Stand p l e ({ frames := 5, cells := 0, slots := 0, locals := 80 } : Room) s m #[(.ref x1)] below meth c TL [] 0 0) (cnt dv : Int32) (hc : cnt = (((0 : Int32) + own_ub c0) + own_ub c1)), Done FrameEnd p e below s ({ frames := 5, cells := 0, slots := 0, locals := 80 } : Room) (PureQ (some (.int (((((0 : Int32) + own_ub c0) + own_ub c1) + own_ub c2) + own_ub c3))) h0) (TL.setTop (mkF m 4 #[oR x1, oI cnt, oI (2 : Int32), oI dv] [])) := by
    intro TL eL XL cnt dv hc
    show Done _ p e below s _ _ (TL.setTop (mkF m 4 #[oR x1, oI cnt, oI (2 : Int32), oI dv] []))
    refine Done.step (fun _ => XS.iloadN XL.here hx rfl (hb hby d6_4) rfl) ?_
    show Done _ p e below s _ _ (TL.setTop (mkF m 5 #[oR x1, oI cnt, oI (2 : Int32), oI dv] [(.int (2 : Int32))]))
    refine Done.step (fun _ => XS.aloadN XL.here hx rfl (hb hby d6_5) rfl rfl) ?_
    show Done _ p e below s _ _ (TL.setTop (mkF m 6 #[oR x1, oI cnt, oI (2 : Int32), oI dv] [(.ref x1), (.int (2 : Int32))]))
    refine Done.callVP XL hx hZ (C := "java/lang/String") hown (wAt hw 35 rfl) (wAt hw 36 rfl) (notFace_of_selects (args := #[]) (mvT hZ (wAt hw 38 rfl))) (wAt hw 38 rfl) (wAt hw 37 rfl) (wAt hw 11 rfl) (wAt hw 39 rfl) (by decide) (rLd4 l Z a0 hw [] x1 t1 kb1 c0 c1 c2 c3 z fm h0 n0 Z0 O0 SC hz SF rF SA SH SL E1 V1 D1) eL E1 (g := (mkF m 6 #[oR x1, oI cnt, oI (2 : Int32), oI dv] [(.ref x1), (.int (2 : Int32))])) rfl (by rw [hml]; rfl) [] [(.int (2 : Int32))] 1 (lenOf pd_14 rfl) rfl rfl (by show 2 * 0 + _ ≤ _; exact Nat.le_of_eq rfl) (hb hby d6_6) (by decide) (by decide) (by decide) (by decide) rfl rfl ?_
    intro T9 X9 e9
    show Done _ p e below s _ _ (T9.setTop (mkF m 9 #[oR x1, oI cnt, oI (2 : Int32), oI dv] [(.int (4 : Int32)), (.int (2 : Int32))]))
    refine Done.step (fun _ => XS.icmpNo X9.here hx rfl (hb hby d6_9) rfl (XT.ii_ge_f (by decide))) ?_
    show Done _ p e below s _ _ (T9.setTop (mkF m 12 #[oR x1, oI cnt, oI (2 : Int32), oI dv] []))
    refine Done.step (fun _ => XS.aloadN X9.here hx rfl (hb hby d6_12) rfl rfl) ?_
    show Done _ p e below s _ _ (T9.setTop (mkF m 13 #[oR x1, oI cnt, oI (2 : Int32), oI dv] [(.ref x1)]))
    refine Done.step (fun _ => XS.iloadN X9.here hx rfl (hb hby d6_13) rfl) ?_
    show Done _ p e below s _ _ (T9.setTop (mkF m 14 #[oR x1, oI cnt, oI (2 : Int32), oI dv] [(.int (2 : Int32)), (.ref x1)]))
    refine Done.callVP X9 hx hZ (C := "java/lang/String") hown (wAt hw 67 rfl) (wAt hw 68 rfl) (notFace_of_selects (args := #[]) (mvT hZ (wAt hw 70 rfl))) (wAt hw 70 rfl) (wAt hw 69 rfl) (wAt hw 11 rfl) (wAt hw 71 rfl) (by decide) (rCd42 l Z a0 hw [] x1 t1 kb1 c0 c1 c2 c3 z fm h0 n0 Z0 O0 SC hz SF rF SA SH SL E1 V1 D1 hb2) e9 E1 (g := (mkF m 14 #[oR x1, oI cnt, oI (2 : Int32), oI dv] [(.int (2 : Int32)), (.ref x1)])) rfl (by rw [hml]; rfl) [(.int (2 : Int32))] [] 0 (lenOf pd_15 rfl) rfl rfl (by show 2 * 0 + _ ≤ _; exact Nat.le_of_eq rfl) (hb hby d6_14) (by decide) (by decide) (by decide) (by decide) rfl rfl ?_
    intro T10 X10 e10
    show Done _ p e below s _ _ (T10.setTop (mkF m 17 #[oR x1, oI cnt, oI (2 : Int32), oI dv] [(.int c2)]))
    refine Done.step (fun _ => XS.istoreN X10.here hx rfl (hb hby d6_17) rfl (l' := #[oR x1, oI cnt, oI (2 : Int32), oI c2]) rfl) ?_
    show Done _ p e below s _ _ (T10.setTop (mkF m 18 #[oR x1, oI cnt, oI (2 : Int32), oI c2] []))
    refine Done.step (fun _ => XS.iloadN X10.here hx rfl (hb hby d6_18) rfl) ?_
    show Done _ p e below s _ _ (T10.setTop (mkF m 19 #[oR x1, oI cnt, oI (2 : Int32), oI c2] [(.int c2)]))
    refine Done.step (fun _ => XT.sipushV X10.here hx rfl (128 : Int32) (hb hby d6_19) (by decide)) ?_
    show Done _ p e below s _ _ (T10.setTop (mkF m 22 #[oR x1, oI cnt, oI (2 : Int32), oI c2] [(.int (128 : Int32)), (.int c2)]))
    by_cases hc11 : c2 < (128 : Int32)
    · refine Done.step (fun _ => XS.icmpNo X10.here hx rfl (hb hby d6_22) rfl (XT.ii_ge_f hc11)) ?_
      show Done _ p e below s _ _ (T10.setTop (mkF m 25 #[oR x1, oI cnt, oI (2 : Int32), oI c2] []))
      refine Done.step (fun _ => XS.iinc X10.here hx rfl (hb hby d6_25) rfl (l' := #[oR x1, oI (cnt + (1 : Int32)), oI (2 : Int32), oI c2]) rfl) ?_
      show Done _ p e below s _ _ (T10.setTop (mkF m 28 #[oR x1, oI (cnt + (1 : Int32)), oI (2 : Int32), oI c2] []))
      refine Done.step (fun _ => XS.goto X10.here hx rfl (pc0 := 28) (pc' := 60) rfl (hb hby d6_28) (by decide) (by decide)) ?_
      show Done _ p e below s _ _ (T10.setTop (mkF m 60 #[oR x1, oI (cnt + (1 : Int32)), oI (2 : Int32), oI c2] []))
      refine Done.step (fun _ => XS.iinc X10.here hx rfl (hb hby d6_60) rfl (l' := #[oR x1, oI (cnt + (1 : Int32)), oI (3 : Int32), oI c2]) rfl) ?_
      show Done _ p e below s _ _ (T10.setTop (mkF m 63 #[oR x1, oI (cnt + (1 : Int32)), oI (3 : Int32), oI c2] []))
      refine Done.step (fun _ => XS.goto X10.here hx rfl (pc0 := 63) (pc' := 4) rfl (hb hby d6_63) (by decide) (by decide)) ?_
      show Done _ p e below s _ _ (T10.setTop (mkF m 4 #[oR x1, oI (cnt + (1 : Int32)), oI (3 : Int32), oI c2] []))
      exact KL3 T10 e10 X10 (cnt + (1 : Int32)) c2 (by rw [hc, show own_ub c2 = _ by unfold own_ub; rw [if_pos hc11]])
    · refine Done.step (fun _ => XS.icmpYes X10.here hx rfl (pc0 := 22) (pc' := 31) rfl (hb hby d6_22) rfl (XT.ii_ge_t hc11) (by decide) (by decide)) ?_
      show Done _ p e below s _ _ (T10.setTop (mkF m 31 #[oR x1, oI cnt, oI (2 : Int32), oI c2] []))
      refine Done.step (fun _ => XS.iloadN X10.here hx rfl (hb hby d6_31) rfl) ?_
      show Done _ p e below s _ _ (T10.setTop (mkF m 32 #[oR x1, oI cnt, oI (2 : Int32), oI c2] [(.int c2)]))
      refine Done.step (fun _ => XT.sipushV X10.here hx rfl (2048 : Int32) (hb hby d6_32) (by decide)) ?_
      show Done _ p e below s _ _ (T10.setTop (mkF m 35 #[oR x1, oI cnt, oI (2 : Int32), oI c2] [(.int (2048 : Int32)), (.int c2)]))
      by_cases hc12 : c2 < (2048 : Int32)
      · refine Done.step (fun _ => XS.icmpNo X10.here hx rfl (hb hby d6_35) rfl (XT.ii_ge_f hc12)) ?_
        show Done _ p e below s _ _ (T10.setTop (mkF m 38 #[oR x1, oI cnt, oI (2 : Int32), oI c2] []))
        refine Done.step (fun _ => XS.iinc X10.here hx rfl (hb hby d6_38) rfl (l' := #[oR x1, oI (cnt + (2 : Int32)), oI (2 : Int32), oI c2]) rfl) ?_
        show Done _ p e below s _ _ (T10.setTop (mkF m 41 #[oR x1, oI (cnt + (2 : Int32)), oI (2 : Int32), oI c2] []))
        refine Done.step (fun _ => XS.goto X10.here hx rfl (pc0 := 41) (pc' := 60) rfl (hb hby d6_41) (by decide) (by decide)) ?_
        show Done _ p e below s _ _ (T10.setTop (mkF m 60 #[oR x1, oI (cnt + (2 : Int32)), oI (2 : Int32), oI c2] []))
        refine Done.step (fun _ => XS.iinc X10.here hx rfl (hb hby d6_60) rfl (l' := #[oR x1, oI (cnt + (2 : Int32)), oI (3 : Int32), oI c2]) rfl) ?_
        show Done _ p e below s _ _ (T10.setTop (mkF m 63 #[oR x1, oI (cnt + (2 : Int32)), oI (3 : Int32), oI c2] []))
        refine Done.step (fun _ => XS.goto X10.here hx rfl (pc0 := 63) (pc' := 4) rfl (hb hby d6_63) (by decide) (by decide)) ?_
        show Done _ p e below s _ _ (T10.setTop (mkF m 4 #[oR x1, oI (cnt + (2 : Int32)), oI (3 : Int32), oI c2] []))
        exact KL3 T10 e10 X10 (cnt + (2 : Int32)) c2 (by rw [hc, show own_ub c2 = _ by unfold own_ub; rw [if_neg hc11, if_pos hc12]])
      · refine Done.step (fun _ => XS.icmpYes X10.here hx rfl (pc0 := 35) (pc' := 44) rfl (hb hby d6_35) rfl (XT.ii_ge_t hc12) (by decide) (by decide)) ?_
        show Done _ p e below s _ _ (T10.setTop (mkF m 44 #[oR x1, oI cnt, oI (2 : Int32), oI c2] []))
        refine Done.step (fun _ => XS.iloadN X10.here hx rfl (hb hby d6_44) rfl) ?_
        show Done _ p e below s _ _ (T10.setTop (mkF m 45 #[oR x1, oI cnt, oI (2 : Int32), oI c2] [(.int c2)]))
        by_cases hc13 : (¬ c2 < (55296 : Int32) ∧ c2 < (57344 : Int32))
        · refine Done.callSP X10 hx hZ hown (wAt hw 127 rfl) (wAt hw 128 rfl) (wAt hw 129 rfl) (wAt hw 130 rfl) (by decide) (rIS l Z a0 hw [] c2 (1 : Int32) h0 n0 Z0 (bP_t hc13).symm) e10 (g := (mkF m 45 #[oR x1, oI cnt, oI (2 : Int32), oI c2] [(.int c2)])) rfl (by rw [hml]; rfl) [(.int c2)] [] 0 (lenOf pd_16 rfl) rfl rfl (by show 2 * 0 + _ ≤ _; exact Nat.le_of_eq rfl) (hb hby d6_45) (by decide) (by decide) (by decide) (by decide) rfl rfl ?_
          intro T14 X14 e14
          show Done _ p e below s _ _ (T14.setTop (mkF m 48 #[oR x1, oI cnt, oI (2 : Int32), oI c2] [(.int (1 : Int32))]))
          refine Done.step (fun _ => XS.ifNo X14.here hx rfl (hb hby d6_48) rfl (XT.i0_eq_f (by decide))) ?_
          show Done _ p e below s _ _ (T14.setTop (mkF m 51 #[oR x1, oI cnt, oI (2 : Int32), oI c2] []))
          refine Done.step (fun _ => XS.iinc X14.here hx rfl (hb hby d6_51) rfl (l' := #[oR x1, oI (cnt + (2 : Int32)), oI (2 : Int32), oI c2]) rfl) ?_
          show Done _ p e below s _ _ (T14.setTop (mkF m 54 #[oR x1, oI (cnt + (2 : Int32)), oI (2 : Int32), oI c2] []))
          refine Done.step (fun _ => XS.goto X14.here hx rfl (pc0 := 54) (pc' := 60) rfl (hb hby d6_54) (by decide) (by decide)) ?_
          show Done _ p e below s _ _ (T14.setTop (mkF m 60 #[oR x1, oI (cnt + (2 : Int32)), oI (2 : Int32), oI c2] []))
          refine Done.step (fun _ => XS.iinc X14.here hx rfl (hb hby d6_60) rfl (l' := #[oR x1, oI (cnt + (2 : Int32)), oI (3 : Int32), oI c2]) rfl) ?_
          show Done _ p e below s _ _ (T14.setTop (mkF m 63 #[oR x1, oI (cnt + (2 : Int32)), oI (3 : Int32), oI c2] []))
          refine Done.step (fun _ => XS.goto X14.here hx rfl (pc0 := 63) (pc' := 4) rfl (hb hby d6_63) (by decide) (by decide)) ?_
          show Done _ p e below s _ _ (T14.setTop (mkF m 4 #[oR x1, oI (cnt + (2 : Int32)), oI (3 : Int32), oI c2] []))
          exact KL3 T14 e14 X14 (cnt + (2 : Int32)) c2 (by rw [hc, show own_ub c2 = _ by unfold own_ub; rw [if_neg hc11, if_neg hc12, if_pos hc13]])
        · refine Done.callSP X10 hx hZ hown (wAt hw 127 rfl) (wAt hw 128 rfl) (wAt hw 129 rfl) (wAt hw 130 rfl) (by decide) (rIS l Z a0 hw [] c2 (0 : Int32) h0 n0 Z0 (bP_f hc13).symm) e10 (g := (mkF m 45 #[oR x1, oI cnt, oI (2 : Int32), oI c2] [(.int c2)])) rfl (by rw [hml]; rfl) [(.int c2)] [] 0 (lenOf pd_16 rfl) rfl rfl (by show 2 * 0 + _ ≤ _; exact Nat.le_of_eq rfl) (hb hby d6_45) (by decide) (by decide) (by decide) (by decide) rfl rfl ?_
          intro T15 X15 e15
          show Done _ p e below s _ _ (T15.setTop (mkF m 48 #[oR x1, oI cnt, oI (2 : Int32), oI c2] [(.int (0 : Int32))]))
          refine Done.step (fun _ => XS.ifYes X15.here hx rfl (pc0 := 48) (pc' := 57) rfl (hb hby d6_48) rfl (XT.i0_eq_t rfl) (by decide) (by decide)) ?_
          show Done _ p e below s _ _ (T15.setTop (mkF m 57 #[oR x1, oI cnt, oI (2 : Int32), oI c2] []))
          refine Done.step (fun _ => XS.iinc X15.here hx rfl (hb hby d6_57) rfl (l' := #[oR x1, oI (cnt + (3 : Int32)), oI (2 : Int32), oI c2]) rfl) ?_
          show Done _ p e below s _ _ (T15.setTop (mkF m 60 #[oR x1, oI (cnt + (3 : Int32)), oI (2 : Int32), oI c2] []))
          refine Done.step (fun _ => XS.iinc X15.here hx rfl (hb hby d6_60) rfl (l' := #[oR x1, oI (cnt + (3 : Int32)), oI (3 : Int32), oI c2]) rfl) ?_
          show Done _ p e below s _ _ (T15.setTop (mkF m 63 #[oR x1, oI (cnt + (3 : Int32)), oI (3 : Int32), oI c2] []))
          refine Done.step (fun _ => XS.goto X15.here hx rfl (pc0 := 63) (pc' := 4) rfl (hb hby d6_63) (by decide) (by decide)) ?_
          show Done _ p e below s _ _ (T15.setTop (mkF m 4 #[oR x1, oI (cnt + (3 : Int32)), oI (3 : Int32), oI c2] []))
          exact KL3 T15 e15 X15 (cnt + (3 : Int32)) c2 (by rw [hc, show own_ub c2 = _ by unfold own_ub; rw [if_neg hc11, if_neg hc12, if_neg hc13]])
  have KL1 : ∀ (TL : State) (eL : TL.heap = h0) (XL : Stand p l e ({ frames := 5, cells := 0, slots := 0, locals := 80 } : Room) s m #[(.ref x1)] below meth c TL [] 0 0) (cnt dv : Int32) (hc : cnt = ((0 : Int32) + own_ub c0)), Done FrameEnd p e below s ({ frames := 5, cells := 0, slots := 0, locals := 80 } : Room) (PureQ (some (.int (((((0 : Int32) + own_ub c0) + own_ub c1) + own_ub c2) + own_ub c3))) h0) (TL.setTop (mkF m 4 #[oR x1, oI cnt, oI (1 : Int32), oI dv] [])) := by
    intro TL eL XL cnt dv hc
    show Done _ p e below s _ _ (TL.setTop (mkF m 4 #[oR x1, oI cnt, oI (1 : Int32), oI dv] []))
    refine Done.step (fun _ => XS.iloadN XL.here hx rfl (hb hby d6_4) rfl) ?_
    show Done _ p e below s _ _ (TL.setTop (mkF m 5 #[oR x1, oI cnt, oI (1 : Int32), oI dv] [(.int (1 : Int32))]))
    refine Done.step (fun _ => XS.aloadN XL.here hx rfl (hb hby d6_5) rfl rfl) ?_
    show Done _ p e below s _ _ (TL.setTop (mkF m 6 #[oR x1, oI cnt, oI (1 : Int32), oI dv] [(.ref x1), (.int (1 : Int32))]))
    refine Done.callVP XL hx hZ (C := "java/lang/String") hown (wAt hw 35 rfl) (wAt hw 36 rfl) (notFace_of_selects (args := #[]) (mvT hZ (wAt hw 38 rfl))) (wAt hw 38 rfl) (wAt hw 37 rfl) (wAt hw 11 rfl) (wAt hw 39 rfl) (by decide) (rLd4 l Z a0 hw [] x1 t1 kb1 c0 c1 c2 c3 z fm h0 n0 Z0 O0 SC hz SF rF SA SH SL E1 V1 D1) eL E1 (g := (mkF m 6 #[oR x1, oI cnt, oI (1 : Int32), oI dv] [(.ref x1), (.int (1 : Int32))])) rfl (by rw [hml]; rfl) [] [(.int (1 : Int32))] 1 (lenOf pd_14 rfl) rfl rfl (by show 2 * 0 + _ ≤ _; exact Nat.le_of_eq rfl) (hb hby d6_6) (by decide) (by decide) (by decide) (by decide) rfl rfl ?_
    intro T16 X16 e16
    show Done _ p e below s _ _ (T16.setTop (mkF m 9 #[oR x1, oI cnt, oI (1 : Int32), oI dv] [(.int (4 : Int32)), (.int (1 : Int32))]))
    refine Done.step (fun _ => XS.icmpNo X16.here hx rfl (hb hby d6_9) rfl (XT.ii_ge_f (by decide))) ?_
    show Done _ p e below s _ _ (T16.setTop (mkF m 12 #[oR x1, oI cnt, oI (1 : Int32), oI dv] []))
    refine Done.step (fun _ => XS.aloadN X16.here hx rfl (hb hby d6_12) rfl rfl) ?_
    show Done _ p e below s _ _ (T16.setTop (mkF m 13 #[oR x1, oI cnt, oI (1 : Int32), oI dv] [(.ref x1)]))
    refine Done.step (fun _ => XS.iloadN X16.here hx rfl (hb hby d6_13) rfl) ?_
    show Done _ p e below s _ _ (T16.setTop (mkF m 14 #[oR x1, oI cnt, oI (1 : Int32), oI dv] [(.int (1 : Int32)), (.ref x1)]))
    refine Done.callVP X16 hx hZ (C := "java/lang/String") hown (wAt hw 67 rfl) (wAt hw 68 rfl) (notFace_of_selects (args := #[]) (mvT hZ (wAt hw 70 rfl))) (wAt hw 70 rfl) (wAt hw 69 rfl) (wAt hw 11 rfl) (wAt hw 71 rfl) (by decide) (rCd41 l Z a0 hw [] x1 t1 kb1 c0 c1 c2 c3 z fm h0 n0 Z0 O0 SC hz SF rF SA SH SL E1 V1 D1 hb1) e16 E1 (g := (mkF m 14 #[oR x1, oI cnt, oI (1 : Int32), oI dv] [(.int (1 : Int32)), (.ref x1)])) rfl (by rw [hml]; rfl) [(.int (1 : Int32))] [] 0 (lenOf pd_15 rfl) rfl rfl (by show 2 * 0 + _ ≤ _; exact Nat.le_of_eq rfl) (hb hby d6_14) (by decide) (by decide) (by decide) (by decide) rfl rfl ?_
    intro T17 X17 e17
    show Done _ p e below s _ _ (T17.setTop (mkF m 17 #[oR x1, oI cnt, oI (1 : Int32), oI dv] [(.int c1)]))
    refine Done.step (fun _ => XS.istoreN X17.here hx rfl (hb hby d6_17) rfl (l' := #[oR x1, oI cnt, oI (1 : Int32), oI c1]) rfl) ?_
    show Done _ p e below s _ _ (T17.setTop (mkF m 18 #[oR x1, oI cnt, oI (1 : Int32), oI c1] []))
    refine Done.step (fun _ => XS.iloadN X17.here hx rfl (hb hby d6_18) rfl) ?_
    show Done _ p e below s _ _ (T17.setTop (mkF m 19 #[oR x1, oI cnt, oI (1 : Int32), oI c1] [(.int c1)]))
    refine Done.step (fun _ => XT.sipushV X17.here hx rfl (128 : Int32) (hb hby d6_19) (by decide)) ?_
    show Done _ p e below s _ _ (T17.setTop (mkF m 22 #[oR x1, oI cnt, oI (1 : Int32), oI c1] [(.int (128 : Int32)), (.int c1)]))
    by_cases hc18 : c1 < (128 : Int32)
    · refine Done.step (fun _ => XS.icmpNo X17.here hx rfl (hb hby d6_22) rfl (XT.ii_ge_f hc18)) ?_
      show Done _ p e below s _ _ (T17.setTop (mkF m 25 #[oR x1, oI cnt, oI (1 : Int32), oI c1] []))
      refine Done.step (fun _ => XS.iinc X17.here hx rfl (hb hby d6_25) rfl (l' := #[oR x1, oI (cnt + (1 : Int32)), oI (1 : Int32), oI c1]) rfl) ?_
      show Done _ p e below s _ _ (T17.setTop (mkF m 28 #[oR x1, oI (cnt + (1 : Int32)), oI (1 : Int32), oI c1] []))
      refine Done.step (fun _ => XS.goto X17.here hx rfl (pc0 := 28) (pc' := 60) rfl (hb hby d6_28) (by decide) (by decide)) ?_
      show Done _ p e below s _ _ (T17.setTop (mkF m 60 #[oR x1, oI (cnt + (1 : Int32)), oI (1 : Int32), oI c1] []))
      refine Done.step (fun _ => XS.iinc X17.here hx rfl (hb hby d6_60) rfl (l' := #[oR x1, oI (cnt + (1 : Int32)), oI (2 : Int32), oI c1]) rfl) ?_
      show Done _ p e below s _ _ (T17.setTop (mkF m 63 #[oR x1, oI (cnt + (1 : Int32)), oI (2 : Int32), oI c1] []))
      refine Done.step (fun _ => XS.goto X17.here hx rfl (pc0 := 63) (pc' := 4) rfl (hb hby d6_63) (by decide) (by decide)) ?_
      show Done _ p e below s _ _ (T17.setTop (mkF m 4 #[oR x1, oI (cnt + (1 : Int32)), oI (2 : Int32), oI c1] []))
      exact KL2 T17 e17 X17 (cnt + (1 : Int32)) c1 (by rw [hc, show own_ub c1 = _ by unfold own_ub; rw [if_pos hc18]])
    · refine Done.step (fun _ => XS.icmpYes X17.here hx rfl (pc0 := 22) (pc' := 31) rfl (hb hby d6_22) rfl (XT.ii_ge_t hc18) (by decide) (by decide)) ?_
      show Done _ p e below s _ _ (T17.setTop (mkF m 31 #[oR x1, oI cnt, oI (1 : Int32), oI c1] []))
      refine Done.step (fun _ => XS.iloadN X17.here hx rfl (hb hby d6_31) rfl) ?_
      show Done _ p e below s _ _ (T17.setTop (mkF m 32 #[oR x1, oI cnt, oI (1 : Int32), oI c1] [(.int c1)]))
      refine Done.step (fun _ => XT.sipushV X17.here hx rfl (2048 : Int32) (hb hby d6_32) (by decide)) ?_
      show Done _ p e below s _ _ (T17.setTop (mkF m 35 #[oR x1, oI cnt, oI (1 : Int32), oI c1] [(.int (2048 : Int32)), (.int c1)]))
      by_cases hc19 : c1 < (2048 : Int32)
      · refine Done.step (fun _ => XS.icmpNo X17.here hx rfl (hb hby d6_35) rfl (XT.ii_ge_f hc19)) ?_
        show Done _ p e below s _ _ (T17.setTop (mkF m 38 #[oR x1, oI cnt, oI (1 : Int32), oI c1] []))
        refine Done.step (fun _ => XS.iinc X17.here hx rfl (hb hby d6_38) rfl (l' := #[oR x1, oI (cnt + (2 : Int32)), oI (1 : Int32), oI c1]) rfl) ?_
        show Done _ p e below s _ _ (T17.setTop (mkF m 41 #[oR x1, oI (cnt + (2 : Int32)), oI (1 : Int32), oI c1] []))
        refine Done.step (fun _ => XS.goto X17.here hx rfl (pc0 := 41) (pc' := 60) rfl (hb hby d6_41) (by decide) (by decide)) ?_
        show Done _ p e below s _ _ (T17.setTop (mkF m 60 #[oR x1, oI (cnt + (2 : Int32)), oI (1 : Int32), oI c1] []))
        refine Done.step (fun _ => XS.iinc X17.here hx rfl (hb hby d6_60) rfl (l' := #[oR x1, oI (cnt + (2 : Int32)), oI (2 : Int32), oI c1]) rfl) ?_
        show Done _ p e below s _ _ (T17.setTop (mkF m 63 #[oR x1, oI (cnt + (2 : Int32)), oI (2 : Int32), oI c1] []))
        refine Done.step (fun _ => XS.goto X17.here hx rfl (pc0 := 63) (pc' := 4) rfl (hb hby d6_63) (by decide) (by decide)) ?_
        show Done _ p e below s _ _ (T17.setTop (mkF m 4 #[oR x1, oI (cnt + (2 : Int32)), oI (2 : Int32), oI c1] []))
        exact KL2 T17 e17 X17 (cnt + (2 : Int32)) c1 (by rw [hc, show own_ub c1 = _ by unfold own_ub; rw [if_neg hc18, if_pos hc19]])
      · refine Done.step (fun _ => XS.icmpYes X17.here hx rfl (pc0 := 35) (pc' := 44) rfl (hb hby d6_35) rfl (XT.ii_ge_t hc19) (by decide) (by decide)) ?_
        show Done _ p e below s _ _ (T17.setTop (mkF m 44 #[oR x1, oI cnt, oI (1 : Int32), oI c1] []))
        refine Done.step (fun _ => XS.iloadN X17.here hx rfl (hb hby d6_44) rfl) ?_
        show Done _ p e below s _ _ (T17.setTop (mkF m 45 #[oR x1, oI cnt, oI (1 : Int32), oI c1] [(.int c1)]))
        by_cases hc20 : (¬ c1 < (55296 : Int32) ∧ c1 < (57344 : Int32))
        · refine Done.callSP X17 hx hZ hown (wAt hw 127 rfl) (wAt hw 128 rfl) (wAt hw 129 rfl) (wAt hw 130 rfl) (by decide) (rIS l Z a0 hw [] c1 (1 : Int32) h0 n0 Z0 (bP_t hc20).symm) e17 (g := (mkF m 45 #[oR x1, oI cnt, oI (1 : Int32), oI c1] [(.int c1)])) rfl (by rw [hml]; rfl) [(.int c1)] [] 0 (lenOf pd_16 rfl) rfl rfl (by show 2 * 0 + _ ≤ _; exact Nat.le_of_eq rfl) (hb hby d6_45) (by decide) (by decide) (by decide) (by decide) rfl rfl ?_
          intro T21 X21 e21
          show Done _ p e below s _ _ (T21.setTop (mkF m 48 #[oR x1, oI cnt, oI (1 : Int32), oI c1] [(.int (1 : Int32))]))
          refine Done.step (fun _ => XS.ifNo X21.here hx rfl (hb hby d6_48) rfl (XT.i0_eq_f (by decide))) ?_
          show Done _ p e below s _ _ (T21.setTop (mkF m 51 #[oR x1, oI cnt, oI (1 : Int32), oI c1] []))
          refine Done.step (fun _ => XS.iinc X21.here hx rfl (hb hby d6_51) rfl (l' := #[oR x1, oI (cnt + (2 : Int32)), oI (1 : Int32), oI c1]) rfl) ?_
          show Done _ p e below s _ _ (T21.setTop (mkF m 54 #[oR x1, oI (cnt + (2 : Int32)), oI (1 : Int32), oI c1] []))
          refine Done.step (fun _ => XS.goto X21.here hx rfl (pc0 := 54) (pc' := 60) rfl (hb hby d6_54) (by decide) (by decide)) ?_
          show Done _ p e below s _ _ (T21.setTop (mkF m 60 #[oR x1, oI (cnt + (2 : Int32)), oI (1 : Int32), oI c1] []))
          refine Done.step (fun _ => XS.iinc X21.here hx rfl (hb hby d6_60) rfl (l' := #[oR x1, oI (cnt + (2 : Int32)), oI (2 : Int32), oI c1]) rfl) ?_
          show Done _ p e below s _ _ (T21.setTop (mkF m 63 #[oR x1, oI (cnt + (2 : Int32)), oI (2 : Int32), oI c1] []))
          refine Done.step (fun _ => XS.goto X21.here hx rfl (pc0 := 63) (pc' := 4) rfl (hb hby d6_63) (by decide) (by decide)) ?_
          show Done _ p e below s _ _ (T21.setTop (mkF m 4 #[oR x1, oI (cnt + (2 : Int32)), oI (2 : Int32), oI c1] []))
          exact KL2 T21 e21 X21 (cnt + (2 : Int32)) c1 (by rw [hc, show own_ub c1 = _ by unfold own_ub; rw [if_neg hc18, if_neg hc19, if_pos hc20]])
        · refine Done.callSP X17 hx hZ hown (wAt hw 127 rfl) (wAt hw 128 rfl) (wAt hw 129 rfl) (wAt hw 130 rfl) (by decide) (rIS l Z a0 hw [] c1 (0 : Int32) h0 n0 Z0 (bP_f hc20).symm) e17 (g := (mkF m 45 #[oR x1, oI cnt, oI (1 : Int32), oI c1] [(.int c1)])) rfl (by rw [hml]; rfl) [(.int c1)] [] 0 (lenOf pd_16 rfl) rfl rfl (by show 2 * 0 + _ ≤ _; exact Nat.le_of_eq rfl) (hb hby d6_45) (by decide) (by decide) (by decide) (by decide) rfl rfl ?_
          intro T22 X22 e22
          show Done _ p e below s _ _ (T22.setTop (mkF m 48 #[oR x1, oI cnt, oI (1 : Int32), oI c1] [(.int (0 : Int32))]))
          refine Done.step (fun _ => XS.ifYes X22.here hx rfl (pc0 := 48) (pc' := 57) rfl (hb hby d6_48) rfl (XT.i0_eq_t rfl) (by decide) (by decide)) ?_
          show Done _ p e below s _ _ (T22.setTop (mkF m 57 #[oR x1, oI cnt, oI (1 : Int32), oI c1] []))
          refine Done.step (fun _ => XS.iinc X22.here hx rfl (hb hby d6_57) rfl (l' := #[oR x1, oI (cnt + (3 : Int32)), oI (1 : Int32), oI c1]) rfl) ?_
          show Done _ p e below s _ _ (T22.setTop (mkF m 60 #[oR x1, oI (cnt + (3 : Int32)), oI (1 : Int32), oI c1] []))
          refine Done.step (fun _ => XS.iinc X22.here hx rfl (hb hby d6_60) rfl (l' := #[oR x1, oI (cnt + (3 : Int32)), oI (2 : Int32), oI c1]) rfl) ?_
          show Done _ p e below s _ _ (T22.setTop (mkF m 63 #[oR x1, oI (cnt + (3 : Int32)), oI (2 : Int32), oI c1] []))
          refine Done.step (fun _ => XS.goto X22.here hx rfl (pc0 := 63) (pc' := 4) rfl (hb hby d6_63) (by decide) (by decide)) ?_
          show Done _ p e below s _ _ (T22.setTop (mkF m 4 #[oR x1, oI (cnt + (3 : Int32)), oI (2 : Int32), oI c1] []))
          exact KL2 T22 e22 X22 (cnt + (3 : Int32)) c1 (by rw [hc, show own_ub c1 = _ by unfold own_ub; rw [if_neg hc18, if_neg hc19, if_neg hc20]])
  show Done _ p e below s _ _ (T0.setTop (mkF m 4 #[oR x1, oI (0 : Int32), oI (0 : Int32), .unset] []))
  refine Done.step (fun _ => XS.iloadN X0.here hx rfl (hb hby d6_4) rfl) ?_
  show Done _ p e below s _ _ (T0.setTop (mkF m 5 #[oR x1, oI (0 : Int32), oI (0 : Int32), .unset] [(.int (0 : Int32))]))
  refine Done.step (fun _ => XS.aloadN X0.here hx rfl (hb hby d6_5) rfl rfl) ?_
  show Done _ p e below s _ _ (T0.setTop (mkF m 6 #[oR x1, oI (0 : Int32), oI (0 : Int32), .unset] [(.ref x1), (.int (0 : Int32))]))
  refine Done.callVP X0 hx hZ (C := "java/lang/String") hown (wAt hw 35 rfl) (wAt hw 36 rfl) (notFace_of_selects (args := #[]) (mvT hZ (wAt hw 38 rfl))) (wAt hw 38 rfl) (wAt hw 37 rfl) (wAt hw 11 rfl) (wAt hw 39 rfl) (by decide) (rLd4 l Z a0 hw [] x1 t1 kb1 c0 c1 c2 c3 z fm h0 n0 Z0 O0 SC hz SF rF SA SH SL E1 V1 D1) e0 E1 (g := (mkF m 6 #[oR x1, oI (0 : Int32), oI (0 : Int32), .unset] [(.ref x1), (.int (0 : Int32))])) rfl (by rw [hml]; rfl) [] [(.int (0 : Int32))] 1 (lenOf pd_14 rfl) rfl rfl (by show 2 * 0 + _ ≤ _; exact Nat.le_of_eq rfl) (hb hby d6_6) (by decide) (by decide) (by decide) (by decide) rfl rfl ?_
  intro T23 X23 e23
  show Done _ p e below s _ _ (T23.setTop (mkF m 9 #[oR x1, oI (0 : Int32), oI (0 : Int32), .unset] [(.int (4 : Int32)), (.int (0 : Int32))]))
  refine Done.step (fun _ => XS.icmpNo X23.here hx rfl (hb hby d6_9) rfl (XT.ii_ge_f (by decide))) ?_
  show Done _ p e below s _ _ (T23.setTop (mkF m 12 #[oR x1, oI (0 : Int32), oI (0 : Int32), .unset] []))
  refine Done.step (fun _ => XS.aloadN X23.here hx rfl (hb hby d6_12) rfl rfl) ?_
  show Done _ p e below s _ _ (T23.setTop (mkF m 13 #[oR x1, oI (0 : Int32), oI (0 : Int32), .unset] [(.ref x1)]))
  refine Done.step (fun _ => XS.iloadN X23.here hx rfl (hb hby d6_13) rfl) ?_
  show Done _ p e below s _ _ (T23.setTop (mkF m 14 #[oR x1, oI (0 : Int32), oI (0 : Int32), .unset] [(.int (0 : Int32)), (.ref x1)]))
  refine Done.callVP X23 hx hZ (C := "java/lang/String") hown (wAt hw 67 rfl) (wAt hw 68 rfl) (notFace_of_selects (args := #[]) (mvT hZ (wAt hw 70 rfl))) (wAt hw 70 rfl) (wAt hw 69 rfl) (wAt hw 11 rfl) (wAt hw 71 rfl) (by decide) (rCd40 l Z a0 hw [] x1 t1 kb1 c0 c1 c2 c3 z fm h0 n0 Z0 O0 SC hz SF rF SA SH SL E1 V1 D1 hb0) e23 E1 (g := (mkF m 14 #[oR x1, oI (0 : Int32), oI (0 : Int32), .unset] [(.int (0 : Int32)), (.ref x1)])) rfl (by rw [hml]; rfl) [(.int (0 : Int32))] [] 0 (lenOf pd_15 rfl) rfl rfl (by show 2 * 0 + _ ≤ _; exact Nat.le_of_eq rfl) (hb hby d6_14) (by decide) (by decide) (by decide) (by decide) rfl rfl ?_
  intro T24 X24 e24
  show Done _ p e below s _ _ (T24.setTop (mkF m 17 #[oR x1, oI (0 : Int32), oI (0 : Int32), .unset] [(.int c0)]))
  refine Done.step (fun _ => XS.istoreN X24.here hx rfl (hb hby d6_17) rfl (l' := #[oR x1, oI (0 : Int32), oI (0 : Int32), oI c0]) rfl) ?_
  show Done _ p e below s _ _ (T24.setTop (mkF m 18 #[oR x1, oI (0 : Int32), oI (0 : Int32), oI c0] []))
  refine Done.step (fun _ => XS.iloadN X24.here hx rfl (hb hby d6_18) rfl) ?_
  show Done _ p e below s _ _ (T24.setTop (mkF m 19 #[oR x1, oI (0 : Int32), oI (0 : Int32), oI c0] [(.int c0)]))
  refine Done.step (fun _ => XT.sipushV X24.here hx rfl (128 : Int32) (hb hby d6_19) (by decide)) ?_
  show Done _ p e below s _ _ (T24.setTop (mkF m 22 #[oR x1, oI (0 : Int32), oI (0 : Int32), oI c0] [(.int (128 : Int32)), (.int c0)]))
  by_cases hc25 : c0 < (128 : Int32)
  · refine Done.step (fun _ => XS.icmpNo X24.here hx rfl (hb hby d6_22) rfl (XT.ii_ge_f hc25)) ?_
    show Done _ p e below s _ _ (T24.setTop (mkF m 25 #[oR x1, oI (0 : Int32), oI (0 : Int32), oI c0] []))
    refine Done.step (fun _ => XS.iinc X24.here hx rfl (hb hby d6_25) rfl (l' := #[oR x1, oI (1 : Int32), oI (0 : Int32), oI c0]) rfl) ?_
    show Done _ p e below s _ _ (T24.setTop (mkF m 28 #[oR x1, oI (1 : Int32), oI (0 : Int32), oI c0] []))
    refine Done.step (fun _ => XS.goto X24.here hx rfl (pc0 := 28) (pc' := 60) rfl (hb hby d6_28) (by decide) (by decide)) ?_
    show Done _ p e below s _ _ (T24.setTop (mkF m 60 #[oR x1, oI (1 : Int32), oI (0 : Int32), oI c0] []))
    refine Done.step (fun _ => XS.iinc X24.here hx rfl (hb hby d6_60) rfl (l' := #[oR x1, oI (1 : Int32), oI (1 : Int32), oI c0]) rfl) ?_
    show Done _ p e below s _ _ (T24.setTop (mkF m 63 #[oR x1, oI (1 : Int32), oI (1 : Int32), oI c0] []))
    refine Done.step (fun _ => XS.goto X24.here hx rfl (pc0 := 63) (pc' := 4) rfl (hb hby d6_63) (by decide) (by decide)) ?_
    show Done _ p e below s _ _ (T24.setTop (mkF m 4 #[oR x1, oI (1 : Int32), oI (1 : Int32), oI c0] []))
    exact KL1 T24 e24 X24 (1 : Int32) c0 (by rw [show own_ub c0 = _ by unfold own_ub; rw [if_pos hc25]]; rfl)
  · refine Done.step (fun _ => XS.icmpYes X24.here hx rfl (pc0 := 22) (pc' := 31) rfl (hb hby d6_22) rfl (XT.ii_ge_t hc25) (by decide) (by decide)) ?_
    show Done _ p e below s _ _ (T24.setTop (mkF m 31 #[oR x1, oI (0 : Int32), oI (0 : Int32), oI c0] []))
    refine Done.step (fun _ => XS.iloadN X24.here hx rfl (hb hby d6_31) rfl) ?_
    show Done _ p e below s _ _ (T24.setTop (mkF m 32 #[oR x1, oI (0 : Int32), oI (0 : Int32), oI c0] [(.int c0)]))
    refine Done.step (fun _ => XT.sipushV X24.here hx rfl (2048 : Int32) (hb hby d6_32) (by decide)) ?_
    show Done _ p e below s _ _ (T24.setTop (mkF m 35 #[oR x1, oI (0 : Int32), oI (0 : Int32), oI c0] [(.int (2048 : Int32)), (.int c0)]))
    by_cases hc26 : c0 < (2048 : Int32)
    · refine Done.step (fun _ => XS.icmpNo X24.here hx rfl (hb hby d6_35) rfl (XT.ii_ge_f hc26)) ?_
      show Done _ p e below s _ _ (T24.setTop (mkF m 38 #[oR x1, oI (0 : Int32), oI (0 : Int32), oI c0] []))
      refine Done.step (fun _ => XS.iinc X24.here hx rfl (hb hby d6_38) rfl (l' := #[oR x1, oI (2 : Int32), oI (0 : Int32), oI c0]) rfl) ?_
      show Done _ p e below s _ _ (T24.setTop (mkF m 41 #[oR x1, oI (2 : Int32), oI (0 : Int32), oI c0] []))
      refine Done.step (fun _ => XS.goto X24.here hx rfl (pc0 := 41) (pc' := 60) rfl (hb hby d6_41) (by decide) (by decide)) ?_
      show Done _ p e below s _ _ (T24.setTop (mkF m 60 #[oR x1, oI (2 : Int32), oI (0 : Int32), oI c0] []))
      refine Done.step (fun _ => XS.iinc X24.here hx rfl (hb hby d6_60) rfl (l' := #[oR x1, oI (2 : Int32), oI (1 : Int32), oI c0]) rfl) ?_
      show Done _ p e below s _ _ (T24.setTop (mkF m 63 #[oR x1, oI (2 : Int32), oI (1 : Int32), oI c0] []))
      refine Done.step (fun _ => XS.goto X24.here hx rfl (pc0 := 63) (pc' := 4) rfl (hb hby d6_63) (by decide) (by decide)) ?_
      show Done _ p e below s _ _ (T24.setTop (mkF m 4 #[oR x1, oI (2 : Int32), oI (1 : Int32), oI c0] []))
      exact KL1 T24 e24 X24 (2 : Int32) c0 (by rw [show own_ub c0 = _ by unfold own_ub; rw [if_neg hc25, if_pos hc26]]; rfl)
    · refine Done.step (fun _ => XS.icmpYes X24.here hx rfl (pc0 := 35) (pc' := 44) rfl (hb hby d6_35) rfl (XT.ii_ge_t hc26) (by decide) (by decide)) ?_
      show Done _ p e below s _ _ (T24.setTop (mkF m 44 #[oR x1, oI (0 : Int32), oI (0 : Int32), oI c0] []))
      refine Done.step (fun _ => XS.iloadN X24.here hx rfl (hb hby d6_44) rfl) ?_
      show Done _ p e below s _ _ (T24.setTop (mkF m 45 #[oR x1, oI (0 : Int32), oI (0 : Int32), oI c0] [(.int c0)]))
      by_cases hc27 : (¬ c0 < (55296 : Int32) ∧ c0 < (57344 : Int32))
      · refine Done.callSP X24 hx hZ hown (wAt hw 127 rfl) (wAt hw 128 rfl) (wAt hw 129 rfl) (wAt hw 130 rfl) (by decide) (rIS l Z a0 hw [] c0 (1 : Int32) h0 n0 Z0 (bP_t hc27).symm) e24 (g := (mkF m 45 #[oR x1, oI (0 : Int32), oI (0 : Int32), oI c0] [(.int c0)])) rfl (by rw [hml]; rfl) [(.int c0)] [] 0 (lenOf pd_16 rfl) rfl rfl (by show 2 * 0 + _ ≤ _; exact Nat.le_of_eq rfl) (hb hby d6_45) (by decide) (by decide) (by decide) (by decide) rfl rfl ?_
        intro T28 X28 e28
        show Done _ p e below s _ _ (T28.setTop (mkF m 48 #[oR x1, oI (0 : Int32), oI (0 : Int32), oI c0] [(.int (1 : Int32))]))
        refine Done.step (fun _ => XS.ifNo X28.here hx rfl (hb hby d6_48) rfl (XT.i0_eq_f (by decide))) ?_
        show Done _ p e below s _ _ (T28.setTop (mkF m 51 #[oR x1, oI (0 : Int32), oI (0 : Int32), oI c0] []))
        refine Done.step (fun _ => XS.iinc X28.here hx rfl (hb hby d6_51) rfl (l' := #[oR x1, oI (2 : Int32), oI (0 : Int32), oI c0]) rfl) ?_
        show Done _ p e below s _ _ (T28.setTop (mkF m 54 #[oR x1, oI (2 : Int32), oI (0 : Int32), oI c0] []))
        refine Done.step (fun _ => XS.goto X28.here hx rfl (pc0 := 54) (pc' := 60) rfl (hb hby d6_54) (by decide) (by decide)) ?_
        show Done _ p e below s _ _ (T28.setTop (mkF m 60 #[oR x1, oI (2 : Int32), oI (0 : Int32), oI c0] []))
        refine Done.step (fun _ => XS.iinc X28.here hx rfl (hb hby d6_60) rfl (l' := #[oR x1, oI (2 : Int32), oI (1 : Int32), oI c0]) rfl) ?_
        show Done _ p e below s _ _ (T28.setTop (mkF m 63 #[oR x1, oI (2 : Int32), oI (1 : Int32), oI c0] []))
        refine Done.step (fun _ => XS.goto X28.here hx rfl (pc0 := 63) (pc' := 4) rfl (hb hby d6_63) (by decide) (by decide)) ?_
        show Done _ p e below s _ _ (T28.setTop (mkF m 4 #[oR x1, oI (2 : Int32), oI (1 : Int32), oI c0] []))
        exact KL1 T28 e28 X28 (2 : Int32) c0 (by rw [show own_ub c0 = _ by unfold own_ub; rw [if_neg hc25, if_neg hc26, if_pos hc27]]; rfl)
      · refine Done.callSP X24 hx hZ hown (wAt hw 127 rfl) (wAt hw 128 rfl) (wAt hw 129 rfl) (wAt hw 130 rfl) (by decide) (rIS l Z a0 hw [] c0 (0 : Int32) h0 n0 Z0 (bP_f hc27).symm) e24 (g := (mkF m 45 #[oR x1, oI (0 : Int32), oI (0 : Int32), oI c0] [(.int c0)])) rfl (by rw [hml]; rfl) [(.int c0)] [] 0 (lenOf pd_16 rfl) rfl rfl (by show 2 * 0 + _ ≤ _; exact Nat.le_of_eq rfl) (hb hby d6_45) (by decide) (by decide) (by decide) (by decide) rfl rfl ?_
        intro T29 X29 e29
        show Done _ p e below s _ _ (T29.setTop (mkF m 48 #[oR x1, oI (0 : Int32), oI (0 : Int32), oI c0] [(.int (0 : Int32))]))
        refine Done.step (fun _ => XS.ifYes X29.here hx rfl (pc0 := 48) (pc' := 57) rfl (hb hby d6_48) rfl (XT.i0_eq_t rfl) (by decide) (by decide)) ?_
        show Done _ p e below s _ _ (T29.setTop (mkF m 57 #[oR x1, oI (0 : Int32), oI (0 : Int32), oI c0] []))
        refine Done.step (fun _ => XS.iinc X29.here hx rfl (hb hby d6_57) rfl (l' := #[oR x1, oI (3 : Int32), oI (0 : Int32), oI c0]) rfl) ?_
        show Done _ p e below s _ _ (T29.setTop (mkF m 60 #[oR x1, oI (3 : Int32), oI (0 : Int32), oI c0] []))
        refine Done.step (fun _ => XS.iinc X29.here hx rfl (hb hby d6_60) rfl (l' := #[oR x1, oI (3 : Int32), oI (1 : Int32), oI c0]) rfl) ?_
        show Done _ p e below s _ _ (T29.setTop (mkF m 63 #[oR x1, oI (3 : Int32), oI (1 : Int32), oI c0] []))
        refine Done.step (fun _ => XS.goto X29.here hx rfl (pc0 := 63) (pc' := 4) rfl (hb hby d6_63) (by decide) (by decide)) ?_
        show Done _ p e below s _ _ (T29.setTop (mkF m 4 #[oR x1, oI (3 : Int32), oI (1 : Int32), oI c0] []))
        exact KL1 T29 e29 X29 (3 : Int32) c0 (by rw [show own_ub c0 = _ by unfold own_ub; rw [if_neg hc25, if_neg hc26, if_neg hc27]]; rfl)
theorem d13_0 : decode jdk_43_method_46_code 0 = .ok (.iconst 1, 1) := by decide +kernel
theorem d13_1 : decode jdk_43_method_46_code 1 = .ok (.newarray .byte, 2) := by decide +kernel
theorem d13_3 : decode jdk_43_method_46_code 3 = .ok (.dup, 1) := by decide +kernel
theorem d13_4 : decode jdk_43_method_46_code 4 = .ok (.iconst 0, 1) := by decide +kernel
theorem d13_5 : decode jdk_43_method_46_code 5 = .ok (.iload_n 0, 1) := by decide +kernel
theorem d13_6 : decode jdk_43_method_46_code 6 = .ok (.i2b, 1) := by decide +kernel
theorem d13_7 : decode jdk_43_method_46_code 7 = .ok (.bastore, 1) := by decide +kernel
theorem d13_8 : decode jdk_43_method_46_code 8 = .ok (.areturn, 1) := by decide +kernel
set_option maxRecDepth 65536 in
set_option maxHeartbeats 40000000 in
theorem vT0 (l : Launch) (Z : State) (a0 : Array Value) (hw : ∀ d ∈ tables_1, d.before a0 Z = true) (ws : List Jvm.Cond) (c0 : Int32) (h0 : Heap) (n0 : Nat) (Z0 : n0 ≤ h0.size) (O0 : Old Z n0 h0) (SA : Sta Z Z.heap "java/lang/StringUTF16" "$assertionsDisabled" "Z" (.int (1 : Int32))) (SH : Sta Z Z.heap "java/lang/StringUTF16" "HI_BYTE_SHIFT" "I" (.int (0 : Int32))) (SL : Sta Z Z.heap "java/lang/StringUTF16" "LO_BYTE_SHIFT" "I" (.int (8 : Int32))) :
    Ctr FrameEnd l Z (⟨"java/lang/StringLatin1", "toBytes", "(C)[B"⟩ : MethodName) jdk_43_method_46_code 1 (some (.array .byte)) ws ({ frames := 0, cells := 1, slots := 1, locals := 0 } : Room) #[(.int c0)] h0 TrueV (fun v h _ L => ∃ (b : Addr) (kb : ClassId), v = some (.ref b) ∧ Fr n0 L ∧ Keep h0 h [] ∧ h0.size ≤ b ∧ Arv Z h b kb .byte (1 : Int32) [(.int (own_by c0))] (.int (0 : Int32))) := by
  refine Ctr.intro (plainFor_of_name pn_java_lang_StringLatin1) (Ls := #[.val (.int c0)]) (fun m => by first | (simp [entryFrame, mkF, argsToLocals, Value.category]; done) | rfl) ?_
  intro p e s m below meth c T0 hx hby hml hown hnm hret hlk hZ hV hsh e0 X0
  have N0 := Fr.nil n0
  show Done _ p e below s _ _ (T0.setTop (mkF m 0 #[oI c0] []))
  refine Done.step (fun _ => XT.iconstV X0.here hx rfl (1 : Int32) (hb hby d13_0) (by decide)) ?_
  show Done _ p e below s _ _ (T0.setTop (mkF m 1 #[oI c0] [(.int (1 : Int32))]))
  obtain ⟨T1, h1, k1, X1, e1, E1, A1, st1⟩ := newP X0 hx hZ (wAt hw 24 rfl) e0 (g := (mkF m 1 #[oI c0] [(.int (1 : Int32))])) rfl (hb hby d13_1) rfl (by decide) (cap := 1) (by decide) (by decide) (by decide) (by decide)
  obtain ⟨b1, g1⟩ : ∃ z, z = h0.size := ⟨_, rfl⟩
  rw [← g1] at A1 st1
  have n0_b1 : n0 ≤ b1 := by rw [g1]; exact Z0
  have sz_b1 : h0.size ≤ b1 := by rw [g1]; exact (Keep.refl h0 []).1
  have K1 := (Keep.refl h0 []).ext E1
  have Zs1 := Nat.le_trans Z0 E1.1
  have V_b1 : Arv Z h1 b1 k1 .byte (1 : Int32) [(.int (0 : Int32))] (.int (0 : Int32)) := (Arv.new A1 (by decide)).pad (pad_rep [] (.int (0 : Int32)) 1)
  refine Done.step st1 ?_
  show Done _ p e below s _ _ (T1.setTop (mkF m 3 #[oI c0] [(.ref b1)]))
  refine Done.step (fun _ => XS.dup X1.here hx rfl (hb hby d13_3) rfl rfl) ?_
  show Done _ p e below s _ _ (T1.setTop (mkF m 4 #[oI c0] [(.ref b1), (.ref b1)]))
  refine Done.step (fun _ => XT.iconstV X1.here hx rfl (0 : Int32) (hb hby d13_4) (by decide)) ?_
  show Done _ p e below s _ _ (T1.setTop (mkF m 5 #[oI c0] [(.int (0 : Int32)), (.ref b1), (.ref b1)]))
  refine Done.step (fun _ => XS.iloadN X1.here hx rfl (hb hby d13_5) rfl) ?_
  show Done _ p e below s _ _ (T1.setTop (mkF m 6 #[oI c0] [(.int c0), (.int (0 : Int32)), (.ref b1), (.ref b1)]))
  refine Done.step (fun _ => XT.i2b X1.here hx rfl (hb hby d13_6) rfl) ?_
  show Done _ p e below s _ _ (T1.setTop (mkF m 7 #[oI c0] [(.int (c0.toInt8.toInt32)), (.int (0 : Int32)), (.ref b1), (.ref b1)]))
  obtain ⟨cl2, Ar2, q2, S2, Nn2, H2, G2⟩ := id V_b1
  have hin2 : ¬ ((0 : Int32) < 0 ∨ cl2.slots.size ≤ ((0 : Int32)).toNatClampNeg) := inb_of S2 ⟨by decide, by decide⟩
  obtain ⟨T2, h2, X2, e2, W2, st2⟩ := stB X1 hx hZ e1 Ar2 (j := (0 : Int32)) hin2 (g := (mkF m 7 #[oI c0] [(.int (c0.toInt8.toInt32)), (.int (0 : Int32)), (.ref b1), (.ref b1)])) rfl rfl (hb hby d13_7)
  have V2 := Arv.set Ar2 q2 S2 Nn2 H2 G2 (fits_nar_byte _) W2 0 rfl (Nat.le_of_ble_eq_true rfl)
  have N2 := Fr.snoc X2 N0 n0_b1
  have Zs2 := Nat.le_trans Zs1 (Keep.of_wr W2).1
  have K2 := K1.wr W2 (Or.inr sz_b1)
  refine Done.step st2 ?_
  show Done _ p e below s _ _ (T2.setTop (mkF m 8 #[oI c0] [(.ref b1)]))
  refine Done.retA (leavesF X2 hlk (by decide) (by decide)) X2 hx hret rfl rfl (hb hby d13_8) ?_
  rw [e2]
  exact ⟨b1, k1, rfl, N2, K2, sz_b1, V2⟩
theorem d32_0 : decode jdk_52_method_24_code 0 = .ok (.iconst 2, 1) := by decide +kernel
theorem d32_1 : decode jdk_52_method_24_code 1 = .ok (.newarray .byte, 2) := by decide +kernel
theorem d32_3 : decode jdk_52_method_24_code 3 = .ok (.astore_n 1, 1) := by decide +kernel
theorem d32_4 : decode jdk_52_method_24_code 4 = .ok (.aload_n 1, 1) := by decide +kernel
theorem d32_5 : decode jdk_52_method_24_code 5 = .ok (.iconst 0, 1) := by decide +kernel
theorem d32_6 : decode jdk_52_method_24_code 6 = .ok (.iload_n 0, 1) := by decide +kernel
theorem d32_7 : decode jdk_52_method_24_code 7 = .ok (.invokestatic 111, 3) := by decide +kernel
theorem d32_10 : decode jdk_52_method_24_code 10 = .ok (.aload_n 1, 1) := by decide +kernel
theorem d32_11 : decode jdk_52_method_24_code 11 = .ok (.areturn, 1) := by decide +kernel
set_option maxRecDepth 65536 in
set_option maxHeartbeats 40000000 in
theorem vT1 (l : Launch) (Z : State) (a0 : Array Value) (hw : ∀ d ∈ tables_1, d.before a0 Z = true) (ws : List Jvm.Cond) (c0 : Int32) (h0 : Heap) (n0 : Nat) (Z0 : n0 ≤ h0.size) (O0 : Old Z n0 h0) (SA : Sta Z Z.heap "java/lang/StringUTF16" "$assertionsDisabled" "Z" (.int (1 : Int32))) (SH : Sta Z Z.heap "java/lang/StringUTF16" "HI_BYTE_SHIFT" "I" (.int (0 : Int32))) (SL : Sta Z Z.heap "java/lang/StringUTF16" "LO_BYTE_SHIFT" "I" (.int (8 : Int32))) :
    Ctr FrameEnd l Z (⟨"java/lang/StringUTF16", "toBytes", "(C)[B"⟩ : MethodName) jdk_52_method_24_code 2 (some (.array .byte)) ws ({ frames := 1, cells := 1, slots := 2, locals := 14 } : Room) #[(.int c0)] h0 TrueV (fun v h _ L => ∃ (b : Addr) (kb : ClassId), v = some (.ref b) ∧ Fr n0 L ∧ Keep h0 h [] ∧ h0.size ≤ b ∧ Arv Z h b kb .byte (2 : Int32) [(.int (own_hi c0)), (.int (own_lo c0))] (.int (0 : Int32))) := by
  refine Ctr.intro (plainFor_of_name pn_java_lang_StringUTF16) (Ls := #[.val (.int c0), .unset]) (fun m => by first | (simp [entryFrame, mkF, argsToLocals, Value.category]; done) | rfl) ?_
  intro p e s m below meth c T0 hx hby hml hown hnm hret hlk hZ hV hsh e0 X0
  have N0 := Fr.nil n0
  show Done _ p e below s _ _ (T0.setTop (mkF m 0 #[oI c0, .unset] []))
  refine Done.step (fun _ => XT.iconstV X0.here hx rfl (2 : Int32) (hb hby d32_0) (by decide)) ?_
  show Done _ p e below s _ _ (T0.setTop (mkF m 1 #[oI c0, .unset] [(.int (2 : Int32))]))
  obtain ⟨T1, h1, k1, X1, e1, E1, A1, st1⟩ := newP X0 hx hZ (wAt hw 24 rfl) e0 (g := (mkF m 1 #[oI c0, .unset] [(.int (2 : Int32))])) rfl (hb hby d32_1) rfl (by decide) (cap := 2) (by decide) (by decide) (by decide) (by decide)
  obtain ⟨b1, g1⟩ : ∃ z, z = h0.size := ⟨_, rfl⟩
  rw [← g1] at A1 st1
  have n0_b1 : n0 ≤ b1 := by rw [g1]; exact Z0
  have sz_b1 : h0.size ≤ b1 := by rw [g1]; exact (Keep.refl h0 []).1
  have K1 := (Keep.refl h0 []).ext E1
  have Zs1 := Nat.le_trans Z0 E1.1
  have V_b1 : Arv Z h1 b1 k1 .byte (2 : Int32) [(.int (0 : Int32)), (.int (0 : Int32))] (.int (0 : Int32)) := (Arv.new A1 (by decide)).pad (pad_rep [] (.int (0 : Int32)) 2)
  refine Done.step st1 ?_
  show Done _ p e below s _ _ (T1.setTop (mkF m 3 #[oI c0, .unset] [(.ref b1)]))
  refine Done.step (fun _ => XS.astoreN X1.here hx rfl (hb hby d32_3) rfl rfl (l' := #[oI c0, oR b1]) rfl) ?_
  show Done _ p e below s _ _ (T1.setTop (mkF m 4 #[oI c0, oR b1] []))
  refine Done.step (fun _ => XS.aloadN X1.here hx rfl (hb hby d32_4) rfl rfl) ?_
  show Done _ p e below s _ _ (T1.setTop (mkF m 5 #[oI c0, oR b1] [(.ref b1)]))
  refine Done.step (fun _ => XT.iconstV X1.here hx rfl (0 : Int32) (hb hby d32_5) (by decide)) ?_
  show Done _ p e below s _ _ (T1.setTop (mkF m 6 #[oI c0, oR b1] [(.int (0 : Int32)), (.ref b1)]))
  refine Done.step (fun _ => XS.iloadN X1.here hx rfl (hb hby d32_6) rfl) ?_
  show Done _ p e below s _ _ (T1.setTop (mkF m 7 #[oI c0, oR b1] [(.int c0), (.int (0 : Int32)), (.ref b1)]))
  have f2 := (O0.ext E1)
  refine Done.callS X1 hx hZ hown (wAt hw 105 rfl) (wAt hw 106 rfl) (wAt hw 90 rfl) (wAt hw 107 rfl) (by decide) (up_10 l Z a0 hw [] b1 k1 (0 : Int32) (0 : Int32) c0 h1 n0 Zs1 f2 SA SH SL V_b1 n0_b1) (fun _ _ => trivial) e1 (g := (mkF m 7 #[oI c0, oR b1] [(.int c0), (.int (0 : Int32)), (.ref b1)])) rfl (by rw [hml]; rfl) [(.ref b1), (.int (0 : Int32)), (.int c0)] [] 0 (lenOf pd_3 rfl) rfl rfl (by show 2 * 0 + _ ≤ _; exact Nat.le_of_eq rfl) (hb hby d32_7) (by decide) (by decide) (by decide) (by decide) ?_
  intro T3 v3 L3 X3 q3
  obtain ⟨rfl, Nq3, K3q, VBp⟩ := q3
  have N3 := Fr.app N0 Nq3
  have Zs3 := Nat.le_trans Zs1 K3q.1
  have K3 := K1.trans K3q (allS (Or.inr sz_b1) all0)
  show Done _ p e below s _ _ (T3.setTop (mkF m 10 #[oI c0, oR b1] []))
  refine Done.step (fun _ => XS.aloadN X3.here hx rfl (hb hby d32_10) rfl rfl) ?_
  show Done _ p e below s _ _ (T3.setTop (mkF m 11 #[oI c0, oR b1] [(.ref b1)]))
  exact Done.retA (leavesF X3 hlk (by decide) (by decide)) X3 hx hret rfl rfl (hb hby d32_11) ⟨b1, k1, rfl, N3, K3, sz_b1, VBp⟩
theorem d12_0 : decode jdk_43_method_3_code 0 = .ok (.iload_n 0, 1) := by decide +kernel
theorem d12_1 : decode jdk_43_method_3_code 1 = .ok (.sipush 255, 3) := by decide +kernel
theorem d12_4 : decode jdk_43_method_3_code 4 = .ok (.if_icmp .gt 7, 3) := by decide +kernel
theorem d12_11 : decode jdk_43_method_3_code 11 = .ok (.iconst 0, 1) := by decide +kernel
theorem d12_12 : decode jdk_43_method_3_code 12 = .ok (.ireturn, 1) := by decide +kernel
theorem d12_7 : decode jdk_43_method_3_code 7 = .ok (.iconst 1, 1) := by decide +kernel
theorem d12_8 : decode jdk_43_method_3_code 8 = .ok (.goto 4, 3) := by decide +kernel
set_option maxRecDepth 65536 in
set_option maxHeartbeats 40000000 in
theorem vC (l : Launch) (Z : State) (a0 : Array Value) (hw : ∀ d ∈ tables_1, d.before a0 Z = true) (ws : List Jvm.Cond) (c0 r : Int32) (h0 : Heap) (n0 : Nat) (Z0 : n0 ≤ h0.size) (hr : r = bP (¬ (255 : Int32) < c0)) :
    Ctr FrameEnd l Z (⟨"java/lang/StringLatin1", "canEncode", "(C)Z"⟩ : MethodName) jdk_43_method_3_code 1 (some .boolean) ws ({ frames := 0, cells := 0, slots := 0, locals := 0 } : Room) #[(.int c0)] h0 TrueV (PureQ (some (.int r)) h0) := by
  refine Ctr.intro (plainFor_of_name pn_java_lang_StringLatin1) (Ls := #[.val (.int c0)]) (fun m => by first | (simp [entryFrame, mkF, argsToLocals, Value.category]; done) | rfl) ?_
  intro p e s m below meth c T0 hx hby hml hown hnm hret hlk hZ hV hsh e0 X0
  have N0 := Fr.nil n0
  show Done _ p e below s _ _ (T0.setTop (mkF m 0 #[oI c0] []))
  refine Done.step (fun _ => XS.iloadN X0.here hx rfl (hb hby d12_0) rfl) ?_
  show Done _ p e below s _ _ (T0.setTop (mkF m 1 #[oI c0] [(.int c0)]))
  refine Done.step (fun _ => XT.sipushV X0.here hx rfl (255 : Int32) (hb hby d12_1) (by decide)) ?_
  show Done _ p e below s _ _ (T0.setTop (mkF m 4 #[oI c0] [(.int (255 : Int32)), (.int c0)]))
  by_cases hc1 : (255 : Int32) < c0
  · refine Done.step (fun _ => XS.icmpYes X0.here hx rfl (pc0 := 4) (pc' := 11) rfl (hb hby d12_4) rfl (XT.ii_gt_t hc1) (by decide) (by decide)) ?_
    show Done _ p e below s _ _ (T0.setTop (mkF m 11 #[oI c0] []))
    refine Done.step (fun _ => XT.iconstV X0.here hx rfl (0 : Int32) (hb hby d12_11) (by decide)) ?_
    show Done _ p e below s _ _ (T0.setTop (mkF m 12 #[oI c0] [(.int (0 : Int32))]))
    exact Done.retN (leavesF X0 hlk (by decide) (by decide)) X0 hx (t := .boolean) hret (by simp) (hb hby d12_12) ⟨by rw [hr, bP_f (fun q => q hc1)]; rfl, e0, rfl⟩
  · refine Done.step (fun _ => XS.icmpNo X0.here hx rfl (hb hby d12_4) rfl (XT.ii_gt_f hc1)) ?_
    show Done _ p e below s _ _ (T0.setTop (mkF m 7 #[oI c0] []))
    refine Done.step (fun _ => XT.iconstV X0.here hx rfl (1 : Int32) (hb hby d12_7) (by decide)) ?_
    show Done _ p e below s _ _ (T0.setTop (mkF m 8 #[oI c0] [(.int (1 : Int32))]))
    refine Done.step (fun _ => XS.goto X0.here hx rfl (pc0 := 8) (pc' := 12) rfl (hb hby d12_8) (by decide) (by decide)) ?_
    show Done _ p e below s _ _ (T0.setTop (mkF m 12 #[oI c0] [(.int (1 : Int32))]))
    exact Done.retN (leavesF X0 hlk (by decide) (by decide)) X0 hx (t := .boolean) hret (by simp) (hb hby d12_12) ⟨by rw [hr, bP_t hc1]; rfl, e0, rfl⟩
theorem d14_0 : decode jdk_42_method_151_code 0 = .ok (.aload_n 0, 1) := by decide +kernel
theorem d14_1 : decode jdk_42_method_151_code 1 = .ok (.invokespecial 1, 3) := by decide +kernel
theorem d14_4 : decode jdk_42_method_151_code 4 = .ok (.aload_n 0, 1) := by decide +kernel
theorem d14_5 : decode jdk_42_method_151_code 5 = .ok (.aload_n 1, 1) := by decide +kernel
theorem d14_6 : decode jdk_42_method_151_code 6 = .ok (.putfield 9, 3) := by decide +kernel
theorem d14_9 : decode jdk_42_method_151_code 9 = .ok (.aload_n 0, 1) := by decide +kernel
theorem d14_10 : decode jdk_42_method_151_code 10 = .ok (.iload_n 2, 1) := by decide +kernel
theorem d14_11 : decode jdk_42_method_151_code 11 = .ok (.putfield 15, 3) := by decide +kernel
theorem d14_14 : decode jdk_42_method_151_code 14 = .ok (.return_, 1) := by decide +kernel
set_option maxRecDepth 65536 in
set_option maxHeartbeats 40000000 in
theorem vI0 (l : Launch) (Z : State) (a0 : Array Value) (hw : ∀ d ∈ tables_1, d.before a0 Z = true) (ws : List Jvm.Cond) (xx bA : Addr) (h0 : Heap) (n0 : Nat) (Z0 : n0 ≤ h0.size) (Ex : Exa Z h0 xx "java/lang/String") (Fv : Fld Z h0 xx "java/lang/String" "value" "[B" .null) (Fc : Fld Z h0 xx "java/lang/String" "coder" "B" (.int (0 : Int32))) (gx : n0 ≤ xx) (O0 : Old Z n0 h0) :
    Ctr FrameEnd l Z (⟨"java/lang/String", "<init>", "([BB)V"⟩ : MethodName) jdk_42_method_151_code 3 none ws ({ frames := 1, cells := 0, slots := 0, locals := 12 } : Room) #[(.ref xx), (.ref bA), (.int (0 : Int32))] h0 TrueV (fun v h _ L => v = none ∧ Fr n0 L ∧ Keep h0 h [xx] ∧ Exa Z h xx "java/lang/String" ∧ Fld Z h xx "java/lang/String" "value" "[B" (.ref bA) ∧ Fld Z h xx "java/lang/String" "coder" "B" (.int (0 : Int32))) := by
  refine Ctr.intro (plainFor_of_name pn_java_lang_String) (Ls := #[.val (.ref xx), .val (.ref bA), .val (.int (0 : Int32))]) (fun m => by first | (simp [entryFrame, mkF, argsToLocals, Value.category]; done) | rfl) ?_
  intro p e s m below meth c T0 hx hby hml hown hnm hret hlk hZ hV hsh e0 X0
  have N0 := Fr.nil n0
  show Done _ p e below s _ _ (T0.setTop (mkF m 0 #[oR xx, oR bA, oI (0 : Int32)] []))
  refine Done.step (fun _ => XS.aloadN X0.here hx rfl (hb hby d14_0) rfl rfl) ?_
  show Done _ p e below s _ _ (T0.setTop (mkF m 1 #[oR xx, oR bA, oI (0 : Int32)] [(.ref xx)]))
  obtain ⟨T1, X1, e1, st1⟩ := initO X0 hx hZ hown (wAt hw 20 rfl) (wAt hw 21 rfl) (wAt hw 22 rfl) e0 (g := (mkF m 1 #[oR xx, oR bA, oI (0 : Int32)] [(.ref xx)])) rfl (by rw [hml]; rfl) rfl (hb hby d14_1) (by decide) (W := 0) (by show 2 * 0 + _ ≤ _; exact Nat.le_of_eq rfl) (by decide)
  refine Done.step st1 ?_
  show Done _ p e below s _ _ (T1.setTop (mkF m 4 #[oR xx, oR bA, oI (0 : Int32)] []))
  refine Done.step (fun _ => XS.aloadN X1.here hx rfl (hb hby d14_4) rfl rfl) ?_
  show Done _ p e below s _ _ (T1.setTop (mkF m 5 #[oR xx, oR bA, oI (0 : Int32)] [(.ref xx)]))
  refine Done.step (fun _ => XS.aloadN X1.here hx rfl (hb hby d14_5) rfl rfl) ?_
  show Done _ p e below s _ _ (T1.setTop (mkF m 6 #[oR xx, oR bA, oI (0 : Int32)] [(.ref bA), (.ref xx)]))
  obtain ⟨T2, h2, X2, e2, W2, st2⟩ := putF X1 hx hZ hown (host := "") (Or.inl (wAt hw 29 rfl)) Via.refl e1 Fv Ex (Or.inr ⟨(wAt hw 25 rfl), rfl, hnm⟩) (wAt hw 10 rfl) (ty := (.array .byte)) (by decide) rfl rfl (g := (mkF m 6 #[oR xx, oR bA, oI (0 : Int32)] [(.ref bA), (.ref xx)])) rfl rfl (hb hby d14_6)
  have F2 := Fv.same W2
  have N2 := Fr.snoc X2 N0 gx
  have Zs2 := Nat.le_trans Z0 (Keep.of_wr W2).1
  have K2 := (Keep.refl h0 [xx]).wr W2 (Or.inl (List.mem_of_getElem? (i := 0) rfl))
  refine Done.step st2 ?_
  show Done _ p e below s _ _ (T2.setTop (mkF m 9 #[oR xx, oR bA, oI (0 : Int32)] []))
  refine Done.step (fun _ => XS.aloadN X2.here hx rfl (hb hby d14_9) rfl rfl) ?_
  show Done _ p e below s _ _ (T2.setTop (mkF m 10 #[oR xx, oR bA, oI (0 : Int32)] [(.ref xx)]))
  refine Done.step (fun _ => XS.iloadN X2.here hx rfl (hb hby d14_10) rfl) ?_
  show Done _ p e below s _ _ (T2.setTop (mkF m 11 #[oR xx, oR bA, oI (0 : Int32)] [(.int (0 : Int32)), (.ref xx)]))
  have f4 := (Fc.other W2 (Or.inr (slot_ne (Or.inr (wAt hw 26 rfl)) (Or.inr (wAt hw 25 rfl)) (by decide) (t := .byte) (t' := (.array .byte)) (by decide) (by decide))))
  have f5 := (Ex.wr W2)
  obtain ⟨T3, h3, X3, e3, W3, st3⟩ := putFN X2 hx hZ hown (wAt hw 30 rfl) Via.refl e2 f4 f5 (Or.inr ⟨(wAt hw 26 rfl), rfl, hnm⟩) (wAt hw 10 rfl) (ty := .byte) (v' := (.int (nar .byte (0 : Int32)))) (by decide) rfl (fits_nar_byte _) (g := (mkF m 11 #[oR xx, oR bA, oI (0 : Int32)] [(.int (0 : Int32)), (.ref xx)])) rfl rfl (hb hby d14_11)
  have F3 := f4.same W3
  have N3 := Fr.snoc X3 N2 gx
  have Zs3 := Nat.le_trans Zs2 (Keep.of_wr W3).1
  have K3 := K2.wr W3 (Or.inl (List.mem_of_getElem? (i := 0) rfl))
  refine Done.step st3 ?_
  show Done _ p e below s _ _ (T3.setTop (mkF m 14 #[oR xx, oR bA, oI (0 : Int32)] []))
  have f6 := (f5.wr W3)
  have f7 := (F2.other W3 (Or.inr (slot_ne (Or.inr (wAt hw 25 rfl)) (Or.inr (wAt hw 26 rfl)) (by decide) (t := (.array .byte)) (t' := .byte) (by decide) (by decide))))
  refine Done.retV (leavesF X3 hlk (by decide) (by decide)) X3 hx hret (hb hby d14_14) ?_
  rw [e3]
  exact ⟨rfl, N3, K3, f6, f7, F3⟩
set_option maxRecDepth 65536 in
set_option maxHeartbeats 40000000 in
theorem vI1 (l : Launch) (Z : State) (a0 : Array Value) (hw : ∀ d ∈ tables_1, d.before a0 Z = true) (ws : List Jvm.Cond) (xx bA : Addr) (h0 : Heap) (n0 : Nat) (Z0 : n0 ≤ h0.size) (Ex : Exa Z h0 xx "java/lang/String") (Fv : Fld Z h0 xx "java/lang/String" "value" "[B" .null) (Fc : Fld Z h0 xx "java/lang/String" "coder" "B" (.int (0 : Int32))) (gx : n0 ≤ xx) (O0 : Old Z n0 h0) :
    Ctr FrameEnd l Z (⟨"java/lang/String", "<init>", "([BB)V"⟩ : MethodName) jdk_42_method_151_code 3 none ws ({ frames := 1, cells := 0, slots := 0, locals := 12 } : Room) #[(.ref xx), (.ref bA), (.int (1 : Int32))] h0 TrueV (fun v h _ L => v = none ∧ Fr n0 L ∧ Keep h0 h [xx] ∧ Exa Z h xx "java/lang/String" ∧ Fld Z h xx "java/lang/String" "value" "[B" (.ref bA) ∧ Fld Z h xx "java/lang/String" "coder" "B" (.int (1 : Int32))) := by
  refine Ctr.intro (plainFor_of_name pn_java_lang_String) (Ls := #[.val (.ref xx), .val (.ref bA), .val (.int (1 : Int32))]) (fun m => by first | (simp [entryFrame, mkF, argsToLocals, Value.category]; done) | rfl) ?_
  intro p e s m below meth c T0 hx hby hml hown hnm hret hlk hZ hV hsh e0 X0
  have N0 := Fr.nil n0
  show Done _ p e below s _ _ (T0.setTop (mkF m 0 #[oR xx, oR bA, oI (1 : Int32)] []))
  refine Done.step (fun _ => XS.aloadN X0.here hx rfl (hb hby d14_0) rfl rfl) ?_
  show Done _ p e below s _ _ (T0.setTop (mkF m 1 #[oR xx, oR bA, oI (1 : Int32)] [(.ref xx)]))
  obtain ⟨T1, X1, e1, st1⟩ := initO X0 hx hZ hown (wAt hw 20 rfl) (wAt hw 21 rfl) (wAt hw 22 rfl) e0 (g := (mkF m 1 #[oR xx, oR bA, oI (1 : Int32)] [(.ref xx)])) rfl (by rw [hml]; rfl) rfl (hb hby d14_1) (by decide) (W := 0) (by show 2 * 0 + _ ≤ _; exact Nat.le_of_eq rfl) (by decide)
  refine Done.step st1 ?_
  show Done _ p e below s _ _ (T1.setTop (mkF m 4 #[oR xx, oR bA, oI (1 : Int32)] []))
  refine Done.step (fun _ => XS.aloadN X1.here hx rfl (hb hby d14_4) rfl rfl) ?_
  show Done _ p e below s _ _ (T1.setTop (mkF m 5 #[oR xx, oR bA, oI (1 : Int32)] [(.ref xx)]))
  refine Done.step (fun _ => XS.aloadN X1.here hx rfl (hb hby d14_5) rfl rfl) ?_
  show Done _ p e below s _ _ (T1.setTop (mkF m 6 #[oR xx, oR bA, oI (1 : Int32)] [(.ref bA), (.ref xx)]))
  obtain ⟨T2, h2, X2, e2, W2, st2⟩ := putF X1 hx hZ hown (host := "") (Or.inl (wAt hw 29 rfl)) Via.refl e1 Fv Ex (Or.inr ⟨(wAt hw 25 rfl), rfl, hnm⟩) (wAt hw 10 rfl) (ty := (.array .byte)) (by decide) rfl rfl (g := (mkF m 6 #[oR xx, oR bA, oI (1 : Int32)] [(.ref bA), (.ref xx)])) rfl rfl (hb hby d14_6)
  have F2 := Fv.same W2
  have N2 := Fr.snoc X2 N0 gx
  have Zs2 := Nat.le_trans Z0 (Keep.of_wr W2).1
  have K2 := (Keep.refl h0 [xx]).wr W2 (Or.inl (List.mem_of_getElem? (i := 0) rfl))
  refine Done.step st2 ?_
  show Done _ p e below s _ _ (T2.setTop (mkF m 9 #[oR xx, oR bA, oI (1 : Int32)] []))
  refine Done.step (fun _ => XS.aloadN X2.here hx rfl (hb hby d14_9) rfl rfl) ?_
  show Done _ p e below s _ _ (T2.setTop (mkF m 10 #[oR xx, oR bA, oI (1 : Int32)] [(.ref xx)]))
  refine Done.step (fun _ => XS.iloadN X2.here hx rfl (hb hby d14_10) rfl) ?_
  show Done _ p e below s _ _ (T2.setTop (mkF m 11 #[oR xx, oR bA, oI (1 : Int32)] [(.int (1 : Int32)), (.ref xx)]))
  have f4 := (Fc.other W2 (Or.inr (slot_ne (Or.inr (wAt hw 26 rfl)) (Or.inr (wAt hw 25 rfl)) (by decide) (t := .byte) (t' := (.array .byte)) (by decide) (by decide))))
  have f5 := (Ex.wr W2)
  obtain ⟨T3, h3, X3, e3, W3, st3⟩ := putFN X2 hx hZ hown (wAt hw 30 rfl) Via.refl e2 f4 f5 (Or.inr ⟨(wAt hw 26 rfl), rfl, hnm⟩) (wAt hw 10 rfl) (ty := .byte) (v' := (.int (nar .byte (1 : Int32)))) (by decide) rfl (fits_nar_byte _) (g := (mkF m 11 #[oR xx, oR bA, oI (1 : Int32)] [(.int (1 : Int32)), (.ref xx)])) rfl rfl (hb hby d14_11)
  have F3 := f4.same W3
  have N3 := Fr.snoc X3 N2 gx
  have Zs3 := Nat.le_trans Zs2 (Keep.of_wr W3).1
  have K3 := K2.wr W3 (Or.inl (List.mem_of_getElem? (i := 0) rfl))
  refine Done.step st3 ?_
  show Done _ p e below s _ _ (T3.setTop (mkF m 14 #[oR xx, oR bA, oI (1 : Int32)] []))
  have f6 := (f5.wr W3)
  have f7 := (F2.other W3 (Or.inr (slot_ne (Or.inr (wAt hw 25 rfl)) (Or.inr (wAt hw 26 rfl)) (by decide) (t := (.array .byte)) (t' := .byte) (by decide) (by decide))))
  refine Done.retV (leavesF X3 hlk (by decide) (by decide)) X3 hx hret (hb hby d14_14) ?_
  rw [e3]
  exact ⟨rfl, N3, K3, f6, f7, F3⟩
theorem d11_0 : decode jdk_42_method_139_code 0 = .ok (.getstatic 38, 3) := by decide +kernel
theorem d11_3 : decode jdk_42_method_139_code 3 = .ok (.ifCond .eq 23, 3) := by decide +kernel
theorem d11_6 : decode jdk_42_method_139_code 6 = .ok (.iload_n 0, 1) := by decide +kernel
theorem d11_7 : decode jdk_42_method_139_code 7 = .ok (.invokestatic 1015, 3) := by decide +kernel
theorem d11_10 : decode jdk_42_method_139_code 10 = .ok (.ifCond .eq 16, 3) := by decide +kernel
theorem d11_13 : decode jdk_42_method_139_code 13 = .ok (.new 10, 3) := by decide +kernel
theorem d11_16 : decode jdk_42_method_139_code 16 = .ok (.dup, 1) := by decide +kernel
theorem d11_17 : decode jdk_42_method_139_code 17 = .ok (.iload_n 0, 1) := by decide +kernel
theorem d11_18 : decode jdk_42_method_139_code 18 = .ok (.invokestatic 1018, 3) := by decide +kernel
theorem pd_17 : parseMethodDescriptor "(C)[B" = some ⟨[.char], some (.array .byte)⟩ := by decide +kernel
theorem d11_21 : decode jdk_42_method_139_code 21 = .ok (.iconst 0, 1) := by decide +kernel
theorem d11_22 : decode jdk_42_method_139_code 22 = .ok (.invokespecial 209, 3) := by decide +kernel
theorem pd_18 : parseMethodDescriptor "([BB)V" = some ⟨[(.array .byte), .byte], none⟩ := by decide +kernel
theorem d11_25 : decode jdk_42_method_139_code 25 = .ok (.areturn, 1) := by decide +kernel
theorem d11_26 : decode jdk_42_method_139_code 26 = .ok (.new 10, 3) := by decide +kernel
theorem d11_29 : decode jdk_42_method_139_code 29 = .ok (.dup, 1) := by decide +kernel
theorem d11_30 : decode jdk_42_method_139_code 30 = .ok (.iload_n 0, 1) := by decide +kernel
theorem d11_31 : decode jdk_42_method_139_code 31 = .ok (.invokestatic 1021, 3) := by decide +kernel
theorem d11_34 : decode jdk_42_method_139_code 34 = .ok (.iconst 1, 1) := by decide +kernel
theorem d11_35 : decode jdk_42_method_139_code 35 = .ok (.invokespecial 209, 3) := by decide +kernel
theorem d11_38 : decode jdk_42_method_139_code 38 = .ok (.areturn, 1) := by decide +kernel
set_option maxRecDepth 65536 in
set_option maxHeartbeats 40000000 in
theorem vO (l : Launch) (Z : State) (a0 : Array Value) (hw : ∀ d ∈ tables_1, d.before a0 Z = true) (ws : List Jvm.Cond) (c0 z : Int32) (fm : Value) (h0 : Heap) (n0 : Nat) (Z0 : n0 ≤ h0.size) (O0 : Old Z n0 h0) (SC : Sta Z Z.heap "java/lang/String" "COMPACT_STRINGS" "Z" (.int z)) (hz : ¬ z = 0) (SF : Sta Z Z.heap "jdk/internal/util/Preconditions" "SIOOBE_FORMATTER" "Ljava/util/function/BiFunction;" fm) (rF : fm.isRef = true) (SA : Sta Z Z.heap "java/lang/StringUTF16" "$assertionsDisabled" "Z" (.int (1 : Int32))) (SH : Sta Z Z.heap "java/lang/StringUTF16" "HI_BYTE_SHIFT" "I" (.int (0 : Int32))) (SL : Sta Z Z.heap "java/lang/StringUTF16" "LO_BYTE_SHIFT" "I" (.int (8 : Int32))) :
    Ctr FrameEnd l Z (⟨"java/lang/String", "valueOf", "(C)Ljava/lang/String;"⟩ : MethodName) jdk_42_method_139_code 1 (some (.object "java/lang/String")) ws ({ frames := 3, cells := 2, slots := 6, locals := 40 } : Room) #[(.int c0)] h0 TrueV (fun v h _ L => ∃ (xx b : Addr) (kb : ClassId), v = some (.ref xx) ∧ Fr n0 L ∧ Keep h0 h [] ∧ Exa Z h xx "java/lang/String" ∧ Fld Z h xx "java/lang/String" "value" "[B" (.ref b) ∧ ((¬ (255 : Int32) < c0 ∧ Fld Z h xx "java/lang/String" "coder" "B" (.int (0 : Int32)) ∧ Arv Z h b kb .byte (1 : Int32) [(.int (own_by c0))] (.int (0 : Int32))) ∨ (¬ ¬ (255 : Int32) < c0 ∧ Fld Z h xx "java/lang/String" "coder" "B" (.int (1 : Int32)) ∧ Arv Z h b kb .byte (2 : Int32) [(.int (own_hi c0)), (.int (own_lo c0))] (.int (0 : Int32))))) := by
  refine Ctr.intro (plainFor_of_name pn_java_lang_String) (Ls := #[.val (.int c0)]) (fun m => by first | (simp [entryFrame, mkF, argsToLocals, Value.category]; done) | rfl) ?_
  intro p e s m below meth c T0 hx hby hml hown hnm hret hlk hZ hV hsh e0 X0
  have N0 := Fr.nil n0
  show Done _ p e below s _ _ (T0.setTop (mkF m 0 #[oI c0] []))
  obtain ⟨T1, X1, e1, st1⟩ := getS2 X0 hx hZ hown (host := "") (Or.inl (wAt hw 45 rfl)) Via.refl e0 (SC.ext O0.2) (g := (mkF m 0 #[oI c0] [])) rfl (hb hby d11_0)
  refine Done.step st1 ?_
  show Done _ p e below s _ _ (T1.setTop (mkF m 3 #[oI c0] [(.int z)]))
  refine Done.step (fun _ => XS.ifNo X1.here hx rfl (hb hby d11_3) rfl (XT.i0_eq_f hz)) ?_
  show Done _ p e below s _ _ (T1.setTop (mkF m 6 #[oI c0] []))
  refine Done.step (fun _ => XS.iloadN X1.here hx rfl (hb hby d11_6) rfl) ?_
  show Done _ p e below s _ _ (T1.setTop (mkF m 7 #[oI c0] [(.int c0)]))
  by_cases hc2 : ¬ (255 : Int32) < c0
  · refine Done.callSP X1 hx hZ hown (wAt hw 56 rfl) (wAt hw 57 rfl) (wAt hw 58 rfl) (wAt hw 59 rfl) (by decide) (vC l Z a0 hw [] c0 (1 : Int32) h0 n0 Z0 (bP_t hc2).symm) e1 (g := (mkF m 7 #[oI c0] [(.int c0)])) rfl (by rw [hml]; rfl) [(.int c0)] [] 0 (lenOf pd_16 rfl) rfl rfl (by show 2 * 0 + _ ≤ _; exact Nat.le_of_eq rfl) (hb hby d11_7) (by decide) (by decide) (by decide) (by decide) rfl rfl ?_
    intro T3 X3 e3
    show Done _ p e below s _ _ (T3.setTop (mkF m 10 #[oI c0] [(.int (1 : Int32))]))
    refine Done.step (fun _ => XS.ifNo X3.here hx rfl (hb hby d11_10) rfl (XT.i0_eq_f (by decide))) ?_
    show Done _ p e below s _ _ (T3.setTop (mkF m 13 #[oI c0] []))
    obtain ⟨T4, h4, X4, e4, E4, A4, D4, -, st4⟩ := newO X3 hx hZ hown (wAt hw 60 rfl) (wAt hw 10 rfl) (wAt hw 11 rfl) e3 (g := (mkF m 13 #[oI c0] [])) rfl (hb hby d11_13) (by decide) (by decide)
    obtain ⟨b4, g4⟩ : ∃ z, z = h0.size := ⟨_, rfl⟩
    rw [← g4] at A4 D4 st4
    have n0_b4 : n0 ≤ b4 := by rw [g4]; exact Z0
    have sz_b4 : h0.size ≤ b4 := by rw [g4]; exact (Keep.refl h0 []).1
    have K4 := (Keep.refl h0 []).ext E4
    have Zs4 := Nat.le_trans Z0 E4.1
    have F_value_b4 : Fld Z h4 b4 "java/lang/String" "value" "[B" .null := D4 (Or.inr (wAt hw 25 rfl)) (ty := (.array .byte)) (by decide)
    have F_coder_b4 : Fld Z h4 b4 "java/lang/String" "coder" "B" (.int (0 : Int32)) := D4 (Or.inr (wAt hw 26 rfl)) (ty := .byte) (by decide)
    refine Done.step st4 ?_
    show Done _ p e below s _ _ (T4.setTop (mkF m 16 #[oI c0] [(.ref b4)]))
    refine Done.step (fun _ => XS.dup X4.here hx rfl (hb hby d11_16) rfl rfl) ?_
    show Done _ p e below s _ _ (T4.setTop (mkF m 17 #[oI c0] [(.ref b4), (.ref b4)]))
    refine Done.step (fun _ => XS.iloadN X4.here hx rfl (hb hby d11_17) rfl) ?_
    show Done _ p e below s _ _ (T4.setTop (mkF m 18 #[oI c0] [(.int c0), (.ref b4), (.ref b4)]))
    have f5 := (O0.ext E4)
    refine Done.callS X4 hx hZ hown (wAt hw 61 rfl) (wAt hw 62 rfl) (wAt hw 58 rfl) (wAt hw 63 rfl) (by decide) (vT0 l Z a0 hw [] c0 h4 n0 Zs4 f5 SA SH SL) (fun _ _ => trivial) e4 (g := (mkF m 18 #[oI c0] [(.int c0), (.ref b4), (.ref b4)])) rfl (by rw [hml]; rfl) [(.int c0)] [(.ref b4), (.ref b4)] 2 (lenOf pd_17 rfl) rfl rfl (by show 2 * 0 + _ ≤ _; exact Nat.le_of_eq rfl) (hb hby d11_18) (by decide) (by decide) (by decide) (by decide) ?_
    intro T6 v6 L6 X6 q6
    obtain ⟨bV, kV, rfl, Nq6, K6q, szb, VBv⟩ := q6
    have N6 := Fr.app N0 Nq6
    have Zs6 := Nat.le_trans Zs4 K6q.1
    have K6 := K4.trans K6q all0
    show Done _ p e below s _ _ (T6.setTop (mkF m 21 #[oI c0] [(.ref bV), (.ref b4), (.ref b4)]))
    have nbx : bV ≠ b4 := Nat.ne_of_gt (Nat.lt_of_lt_of_le A4.lt szb)
    refine Done.step (fun _ => XT.iconstV X6.here hx rfl (0 : Int32) (hb hby d11_21) (by decide)) ?_
    show Done _ p e below s _ _ (T6.setTop (mkF m 22 #[oI c0] [(.int (0 : Int32)), (.ref bV), (.ref b4), (.ref b4)]))
    have f7 := (A4.keep K6q)
    have f8 := (F_value_b4.keep K6q nin0)
    have f9 := (F_coder_b4.keep K6q nin0)
    have f10 := (f5.keep K6q all0)
    refine Done.callI X6 hx hZ rfl hown (wAt hw 64 rfl) (wAt hw 65 rfl) (wAt hw 11 rfl) (wAt hw 66 rfl) (by decide) (vI0 l Z a0 hw [] b4 bV T6.heap n0 Zs6 f7 f8 f9 n0_b4 f10) (fun _ _ => trivial) rfl (g := (mkF m 22 #[oI c0] [(.int (0 : Int32)), (.ref bV), (.ref b4), (.ref b4)])) rfl (by rw [hml]; rfl) b4 [(.ref bV), (.int (0 : Int32))] [(.ref b4)] 1 (lenOf pd_18 rfl) rfl rfl (by show 2 * 0 + _ ≤ _; exact Nat.le_of_eq rfl) (hb hby d11_22) (by decide) (by decide) (by decide) (by decide) ?_
    intro T11 v11 L11 X11 q11
    obtain ⟨rfl, Nq11, K11q, f11_0, f11_1, f11_2⟩ := q11
    have N11 := Fr.app N6 Nq11
    have Zs11 := Nat.le_trans Zs6 K11q.1
    have K11 := K6.trans K11q (allS (Or.inr sz_b4) all0)
    show Done _ p e below s _ _ (T11.setTop (mkF m 25 #[oI c0] [(.ref b4)]))
    have f12 := (VBv.keep K11q (ninS nbx nin0))
    exact Done.retA (leavesF X11 hlk (by decide) (by decide)) X11 hx hret rfl rfl (hb hby d11_25) ⟨b4, bV, kV, rfl, N11, K11, f11_0, f11_1, Or.inl ⟨hc2, f11_2, f12⟩⟩
  · refine Done.callSP X1 hx hZ hown (wAt hw 56 rfl) (wAt hw 57 rfl) (wAt hw 58 rfl) (wAt hw 59 rfl) (by decide) (vC l Z a0 hw [] c0 (0 : Int32) h0 n0 Z0 (bP_f hc2).symm) e1 (g := (mkF m 7 #[oI c0] [(.int c0)])) rfl (by rw [hml]; rfl) [(.int c0)] [] 0 (lenOf pd_16 rfl) rfl rfl (by show 2 * 0 + _ ≤ _; exact Nat.le_of_eq rfl) (hb hby d11_7) (by decide) (by decide) (by decide) (by decide) rfl rfl ?_
    intro T13 X13 e13
    show Done _ p e below s _ _ (T13.setTop (mkF m 10 #[oI c0] [(.int (0 : Int32))]))
    refine Done.step (fun _ => XS.ifYes X13.here hx rfl (pc0 := 10) (pc' := 26) rfl (hb hby d11_10) rfl (XT.i0_eq_t rfl) (by decide) (by decide)) ?_
    show Done _ p e below s _ _ (T13.setTop (mkF m 26 #[oI c0] []))
    obtain ⟨T14, h14, X14, e14, E14, A14, D14, -, st14⟩ := newO X13 hx hZ hown (wAt hw 60 rfl) (wAt hw 10 rfl) (wAt hw 11 rfl) e13 (g := (mkF m 26 #[oI c0] [])) rfl (hb hby d11_26) (by decide) (by decide)
    obtain ⟨b14, g14⟩ : ∃ z, z = h0.size := ⟨_, rfl⟩
    rw [← g14] at A14 D14 st14
    have n0_b14 : n0 ≤ b14 := by rw [g14]; exact Z0
    have sz_b14 : h0.size ≤ b14 := by rw [g14]; exact (Keep.refl h0 []).1
    have K14 := (Keep.refl h0 []).ext E14
    have Zs14 := Nat.le_trans Z0 E14.1
    have F_value_b14 : Fld Z h14 b14 "java/lang/String" "value" "[B" .null := D14 (Or.inr (wAt hw 25 rfl)) (ty := (.array .byte)) (by decide)
    have F_coder_b14 : Fld Z h14 b14 "java/lang/String" "coder" "B" (.int (0 : Int32)) := D14 (Or.inr (wAt hw 26 rfl)) (ty := .byte) (by decide)
    refine Done.step st14 ?_
    show Done _ p e below s _ _ (T14.setTop (mkF m 29 #[oI c0] [(.ref b14)]))
    refine Done.step (fun _ => XS.dup X14.here hx rfl (hb hby d11_29) rfl rfl) ?_
    show Done _ p e below s _ _ (T14.setTop (mkF m 30 #[oI c0] [(.ref b14), (.ref b14)]))
    refine Done.step (fun _ => XS.iloadN X14.here hx rfl (hb hby d11_30) rfl) ?_
    show Done _ p e below s _ _ (T14.setTop (mkF m 31 #[oI c0] [(.int c0), (.ref b14), (.ref b14)]))
    have f15 := (O0.ext E14)
    refine Done.callS X14 hx hZ hown (wAt hw 134 rfl) (wAt hw 135 rfl) (wAt hw 90 rfl) (wAt hw 136 rfl) (by decide) (vT1 l Z a0 hw [] c0 h14 n0 Zs14 f15 SA SH SL) (fun _ _ => trivial) e14 (g := (mkF m 31 #[oI c0] [(.int c0), (.ref b14), (.ref b14)])) rfl (by rw [hml]; rfl) [(.int c0)] [(.ref b14), (.ref b14)] 2 (lenOf pd_17 rfl) rfl rfl (by show 2 * 0 + _ ≤ _; exact Nat.le_of_eq rfl) (hb hby d11_31) (by decide) (by decide) (by decide) (by decide) ?_
    intro T16 v16 L16 X16 q16
    obtain ⟨bV, kV, rfl, Nq16, K16q, szb, VBv⟩ := q16
    have N16 := Fr.app N0 Nq16
    have Zs16 := Nat.le_trans Zs14 K16q.1
    have K16 := K14.trans K16q all0
    show Done _ p e below s _ _ (T16.setTop (mkF m 34 #[oI c0] [(.ref bV), (.ref b14), (.ref b14)]))
    have nbx : bV ≠ b14 := Nat.ne_of_gt (Nat.lt_of_lt_of_le A14.lt szb)
    refine Done.step (fun _ => XT.iconstV X16.here hx rfl (1 : Int32) (hb hby d11_34) (by decide)) ?_
    show Done _ p e below s _ _ (T16.setTop (mkF m 35 #[oI c0] [(.int (1 : Int32)), (.ref bV), (.ref b14), (.ref b14)]))
    have f17 := (A14.keep K16q)
    have f18 := (F_value_b14.keep K16q nin0)
    have f19 := (F_coder_b14.keep K16q nin0)
    have f20 := (f15.keep K16q all0)
    refine Done.callI X16 hx hZ rfl hown (wAt hw 64 rfl) (wAt hw 65 rfl) (wAt hw 11 rfl) (wAt hw 66 rfl) (by decide) (vI1 l Z a0 hw [] b14 bV T16.heap n0 Zs16 f17 f18 f19 n0_b14 f20) (fun _ _ => trivial) rfl (g := (mkF m 35 #[oI c0] [(.int (1 : Int32)), (.ref bV), (.ref b14), (.ref b14)])) rfl (by rw [hml]; rfl) b14 [(.ref bV), (.int (1 : Int32))] [(.ref b14)] 1 (lenOf pd_18 rfl) rfl rfl (by show 2 * 0 + _ ≤ _; exact Nat.le_of_eq rfl) (hb hby d11_35) (by decide) (by decide) (by decide) (by decide) ?_
    intro T21 v21 L21 X21 q21
    obtain ⟨rfl, Nq21, K21q, f21_0, f21_1, f21_2⟩ := q21
    have N21 := Fr.app N16 Nq21
    have Zs21 := Nat.le_trans Zs16 K21q.1
    have K21 := K16.trans K21q (allS (Or.inr sz_b14) all0)
    show Done _ p e below s _ _ (T21.setTop (mkF m 38 #[oI c0] [(.ref b14)]))
    have f22 := (VBv.keep K21q (ninS nbx nin0))
    exact Done.retA (leavesF X21 hlk (by decide) (by decide)) X21 hx hret rfl rfl (hb hby d11_38) ⟨b14, bV, kV, rfl, N21, K21, f21_0, f21_1, Or.inr ⟨hc2, f21_2, f22⟩⟩
theorem own_bb2 (x y : Int32) : own_ub (own_bmp x) + own_ub (own_bmp y) = own_bb (own_bmp x) + own_bb (own_bmp y) := by rw [own_ubb (own_bmpB x), own_ubb (own_bmpB y)]
theorem own_ss2 (x y : Int32) : own_ub (own_high x) + own_ub (own_low y) = (4 : Int32) := by rw [own_ubs (own_hiB x), own_ubs (own_loB y)]; rfl
theorem own_t2 {a b r : Int32} (h : own_ub a + own_ub b = r) : (0 : Int32) + own_ub a + own_ub b = r := by rw [Int32.zero_add]; exact h
theorem own_t4 {a b c d r q : Int32} (h : own_ub a + own_ub b = r) (g : own_ub c + own_ub d = q) : (0 : Int32) + own_ub a + own_ub b + own_ub c + own_ub d = r + q := by rw [← h, ← g, Int32.zero_add, Int32.add_assoc (own_ub a + own_ub b)]
theorem own_t1 {a : Int32} (h : own_B a) : (0 : Int32) + own_ub a = own_bb a := by rw [Int32.zero_add, own_ubb h]
theorem pd_19 : parseMethodDescriptor "([C)V" = some ⟨[(.array .char)], none⟩ := by decide +kernel
theorem pd_20 : parseMethodDescriptor "(Ljava/lang/String;)I" = some ⟨[(.object "java/lang/String")], some .int⟩ := by decide +kernel
theorem pd_21 : parseMethodDescriptor "(C)Ljava/lang/String;" = some ⟨[.char], some (.object "java/lang/String")⟩ := by decide +kernel
theorem pd_22 : parseMethodDescriptor "(C)I" = some ⟨[.char], some .int⟩ := by decide +kernel
set_option maxRecDepth 65536 in
set_option maxHeartbeats 40000000 in
theorem rm0 (l : Launch) (Z : State) (a0 : Array Value) (hw : ∀ d ∈ tables_1, d.before a0 Z = true) (ws : List Jvm.Cond) (pa pb pc pd mode : Int32) (z : Int32) (fm : Value) (h0 : Heap) (n0 : Nat) (Z0 : n0 ≤ h0.size) (O0 : Old Z n0 h0) (SC : Sta Z Z.heap "java/lang/String" "COMPACT_STRINGS" "Z" (.int z)) (hz : ¬ z = 0) (SF : Sta Z Z.heap "jdk/internal/util/Preconditions" "SIOOBE_FORMATTER" "Ljava/util/function/BiFunction;" fm) (rF : fm.isRef = true) (SA : Sta Z Z.heap "java/lang/StringUTF16" "$assertionsDisabled" "Z" (.int (1 : Int32))) (SH : Sta Z Z.heap "java/lang/StringUTF16" "HI_BYTE_SHIFT" "I" (.int (0 : Int32))) (SL : Sta Z Z.heap "java/lang/StringUTF16" "LO_BYTE_SHIFT" "I" (.int (8 : Int32))) (hh : Jvm.Lit.constHeld Z "java/lang/String" 7) (hcw : Jvm.Lit.compactW.before a0 Z = true) :
    Ctr ReturnedEndW l Z x code maxLocals ret ws room_1 #[(.int pa), (.int pb), (.int pc), (.int pd), (.int mode)] h0 (fun vm => IB Z vm []) (LawQ n0) := by
  refine Ctr.intro (plainFor_of_name pn_com_example_wide_weir_wideweir_http_QueryUtf8LengthPinLaw) (Ls := #[.val (.int pa), .val (.int pb), .val (.int pc), .val (.int pd), .val (.int mode), .unset, .unset, .unset, .unset, .unset, .unset, .unset, .unset, .unset, .unset, .unset, .unset]) (fun m => by first | (simp [entryFrame, mkF, argsToLocals, Value.category, maxLocals]; done) | rfl) ?_
  intro p e s m below meth c T0 hx hby hml hown hnm hret hlk hZ hV hsh e0 X0
  have N0 := Fr.nil n0
  have hown : s.vm.findClass "com/example/wide_weir/wideweir/http/QueryUtf8LengthPinLaw" = some m.cls := hown
  have hret : meth.sig.returnType = (some .boolean) := hret
  have hml : c.maxLocals = 17 := hml
  have hS : s.Since s.vm 0 := (State.WarmedH.refl s).since 0
  have hk : 0 ≤ h0.size := Nat.zero_le _
  have X0 : Stand p l e room_1 (s.setVm s.vm) m #[(.int pa), (.int pb), (.int pc), (.int pd), (.int mode)] below meth c T0 [] 0 0 := X0
  have hZ : Z.Warmed39 (s.setVm s.vm).vm := hZ
  have hown : (s.setVm s.vm).vm.findClass "com/example/wide_weir/wideweir/http/QueryUtf8LengthPinLaw" = some m.cls := hown
  show Done _ p e below s _ _ (T0.setTop (mkF m 0 #[oI pa, oI pb, oI pc, oI pd, oI mode, .unset, .unset, .unset, .unset, .unset, .unset, .unset, .unset, .unset, .unset, .unset, .unset] []))
  refine Done.step (fun _ => XS.iload X0.here hx rfl (hb hby at_0) rfl) ?_
  show Done _ p e below s _ _ (T0.setTop (mkF m 2 #[oI pa, oI pb, oI pc, oI pd, oI mode, .unset, .unset, .unset, .unset, .unset, .unset, .unset, .unset, .unset, .unset, .unset, .unset] [(.int mode)]))
  have K132 : ∀ (TL : State) (eL : TL.heap = h0) (XL : Stand p l e room_1 (s.setVm s.vm) m #[(.int pa), (.int pb), (.int pc), (.int pd), (.int mode)] below meth c TL [] 0 0) (f1 f2 kd c0 c1 c2 c3 by1 by2 : Int32) (hb0 : ¬ c0 < 0 ∧ ¬ (65535 : Int32) < c0) (hb1 : ¬ c1 < 0 ∧ ¬ (65535 : Int32) < c1) (hb2 : ¬ c2 < 0 ∧ ¬ (65535 : Int32) < c2) (hb3 : ¬ c3 < 0 ∧ ¬ (65535 : Int32) < c3) (h01 : own_ub c0 + own_ub c1 = by1) (h23 : own_ub c2 + own_ub c3 = by2), Done ReturnedEndW p e below s room_1 (LawQ n0) (TL.setTop (mkF m 132 #[oI pa, oI pb, oI pc, oI pd, oI mode, oI f1, oI f2, oI kd, oI c0, oI c1, oI c2, oI c3, oI by1, oI by2, .unset, .unset, .unset] [])) := by
    intro TL eL XL f1 f2 kd c0 c1 c2 c3 by1 by2 hb0 hb1 hb2 hb3 h01 h23
    show Done _ p e below s _ _ (TL.setTop (mkF m 132 #[oI pa, oI pb, oI pc, oI pd, oI mode, oI f1, oI f2, oI kd, oI c0, oI c1, oI c2, oI c3, oI by1, oI by2, .unset, .unset, .unset] []))
    refine Done.step (fun _ => XS.iload XL.here hx rfl (hb hby at_132) rfl) ?_
    show Done _ p e below s _ _ (TL.setTop (mkF m 134 #[oI pa, oI pb, oI pc, oI pd, oI mode, oI f1, oI f2, oI kd, oI c0, oI c1, oI c2, oI c3, oI by1, oI by2, .unset, .unset, .unset] [(.int kd)]))
    by_cases hc1 : kd = (0 : Int32)
    · refine Done.step (fun _ => XS.ifNo XL.here hx rfl (hb hby at_134) rfl (XT.i0_ne_f hc1)) ?_
      show Done _ p e below s _ _ (TL.setTop (mkF m 137 #[oI pa, oI pb, oI pc, oI pd, oI mode, oI f1, oI f2, oI kd, oI c0, oI c1, oI c2, oI c3, oI by1, oI by2, .unset, .unset, .unset] []))
      obtain ⟨T2, h2, X2, e2, E2, A2, D2, -, st2⟩ := newO XL hx hZ hown (wAt hw 9 rfl) (wAt hw 10 rfl) (wAt hw 11 rfl) eL (g := (mkF m 137 #[oI pa, oI pb, oI pc, oI pd, oI mode, oI f1, oI f2, oI kd, oI c0, oI c1, oI c2, oI c3, oI by1, oI by2, .unset, .unset, .unset] [])) rfl (hb hby at_137) (by decide) (by decide)
      obtain ⟨b2, g2⟩ : ∃ z, z = h0.size := ⟨_, rfl⟩
      rw [← g2] at A2 D2 st2
      have n0_b2 : n0 ≤ b2 := by rw [g2]; exact Z0
      have Zs2 := Nat.le_trans Z0 E2.1
      have hk := Nat.le_trans hk E2.1
      have F_value_b2 : Fld Z h2 b2 "java/lang/String" "value" "[B" .null := D2 (Or.inr (wAt hw 25 rfl)) (ty := (.array .byte)) (by decide)
      have F_coder_b2 : Fld Z h2 b2 "java/lang/String" "coder" "B" (.int (0 : Int32)) := D2 (Or.inr (wAt hw 26 rfl)) (ty := .byte) (by decide)
      refine Done.step st2 ?_
      show Done _ p e below s _ _ (T2.setTop (mkF m 140 #[oI pa, oI pb, oI pc, oI pd, oI mode, oI f1, oI f2, oI kd, oI c0, oI c1, oI c2, oI c3, oI by1, oI by2, .unset, .unset, .unset] [(.ref b2)]))
      refine Done.step (fun _ => XS.dup X2.here hx rfl (hb hby at_140) rfl rfl) ?_
      show Done _ p e below s _ _ (T2.setTop (mkF m 141 #[oI pa, oI pb, oI pc, oI pd, oI mode, oI f1, oI f2, oI kd, oI c0, oI c1, oI c2, oI c3, oI by1, oI by2, .unset, .unset, .unset] [(.ref b2), (.ref b2)]))
      refine Done.step (fun _ => XT.iconstV X2.here hx rfl (0 : Int32) (hb hby at_141) (by decide)) ?_
      show Done _ p e below s _ _ (T2.setTop (mkF m 142 #[oI pa, oI pb, oI pc, oI pd, oI mode, oI f1, oI f2, oI kd, oI c0, oI c1, oI c2, oI c3, oI by1, oI by2, .unset, .unset, .unset] [(.int (0 : Int32)), (.ref b2), (.ref b2)]))
      obtain ⟨T3, h3, k3, X3, e3, E3, A3, st3⟩ := newP X2 hx hZ (wAt hw 12 rfl) e2 (g := (mkF m 142 #[oI pa, oI pb, oI pc, oI pd, oI mode, oI f1, oI f2, oI kd, oI c0, oI c1, oI c2, oI c3, oI by1, oI by2, .unset, .unset, .unset] [(.int (0 : Int32)), (.ref b2), (.ref b2)])) rfl (hb hby at_142) rfl (by decide) (cap := 0) (by decide) (by decide) (by decide) (by decide)
      obtain ⟨b3, g3⟩ : ∃ z, z = h2.size := ⟨_, rfl⟩
      rw [← g3] at A3 st3
      have ne_b2_b3 : b2 ≠ b3 := by rw [g3]; exact Nat.ne_of_lt A2.lt
      have n0_b3 : n0 ≤ b3 := by rw [g3]; exact Zs2
      have Zs3 := Nat.le_trans Zs2 E3.1
      have hk := Nat.le_trans hk E3.1
      have V_b3 : Arv Z h3 b3 k3 .char (0 : Int32) [] (.int (0 : Int32)) := Arv.new A3 (by decide)
      refine Done.step st3 ?_
      show Done _ p e below s _ _ (T3.setTop (mkF m 144 #[oI pa, oI pb, oI pc, oI pd, oI mode, oI f1, oI f2, oI kd, oI c0, oI c1, oI c2, oI c3, oI by1, oI by2, .unset, .unset, .unset] [(.ref b3), (.ref b2), (.ref b2)]))
      have f4 := (A2.ext E3)
      have f5 := (F_value_b2.ext E3)
      have f6 := (F_coder_b2.ext E3)
      have f7 := ((O0.ext E2).ext E3)
      refine Done.callIW X3 hx hZ rfl hown hS hk (wAt hw 13 rfl) (wAt hw 14 rfl) (wAt hw 11 rfl) (wAt hw 15 rfl) (by decide) (rmZ l Z a0 hw [] b2 b3 k3 h3 n0 Zs3 V_b3 f4 f5 f6 n0_b2 f7 hh hcw) (fun vm' hW => own_ibV hV hW) e3 (g := (mkF m 144 #[oI pa, oI pb, oI pc, oI pd, oI mode, oI f1, oI f2, oI kd, oI c0, oI c1, oI c2, oI c3, oI by1, oI by2, .unset, .unset, .unset] [(.ref b3), (.ref b2), (.ref b2)])) rfl (by rw [hml]; rfl) b2 [(.ref b3)] [(.ref b2)] 1 (lenOf pd_19 rfl) rfl rfl (by show 2 * 0 + _ ≤ _; exact Nat.le_of_eq rfl) (hb hby at_144) (by decide) (by decide) (by decide) (by decide) ?_
      intro T8 v8 L8 X8 hS hZ hown hW8 q8
      have hk := Nat.le_refl T8.heap.size
      obtain ⟨rfl, Nq8, K8q, aaq, bbq, kkq, IBqq, LTqq, FAvq, FAcq, FBqq, naxq, nbxq, Exqq, Fvqq, Fcqq⟩ := q8
      have N8 := Fr.app N0 Nq8
      have Zs8 := Nat.le_trans Zs3 K8q.1
      show Done _ p e below s _ _ (T8.setTop (mkF m 147 #[oI pa, oI pb, oI pc, oI pd, oI mode, oI f1, oI f2, oI kd, oI c0, oI c1, oI c2, oI c3, oI by1, oI by2, .unset, .unset, .unset] [(.ref b2)]))
      refine Done.step (fun _ => XS.astore X8.here hx rfl (hb hby at_147) rfl rfl (l' := #[oI pa, oI pb, oI pc, oI pd, oI mode, oI f1, oI f2, oI kd, oI c0, oI c1, oI c2, oI c3, oI by1, oI by2, oR b2, .unset, .unset]) rfl) ?_
      show Done _ p e below s _ _ (T8.setTop (mkF m 149 #[oI pa, oI pb, oI pc, oI pd, oI mode, oI f1, oI f2, oI kd, oI c0, oI c1, oI c2, oI c3, oI by1, oI by2, oR b2, .unset, .unset] []))
      refine Done.step (fun _ => XT.iconstV X8.here hx rfl (0 : Int32) (hb hby at_149) (by decide)) ?_
      show Done _ p e below s _ _ (T8.setTop (mkF m 150 #[oI pa, oI pb, oI pc, oI pd, oI mode, oI f1, oI f2, oI kd, oI c0, oI c1, oI c2, oI c3, oI by1, oI by2, oR b2, .unset, .unset] [(.int (0 : Int32))]))
      refine Done.step (fun _ => XS.istore X8.here hx rfl (hb hby at_150) rfl (l' := #[oI pa, oI pb, oI pc, oI pd, oI mode, oI f1, oI f2, oI kd, oI c0, oI c1, oI c2, oI c3, oI by1, oI by2, oR b2, oI (0 : Int32), .unset]) rfl) ?_
      show Done _ p e below s _ _ (T8.setTop (mkF m 152 #[oI pa, oI pb, oI pc, oI pd, oI mode, oI f1, oI f2, oI kd, oI c0, oI c1, oI c2, oI c3, oI by1, oI by2, oR b2, oI (0 : Int32), .unset] []))
      refine Done.step (fun _ => XS.goto X8.here hx rfl (pc0 := 152) (pc' := 258) rfl (hb hby at_152) (by decide) (by decide)) ?_
      show Done _ p e below s _ _ (T8.setTop (mkF m 258 #[oI pa, oI pb, oI pc, oI pd, oI mode, oI f1, oI f2, oI kd, oI c0, oI c1, oI c2, oI c3, oI by1, oI by2, oR b2, oI (0 : Int32), .unset] []))
      refine Done.step (fun _ => XS.aload X8.here hx rfl (hb hby at_258) rfl rfl) ?_
      show Done _ p e below s _ _ (T8.setTop (mkF m 260 #[oI pa, oI pb, oI pc, oI pd, oI mode, oI f1, oI f2, oI kd, oI c0, oI c1, oI c2, oI c3, oI by1, oI by2, oR b2, oI (0 : Int32), .unset] [(.ref b2)]))
      have f9 := (f7.keep K8q (allS n0_b2 all0))
      refine Done.callSP X8 hx hZ hown (wAt hw 31 rfl) (wAt hw 32 rfl) (wAt hw 33 rfl) (wAt hw 34 rfl) (by decide) (rQ0 l Z a0 hw [] b2 bbq kkq  z fm T8.heap n0 Zs8 f9 SC hz SF rF SA SH SL Exqq Fvqq Fcqq FBqq ) rfl (g := (mkF m 260 #[oI pa, oI pb, oI pc, oI pd, oI mode, oI f1, oI f2, oI kd, oI c0, oI c1, oI c2, oI c3, oI by1, oI by2, oR b2, oI (0 : Int32), .unset] [(.ref b2)])) rfl (by rw [hml]; rfl) [(.ref b2)] [] 0 (lenOf pd_20 rfl) rfl rfl (by show 2 * 0 + _ ≤ _; exact Nat.le_of_eq rfl) (hb hby at_260) (by decide) (by decide) (by decide) (by decide) rfl rfl ?_
      intro T10 X10 e10
      show Done _ p e below s _ _ (T10.setTop (mkF m 263 #[oI pa, oI pb, oI pc, oI pd, oI mode, oI f1, oI f2, oI kd, oI c0, oI c1, oI c2, oI c3, oI by1, oI by2, oR b2, oI (0 : Int32), .unset] [(.int (0 : Int32))]))
      refine Done.step (fun _ => XS.iload X10.here hx rfl (hb hby at_263) rfl) ?_
      show Done _ p e below s _ _ (T10.setTop (mkF m 265 #[oI pa, oI pb, oI pc, oI pd, oI mode, oI f1, oI f2, oI kd, oI c0, oI c1, oI c2, oI c3, oI by1, oI by2, oR b2, oI (0 : Int32), .unset] [(.int (0 : Int32)), (.int (0 : Int32))]))
      refine Done.step (fun _ => XS.icmpNo X10.here hx rfl (hb hby at_265) rfl (XT.ii_ne_f rfl)) ?_
      show Done _ p e below s _ _ (T10.setTop (mkF m 268 #[oI pa, oI pb, oI pc, oI pd, oI mode, oI f1, oI f2, oI kd, oI c0, oI c1, oI c2, oI c3, oI by1, oI by2, oR b2, oI (0 : Int32), .unset] []))
      refine Done.step (fun _ => XT.iconstV X10.here hx rfl (1 : Int32) (hb hby at_268) (by decide)) ?_
      show Done _ p e below s _ _ (T10.setTop (mkF m 269 #[oI pa, oI pb, oI pc, oI pd, oI mode, oI f1, oI f2, oI kd, oI c0, oI c1, oI c2, oI c3, oI by1, oI by2, oR b2, oI (0 : Int32), .unset] [(.int (1 : Int32))]))
      refine Done.step (fun _ => XS.goto X10.here hx rfl (pc0 := 269) (pc' := 273) rfl (hb hby at_269) (by decide) (by decide)) ?_
      show Done _ p e below s _ _ (T10.setTop (mkF m 273 #[oI pa, oI pb, oI pc, oI pd, oI mode, oI f1, oI f2, oI kd, oI c0, oI c1, oI c2, oI c3, oI by1, oI by2, oR b2, oI (0 : Int32), .unset] [(.int (1 : Int32))]))
      exact Done.retN (leavesW X10 hS (by first | exact hk | (rw [e10]; exact hk)) hlk (by decide) (by decide)) X10 hx (t := .boolean) hret (by simp) (hb hby at_273) ⟨rfl, N8⟩
    · refine Done.step (fun _ => XS.ifYes XL.here hx rfl (pc0 := 134) (pc' := 155) rfl (hb hby at_134) rfl (XT.i0_ne_t hc1) (by decide) (by decide)) ?_
      show Done _ p e below s _ _ (TL.setTop (mkF m 155 #[oI pa, oI pb, oI pc, oI pd, oI mode, oI f1, oI f2, oI kd, oI c0, oI c1, oI c2, oI c3, oI by1, oI by2, .unset, .unset, .unset] []))
      refine Done.step (fun _ => XS.iload XL.here hx rfl (hb hby at_155) rfl) ?_
      show Done _ p e below s _ _ (TL.setTop (mkF m 157 #[oI pa, oI pb, oI pc, oI pd, oI mode, oI f1, oI f2, oI kd, oI c0, oI c1, oI c2, oI c3, oI by1, oI by2, .unset, .unset, .unset] [(.int kd)]))
      refine Done.step (fun _ => XT.iconstV XL.here hx rfl (1 : Int32) (hb hby at_157) (by decide)) ?_
      show Done _ p e below s _ _ (TL.setTop (mkF m 158 #[oI pa, oI pb, oI pc, oI pd, oI mode, oI f1, oI f2, oI kd, oI c0, oI c1, oI c2, oI c3, oI by1, oI by2, .unset, .unset, .unset] [(.int (1 : Int32)), (.int kd)]))
      by_cases hc11 : kd = (1 : Int32)
      · refine Done.step (fun _ => XS.icmpNo XL.here hx rfl (hb hby at_158) rfl (XT.ii_ne_f hc11)) ?_
        show Done _ p e below s _ _ (TL.setTop (mkF m 161 #[oI pa, oI pb, oI pc, oI pd, oI mode, oI f1, oI f2, oI kd, oI c0, oI c1, oI c2, oI c3, oI by1, oI by2, .unset, .unset, .unset] []))
        refine Done.step (fun _ => XS.iloadN XL.here hx rfl (hb hby at_161) rfl) ?_
        show Done _ p e below s _ _ (TL.setTop (mkF m 162 #[oI pa, oI pb, oI pc, oI pd, oI mode, oI f1, oI f2, oI kd, oI c0, oI c1, oI c2, oI c3, oI by1, oI by2, .unset, .unset, .unset] [(.int pa)]))
        refine Done.callSP XL hx hZ hown (wAt hw 0 rfl) (wAt hw 1 rfl) (wAt hw 2 rfl) (wAt hw 3 rfl) (by decide) (rB l Z a0 hw [] pa h0 n0 Z0) eL (g := (mkF m 162 #[oI pa, oI pb, oI pc, oI pd, oI mode, oI f1, oI f2, oI kd, oI c0, oI c1, oI c2, oI c3, oI by1, oI by2, .unset, .unset, .unset] [(.int pa)])) rfl (by rw [hml]; rfl) [(.int pa)] [] 0 (lenOf pd_15 rfl) rfl rfl (by show 2 * 0 + _ ≤ _; exact Nat.le_of_eq rfl) (hb hby at_162) (by decide) (by decide) (by decide) (by decide) rfl rfl ?_
        intro T12 X12 e12
        show Done _ p e below s _ _ (T12.setTop (mkF m 165 #[oI pa, oI pb, oI pc, oI pd, oI mode, oI f1, oI f2, oI kd, oI c0, oI c1, oI c2, oI c3, oI by1, oI by2, .unset, .unset, .unset] [(.int (own_bmp pa))]))
        refine Done.step (fun _ => XS.istore X12.here hx rfl (hb hby at_165) rfl (l' := #[oI pa, oI pb, oI pc, oI pd, oI mode, oI f1, oI f2, oI kd, oI c0, oI c1, oI c2, oI c3, oI by1, oI by2, .unset, .unset, oI (own_bmp pa)]) rfl) ?_
        show Done _ p e below s _ _ (T12.setTop (mkF m 167 #[oI pa, oI pb, oI pc, oI pd, oI mode, oI f1, oI f2, oI kd, oI c0, oI c1, oI c2, oI c3, oI by1, oI by2, .unset, .unset, oI (own_bmp pa)] []))
        refine Done.step (fun _ => XS.iload X12.here hx rfl (hb hby at_167) rfl) ?_
        show Done _ p e below s _ _ (T12.setTop (mkF m 169 #[oI pa, oI pb, oI pc, oI pd, oI mode, oI f1, oI f2, oI kd, oI c0, oI c1, oI c2, oI c3, oI by1, oI by2, .unset, .unset, oI (own_bmp pa)] [(.int (own_bmp pa))]))
        have hB := own_bmpB pa
        refine Done.callS X12 hx hZ hown (wAt hw 53 rfl) (wAt hw 54 rfl) (wAt hw 11 rfl) (wAt hw 55 rfl) (by decide) (vO l Z a0 hw [] (own_bmp pa) z fm h0 n0 Z0 O0 SC hz SF rF SA SH SL) (fun _ _ => trivial) e12 (g := (mkF m 169 #[oI pa, oI pb, oI pc, oI pd, oI mode, oI f1, oI f2, oI kd, oI c0, oI c1, oI c2, oI c3, oI by1, oI by2, .unset, .unset, oI (own_bmp pa)] [(.int (own_bmp pa))])) rfl (by rw [hml]; rfl) [(.int (own_bmp pa))] [] 0 (lenOf pd_21 rfl) rfl rfl (by show 2 * 0 + _ ≤ _; exact Nat.le_of_eq rfl) (hb hby at_169) (by decide) (by decide) (by decide) (by decide) ?_
        intro T13 v13 L13 X13 q13
        obtain ⟨xV, bU, ku, rfl, Nq13, K13q, Eq13, Vq13, q13⟩ := q13
        have N13 := Fr.app N0 Nq13
        have Zs13 := Nat.le_trans Z0 K13q.1
        have hk := Nat.le_trans hk K13q.1
        show Done _ p e below s _ _ (T13.setTop (mkF m 172 #[oI pa, oI pb, oI pc, oI pd, oI mode, oI f1, oI f2, oI kd, oI c0, oI c1, oI c2, oI c3, oI by1, oI by2, .unset, .unset, oI (own_bmp pa)] [(.ref xV)]))
        refine Done.step (fun _ => XS.astore X13.here hx rfl (hb hby at_172) rfl rfl (l' := #[oI pa, oI pb, oI pc, oI pd, oI mode, oI f1, oI f2, oI kd, oI c0, oI c1, oI c2, oI c3, oI by1, oI by2, oR xV, .unset, oI (own_bmp pa)]) rfl) ?_
        show Done _ p e below s _ _ (T13.setTop (mkF m 174 #[oI pa, oI pb, oI pc, oI pd, oI mode, oI f1, oI f2, oI kd, oI c0, oI c1, oI c2, oI c3, oI by1, oI by2, oR xV, .unset, oI (own_bmp pa)] []))
        refine Done.step (fun _ => XS.iload X13.here hx rfl (hb hby at_174) rfl) ?_
        show Done _ p e below s _ _ (T13.setTop (mkF m 176 #[oI pa, oI pb, oI pc, oI pd, oI mode, oI f1, oI f2, oI kd, oI c0, oI c1, oI c2, oI c3, oI by1, oI by2, oR xV, .unset, oI (own_bmp pa)] [(.int (own_bmp pa))]))
        refine Done.callSP X13 hx hZ hown (wAt hw 6 rfl) (wAt hw 7 rfl) (wAt hw 2 rfl) (wAt hw 8 rfl) (by decide) (rBB l Z a0 hw [] (own_bmp pa) T13.heap n0 Zs13) rfl (g := (mkF m 176 #[oI pa, oI pb, oI pc, oI pd, oI mode, oI f1, oI f2, oI kd, oI c0, oI c1, oI c2, oI c3, oI by1, oI by2, oR xV, .unset, oI (own_bmp pa)] [(.int (own_bmp pa))])) rfl (by rw [hml]; rfl) [(.int (own_bmp pa))] [] 0 (lenOf pd_22 rfl) rfl rfl (by show 2 * 0 + _ ≤ _; exact Nat.le_of_eq rfl) (hb hby at_176) (by decide) (by decide) (by decide) (by decide) rfl rfl ?_
        intro T14 X14 e14
        show Done _ p e below s _ _ (T14.setTop (mkF m 179 #[oI pa, oI pb, oI pc, oI pd, oI mode, oI f1, oI f2, oI kd, oI c0, oI c1, oI c2, oI c3, oI by1, oI by2, oR xV, .unset, oI (own_bmp pa)] [(.int (own_bb (own_bmp pa)))]))
        refine Done.step (fun _ => XS.istore X14.here hx rfl (hb hby at_179) rfl (l' := #[oI pa, oI pb, oI pc, oI pd, oI mode, oI f1, oI f2, oI kd, oI c0, oI c1, oI c2, oI c3, oI by1, oI by2, oR xV, oI (own_bb (own_bmp pa)), oI (own_bmp pa)]) rfl) ?_
        show Done _ p e below s _ _ (T14.setTop (mkF m 181 #[oI pa, oI pb, oI pc, oI pd, oI mode, oI f1, oI f2, oI kd, oI c0, oI c1, oI c2, oI c3, oI by1, oI by2, oR xV, oI (own_bb (own_bmp pa)), oI (own_bmp pa)] []))
        refine Done.step (fun _ => XS.goto X14.here hx rfl (pc0 := 181) (pc' := 258) rfl (hb hby at_181) (by decide) (by decide)) ?_
        show Done _ p e below s _ _ (T14.setTop (mkF m 258 #[oI pa, oI pb, oI pc, oI pd, oI mode, oI f1, oI f2, oI kd, oI c0, oI c1, oI c2, oI c3, oI by1, oI by2, oR xV, oI (own_bb (own_bmp pa)), oI (own_bmp pa)] []))
        refine Done.step (fun _ => XS.aload X14.here hx rfl (hb hby at_258) rfl rfl) ?_
        show Done _ p e below s _ _ (T14.setTop (mkF m 260 #[oI pa, oI pb, oI pc, oI pd, oI mode, oI f1, oI f2, oI kd, oI c0, oI c1, oI c2, oI c3, oI by1, oI by2, oR xV, oI (own_bb (own_bmp pa)), oI (own_bmp pa)] [(.ref xV)]))
        have f15 := (O0.keep K13q all0)
        refine Done.callSP X14 hx hZ hown (wAt hw 31 rfl) (wAt hw 32 rfl) (wAt hw 33 rfl) (wAt hw 34 rfl) (by decide) (rQ1 l Z a0 hw [] xV bU ku (own_bmp pa) z fm T13.heap n0 Zs13 f15 SC hz SF rF SA SH SL Eq13 Vq13 q13 hB.1) e14 (g := (mkF m 260 #[oI pa, oI pb, oI pc, oI pd, oI mode, oI f1, oI f2, oI kd, oI c0, oI c1, oI c2, oI c3, oI by1, oI by2, oR xV, oI (own_bb (own_bmp pa)), oI (own_bmp pa)] [(.ref xV)])) rfl (by rw [hml]; rfl) [(.ref xV)] [] 0 (lenOf pd_20 rfl) rfl rfl (by show 2 * 0 + _ ≤ _; exact Nat.le_of_eq rfl) (hb hby at_260) (by decide) (by decide) (by decide) (by decide) rfl rfl ?_
        intro T16 X16 e16
        show Done _ p e below s _ _ (T16.setTop (mkF m 263 #[oI pa, oI pb, oI pc, oI pd, oI mode, oI f1, oI f2, oI kd, oI c0, oI c1, oI c2, oI c3, oI by1, oI by2, oR xV, oI (own_bb (own_bmp pa)), oI (own_bmp pa)] [(.int ((0 : Int32) + own_ub (own_bmp pa)))]))
        refine Done.step (fun _ => XS.iload X16.here hx rfl (hb hby at_263) rfl) ?_
        show Done _ p e below s _ _ (T16.setTop (mkF m 265 #[oI pa, oI pb, oI pc, oI pd, oI mode, oI f1, oI f2, oI kd, oI c0, oI c1, oI c2, oI c3, oI by1, oI by2, oR xV, oI (own_bb (own_bmp pa)), oI (own_bmp pa)] [(.int (own_bb (own_bmp pa))), (.int ((0 : Int32) + own_ub (own_bmp pa)))]))
        refine Done.step (fun _ => XS.icmpNo X16.here hx rfl (hb hby at_265) rfl (XT.ii_ne_f (own_t1 hB))) ?_
        show Done _ p e below s _ _ (T16.setTop (mkF m 268 #[oI pa, oI pb, oI pc, oI pd, oI mode, oI f1, oI f2, oI kd, oI c0, oI c1, oI c2, oI c3, oI by1, oI by2, oR xV, oI (own_bb (own_bmp pa)), oI (own_bmp pa)] []))
        refine Done.step (fun _ => XT.iconstV X16.here hx rfl (1 : Int32) (hb hby at_268) (by decide)) ?_
        show Done _ p e below s _ _ (T16.setTop (mkF m 269 #[oI pa, oI pb, oI pc, oI pd, oI mode, oI f1, oI f2, oI kd, oI c0, oI c1, oI c2, oI c3, oI by1, oI by2, oR xV, oI (own_bb (own_bmp pa)), oI (own_bmp pa)] [(.int (1 : Int32))]))
        refine Done.step (fun _ => XS.goto X16.here hx rfl (pc0 := 269) (pc' := 273) rfl (hb hby at_269) (by decide) (by decide)) ?_
        show Done _ p e below s _ _ (T16.setTop (mkF m 273 #[oI pa, oI pb, oI pc, oI pd, oI mode, oI f1, oI f2, oI kd, oI c0, oI c1, oI c2, oI c3, oI by1, oI by2, oR xV, oI (own_bb (own_bmp pa)), oI (own_bmp pa)] [(.int (1 : Int32))]))
        exact Done.retN (leavesW X16 hS (by first | exact hk | (rw [e16]; exact hk)) hlk (by decide) (by decide)) X16 hx (t := .boolean) hret (by simp) (hb hby at_273) ⟨rfl, N13⟩
      · refine Done.step (fun _ => XS.icmpYes XL.here hx rfl (pc0 := 158) (pc' := 184) rfl (hb hby at_158) rfl (XT.ii_ne_t hc11) (by decide) (by decide)) ?_
        show Done _ p e below s _ _ (TL.setTop (mkF m 184 #[oI pa, oI pb, oI pc, oI pd, oI mode, oI f1, oI f2, oI kd, oI c0, oI c1, oI c2, oI c3, oI by1, oI by2, .unset, .unset, .unset] []))
        refine Done.step (fun _ => XS.iload XL.here hx rfl (hb hby at_184) rfl) ?_
        show Done _ p e below s _ _ (TL.setTop (mkF m 186 #[oI pa, oI pb, oI pc, oI pd, oI mode, oI f1, oI f2, oI kd, oI c0, oI c1, oI c2, oI c3, oI by1, oI by2, .unset, .unset, .unset] [(.int kd)]))
        refine Done.step (fun _ => XT.iconstV XL.here hx rfl (2 : Int32) (hb hby at_186) (by decide)) ?_
        show Done _ p e below s _ _ (TL.setTop (mkF m 187 #[oI pa, oI pb, oI pc, oI pd, oI mode, oI f1, oI f2, oI kd, oI c0, oI c1, oI c2, oI c3, oI by1, oI by2, .unset, .unset, .unset] [(.int (2 : Int32)), (.int kd)]))
        by_cases hc17 : kd = (2 : Int32)
        · refine Done.step (fun _ => XS.icmpNo XL.here hx rfl (hb hby at_187) rfl (XT.ii_ne_f hc17)) ?_
          show Done _ p e below s _ _ (TL.setTop (mkF m 190 #[oI pa, oI pb, oI pc, oI pd, oI mode, oI f1, oI f2, oI kd, oI c0, oI c1, oI c2, oI c3, oI by1, oI by2, .unset, .unset, .unset] []))
          obtain ⟨T18, h18, X18, e18, E18, A18, D18, -, st18⟩ := newO XL hx hZ hown (wAt hw 9 rfl) (wAt hw 10 rfl) (wAt hw 11 rfl) eL (g := (mkF m 190 #[oI pa, oI pb, oI pc, oI pd, oI mode, oI f1, oI f2, oI kd, oI c0, oI c1, oI c2, oI c3, oI by1, oI by2, .unset, .unset, .unset] [])) rfl (hb hby at_190) (by decide) (by decide)
          obtain ⟨b18, g18⟩ : ∃ z, z = h0.size := ⟨_, rfl⟩
          rw [← g18] at A18 D18 st18
          have n0_b18 : n0 ≤ b18 := by rw [g18]; exact Z0
          have Zs18 := Nat.le_trans Z0 E18.1
          have hk := Nat.le_trans hk E18.1
          have F_value_b18 : Fld Z h18 b18 "java/lang/String" "value" "[B" .null := D18 (Or.inr (wAt hw 25 rfl)) (ty := (.array .byte)) (by decide)
          have F_coder_b18 : Fld Z h18 b18 "java/lang/String" "coder" "B" (.int (0 : Int32)) := D18 (Or.inr (wAt hw 26 rfl)) (ty := .byte) (by decide)
          refine Done.step st18 ?_
          show Done _ p e below s _ _ (T18.setTop (mkF m 193 #[oI pa, oI pb, oI pc, oI pd, oI mode, oI f1, oI f2, oI kd, oI c0, oI c1, oI c2, oI c3, oI by1, oI by2, .unset, .unset, .unset] [(.ref b18)]))
          refine Done.step (fun _ => XS.dup X18.here hx rfl (hb hby at_193) rfl rfl) ?_
          show Done _ p e below s _ _ (T18.setTop (mkF m 194 #[oI pa, oI pb, oI pc, oI pd, oI mode, oI f1, oI f2, oI kd, oI c0, oI c1, oI c2, oI c3, oI by1, oI by2, .unset, .unset, .unset] [(.ref b18), (.ref b18)]))
          refine Done.step (fun _ => XT.iconstV X18.here hx rfl (2 : Int32) (hb hby at_194) (by decide)) ?_
          show Done _ p e below s _ _ (T18.setTop (mkF m 195 #[oI pa, oI pb, oI pc, oI pd, oI mode, oI f1, oI f2, oI kd, oI c0, oI c1, oI c2, oI c3, oI by1, oI by2, .unset, .unset, .unset] [(.int (2 : Int32)), (.ref b18), (.ref b18)]))
          obtain ⟨T19, h19, k19, X19, e19, E19, A19, st19⟩ := newP X18 hx hZ (wAt hw 12 rfl) e18 (g := (mkF m 195 #[oI pa, oI pb, oI pc, oI pd, oI mode, oI f1, oI f2, oI kd, oI c0, oI c1, oI c2, oI c3, oI by1, oI by2, .unset, .unset, .unset] [(.int (2 : Int32)), (.ref b18), (.ref b18)])) rfl (hb hby at_195) rfl (by decide) (cap := 2) (by decide) (by decide) (by decide) (by decide)
          obtain ⟨b19, g19⟩ : ∃ z, z = h18.size := ⟨_, rfl⟩
          rw [← g19] at A19 st19
          have ne_b18_b19 : b18 ≠ b19 := by rw [g19]; exact Nat.ne_of_lt A18.lt
          have n0_b19 : n0 ≤ b19 := by rw [g19]; exact Zs18
          have Zs19 := Nat.le_trans Zs18 E19.1
          have hk := Nat.le_trans hk E19.1
          have V_b19 : Arv Z h19 b19 k19 .char (2 : Int32) [(.int (0 : Int32)), (.int (0 : Int32))] (.int (0 : Int32)) := (Arv.new A19 (by decide)).pad (pad_rep [] (.int (0 : Int32)) 2)
          refine Done.step st19 ?_
          show Done _ p e below s _ _ (T19.setTop (mkF m 197 #[oI pa, oI pb, oI pc, oI pd, oI mode, oI f1, oI f2, oI kd, oI c0, oI c1, oI c2, oI c3, oI by1, oI by2, .unset, .unset, .unset] [(.ref b19), (.ref b18), (.ref b18)]))
          refine Done.step (fun _ => XS.dup X19.here hx rfl (hb hby at_197) rfl rfl) ?_
          show Done _ p e below s _ _ (T19.setTop (mkF m 198 #[oI pa, oI pb, oI pc, oI pd, oI mode, oI f1, oI f2, oI kd, oI c0, oI c1, oI c2, oI c3, oI by1, oI by2, .unset, .unset, .unset] [(.ref b19), (.ref b19), (.ref b18), (.ref b18)]))
          refine Done.step (fun _ => XT.iconstV X19.here hx rfl (0 : Int32) (hb hby at_198) (by decide)) ?_
          show Done _ p e below s _ _ (T19.setTop (mkF m 199 #[oI pa, oI pb, oI pc, oI pd, oI mode, oI f1, oI f2, oI kd, oI c0, oI c1, oI c2, oI c3, oI by1, oI by2, .unset, .unset, .unset] [(.int (0 : Int32)), (.ref b19), (.ref b19), (.ref b18), (.ref b18)]))
          refine Done.step (fun _ => XS.iload X19.here hx rfl (hb hby at_199) rfl) ?_
          show Done _ p e below s _ _ (T19.setTop (mkF m 201 #[oI pa, oI pb, oI pc, oI pd, oI mode, oI f1, oI f2, oI kd, oI c0, oI c1, oI c2, oI c3, oI by1, oI by2, .unset, .unset, .unset] [(.int c0), (.int (0 : Int32)), (.ref b19), (.ref b19), (.ref b18), (.ref b18)]))
          obtain ⟨cl20, Ar20, q20, S20, Nn20, H20, G20⟩ := id V_b19
          have hin20 : ¬ ((0 : Int32) < 0 ∨ cl20.slots.size ≤ ((0 : Int32)).toNatClampNeg) := inb_of S20 ⟨by decide, by decide⟩
          obtain ⟨T20, h20, X20, e20, W20, st20⟩ := stC X19 hx hZ e19 Ar20 (j := (0 : Int32)) hin20 (g := (mkF m 201 #[oI pa, oI pb, oI pc, oI pd, oI mode, oI f1, oI f2, oI kd, oI c0, oI c1, oI c2, oI c3, oI by1, oI by2, .unset, .unset, .unset] [(.int c0), (.int (0 : Int32)), (.ref b19), (.ref b19), (.ref b18), (.ref b18)])) rfl rfl (hb hby at_201)
          have V20 := Arv.set Ar20 q20 S20 Nn20 H20 G20 (fits_nar_char _) W20 0 rfl (Nat.le_of_ble_eq_true rfl)
          have N20 := Fr.snoc X20 N0 n0_b19
          have Zs20 := Nat.le_trans Zs19 (Keep.of_wr W20).1
          have hk := Nat.le_trans hk (Keep.of_wr W20).1
          refine Done.step st20 ?_
          show Done _ p e below s _ _ (T20.setTop (mkF m 202 #[oI pa, oI pb, oI pc, oI pd, oI mode, oI f1, oI f2, oI kd, oI c0, oI c1, oI c2, oI c3, oI by1, oI by2, .unset, .unset, .unset] [(.ref b19), (.ref b18), (.ref b18)]))
          refine Done.step (fun _ => XS.dup X20.here hx rfl (hb hby at_202) rfl rfl) ?_
          show Done _ p e below s _ _ (T20.setTop (mkF m 203 #[oI pa, oI pb, oI pc, oI pd, oI mode, oI f1, oI f2, oI kd, oI c0, oI c1, oI c2, oI c3, oI by1, oI by2, .unset, .unset, .unset] [(.ref b19), (.ref b19), (.ref b18), (.ref b18)]))
          refine Done.step (fun _ => XT.iconstV X20.here hx rfl (1 : Int32) (hb hby at_203) (by decide)) ?_
          show Done _ p e below s _ _ (T20.setTop (mkF m 204 #[oI pa, oI pb, oI pc, oI pd, oI mode, oI f1, oI f2, oI kd, oI c0, oI c1, oI c2, oI c3, oI by1, oI by2, .unset, .unset, .unset] [(.int (1 : Int32)), (.ref b19), (.ref b19), (.ref b18), (.ref b18)]))
          refine Done.step (fun _ => XS.iload X20.here hx rfl (hb hby at_204) rfl) ?_
          show Done _ p e below s _ _ (T20.setTop (mkF m 206 #[oI pa, oI pb, oI pc, oI pd, oI mode, oI f1, oI f2, oI kd, oI c0, oI c1, oI c2, oI c3, oI by1, oI by2, .unset, .unset, .unset] [(.int c1), (.int (1 : Int32)), (.ref b19), (.ref b19), (.ref b18), (.ref b18)]))
          obtain ⟨cl21, Ar21, q21, S21, Nn21, H21, G21⟩ := id V20
          have hin21 : ¬ ((1 : Int32) < 0 ∨ cl21.slots.size ≤ ((1 : Int32)).toNatClampNeg) := inb_of S21 ⟨by decide, by decide⟩
          obtain ⟨T21, h21, X21, e21, W21, st21⟩ := stC X20 hx hZ e20 Ar21 (j := (1 : Int32)) hin21 (g := (mkF m 206 #[oI pa, oI pb, oI pc, oI pd, oI mode, oI f1, oI f2, oI kd, oI c0, oI c1, oI c2, oI c3, oI by1, oI by2, .unset, .unset, .unset] [(.int c1), (.int (1 : Int32)), (.ref b19), (.ref b19), (.ref b18), (.ref b18)])) rfl rfl (hb hby at_206)
          have V21 := Arv.set Ar21 q21 S21 Nn21 H21 G21 (fits_nar_char _) W21 1 rfl (Nat.le_of_ble_eq_true rfl)
          have N21 := Fr.snoc X21 N20 n0_b19
          have Zs21 := Nat.le_trans Zs20 (Keep.of_wr W21).1
          have hk := Nat.le_trans hk (Keep.of_wr W21).1
          refine Done.step st21 ?_
          show Done _ p e below s _ _ (T21.setTop (mkF m 207 #[oI pa, oI pb, oI pc, oI pd, oI mode, oI f1, oI f2, oI kd, oI c0, oI c1, oI c2, oI c3, oI by1, oI by2, .unset, .unset, .unset] [(.ref b19), (.ref b18), (.ref b18)]))
          have f22 := (((A18.ext E19).wr W20).wr W21)
          have f23 := (((F_value_b18.ext E19).other W20 (Or.inl ne_b18_b19)).other W21 (Or.inl ne_b18_b19))
          have f24 := (((F_coder_b18.ext E19).other W20 (Or.inl ne_b18_b19)).other W21 (Or.inl ne_b18_b19))
          have f25 := ((((O0.ext E18).ext E19).wr W20 n0_b19).wr W21 n0_b19)
          have Vs26 : Arv Z h21 b19 k19 .char (2 : Int32) [(.int (nar .char c0)), (.int (nar .char c1))] (.int (0 : Int32)) := V21
          rw [own_nar2 hb0, own_nar2 hb1] at Vs26
          refine Done.callI X21 hx hZ rfl hown (wAt hw 13 rfl) (wAt hw 14 rfl) (wAt hw 11 rfl) (wAt hw 15 rfl) (by decide) (un_2 l Z a0 hw [] b18 b19 k19 c0 c1 z h21 n0 Zs21 f22 f23 f24 n0_b18 f25 SC hz SA SH SL Vs26 (Ne.symm ne_b18_b19) hb0 hb1) (fun _ _ => trivial) e21 (g := (mkF m 207 #[oI pa, oI pb, oI pc, oI pd, oI mode, oI f1, oI f2, oI kd, oI c0, oI c1, oI c2, oI c3, oI by1, oI by2, .unset, .unset, .unset] [(.ref b19), (.ref b18), (.ref b18)])) rfl (by rw [hml]; rfl) b18 [(.ref b19)] [(.ref b18)] 1 (lenOf pd_19 rfl) rfl rfl (by show 2 * 0 + _ ≤ _; exact Nat.le_of_eq rfl) (hb hby at_207) (by decide) (by decide) (by decide) (by decide) ?_
          intro T26 v26 L26 X26 q26
          obtain ⟨rfl, Nq26, K26q, bU, ku, szu, Eq26, Vq26, q26⟩ := q26
          have N26 := Fr.app N21 Nq26
          have Zs26 := Nat.le_trans Zs21 K26q.1
          have hk := Nat.le_trans hk K26q.1
          show Done _ p e below s _ _ (T26.setTop (mkF m 210 #[oI pa, oI pb, oI pc, oI pd, oI mode, oI f1, oI f2, oI kd, oI c0, oI c1, oI c2, oI c3, oI by1, oI by2, .unset, .unset, .unset] [(.ref b18)]))
          refine Done.step (fun _ => XS.astore X26.here hx rfl (hb hby at_210) rfl rfl (l' := #[oI pa, oI pb, oI pc, oI pd, oI mode, oI f1, oI f2, oI kd, oI c0, oI c1, oI c2, oI c3, oI by1, oI by2, oR b18, .unset, .unset]) rfl) ?_
          show Done _ p e below s _ _ (T26.setTop (mkF m 212 #[oI pa, oI pb, oI pc, oI pd, oI mode, oI f1, oI f2, oI kd, oI c0, oI c1, oI c2, oI c3, oI by1, oI by2, oR b18, .unset, .unset] []))
          refine Done.step (fun _ => XS.iload X26.here hx rfl (hb hby at_212) rfl) ?_
          show Done _ p e below s _ _ (T26.setTop (mkF m 214 #[oI pa, oI pb, oI pc, oI pd, oI mode, oI f1, oI f2, oI kd, oI c0, oI c1, oI c2, oI c3, oI by1, oI by2, oR b18, .unset, .unset] [(.int by1)]))
          refine Done.step (fun _ => XS.istore X26.here hx rfl (hb hby at_214) rfl (l' := #[oI pa, oI pb, oI pc, oI pd, oI mode, oI f1, oI f2, oI kd, oI c0, oI c1, oI c2, oI c3, oI by1, oI by2, oR b18, oI by1, .unset]) rfl) ?_
          show Done _ p e below s _ _ (T26.setTop (mkF m 216 #[oI pa, oI pb, oI pc, oI pd, oI mode, oI f1, oI f2, oI kd, oI c0, oI c1, oI c2, oI c3, oI by1, oI by2, oR b18, oI by1, .unset] []))
          refine Done.step (fun _ => XS.goto X26.here hx rfl (pc0 := 216) (pc' := 258) rfl (hb hby at_216) (by decide) (by decide)) ?_
          show Done _ p e below s _ _ (T26.setTop (mkF m 258 #[oI pa, oI pb, oI pc, oI pd, oI mode, oI f1, oI f2, oI kd, oI c0, oI c1, oI c2, oI c3, oI by1, oI by2, oR b18, oI by1, .unset] []))
          refine Done.step (fun _ => XS.aload X26.here hx rfl (hb hby at_258) rfl rfl) ?_
          show Done _ p e below s _ _ (T26.setTop (mkF m 260 #[oI pa, oI pb, oI pc, oI pd, oI mode, oI f1, oI f2, oI kd, oI c0, oI c1, oI c2, oI c3, oI by1, oI by2, oR b18, oI by1, .unset] [(.ref b18)]))
          have f27 := (f25.keep K26q (allS n0_b18 all0))
          refine Done.callSP X26 hx hZ hown (wAt hw 31 rfl) (wAt hw 32 rfl) (wAt hw 33 rfl) (wAt hw 34 rfl) (by decide) (rQ2 l Z a0 hw [] b18 bU ku c0 c1 z fm T26.heap n0 Zs26 f27 SC hz SF rF SA SH SL Eq26 Vq26 q26 hb0 hb1) rfl (g := (mkF m 260 #[oI pa, oI pb, oI pc, oI pd, oI mode, oI f1, oI f2, oI kd, oI c0, oI c1, oI c2, oI c3, oI by1, oI by2, oR b18, oI by1, .unset] [(.ref b18)])) rfl (by rw [hml]; rfl) [(.ref b18)] [] 0 (lenOf pd_20 rfl) rfl rfl (by show 2 * 0 + _ ≤ _; exact Nat.le_of_eq rfl) (hb hby at_260) (by decide) (by decide) (by decide) (by decide) rfl rfl ?_
          intro T28 X28 e28
          show Done _ p e below s _ _ (T28.setTop (mkF m 263 #[oI pa, oI pb, oI pc, oI pd, oI mode, oI f1, oI f2, oI kd, oI c0, oI c1, oI c2, oI c3, oI by1, oI by2, oR b18, oI by1, .unset] [(.int (((0 : Int32) + own_ub c0) + own_ub c1))]))
          refine Done.step (fun _ => XS.iload X28.here hx rfl (hb hby at_263) rfl) ?_
          show Done _ p e below s _ _ (T28.setTop (mkF m 265 #[oI pa, oI pb, oI pc, oI pd, oI mode, oI f1, oI f2, oI kd, oI c0, oI c1, oI c2, oI c3, oI by1, oI by2, oR b18, oI by1, .unset] [(.int by1), (.int (((0 : Int32) + own_ub c0) + own_ub c1))]))
          refine Done.step (fun _ => XS.icmpNo X28.here hx rfl (hb hby at_265) rfl (XT.ii_ne_f (own_t2 h01))) ?_
          show Done _ p e below s _ _ (T28.setTop (mkF m 268 #[oI pa, oI pb, oI pc, oI pd, oI mode, oI f1, oI f2, oI kd, oI c0, oI c1, oI c2, oI c3, oI by1, oI by2, oR b18, oI by1, .unset] []))
          refine Done.step (fun _ => XT.iconstV X28.here hx rfl (1 : Int32) (hb hby at_268) (by decide)) ?_
          show Done _ p e below s _ _ (T28.setTop (mkF m 269 #[oI pa, oI pb, oI pc, oI pd, oI mode, oI f1, oI f2, oI kd, oI c0, oI c1, oI c2, oI c3, oI by1, oI by2, oR b18, oI by1, .unset] [(.int (1 : Int32))]))
          refine Done.step (fun _ => XS.goto X28.here hx rfl (pc0 := 269) (pc' := 273) rfl (hb hby at_269) (by decide) (by decide)) ?_
          show Done _ p e below s _ _ (T28.setTop (mkF m 273 #[oI pa, oI pb, oI pc, oI pd, oI mode, oI f1, oI f2, oI kd, oI c0, oI c1, oI c2, oI c3, oI by1, oI by2, oR b18, oI by1, .unset] [(.int (1 : Int32))]))
          exact Done.retN (leavesW X28 hS (by first | exact hk | (rw [e28]; exact hk)) hlk (by decide) (by decide)) X28 hx (t := .boolean) hret (by simp) (hb hby at_273) ⟨rfl, N26⟩
        · refine Done.step (fun _ => XS.icmpYes XL.here hx rfl (pc0 := 187) (pc' := 219) rfl (hb hby at_187) rfl (XT.ii_ne_t hc17) (by decide) (by decide)) ?_
          show Done _ p e below s _ _ (TL.setTop (mkF m 219 #[oI pa, oI pb, oI pc, oI pd, oI mode, oI f1, oI f2, oI kd, oI c0, oI c1, oI c2, oI c3, oI by1, oI by2, .unset, .unset, .unset] []))
          obtain ⟨T29, h29, X29, e29, E29, A29, D29, -, st29⟩ := newO XL hx hZ hown (wAt hw 9 rfl) (wAt hw 10 rfl) (wAt hw 11 rfl) eL (g := (mkF m 219 #[oI pa, oI pb, oI pc, oI pd, oI mode, oI f1, oI f2, oI kd, oI c0, oI c1, oI c2, oI c3, oI by1, oI by2, .unset, .unset, .unset] [])) rfl (hb hby at_219) (by decide) (by decide)
          obtain ⟨b29, g29⟩ : ∃ z, z = h0.size := ⟨_, rfl⟩
          rw [← g29] at A29 D29 st29
          have n0_b29 : n0 ≤ b29 := by rw [g29]; exact Z0
          have Zs29 := Nat.le_trans Z0 E29.1
          have hk := Nat.le_trans hk E29.1
          have F_value_b29 : Fld Z h29 b29 "java/lang/String" "value" "[B" .null := D29 (Or.inr (wAt hw 25 rfl)) (ty := (.array .byte)) (by decide)
          have F_coder_b29 : Fld Z h29 b29 "java/lang/String" "coder" "B" (.int (0 : Int32)) := D29 (Or.inr (wAt hw 26 rfl)) (ty := .byte) (by decide)
          refine Done.step st29 ?_
          show Done _ p e below s _ _ (T29.setTop (mkF m 222 #[oI pa, oI pb, oI pc, oI pd, oI mode, oI f1, oI f2, oI kd, oI c0, oI c1, oI c2, oI c3, oI by1, oI by2, .unset, .unset, .unset] [(.ref b29)]))
          refine Done.step (fun _ => XS.dup X29.here hx rfl (hb hby at_222) rfl rfl) ?_
          show Done _ p e below s _ _ (T29.setTop (mkF m 223 #[oI pa, oI pb, oI pc, oI pd, oI mode, oI f1, oI f2, oI kd, oI c0, oI c1, oI c2, oI c3, oI by1, oI by2, .unset, .unset, .unset] [(.ref b29), (.ref b29)]))
          refine Done.step (fun _ => XT.iconstV X29.here hx rfl (4 : Int32) (hb hby at_223) (by decide)) ?_
          show Done _ p e below s _ _ (T29.setTop (mkF m 224 #[oI pa, oI pb, oI pc, oI pd, oI mode, oI f1, oI f2, oI kd, oI c0, oI c1, oI c2, oI c3, oI by1, oI by2, .unset, .unset, .unset] [(.int (4 : Int32)), (.ref b29), (.ref b29)]))
          obtain ⟨T30, h30, k30, X30, e30, E30, A30, st30⟩ := newP X29 hx hZ (wAt hw 12 rfl) e29 (g := (mkF m 224 #[oI pa, oI pb, oI pc, oI pd, oI mode, oI f1, oI f2, oI kd, oI c0, oI c1, oI c2, oI c3, oI by1, oI by2, .unset, .unset, .unset] [(.int (4 : Int32)), (.ref b29), (.ref b29)])) rfl (hb hby at_224) rfl (by decide) (cap := 4) (by decide) (by decide) (by decide) (by decide)
          obtain ⟨b30, g30⟩ : ∃ z, z = h29.size := ⟨_, rfl⟩
          rw [← g30] at A30 st30
          have ne_b29_b30 : b29 ≠ b30 := by rw [g30]; exact Nat.ne_of_lt A29.lt
          have n0_b30 : n0 ≤ b30 := by rw [g30]; exact Zs29
          have Zs30 := Nat.le_trans Zs29 E30.1
          have hk := Nat.le_trans hk E30.1
          have V_b30 : Arv Z h30 b30 k30 .char (4 : Int32) [(.int (0 : Int32)), (.int (0 : Int32)), (.int (0 : Int32)), (.int (0 : Int32))] (.int (0 : Int32)) := (Arv.new A30 (by decide)).pad (pad_rep [] (.int (0 : Int32)) 4)
          refine Done.step st30 ?_
          show Done _ p e below s _ _ (T30.setTop (mkF m 226 #[oI pa, oI pb, oI pc, oI pd, oI mode, oI f1, oI f2, oI kd, oI c0, oI c1, oI c2, oI c3, oI by1, oI by2, .unset, .unset, .unset] [(.ref b30), (.ref b29), (.ref b29)]))
          refine Done.step (fun _ => XS.dup X30.here hx rfl (hb hby at_226) rfl rfl) ?_
          show Done _ p e below s _ _ (T30.setTop (mkF m 227 #[oI pa, oI pb, oI pc, oI pd, oI mode, oI f1, oI f2, oI kd, oI c0, oI c1, oI c2, oI c3, oI by1, oI by2, .unset, .unset, .unset] [(.ref b30), (.ref b30), (.ref b29), (.ref b29)]))
          refine Done.step (fun _ => XT.iconstV X30.here hx rfl (0 : Int32) (hb hby at_227) (by decide)) ?_
          show Done _ p e below s _ _ (T30.setTop (mkF m 228 #[oI pa, oI pb, oI pc, oI pd, oI mode, oI f1, oI f2, oI kd, oI c0, oI c1, oI c2, oI c3, oI by1, oI by2, .unset, .unset, .unset] [(.int (0 : Int32)), (.ref b30), (.ref b30), (.ref b29), (.ref b29)]))
          refine Done.step (fun _ => XS.iload X30.here hx rfl (hb hby at_228) rfl) ?_
          show Done _ p e below s _ _ (T30.setTop (mkF m 230 #[oI pa, oI pb, oI pc, oI pd, oI mode, oI f1, oI f2, oI kd, oI c0, oI c1, oI c2, oI c3, oI by1, oI by2, .unset, .unset, .unset] [(.int c0), (.int (0 : Int32)), (.ref b30), (.ref b30), (.ref b29), (.ref b29)]))
          obtain ⟨cl31, Ar31, q31, S31, Nn31, H31, G31⟩ := id V_b30
          have hin31 : ¬ ((0 : Int32) < 0 ∨ cl31.slots.size ≤ ((0 : Int32)).toNatClampNeg) := inb_of S31 ⟨by decide, by decide⟩
          obtain ⟨T31, h31, X31, e31, W31, st31⟩ := stC X30 hx hZ e30 Ar31 (j := (0 : Int32)) hin31 (g := (mkF m 230 #[oI pa, oI pb, oI pc, oI pd, oI mode, oI f1, oI f2, oI kd, oI c0, oI c1, oI c2, oI c3, oI by1, oI by2, .unset, .unset, .unset] [(.int c0), (.int (0 : Int32)), (.ref b30), (.ref b30), (.ref b29), (.ref b29)])) rfl rfl (hb hby at_230)
          have V31 := Arv.set Ar31 q31 S31 Nn31 H31 G31 (fits_nar_char _) W31 0 rfl (Nat.le_of_ble_eq_true rfl)
          have N31 := Fr.snoc X31 N0 n0_b30
          have Zs31 := Nat.le_trans Zs30 (Keep.of_wr W31).1
          have hk := Nat.le_trans hk (Keep.of_wr W31).1
          refine Done.step st31 ?_
          show Done _ p e below s _ _ (T31.setTop (mkF m 231 #[oI pa, oI pb, oI pc, oI pd, oI mode, oI f1, oI f2, oI kd, oI c0, oI c1, oI c2, oI c3, oI by1, oI by2, .unset, .unset, .unset] [(.ref b30), (.ref b29), (.ref b29)]))
          refine Done.step (fun _ => XS.dup X31.here hx rfl (hb hby at_231) rfl rfl) ?_
          show Done _ p e below s _ _ (T31.setTop (mkF m 232 #[oI pa, oI pb, oI pc, oI pd, oI mode, oI f1, oI f2, oI kd, oI c0, oI c1, oI c2, oI c3, oI by1, oI by2, .unset, .unset, .unset] [(.ref b30), (.ref b30), (.ref b29), (.ref b29)]))
          refine Done.step (fun _ => XT.iconstV X31.here hx rfl (1 : Int32) (hb hby at_232) (by decide)) ?_
          show Done _ p e below s _ _ (T31.setTop (mkF m 233 #[oI pa, oI pb, oI pc, oI pd, oI mode, oI f1, oI f2, oI kd, oI c0, oI c1, oI c2, oI c3, oI by1, oI by2, .unset, .unset, .unset] [(.int (1 : Int32)), (.ref b30), (.ref b30), (.ref b29), (.ref b29)]))
          refine Done.step (fun _ => XS.iload X31.here hx rfl (hb hby at_233) rfl) ?_
          show Done _ p e below s _ _ (T31.setTop (mkF m 235 #[oI pa, oI pb, oI pc, oI pd, oI mode, oI f1, oI f2, oI kd, oI c0, oI c1, oI c2, oI c3, oI by1, oI by2, .unset, .unset, .unset] [(.int c1), (.int (1 : Int32)), (.ref b30), (.ref b30), (.ref b29), (.ref b29)]))
          obtain ⟨cl32, Ar32, q32, S32, Nn32, H32, G32⟩ := id V31
          have hin32 : ¬ ((1 : Int32) < 0 ∨ cl32.slots.size ≤ ((1 : Int32)).toNatClampNeg) := inb_of S32 ⟨by decide, by decide⟩
          obtain ⟨T32, h32, X32, e32, W32, st32⟩ := stC X31 hx hZ e31 Ar32 (j := (1 : Int32)) hin32 (g := (mkF m 235 #[oI pa, oI pb, oI pc, oI pd, oI mode, oI f1, oI f2, oI kd, oI c0, oI c1, oI c2, oI c3, oI by1, oI by2, .unset, .unset, .unset] [(.int c1), (.int (1 : Int32)), (.ref b30), (.ref b30), (.ref b29), (.ref b29)])) rfl rfl (hb hby at_235)
          have V32 := Arv.set Ar32 q32 S32 Nn32 H32 G32 (fits_nar_char _) W32 1 rfl (Nat.le_of_ble_eq_true rfl)
          have N32 := Fr.snoc X32 N31 n0_b30
          have Zs32 := Nat.le_trans Zs31 (Keep.of_wr W32).1
          have hk := Nat.le_trans hk (Keep.of_wr W32).1
          refine Done.step st32 ?_
          show Done _ p e below s _ _ (T32.setTop (mkF m 236 #[oI pa, oI pb, oI pc, oI pd, oI mode, oI f1, oI f2, oI kd, oI c0, oI c1, oI c2, oI c3, oI by1, oI by2, .unset, .unset, .unset] [(.ref b30), (.ref b29), (.ref b29)]))
          refine Done.step (fun _ => XS.dup X32.here hx rfl (hb hby at_236) rfl rfl) ?_
          show Done _ p e below s _ _ (T32.setTop (mkF m 237 #[oI pa, oI pb, oI pc, oI pd, oI mode, oI f1, oI f2, oI kd, oI c0, oI c1, oI c2, oI c3, oI by1, oI by2, .unset, .unset, .unset] [(.ref b30), (.ref b30), (.ref b29), (.ref b29)]))
          refine Done.step (fun _ => XT.iconstV X32.here hx rfl (2 : Int32) (hb hby at_237) (by decide)) ?_
          show Done _ p e below s _ _ (T32.setTop (mkF m 238 #[oI pa, oI pb, oI pc, oI pd, oI mode, oI f1, oI f2, oI kd, oI c0, oI c1, oI c2, oI c3, oI by1, oI by2, .unset, .unset, .unset] [(.int (2 : Int32)), (.ref b30), (.ref b30), (.ref b29), (.ref b29)]))
          refine Done.step (fun _ => XS.iload X32.here hx rfl (hb hby at_238) rfl) ?_
          show Done _ p e below s _ _ (T32.setTop (mkF m 240 #[oI pa, oI pb, oI pc, oI pd, oI mode, oI f1, oI f2, oI kd, oI c0, oI c1, oI c2, oI c3, oI by1, oI by2, .unset, .unset, .unset] [(.int c2), (.int (2 : Int32)), (.ref b30), (.ref b30), (.ref b29), (.ref b29)]))
          obtain ⟨cl33, Ar33, q33, S33, Nn33, H33, G33⟩ := id V32
          have hin33 : ¬ ((2 : Int32) < 0 ∨ cl33.slots.size ≤ ((2 : Int32)).toNatClampNeg) := inb_of S33 ⟨by decide, by decide⟩
          obtain ⟨T33, h33, X33, e33, W33, st33⟩ := stC X32 hx hZ e32 Ar33 (j := (2 : Int32)) hin33 (g := (mkF m 240 #[oI pa, oI pb, oI pc, oI pd, oI mode, oI f1, oI f2, oI kd, oI c0, oI c1, oI c2, oI c3, oI by1, oI by2, .unset, .unset, .unset] [(.int c2), (.int (2 : Int32)), (.ref b30), (.ref b30), (.ref b29), (.ref b29)])) rfl rfl (hb hby at_240)
          have V33 := Arv.set Ar33 q33 S33 Nn33 H33 G33 (fits_nar_char _) W33 2 rfl (Nat.le_of_ble_eq_true rfl)
          have N33 := Fr.snoc X33 N32 n0_b30
          have Zs33 := Nat.le_trans Zs32 (Keep.of_wr W33).1
          have hk := Nat.le_trans hk (Keep.of_wr W33).1
          refine Done.step st33 ?_
          show Done _ p e below s _ _ (T33.setTop (mkF m 241 #[oI pa, oI pb, oI pc, oI pd, oI mode, oI f1, oI f2, oI kd, oI c0, oI c1, oI c2, oI c3, oI by1, oI by2, .unset, .unset, .unset] [(.ref b30), (.ref b29), (.ref b29)]))
          refine Done.step (fun _ => XS.dup X33.here hx rfl (hb hby at_241) rfl rfl) ?_
          show Done _ p e below s _ _ (T33.setTop (mkF m 242 #[oI pa, oI pb, oI pc, oI pd, oI mode, oI f1, oI f2, oI kd, oI c0, oI c1, oI c2, oI c3, oI by1, oI by2, .unset, .unset, .unset] [(.ref b30), (.ref b30), (.ref b29), (.ref b29)]))
          refine Done.step (fun _ => XT.iconstV X33.here hx rfl (3 : Int32) (hb hby at_242) (by decide)) ?_
          show Done _ p e below s _ _ (T33.setTop (mkF m 243 #[oI pa, oI pb, oI pc, oI pd, oI mode, oI f1, oI f2, oI kd, oI c0, oI c1, oI c2, oI c3, oI by1, oI by2, .unset, .unset, .unset] [(.int (3 : Int32)), (.ref b30), (.ref b30), (.ref b29), (.ref b29)]))
          refine Done.step (fun _ => XS.iload X33.here hx rfl (hb hby at_243) rfl) ?_
          show Done _ p e below s _ _ (T33.setTop (mkF m 245 #[oI pa, oI pb, oI pc, oI pd, oI mode, oI f1, oI f2, oI kd, oI c0, oI c1, oI c2, oI c3, oI by1, oI by2, .unset, .unset, .unset] [(.int c3), (.int (3 : Int32)), (.ref b30), (.ref b30), (.ref b29), (.ref b29)]))
          obtain ⟨cl34, Ar34, q34, S34, Nn34, H34, G34⟩ := id V33
          have hin34 : ¬ ((3 : Int32) < 0 ∨ cl34.slots.size ≤ ((3 : Int32)).toNatClampNeg) := inb_of S34 ⟨by decide, by decide⟩
          obtain ⟨T34, h34, X34, e34, W34, st34⟩ := stC X33 hx hZ e33 Ar34 (j := (3 : Int32)) hin34 (g := (mkF m 245 #[oI pa, oI pb, oI pc, oI pd, oI mode, oI f1, oI f2, oI kd, oI c0, oI c1, oI c2, oI c3, oI by1, oI by2, .unset, .unset, .unset] [(.int c3), (.int (3 : Int32)), (.ref b30), (.ref b30), (.ref b29), (.ref b29)])) rfl rfl (hb hby at_245)
          have V34 := Arv.set Ar34 q34 S34 Nn34 H34 G34 (fits_nar_char _) W34 3 rfl (Nat.le_of_ble_eq_true rfl)
          have N34 := Fr.snoc X34 N33 n0_b30
          have Zs34 := Nat.le_trans Zs33 (Keep.of_wr W34).1
          have hk := Nat.le_trans hk (Keep.of_wr W34).1
          refine Done.step st34 ?_
          show Done _ p e below s _ _ (T34.setTop (mkF m 246 #[oI pa, oI pb, oI pc, oI pd, oI mode, oI f1, oI f2, oI kd, oI c0, oI c1, oI c2, oI c3, oI by1, oI by2, .unset, .unset, .unset] [(.ref b30), (.ref b29), (.ref b29)]))
          have f35 := (((((A29.ext E30).wr W31).wr W32).wr W33).wr W34)
          have f36 := (((((F_value_b29.ext E30).other W31 (Or.inl ne_b29_b30)).other W32 (Or.inl ne_b29_b30)).other W33 (Or.inl ne_b29_b30)).other W34 (Or.inl ne_b29_b30))
          have f37 := (((((F_coder_b29.ext E30).other W31 (Or.inl ne_b29_b30)).other W32 (Or.inl ne_b29_b30)).other W33 (Or.inl ne_b29_b30)).other W34 (Or.inl ne_b29_b30))
          have f38 := ((((((O0.ext E29).ext E30).wr W31 n0_b30).wr W32 n0_b30).wr W33 n0_b30).wr W34 n0_b30)
          have Vs39 : Arv Z h34 b30 k30 .char (4 : Int32) [(.int (nar .char c0)), (.int (nar .char c1)), (.int (nar .char c2)), (.int (nar .char c3))] (.int (0 : Int32)) := V34
          rw [own_nar2 hb0, own_nar2 hb1, own_nar2 hb2, own_nar2 hb3] at Vs39
          refine Done.callI X34 hx hZ rfl hown (wAt hw 13 rfl) (wAt hw 14 rfl) (wAt hw 11 rfl) (wAt hw 15 rfl) (by decide) (un_4 l Z a0 hw [] b29 b30 k30 c0 c1 c2 c3 z h34 n0 Zs34 f35 f36 f37 n0_b29 f38 SC hz SA SH SL Vs39 (Ne.symm ne_b29_b30) hb0 hb1 hb2 hb3) (fun _ _ => trivial) e34 (g := (mkF m 246 #[oI pa, oI pb, oI pc, oI pd, oI mode, oI f1, oI f2, oI kd, oI c0, oI c1, oI c2, oI c3, oI by1, oI by2, .unset, .unset, .unset] [(.ref b30), (.ref b29), (.ref b29)])) rfl (by rw [hml]; rfl) b29 [(.ref b30)] [(.ref b29)] 1 (lenOf pd_19 rfl) rfl rfl (by show 2 * 0 + _ ≤ _; exact Nat.le_of_eq rfl) (hb hby at_246) (by decide) (by decide) (by decide) (by decide) ?_
          intro T39 v39 L39 X39 q39
          obtain ⟨rfl, Nq39, K39q, bU, ku, szu, Eq39, Vq39, q39⟩ := q39
          have N39 := Fr.app N34 Nq39
          have Zs39 := Nat.le_trans Zs34 K39q.1
          have hk := Nat.le_trans hk K39q.1
          show Done _ p e below s _ _ (T39.setTop (mkF m 249 #[oI pa, oI pb, oI pc, oI pd, oI mode, oI f1, oI f2, oI kd, oI c0, oI c1, oI c2, oI c3, oI by1, oI by2, .unset, .unset, .unset] [(.ref b29)]))
          refine Done.step (fun _ => XS.astore X39.here hx rfl (hb hby at_249) rfl rfl (l' := #[oI pa, oI pb, oI pc, oI pd, oI mode, oI f1, oI f2, oI kd, oI c0, oI c1, oI c2, oI c3, oI by1, oI by2, oR b29, .unset, .unset]) rfl) ?_
          show Done _ p e below s _ _ (T39.setTop (mkF m 251 #[oI pa, oI pb, oI pc, oI pd, oI mode, oI f1, oI f2, oI kd, oI c0, oI c1, oI c2, oI c3, oI by1, oI by2, oR b29, .unset, .unset] []))
          refine Done.step (fun _ => XS.iload X39.here hx rfl (hb hby at_251) rfl) ?_
          show Done _ p e below s _ _ (T39.setTop (mkF m 253 #[oI pa, oI pb, oI pc, oI pd, oI mode, oI f1, oI f2, oI kd, oI c0, oI c1, oI c2, oI c3, oI by1, oI by2, oR b29, .unset, .unset] [(.int by1)]))
          refine Done.step (fun _ => XS.iload X39.here hx rfl (hb hby at_253) rfl) ?_
          show Done _ p e below s _ _ (T39.setTop (mkF m 255 #[oI pa, oI pb, oI pc, oI pd, oI mode, oI f1, oI f2, oI kd, oI c0, oI c1, oI c2, oI c3, oI by1, oI by2, oR b29, .unset, .unset] [(.int by2), (.int by1)]))
          refine Done.step (fun _ => XS.iadd X39.here hx rfl (hb hby at_255) rfl) ?_
          show Done _ p e below s _ _ (T39.setTop (mkF m 256 #[oI pa, oI pb, oI pc, oI pd, oI mode, oI f1, oI f2, oI kd, oI c0, oI c1, oI c2, oI c3, oI by1, oI by2, oR b29, .unset, .unset] [(.int (by1 + by2))]))
          refine Done.step (fun _ => XS.istore X39.here hx rfl (hb hby at_256) rfl (l' := #[oI pa, oI pb, oI pc, oI pd, oI mode, oI f1, oI f2, oI kd, oI c0, oI c1, oI c2, oI c3, oI by1, oI by2, oR b29, oI (by1 + by2), .unset]) rfl) ?_
          show Done _ p e below s _ _ (T39.setTop (mkF m 258 #[oI pa, oI pb, oI pc, oI pd, oI mode, oI f1, oI f2, oI kd, oI c0, oI c1, oI c2, oI c3, oI by1, oI by2, oR b29, oI (by1 + by2), .unset] []))
          refine Done.step (fun _ => XS.aload X39.here hx rfl (hb hby at_258) rfl rfl) ?_
          show Done _ p e below s _ _ (T39.setTop (mkF m 260 #[oI pa, oI pb, oI pc, oI pd, oI mode, oI f1, oI f2, oI kd, oI c0, oI c1, oI c2, oI c3, oI by1, oI by2, oR b29, oI (by1 + by2), .unset] [(.ref b29)]))
          have f40 := (f38.keep K39q (allS n0_b29 all0))
          refine Done.callSP X39 hx hZ hown (wAt hw 31 rfl) (wAt hw 32 rfl) (wAt hw 33 rfl) (wAt hw 34 rfl) (by decide) (rQ4 l Z a0 hw [] b29 bU ku c0 c1 c2 c3 z fm T39.heap n0 Zs39 f40 SC hz SF rF SA SH SL Eq39 Vq39 q39 hb0 hb1 hb2 hb3) rfl (g := (mkF m 260 #[oI pa, oI pb, oI pc, oI pd, oI mode, oI f1, oI f2, oI kd, oI c0, oI c1, oI c2, oI c3, oI by1, oI by2, oR b29, oI (by1 + by2), .unset] [(.ref b29)])) rfl (by rw [hml]; rfl) [(.ref b29)] [] 0 (lenOf pd_20 rfl) rfl rfl (by show 2 * 0 + _ ≤ _; exact Nat.le_of_eq rfl) (hb hby at_260) (by decide) (by decide) (by decide) (by decide) rfl rfl ?_
          intro T41 X41 e41
          show Done _ p e below s _ _ (T41.setTop (mkF m 263 #[oI pa, oI pb, oI pc, oI pd, oI mode, oI f1, oI f2, oI kd, oI c0, oI c1, oI c2, oI c3, oI by1, oI by2, oR b29, oI (by1 + by2), .unset] [(.int (((((0 : Int32) + own_ub c0) + own_ub c1) + own_ub c2) + own_ub c3))]))
          refine Done.step (fun _ => XS.iload X41.here hx rfl (hb hby at_263) rfl) ?_
          show Done _ p e below s _ _ (T41.setTop (mkF m 265 #[oI pa, oI pb, oI pc, oI pd, oI mode, oI f1, oI f2, oI kd, oI c0, oI c1, oI c2, oI c3, oI by1, oI by2, oR b29, oI (by1 + by2), .unset] [(.int (by1 + by2)), (.int (((((0 : Int32) + own_ub c0) + own_ub c1) + own_ub c2) + own_ub c3))]))
          refine Done.step (fun _ => XS.icmpNo X41.here hx rfl (hb hby at_265) rfl (XT.ii_ne_f (own_t4 h01 h23))) ?_
          show Done _ p e below s _ _ (T41.setTop (mkF m 268 #[oI pa, oI pb, oI pc, oI pd, oI mode, oI f1, oI f2, oI kd, oI c0, oI c1, oI c2, oI c3, oI by1, oI by2, oR b29, oI (by1 + by2), .unset] []))
          refine Done.step (fun _ => XT.iconstV X41.here hx rfl (1 : Int32) (hb hby at_268) (by decide)) ?_
          show Done _ p e below s _ _ (T41.setTop (mkF m 269 #[oI pa, oI pb, oI pc, oI pd, oI mode, oI f1, oI f2, oI kd, oI c0, oI c1, oI c2, oI c3, oI by1, oI by2, oR b29, oI (by1 + by2), .unset] [(.int (1 : Int32))]))
          refine Done.step (fun _ => XS.goto X41.here hx rfl (pc0 := 269) (pc' := 273) rfl (hb hby at_269) (by decide) (by decide)) ?_
          show Done _ p e below s _ _ (T41.setTop (mkF m 273 #[oI pa, oI pb, oI pc, oI pd, oI mode, oI f1, oI f2, oI kd, oI c0, oI c1, oI c2, oI c3, oI by1, oI by2, oR b29, oI (by1 + by2), .unset] [(.int (1 : Int32))]))
          exact Done.retN (leavesW X41 hS (by first | exact hk | (rw [e41]; exact hk)) hlk (by decide) (by decide)) X41 hx (t := .boolean) hret (by simp) (hb hby at_273) ⟨rfl, N39⟩
  refine Done.step (fun _ => XT.iconstV X0.here hx rfl (1 : Int32) (hb hby at_2) (by decide)) ?_
  show Done _ p e below s _ _ (T0.setTop (mkF m 3 #[oI pa, oI pb, oI pc, oI pd, oI mode, .unset, .unset, .unset, .unset, .unset, .unset, .unset, .unset, .unset, .unset, .unset, .unset] [(.int (1 : Int32)), (.int mode)]))
  refine Done.step (fun _ => XS.iand X0.here hx rfl (hb hby at_3) rfl) ?_
  show Done _ p e below s _ _ (T0.setTop (mkF m 4 #[oI pa, oI pb, oI pc, oI pd, oI mode, .unset, .unset, .unset, .unset, .unset, .unset, .unset, .unset, .unset, .unset, .unset, .unset] [(.int (mode &&& (1 : Int32)))]))
  by_cases hc42 : (mode &&& (1 : Int32)) = (0 : Int32)
  · refine Done.step (fun _ => XS.ifYes X0.here hx rfl (pc0 := 4) (pc' := 11) rfl (hb hby at_4) rfl (XT.i0_eq_t hc42) (by decide) (by decide)) ?_
    show Done _ p e below s _ _ (T0.setTop (mkF m 11 #[oI pa, oI pb, oI pc, oI pd, oI mode, .unset, .unset, .unset, .unset, .unset, .unset, .unset, .unset, .unset, .unset, .unset, .unset] []))
    refine Done.step (fun _ => XT.iconstV X0.here hx rfl (0 : Int32) (hb hby at_11) (by decide)) ?_
    show Done _ p e below s _ _ (T0.setTop (mkF m 12 #[oI pa, oI pb, oI pc, oI pd, oI mode, .unset, .unset, .unset, .unset, .unset, .unset, .unset, .unset, .unset, .unset, .unset, .unset] [(.int (0 : Int32))]))
    refine Done.step (fun _ => XS.istore X0.here hx rfl (hb hby at_12) rfl (l' := #[oI pa, oI pb, oI pc, oI pd, oI mode, oI (0 : Int32), .unset, .unset, .unset, .unset, .unset, .unset, .unset, .unset, .unset, .unset, .unset]) rfl) ?_
    show Done _ p e below s _ _ (T0.setTop (mkF m 14 #[oI pa, oI pb, oI pc, oI pd, oI mode, oI (0 : Int32), .unset, .unset, .unset, .unset, .unset, .unset, .unset, .unset, .unset, .unset, .unset] []))
    refine Done.step (fun _ => XS.iload X0.here hx rfl (hb hby at_14) rfl) ?_
    show Done _ p e below s _ _ (T0.setTop (mkF m 16 #[oI pa, oI pb, oI pc, oI pd, oI mode, oI (0 : Int32), .unset, .unset, .unset, .unset, .unset, .unset, .unset, .unset, .unset, .unset, .unset] [(.int mode)]))
    refine Done.step (fun _ => XT.iconstV X0.here hx rfl (2 : Int32) (hb hby at_16) (by decide)) ?_
    show Done _ p e below s _ _ (T0.setTop (mkF m 17 #[oI pa, oI pb, oI pc, oI pd, oI mode, oI (0 : Int32), .unset, .unset, .unset, .unset, .unset, .unset, .unset, .unset, .unset, .unset, .unset] [(.int (2 : Int32)), (.int mode)]))
    refine Done.step (fun _ => XS.iand X0.here hx rfl (hb hby at_17) rfl) ?_
    show Done _ p e below s _ _ (T0.setTop (mkF m 18 #[oI pa, oI pb, oI pc, oI pd, oI mode, oI (0 : Int32), .unset, .unset, .unset, .unset, .unset, .unset, .unset, .unset, .unset, .unset, .unset] [(.int (mode &&& (2 : Int32)))]))
    by_cases hc43 : (mode &&& (2 : Int32)) = (0 : Int32)
    · refine Done.step (fun _ => XS.ifYes X0.here hx rfl (pc0 := 18) (pc' := 25) rfl (hb hby at_18) rfl (XT.i0_eq_t hc43) (by decide) (by decide)) ?_
      show Done _ p e below s _ _ (T0.setTop (mkF m 25 #[oI pa, oI pb, oI pc, oI pd, oI mode, oI (0 : Int32), .unset, .unset, .unset, .unset, .unset, .unset, .unset, .unset, .unset, .unset, .unset] []))
      refine Done.step (fun _ => XT.iconstV X0.here hx rfl (0 : Int32) (hb hby at_25) (by decide)) ?_
      show Done _ p e below s _ _ (T0.setTop (mkF m 26 #[oI pa, oI pb, oI pc, oI pd, oI mode, oI (0 : Int32), .unset, .unset, .unset, .unset, .unset, .unset, .unset, .unset, .unset, .unset, .unset] [(.int (0 : Int32))]))
      refine Done.step (fun _ => XS.istore X0.here hx rfl (hb hby at_26) rfl (l' := #[oI pa, oI pb, oI pc, oI pd, oI mode, oI (0 : Int32), oI (0 : Int32), .unset, .unset, .unset, .unset, .unset, .unset, .unset, .unset, .unset, .unset]) rfl) ?_
      show Done _ p e below s _ _ (T0.setTop (mkF m 28 #[oI pa, oI pb, oI pc, oI pd, oI mode, oI (0 : Int32), oI (0 : Int32), .unset, .unset, .unset, .unset, .unset, .unset, .unset, .unset, .unset, .unset] []))
      refine Done.step (fun _ => XS.iload X0.here hx rfl (hb hby at_28) rfl) ?_
      show Done _ p e below s _ _ (T0.setTop (mkF m 30 #[oI pa, oI pb, oI pc, oI pd, oI mode, oI (0 : Int32), oI (0 : Int32), .unset, .unset, .unset, .unset, .unset, .unset, .unset, .unset, .unset, .unset] [(.int mode)]))
      refine Done.step (fun _ => XT.iconstV X0.here hx rfl (2 : Int32) (hb hby at_30) (by decide)) ?_
      show Done _ p e below s _ _ (T0.setTop (mkF m 31 #[oI pa, oI pb, oI pc, oI pd, oI mode, oI (0 : Int32), oI (0 : Int32), .unset, .unset, .unset, .unset, .unset, .unset, .unset, .unset, .unset, .unset] [(.int (2 : Int32)), (.int mode)]))
      refine Done.step (fun _ => XT.iushr X0.here hx rfl (hb hby at_31) rfl) ?_
      show Done _ p e below s _ _ (T0.setTop (mkF m 32 #[oI pa, oI pb, oI pc, oI pd, oI mode, oI (0 : Int32), oI (0 : Int32), .unset, .unset, .unset, .unset, .unset, .unset, .unset, .unset, .unset, .unset] [(.int ((mode.toUInt32 >>> ((2 : Int32) &&& 31).toUInt32).toInt32))]))
      refine Done.step (fun _ => XT.iconstV X0.here hx rfl (3 : Int32) (hb hby at_32) (by decide)) ?_
      show Done _ p e below s _ _ (T0.setTop (mkF m 33 #[oI pa, oI pb, oI pc, oI pd, oI mode, oI (0 : Int32), oI (0 : Int32), .unset, .unset, .unset, .unset, .unset, .unset, .unset, .unset, .unset, .unset] [(.int (3 : Int32)), (.int ((mode.toUInt32 >>> ((2 : Int32) &&& 31).toUInt32).toInt32))]))
      refine Done.step (fun _ => XS.iand X0.here hx rfl (hb hby at_33) rfl) ?_
      show Done _ p e below s _ _ (T0.setTop (mkF m 34 #[oI pa, oI pb, oI pc, oI pd, oI mode, oI (0 : Int32), oI (0 : Int32), .unset, .unset, .unset, .unset, .unset, .unset, .unset, .unset, .unset, .unset] [(.int (((mode.toUInt32 >>> ((2 : Int32) &&& 31).toUInt32).toInt32) &&& (3 : Int32)))]))
      refine Done.step (fun _ => XS.istore X0.here hx rfl (hb hby at_34) rfl (l' := #[oI pa, oI pb, oI pc, oI pd, oI mode, oI (0 : Int32), oI (0 : Int32), oI (((mode.toUInt32 >>> ((2 : Int32) &&& 31).toUInt32).toInt32) &&& (3 : Int32)), .unset, .unset, .unset, .unset, .unset, .unset, .unset, .unset, .unset]) rfl) ?_
      show Done _ p e below s _ _ (T0.setTop (mkF m 36 #[oI pa, oI pb, oI pc, oI pd, oI mode, oI (0 : Int32), oI (0 : Int32), oI (((mode.toUInt32 >>> ((2 : Int32) &&& 31).toUInt32).toInt32) &&& (3 : Int32)), .unset, .unset, .unset, .unset, .unset, .unset, .unset, .unset, .unset] []))
      refine Done.step (fun _ => XS.iload X0.here hx rfl (hb hby at_36) rfl) ?_
      show Done _ p e below s _ _ (T0.setTop (mkF m 38 #[oI pa, oI pb, oI pc, oI pd, oI mode, oI (0 : Int32), oI (0 : Int32), oI (((mode.toUInt32 >>> ((2 : Int32) &&& 31).toUInt32).toInt32) &&& (3 : Int32)), .unset, .unset, .unset, .unset, .unset, .unset, .unset, .unset, .unset] [(.int (0 : Int32))]))
      refine Done.step (fun _ => XS.ifYes X0.here hx rfl (pc0 := 38) (pc' := 59) rfl (hb hby at_38) rfl (XT.i0_eq_t rfl) (by decide) (by decide)) ?_
      show Done _ p e below s _ _ (T0.setTop (mkF m 59 #[oI pa, oI pb, oI pc, oI pd, oI mode, oI (0 : Int32), oI (0 : Int32), oI (((mode.toUInt32 >>> ((2 : Int32) &&& 31).toUInt32).toInt32) &&& (3 : Int32)), .unset, .unset, .unset, .unset, .unset, .unset, .unset, .unset, .unset] []))
      refine Done.step (fun _ => XS.iloadN X0.here hx rfl (hb hby at_59) rfl) ?_
      show Done _ p e below s _ _ (T0.setTop (mkF m 60 #[oI pa, oI pb, oI pc, oI pd, oI mode, oI (0 : Int32), oI (0 : Int32), oI (((mode.toUInt32 >>> ((2 : Int32) &&& 31).toUInt32).toInt32) &&& (3 : Int32)), .unset, .unset, .unset, .unset, .unset, .unset, .unset, .unset, .unset] [(.int pa)]))
      refine Done.callSP X0 hx hZ hown (wAt hw 0 rfl) (wAt hw 1 rfl) (wAt hw 2 rfl) (wAt hw 3 rfl) (by decide) (rB l Z a0 hw [] pa h0 n0 Z0) e0 (g := (mkF m 60 #[oI pa, oI pb, oI pc, oI pd, oI mode, oI (0 : Int32), oI (0 : Int32), oI (((mode.toUInt32 >>> ((2 : Int32) &&& 31).toUInt32).toInt32) &&& (3 : Int32)), .unset, .unset, .unset, .unset, .unset, .unset, .unset, .unset, .unset] [(.int pa)])) rfl (by rw [hml]; rfl) [(.int pa)] [] 0 (lenOf pd_15 rfl) rfl rfl (by show 2 * 0 + _ ≤ _; exact Nat.le_of_eq rfl) (hb hby at_60) (by decide) (by decide) (by decide) (by decide) rfl rfl ?_
      intro T44 X44 e44
      show Done _ p e below s _ _ (T44.setTop (mkF m 63 #[oI pa, oI pb, oI pc, oI pd, oI mode, oI (0 : Int32), oI (0 : Int32), oI (((mode.toUInt32 >>> ((2 : Int32) &&& 31).toUInt32).toInt32) &&& (3 : Int32)), .unset, .unset, .unset, .unset, .unset, .unset, .unset, .unset, .unset] [(.int (own_bmp pa))]))
      refine Done.step (fun _ => XS.istore X44.here hx rfl (hb hby at_63) rfl (l' := #[oI pa, oI pb, oI pc, oI pd, oI mode, oI (0 : Int32), oI (0 : Int32), oI (((mode.toUInt32 >>> ((2 : Int32) &&& 31).toUInt32).toInt32) &&& (3 : Int32)), oI (own_bmp pa), .unset, .unset, .unset, .unset, .unset, .unset, .unset, .unset]) rfl) ?_
      show Done _ p e below s _ _ (T44.setTop (mkF m 65 #[oI pa, oI pb, oI pc, oI pd, oI mode, oI (0 : Int32), oI (0 : Int32), oI (((mode.toUInt32 >>> ((2 : Int32) &&& 31).toUInt32).toInt32) &&& (3 : Int32)), oI (own_bmp pa), .unset, .unset, .unset, .unset, .unset, .unset, .unset, .unset] []))
      refine Done.step (fun _ => XS.iloadN X44.here hx rfl (hb hby at_65) rfl) ?_
      show Done _ p e below s _ _ (T44.setTop (mkF m 66 #[oI pa, oI pb, oI pc, oI pd, oI mode, oI (0 : Int32), oI (0 : Int32), oI (((mode.toUInt32 >>> ((2 : Int32) &&& 31).toUInt32).toInt32) &&& (3 : Int32)), oI (own_bmp pa), .unset, .unset, .unset, .unset, .unset, .unset, .unset, .unset] [(.int pb)]))
      refine Done.callSP X44 hx hZ hown (wAt hw 0 rfl) (wAt hw 1 rfl) (wAt hw 2 rfl) (wAt hw 3 rfl) (by decide) (rB l Z a0 hw [] pb h0 n0 Z0) e44 (g := (mkF m 66 #[oI pa, oI pb, oI pc, oI pd, oI mode, oI (0 : Int32), oI (0 : Int32), oI (((mode.toUInt32 >>> ((2 : Int32) &&& 31).toUInt32).toInt32) &&& (3 : Int32)), oI (own_bmp pa), .unset, .unset, .unset, .unset, .unset, .unset, .unset, .unset] [(.int pb)])) rfl (by rw [hml]; rfl) [(.int pb)] [] 0 (lenOf pd_15 rfl) rfl rfl (by show 2 * 0 + _ ≤ _; exact Nat.le_of_eq rfl) (hb hby at_66) (by decide) (by decide) (by decide) (by decide) rfl rfl ?_
      intro T45 X45 e45
      show Done _ p e below s _ _ (T45.setTop (mkF m 69 #[oI pa, oI pb, oI pc, oI pd, oI mode, oI (0 : Int32), oI (0 : Int32), oI (((mode.toUInt32 >>> ((2 : Int32) &&& 31).toUInt32).toInt32) &&& (3 : Int32)), oI (own_bmp pa), .unset, .unset, .unset, .unset, .unset, .unset, .unset, .unset] [(.int (own_bmp pb))]))
      refine Done.step (fun _ => XS.istore X45.here hx rfl (hb hby at_69) rfl (l' := #[oI pa, oI pb, oI pc, oI pd, oI mode, oI (0 : Int32), oI (0 : Int32), oI (((mode.toUInt32 >>> ((2 : Int32) &&& 31).toUInt32).toInt32) &&& (3 : Int32)), oI (own_bmp pa), oI (own_bmp pb), .unset, .unset, .unset, .unset, .unset, .unset, .unset]) rfl) ?_
      show Done _ p e below s _ _ (T45.setTop (mkF m 71 #[oI pa, oI pb, oI pc, oI pd, oI mode, oI (0 : Int32), oI (0 : Int32), oI (((mode.toUInt32 >>> ((2 : Int32) &&& 31).toUInt32).toInt32) &&& (3 : Int32)), oI (own_bmp pa), oI (own_bmp pb), .unset, .unset, .unset, .unset, .unset, .unset, .unset] []))
      refine Done.step (fun _ => XS.iload X45.here hx rfl (hb hby at_71) rfl) ?_
      show Done _ p e below s _ _ (T45.setTop (mkF m 73 #[oI pa, oI pb, oI pc, oI pd, oI mode, oI (0 : Int32), oI (0 : Int32), oI (((mode.toUInt32 >>> ((2 : Int32) &&& 31).toUInt32).toInt32) &&& (3 : Int32)), oI (own_bmp pa), oI (own_bmp pb), .unset, .unset, .unset, .unset, .unset, .unset, .unset] [(.int (own_bmp pa))]))
      refine Done.callSP X45 hx hZ hown (wAt hw 6 rfl) (wAt hw 7 rfl) (wAt hw 2 rfl) (wAt hw 8 rfl) (by decide) (rBB l Z a0 hw [] (own_bmp pa) h0 n0 Z0) e45 (g := (mkF m 73 #[oI pa, oI pb, oI pc, oI pd, oI mode, oI (0 : Int32), oI (0 : Int32), oI (((mode.toUInt32 >>> ((2 : Int32) &&& 31).toUInt32).toInt32) &&& (3 : Int32)), oI (own_bmp pa), oI (own_bmp pb), .unset, .unset, .unset, .unset, .unset, .unset, .unset] [(.int (own_bmp pa))])) rfl (by rw [hml]; rfl) [(.int (own_bmp pa))] [] 0 (lenOf pd_22 rfl) rfl rfl (by show 2 * 0 + _ ≤ _; exact Nat.le_of_eq rfl) (hb hby at_73) (by decide) (by decide) (by decide) (by decide) rfl rfl ?_
      intro T46 X46 e46
      show Done _ p e below s _ _ (T46.setTop (mkF m 76 #[oI pa, oI pb, oI pc, oI pd, oI mode, oI (0 : Int32), oI (0 : Int32), oI (((mode.toUInt32 >>> ((2 : Int32) &&& 31).toUInt32).toInt32) &&& (3 : Int32)), oI (own_bmp pa), oI (own_bmp pb), .unset, .unset, .unset, .unset, .unset, .unset, .unset] [(.int (own_bb (own_bmp pa)))]))
      refine Done.step (fun _ => XS.iload X46.here hx rfl (hb hby at_76) rfl) ?_
      show Done _ p e below s _ _ (T46.setTop (mkF m 78 #[oI pa, oI pb, oI pc, oI pd, oI mode, oI (0 : Int32), oI (0 : Int32), oI (((mode.toUInt32 >>> ((2 : Int32) &&& 31).toUInt32).toInt32) &&& (3 : Int32)), oI (own_bmp pa), oI (own_bmp pb), .unset, .unset, .unset, .unset, .unset, .unset, .unset] [(.int (own_bmp pb)), (.int (own_bb (own_bmp pa)))]))
      refine Done.callSP X46 hx hZ hown (wAt hw 6 rfl) (wAt hw 7 rfl) (wAt hw 2 rfl) (wAt hw 8 rfl) (by decide) (rBB l Z a0 hw [] (own_bmp pb) h0 n0 Z0) e46 (g := (mkF m 78 #[oI pa, oI pb, oI pc, oI pd, oI mode, oI (0 : Int32), oI (0 : Int32), oI (((mode.toUInt32 >>> ((2 : Int32) &&& 31).toUInt32).toInt32) &&& (3 : Int32)), oI (own_bmp pa), oI (own_bmp pb), .unset, .unset, .unset, .unset, .unset, .unset, .unset] [(.int (own_bmp pb)), (.int (own_bb (own_bmp pa)))])) rfl (by rw [hml]; rfl) [(.int (own_bmp pb))] [(.int (own_bb (own_bmp pa)))] 1 (lenOf pd_22 rfl) rfl rfl (by show 2 * 0 + _ ≤ _; exact Nat.le_of_eq rfl) (hb hby at_78) (by decide) (by decide) (by decide) (by decide) rfl rfl ?_
      intro T47 X47 e47
      show Done _ p e below s _ _ (T47.setTop (mkF m 81 #[oI pa, oI pb, oI pc, oI pd, oI mode, oI (0 : Int32), oI (0 : Int32), oI (((mode.toUInt32 >>> ((2 : Int32) &&& 31).toUInt32).toInt32) &&& (3 : Int32)), oI (own_bmp pa), oI (own_bmp pb), .unset, .unset, .unset, .unset, .unset, .unset, .unset] [(.int (own_bb (own_bmp pb))), (.int (own_bb (own_bmp pa)))]))
      refine Done.step (fun _ => XS.iadd X47.here hx rfl (hb hby at_81) rfl) ?_
      show Done _ p e below s _ _ (T47.setTop (mkF m 82 #[oI pa, oI pb, oI pc, oI pd, oI mode, oI (0 : Int32), oI (0 : Int32), oI (((mode.toUInt32 >>> ((2 : Int32) &&& 31).toUInt32).toInt32) &&& (3 : Int32)), oI (own_bmp pa), oI (own_bmp pb), .unset, .unset, .unset, .unset, .unset, .unset, .unset] [(.int ((own_bb (own_bmp pa)) + (own_bb (own_bmp pb))))]))
      refine Done.step (fun _ => XS.istore X47.here hx rfl (hb hby at_82) rfl (l' := #[oI pa, oI pb, oI pc, oI pd, oI mode, oI (0 : Int32), oI (0 : Int32), oI (((mode.toUInt32 >>> ((2 : Int32) &&& 31).toUInt32).toInt32) &&& (3 : Int32)), oI (own_bmp pa), oI (own_bmp pb), .unset, .unset, oI ((own_bb (own_bmp pa)) + (own_bb (own_bmp pb))), .unset, .unset, .unset, .unset]) rfl) ?_
      show Done _ p e below s _ _ (T47.setTop (mkF m 84 #[oI pa, oI pb, oI pc, oI pd, oI mode, oI (0 : Int32), oI (0 : Int32), oI (((mode.toUInt32 >>> ((2 : Int32) &&& 31).toUInt32).toInt32) &&& (3 : Int32)), oI (own_bmp pa), oI (own_bmp pb), .unset, .unset, oI ((own_bb (own_bmp pa)) + (own_bb (own_bmp pb))), .unset, .unset, .unset, .unset] []))
      refine Done.step (fun _ => XS.iload X47.here hx rfl (hb hby at_84) rfl) ?_
      show Done _ p e below s _ _ (T47.setTop (mkF m 86 #[oI pa, oI pb, oI pc, oI pd, oI mode, oI (0 : Int32), oI (0 : Int32), oI (((mode.toUInt32 >>> ((2 : Int32) &&& 31).toUInt32).toInt32) &&& (3 : Int32)), oI (own_bmp pa), oI (own_bmp pb), .unset, .unset, oI ((own_bb (own_bmp pa)) + (own_bb (own_bmp pb))), .unset, .unset, .unset, .unset] [(.int (0 : Int32))]))
      refine Done.step (fun _ => XS.ifYes X47.here hx rfl (pc0 := 86) (pc' := 107) rfl (hb hby at_86) rfl (XT.i0_eq_t rfl) (by decide) (by decide)) ?_
      show Done _ p e below s _ _ (T47.setTop (mkF m 107 #[oI pa, oI pb, oI pc, oI pd, oI mode, oI (0 : Int32), oI (0 : Int32), oI (((mode.toUInt32 >>> ((2 : Int32) &&& 31).toUInt32).toInt32) &&& (3 : Int32)), oI (own_bmp pa), oI (own_bmp pb), .unset, .unset, oI ((own_bb (own_bmp pa)) + (own_bb (own_bmp pb))), .unset, .unset, .unset, .unset] []))
      refine Done.step (fun _ => XS.iloadN X47.here hx rfl (hb hby at_107) rfl) ?_
      show Done _ p e below s _ _ (T47.setTop (mkF m 108 #[oI pa, oI pb, oI pc, oI pd, oI mode, oI (0 : Int32), oI (0 : Int32), oI (((mode.toUInt32 >>> ((2 : Int32) &&& 31).toUInt32).toInt32) &&& (3 : Int32)), oI (own_bmp pa), oI (own_bmp pb), .unset, .unset, oI ((own_bb (own_bmp pa)) + (own_bb (own_bmp pb))), .unset, .unset, .unset, .unset] [(.int pc)]))
      refine Done.callSP X47 hx hZ hown (wAt hw 0 rfl) (wAt hw 1 rfl) (wAt hw 2 rfl) (wAt hw 3 rfl) (by decide) (rB l Z a0 hw [] pc h0 n0 Z0) e47 (g := (mkF m 108 #[oI pa, oI pb, oI pc, oI pd, oI mode, oI (0 : Int32), oI (0 : Int32), oI (((mode.toUInt32 >>> ((2 : Int32) &&& 31).toUInt32).toInt32) &&& (3 : Int32)), oI (own_bmp pa), oI (own_bmp pb), .unset, .unset, oI ((own_bb (own_bmp pa)) + (own_bb (own_bmp pb))), .unset, .unset, .unset, .unset] [(.int pc)])) rfl (by rw [hml]; rfl) [(.int pc)] [] 0 (lenOf pd_15 rfl) rfl rfl (by show 2 * 0 + _ ≤ _; exact Nat.le_of_eq rfl) (hb hby at_108) (by decide) (by decide) (by decide) (by decide) rfl rfl ?_
      intro T48 X48 e48
      show Done _ p e below s _ _ (T48.setTop (mkF m 111 #[oI pa, oI pb, oI pc, oI pd, oI mode, oI (0 : Int32), oI (0 : Int32), oI (((mode.toUInt32 >>> ((2 : Int32) &&& 31).toUInt32).toInt32) &&& (3 : Int32)), oI (own_bmp pa), oI (own_bmp pb), .unset, .unset, oI ((own_bb (own_bmp pa)) + (own_bb (own_bmp pb))), .unset, .unset, .unset, .unset] [(.int (own_bmp pc))]))
      refine Done.step (fun _ => XS.istore X48.here hx rfl (hb hby at_111) rfl (l' := #[oI pa, oI pb, oI pc, oI pd, oI mode, oI (0 : Int32), oI (0 : Int32), oI (((mode.toUInt32 >>> ((2 : Int32) &&& 31).toUInt32).toInt32) &&& (3 : Int32)), oI (own_bmp pa), oI (own_bmp pb), oI (own_bmp pc), .unset, oI ((own_bb (own_bmp pa)) + (own_bb (own_bmp pb))), .unset, .unset, .unset, .unset]) rfl) ?_
      show Done _ p e below s _ _ (T48.setTop (mkF m 113 #[oI pa, oI pb, oI pc, oI pd, oI mode, oI (0 : Int32), oI (0 : Int32), oI (((mode.toUInt32 >>> ((2 : Int32) &&& 31).toUInt32).toInt32) &&& (3 : Int32)), oI (own_bmp pa), oI (own_bmp pb), oI (own_bmp pc), .unset, oI ((own_bb (own_bmp pa)) + (own_bb (own_bmp pb))), .unset, .unset, .unset, .unset] []))
      refine Done.step (fun _ => XS.iloadN X48.here hx rfl (hb hby at_113) rfl) ?_
      show Done _ p e below s _ _ (T48.setTop (mkF m 114 #[oI pa, oI pb, oI pc, oI pd, oI mode, oI (0 : Int32), oI (0 : Int32), oI (((mode.toUInt32 >>> ((2 : Int32) &&& 31).toUInt32).toInt32) &&& (3 : Int32)), oI (own_bmp pa), oI (own_bmp pb), oI (own_bmp pc), .unset, oI ((own_bb (own_bmp pa)) + (own_bb (own_bmp pb))), .unset, .unset, .unset, .unset] [(.int pd)]))
      refine Done.callSP X48 hx hZ hown (wAt hw 0 rfl) (wAt hw 1 rfl) (wAt hw 2 rfl) (wAt hw 3 rfl) (by decide) (rB l Z a0 hw [] pd h0 n0 Z0) e48 (g := (mkF m 114 #[oI pa, oI pb, oI pc, oI pd, oI mode, oI (0 : Int32), oI (0 : Int32), oI (((mode.toUInt32 >>> ((2 : Int32) &&& 31).toUInt32).toInt32) &&& (3 : Int32)), oI (own_bmp pa), oI (own_bmp pb), oI (own_bmp pc), .unset, oI ((own_bb (own_bmp pa)) + (own_bb (own_bmp pb))), .unset, .unset, .unset, .unset] [(.int pd)])) rfl (by rw [hml]; rfl) [(.int pd)] [] 0 (lenOf pd_15 rfl) rfl rfl (by show 2 * 0 + _ ≤ _; exact Nat.le_of_eq rfl) (hb hby at_114) (by decide) (by decide) (by decide) (by decide) rfl rfl ?_
      intro T49 X49 e49
      show Done _ p e below s _ _ (T49.setTop (mkF m 117 #[oI pa, oI pb, oI pc, oI pd, oI mode, oI (0 : Int32), oI (0 : Int32), oI (((mode.toUInt32 >>> ((2 : Int32) &&& 31).toUInt32).toInt32) &&& (3 : Int32)), oI (own_bmp pa), oI (own_bmp pb), oI (own_bmp pc), .unset, oI ((own_bb (own_bmp pa)) + (own_bb (own_bmp pb))), .unset, .unset, .unset, .unset] [(.int (own_bmp pd))]))
      refine Done.step (fun _ => XS.istore X49.here hx rfl (hb hby at_117) rfl (l' := #[oI pa, oI pb, oI pc, oI pd, oI mode, oI (0 : Int32), oI (0 : Int32), oI (((mode.toUInt32 >>> ((2 : Int32) &&& 31).toUInt32).toInt32) &&& (3 : Int32)), oI (own_bmp pa), oI (own_bmp pb), oI (own_bmp pc), oI (own_bmp pd), oI ((own_bb (own_bmp pa)) + (own_bb (own_bmp pb))), .unset, .unset, .unset, .unset]) rfl) ?_
      show Done _ p e below s _ _ (T49.setTop (mkF m 119 #[oI pa, oI pb, oI pc, oI pd, oI mode, oI (0 : Int32), oI (0 : Int32), oI (((mode.toUInt32 >>> ((2 : Int32) &&& 31).toUInt32).toInt32) &&& (3 : Int32)), oI (own_bmp pa), oI (own_bmp pb), oI (own_bmp pc), oI (own_bmp pd), oI ((own_bb (own_bmp pa)) + (own_bb (own_bmp pb))), .unset, .unset, .unset, .unset] []))
      refine Done.step (fun _ => XS.iload X49.here hx rfl (hb hby at_119) rfl) ?_
      show Done _ p e below s _ _ (T49.setTop (mkF m 121 #[oI pa, oI pb, oI pc, oI pd, oI mode, oI (0 : Int32), oI (0 : Int32), oI (((mode.toUInt32 >>> ((2 : Int32) &&& 31).toUInt32).toInt32) &&& (3 : Int32)), oI (own_bmp pa), oI (own_bmp pb), oI (own_bmp pc), oI (own_bmp pd), oI ((own_bb (own_bmp pa)) + (own_bb (own_bmp pb))), .unset, .unset, .unset, .unset] [(.int (own_bmp pc))]))
      refine Done.callSP X49 hx hZ hown (wAt hw 6 rfl) (wAt hw 7 rfl) (wAt hw 2 rfl) (wAt hw 8 rfl) (by decide) (rBB l Z a0 hw [] (own_bmp pc) h0 n0 Z0) e49 (g := (mkF m 121 #[oI pa, oI pb, oI pc, oI pd, oI mode, oI (0 : Int32), oI (0 : Int32), oI (((mode.toUInt32 >>> ((2 : Int32) &&& 31).toUInt32).toInt32) &&& (3 : Int32)), oI (own_bmp pa), oI (own_bmp pb), oI (own_bmp pc), oI (own_bmp pd), oI ((own_bb (own_bmp pa)) + (own_bb (own_bmp pb))), .unset, .unset, .unset, .unset] [(.int (own_bmp pc))])) rfl (by rw [hml]; rfl) [(.int (own_bmp pc))] [] 0 (lenOf pd_22 rfl) rfl rfl (by show 2 * 0 + _ ≤ _; exact Nat.le_of_eq rfl) (hb hby at_121) (by decide) (by decide) (by decide) (by decide) rfl rfl ?_
      intro T50 X50 e50
      show Done _ p e below s _ _ (T50.setTop (mkF m 124 #[oI pa, oI pb, oI pc, oI pd, oI mode, oI (0 : Int32), oI (0 : Int32), oI (((mode.toUInt32 >>> ((2 : Int32) &&& 31).toUInt32).toInt32) &&& (3 : Int32)), oI (own_bmp pa), oI (own_bmp pb), oI (own_bmp pc), oI (own_bmp pd), oI ((own_bb (own_bmp pa)) + (own_bb (own_bmp pb))), .unset, .unset, .unset, .unset] [(.int (own_bb (own_bmp pc)))]))
      refine Done.step (fun _ => XS.iload X50.here hx rfl (hb hby at_124) rfl) ?_
      show Done _ p e below s _ _ (T50.setTop (mkF m 126 #[oI pa, oI pb, oI pc, oI pd, oI mode, oI (0 : Int32), oI (0 : Int32), oI (((mode.toUInt32 >>> ((2 : Int32) &&& 31).toUInt32).toInt32) &&& (3 : Int32)), oI (own_bmp pa), oI (own_bmp pb), oI (own_bmp pc), oI (own_bmp pd), oI ((own_bb (own_bmp pa)) + (own_bb (own_bmp pb))), .unset, .unset, .unset, .unset] [(.int (own_bmp pd)), (.int (own_bb (own_bmp pc)))]))
      refine Done.callSP X50 hx hZ hown (wAt hw 6 rfl) (wAt hw 7 rfl) (wAt hw 2 rfl) (wAt hw 8 rfl) (by decide) (rBB l Z a0 hw [] (own_bmp pd) h0 n0 Z0) e50 (g := (mkF m 126 #[oI pa, oI pb, oI pc, oI pd, oI mode, oI (0 : Int32), oI (0 : Int32), oI (((mode.toUInt32 >>> ((2 : Int32) &&& 31).toUInt32).toInt32) &&& (3 : Int32)), oI (own_bmp pa), oI (own_bmp pb), oI (own_bmp pc), oI (own_bmp pd), oI ((own_bb (own_bmp pa)) + (own_bb (own_bmp pb))), .unset, .unset, .unset, .unset] [(.int (own_bmp pd)), (.int (own_bb (own_bmp pc)))])) rfl (by rw [hml]; rfl) [(.int (own_bmp pd))] [(.int (own_bb (own_bmp pc)))] 1 (lenOf pd_22 rfl) rfl rfl (by show 2 * 0 + _ ≤ _; exact Nat.le_of_eq rfl) (hb hby at_126) (by decide) (by decide) (by decide) (by decide) rfl rfl ?_
      intro T51 X51 e51
      show Done _ p e below s _ _ (T51.setTop (mkF m 129 #[oI pa, oI pb, oI pc, oI pd, oI mode, oI (0 : Int32), oI (0 : Int32), oI (((mode.toUInt32 >>> ((2 : Int32) &&& 31).toUInt32).toInt32) &&& (3 : Int32)), oI (own_bmp pa), oI (own_bmp pb), oI (own_bmp pc), oI (own_bmp pd), oI ((own_bb (own_bmp pa)) + (own_bb (own_bmp pb))), .unset, .unset, .unset, .unset] [(.int (own_bb (own_bmp pd))), (.int (own_bb (own_bmp pc)))]))
      refine Done.step (fun _ => XS.iadd X51.here hx rfl (hb hby at_129) rfl) ?_
      show Done _ p e below s _ _ (T51.setTop (mkF m 130 #[oI pa, oI pb, oI pc, oI pd, oI mode, oI (0 : Int32), oI (0 : Int32), oI (((mode.toUInt32 >>> ((2 : Int32) &&& 31).toUInt32).toInt32) &&& (3 : Int32)), oI (own_bmp pa), oI (own_bmp pb), oI (own_bmp pc), oI (own_bmp pd), oI ((own_bb (own_bmp pa)) + (own_bb (own_bmp pb))), .unset, .unset, .unset, .unset] [(.int ((own_bb (own_bmp pc)) + (own_bb (own_bmp pd))))]))
      refine Done.step (fun _ => XS.istore X51.here hx rfl (hb hby at_130) rfl (l' := #[oI pa, oI pb, oI pc, oI pd, oI mode, oI (0 : Int32), oI (0 : Int32), oI (((mode.toUInt32 >>> ((2 : Int32) &&& 31).toUInt32).toInt32) &&& (3 : Int32)), oI (own_bmp pa), oI (own_bmp pb), oI (own_bmp pc), oI (own_bmp pd), oI ((own_bb (own_bmp pa)) + (own_bb (own_bmp pb))), oI ((own_bb (own_bmp pc)) + (own_bb (own_bmp pd))), .unset, .unset, .unset]) rfl) ?_
      show Done _ p e below s _ _ (T51.setTop (mkF m 132 #[oI pa, oI pb, oI pc, oI pd, oI mode, oI (0 : Int32), oI (0 : Int32), oI (((mode.toUInt32 >>> ((2 : Int32) &&& 31).toUInt32).toInt32) &&& (3 : Int32)), oI (own_bmp pa), oI (own_bmp pb), oI (own_bmp pc), oI (own_bmp pd), oI ((own_bb (own_bmp pa)) + (own_bb (own_bmp pb))), oI ((own_bb (own_bmp pc)) + (own_bb (own_bmp pd))), .unset, .unset, .unset] []))
      exact K132 T51 e51 X51 (0 : Int32) (0 : Int32) (((mode.toUInt32 >>> ((2 : Int32) &&& 31).toUInt32).toInt32) &&& (3 : Int32)) (own_bmp pa) (own_bmp pb) (own_bmp pc) (own_bmp pd) ((own_bb (own_bmp pa)) + (own_bb (own_bmp pb))) ((own_bb (own_bmp pc)) + (own_bb (own_bmp pd))) (own_bmpB _).1 (own_bmpB _).1 (own_bmpB _).1 (own_bmpB _).1 (own_bb2 _ _) (own_bb2 _ _)
    · refine Done.step (fun _ => XS.ifNo X0.here hx rfl (hb hby at_18) rfl (XT.i0_eq_f hc43)) ?_
      show Done _ p e below s _ _ (T0.setTop (mkF m 21 #[oI pa, oI pb, oI pc, oI pd, oI mode, oI (0 : Int32), .unset, .unset, .unset, .unset, .unset, .unset, .unset, .unset, .unset, .unset, .unset] []))
      refine Done.step (fun _ => XT.iconstV X0.here hx rfl (1 : Int32) (hb hby at_21) (by decide)) ?_
      show Done _ p e below s _ _ (T0.setTop (mkF m 22 #[oI pa, oI pb, oI pc, oI pd, oI mode, oI (0 : Int32), .unset, .unset, .unset, .unset, .unset, .unset, .unset, .unset, .unset, .unset, .unset] [(.int (1 : Int32))]))
      refine Done.step (fun _ => XS.goto X0.here hx rfl (pc0 := 22) (pc' := 26) rfl (hb hby at_22) (by decide) (by decide)) ?_
      show Done _ p e below s _ _ (T0.setTop (mkF m 26 #[oI pa, oI pb, oI pc, oI pd, oI mode, oI (0 : Int32), .unset, .unset, .unset, .unset, .unset, .unset, .unset, .unset, .unset, .unset, .unset] [(.int (1 : Int32))]))
      refine Done.step (fun _ => XS.istore X0.here hx rfl (hb hby at_26) rfl (l' := #[oI pa, oI pb, oI pc, oI pd, oI mode, oI (0 : Int32), oI (1 : Int32), .unset, .unset, .unset, .unset, .unset, .unset, .unset, .unset, .unset, .unset]) rfl) ?_
      show Done _ p e below s _ _ (T0.setTop (mkF m 28 #[oI pa, oI pb, oI pc, oI pd, oI mode, oI (0 : Int32), oI (1 : Int32), .unset, .unset, .unset, .unset, .unset, .unset, .unset, .unset, .unset, .unset] []))
      refine Done.step (fun _ => XS.iload X0.here hx rfl (hb hby at_28) rfl) ?_
      show Done _ p e below s _ _ (T0.setTop (mkF m 30 #[oI pa, oI pb, oI pc, oI pd, oI mode, oI (0 : Int32), oI (1 : Int32), .unset, .unset, .unset, .unset, .unset, .unset, .unset, .unset, .unset, .unset] [(.int mode)]))
      refine Done.step (fun _ => XT.iconstV X0.here hx rfl (2 : Int32) (hb hby at_30) (by decide)) ?_
      show Done _ p e below s _ _ (T0.setTop (mkF m 31 #[oI pa, oI pb, oI pc, oI pd, oI mode, oI (0 : Int32), oI (1 : Int32), .unset, .unset, .unset, .unset, .unset, .unset, .unset, .unset, .unset, .unset] [(.int (2 : Int32)), (.int mode)]))
      refine Done.step (fun _ => XT.iushr X0.here hx rfl (hb hby at_31) rfl) ?_
      show Done _ p e below s _ _ (T0.setTop (mkF m 32 #[oI pa, oI pb, oI pc, oI pd, oI mode, oI (0 : Int32), oI (1 : Int32), .unset, .unset, .unset, .unset, .unset, .unset, .unset, .unset, .unset, .unset] [(.int ((mode.toUInt32 >>> ((2 : Int32) &&& 31).toUInt32).toInt32))]))
      refine Done.step (fun _ => XT.iconstV X0.here hx rfl (3 : Int32) (hb hby at_32) (by decide)) ?_
      show Done _ p e below s _ _ (T0.setTop (mkF m 33 #[oI pa, oI pb, oI pc, oI pd, oI mode, oI (0 : Int32), oI (1 : Int32), .unset, .unset, .unset, .unset, .unset, .unset, .unset, .unset, .unset, .unset] [(.int (3 : Int32)), (.int ((mode.toUInt32 >>> ((2 : Int32) &&& 31).toUInt32).toInt32))]))
      refine Done.step (fun _ => XS.iand X0.here hx rfl (hb hby at_33) rfl) ?_
      show Done _ p e below s _ _ (T0.setTop (mkF m 34 #[oI pa, oI pb, oI pc, oI pd, oI mode, oI (0 : Int32), oI (1 : Int32), .unset, .unset, .unset, .unset, .unset, .unset, .unset, .unset, .unset, .unset] [(.int (((mode.toUInt32 >>> ((2 : Int32) &&& 31).toUInt32).toInt32) &&& (3 : Int32)))]))
      refine Done.step (fun _ => XS.istore X0.here hx rfl (hb hby at_34) rfl (l' := #[oI pa, oI pb, oI pc, oI pd, oI mode, oI (0 : Int32), oI (1 : Int32), oI (((mode.toUInt32 >>> ((2 : Int32) &&& 31).toUInt32).toInt32) &&& (3 : Int32)), .unset, .unset, .unset, .unset, .unset, .unset, .unset, .unset, .unset]) rfl) ?_
      show Done _ p e below s _ _ (T0.setTop (mkF m 36 #[oI pa, oI pb, oI pc, oI pd, oI mode, oI (0 : Int32), oI (1 : Int32), oI (((mode.toUInt32 >>> ((2 : Int32) &&& 31).toUInt32).toInt32) &&& (3 : Int32)), .unset, .unset, .unset, .unset, .unset, .unset, .unset, .unset, .unset] []))
      refine Done.step (fun _ => XS.iload X0.here hx rfl (hb hby at_36) rfl) ?_
      show Done _ p e below s _ _ (T0.setTop (mkF m 38 #[oI pa, oI pb, oI pc, oI pd, oI mode, oI (0 : Int32), oI (1 : Int32), oI (((mode.toUInt32 >>> ((2 : Int32) &&& 31).toUInt32).toInt32) &&& (3 : Int32)), .unset, .unset, .unset, .unset, .unset, .unset, .unset, .unset, .unset] [(.int (0 : Int32))]))
      refine Done.step (fun _ => XS.ifYes X0.here hx rfl (pc0 := 38) (pc' := 59) rfl (hb hby at_38) rfl (XT.i0_eq_t rfl) (by decide) (by decide)) ?_
      show Done _ p e below s _ _ (T0.setTop (mkF m 59 #[oI pa, oI pb, oI pc, oI pd, oI mode, oI (0 : Int32), oI (1 : Int32), oI (((mode.toUInt32 >>> ((2 : Int32) &&& 31).toUInt32).toInt32) &&& (3 : Int32)), .unset, .unset, .unset, .unset, .unset, .unset, .unset, .unset, .unset] []))
      refine Done.step (fun _ => XS.iloadN X0.here hx rfl (hb hby at_59) rfl) ?_
      show Done _ p e below s _ _ (T0.setTop (mkF m 60 #[oI pa, oI pb, oI pc, oI pd, oI mode, oI (0 : Int32), oI (1 : Int32), oI (((mode.toUInt32 >>> ((2 : Int32) &&& 31).toUInt32).toInt32) &&& (3 : Int32)), .unset, .unset, .unset, .unset, .unset, .unset, .unset, .unset, .unset] [(.int pa)]))
      refine Done.callSP X0 hx hZ hown (wAt hw 0 rfl) (wAt hw 1 rfl) (wAt hw 2 rfl) (wAt hw 3 rfl) (by decide) (rB l Z a0 hw [] pa h0 n0 Z0) e0 (g := (mkF m 60 #[oI pa, oI pb, oI pc, oI pd, oI mode, oI (0 : Int32), oI (1 : Int32), oI (((mode.toUInt32 >>> ((2 : Int32) &&& 31).toUInt32).toInt32) &&& (3 : Int32)), .unset, .unset, .unset, .unset, .unset, .unset, .unset, .unset, .unset] [(.int pa)])) rfl (by rw [hml]; rfl) [(.int pa)] [] 0 (lenOf pd_15 rfl) rfl rfl (by show 2 * 0 + _ ≤ _; exact Nat.le_of_eq rfl) (hb hby at_60) (by decide) (by decide) (by decide) (by decide) rfl rfl ?_
      intro T52 X52 e52
      show Done _ p e below s _ _ (T52.setTop (mkF m 63 #[oI pa, oI pb, oI pc, oI pd, oI mode, oI (0 : Int32), oI (1 : Int32), oI (((mode.toUInt32 >>> ((2 : Int32) &&& 31).toUInt32).toInt32) &&& (3 : Int32)), .unset, .unset, .unset, .unset, .unset, .unset, .unset, .unset, .unset] [(.int (own_bmp pa))]))
      refine Done.step (fun _ => XS.istore X52.here hx rfl (hb hby at_63) rfl (l' := #[oI pa, oI pb, oI pc, oI pd, oI mode, oI (0 : Int32), oI (1 : Int32), oI (((mode.toUInt32 >>> ((2 : Int32) &&& 31).toUInt32).toInt32) &&& (3 : Int32)), oI (own_bmp pa), .unset, .unset, .unset, .unset, .unset, .unset, .unset, .unset]) rfl) ?_
      show Done _ p e below s _ _ (T52.setTop (mkF m 65 #[oI pa, oI pb, oI pc, oI pd, oI mode, oI (0 : Int32), oI (1 : Int32), oI (((mode.toUInt32 >>> ((2 : Int32) &&& 31).toUInt32).toInt32) &&& (3 : Int32)), oI (own_bmp pa), .unset, .unset, .unset, .unset, .unset, .unset, .unset, .unset] []))
      refine Done.step (fun _ => XS.iloadN X52.here hx rfl (hb hby at_65) rfl) ?_
      show Done _ p e below s _ _ (T52.setTop (mkF m 66 #[oI pa, oI pb, oI pc, oI pd, oI mode, oI (0 : Int32), oI (1 : Int32), oI (((mode.toUInt32 >>> ((2 : Int32) &&& 31).toUInt32).toInt32) &&& (3 : Int32)), oI (own_bmp pa), .unset, .unset, .unset, .unset, .unset, .unset, .unset, .unset] [(.int pb)]))
      refine Done.callSP X52 hx hZ hown (wAt hw 0 rfl) (wAt hw 1 rfl) (wAt hw 2 rfl) (wAt hw 3 rfl) (by decide) (rB l Z a0 hw [] pb h0 n0 Z0) e52 (g := (mkF m 66 #[oI pa, oI pb, oI pc, oI pd, oI mode, oI (0 : Int32), oI (1 : Int32), oI (((mode.toUInt32 >>> ((2 : Int32) &&& 31).toUInt32).toInt32) &&& (3 : Int32)), oI (own_bmp pa), .unset, .unset, .unset, .unset, .unset, .unset, .unset, .unset] [(.int pb)])) rfl (by rw [hml]; rfl) [(.int pb)] [] 0 (lenOf pd_15 rfl) rfl rfl (by show 2 * 0 + _ ≤ _; exact Nat.le_of_eq rfl) (hb hby at_66) (by decide) (by decide) (by decide) (by decide) rfl rfl ?_
      intro T53 X53 e53
      show Done _ p e below s _ _ (T53.setTop (mkF m 69 #[oI pa, oI pb, oI pc, oI pd, oI mode, oI (0 : Int32), oI (1 : Int32), oI (((mode.toUInt32 >>> ((2 : Int32) &&& 31).toUInt32).toInt32) &&& (3 : Int32)), oI (own_bmp pa), .unset, .unset, .unset, .unset, .unset, .unset, .unset, .unset] [(.int (own_bmp pb))]))
      refine Done.step (fun _ => XS.istore X53.here hx rfl (hb hby at_69) rfl (l' := #[oI pa, oI pb, oI pc, oI pd, oI mode, oI (0 : Int32), oI (1 : Int32), oI (((mode.toUInt32 >>> ((2 : Int32) &&& 31).toUInt32).toInt32) &&& (3 : Int32)), oI (own_bmp pa), oI (own_bmp pb), .unset, .unset, .unset, .unset, .unset, .unset, .unset]) rfl) ?_
      show Done _ p e below s _ _ (T53.setTop (mkF m 71 #[oI pa, oI pb, oI pc, oI pd, oI mode, oI (0 : Int32), oI (1 : Int32), oI (((mode.toUInt32 >>> ((2 : Int32) &&& 31).toUInt32).toInt32) &&& (3 : Int32)), oI (own_bmp pa), oI (own_bmp pb), .unset, .unset, .unset, .unset, .unset, .unset, .unset] []))
      refine Done.step (fun _ => XS.iload X53.here hx rfl (hb hby at_71) rfl) ?_
      show Done _ p e below s _ _ (T53.setTop (mkF m 73 #[oI pa, oI pb, oI pc, oI pd, oI mode, oI (0 : Int32), oI (1 : Int32), oI (((mode.toUInt32 >>> ((2 : Int32) &&& 31).toUInt32).toInt32) &&& (3 : Int32)), oI (own_bmp pa), oI (own_bmp pb), .unset, .unset, .unset, .unset, .unset, .unset, .unset] [(.int (own_bmp pa))]))
      refine Done.callSP X53 hx hZ hown (wAt hw 6 rfl) (wAt hw 7 rfl) (wAt hw 2 rfl) (wAt hw 8 rfl) (by decide) (rBB l Z a0 hw [] (own_bmp pa) h0 n0 Z0) e53 (g := (mkF m 73 #[oI pa, oI pb, oI pc, oI pd, oI mode, oI (0 : Int32), oI (1 : Int32), oI (((mode.toUInt32 >>> ((2 : Int32) &&& 31).toUInt32).toInt32) &&& (3 : Int32)), oI (own_bmp pa), oI (own_bmp pb), .unset, .unset, .unset, .unset, .unset, .unset, .unset] [(.int (own_bmp pa))])) rfl (by rw [hml]; rfl) [(.int (own_bmp pa))] [] 0 (lenOf pd_22 rfl) rfl rfl (by show 2 * 0 + _ ≤ _; exact Nat.le_of_eq rfl) (hb hby at_73) (by decide) (by decide) (by decide) (by decide) rfl rfl ?_
      intro T54 X54 e54
      show Done _ p e below s _ _ (T54.setTop (mkF m 76 #[oI pa, oI pb, oI pc, oI pd, oI mode, oI (0 : Int32), oI (1 : Int32), oI (((mode.toUInt32 >>> ((2 : Int32) &&& 31).toUInt32).toInt32) &&& (3 : Int32)), oI (own_bmp pa), oI (own_bmp pb), .unset, .unset, .unset, .unset, .unset, .unset, .unset] [(.int (own_bb (own_bmp pa)))]))
      refine Done.step (fun _ => XS.iload X54.here hx rfl (hb hby at_76) rfl) ?_
      show Done _ p e below s _ _ (T54.setTop (mkF m 78 #[oI pa, oI pb, oI pc, oI pd, oI mode, oI (0 : Int32), oI (1 : Int32), oI (((mode.toUInt32 >>> ((2 : Int32) &&& 31).toUInt32).toInt32) &&& (3 : Int32)), oI (own_bmp pa), oI (own_bmp pb), .unset, .unset, .unset, .unset, .unset, .unset, .unset] [(.int (own_bmp pb)), (.int (own_bb (own_bmp pa)))]))
      refine Done.callSP X54 hx hZ hown (wAt hw 6 rfl) (wAt hw 7 rfl) (wAt hw 2 rfl) (wAt hw 8 rfl) (by decide) (rBB l Z a0 hw [] (own_bmp pb) h0 n0 Z0) e54 (g := (mkF m 78 #[oI pa, oI pb, oI pc, oI pd, oI mode, oI (0 : Int32), oI (1 : Int32), oI (((mode.toUInt32 >>> ((2 : Int32) &&& 31).toUInt32).toInt32) &&& (3 : Int32)), oI (own_bmp pa), oI (own_bmp pb), .unset, .unset, .unset, .unset, .unset, .unset, .unset] [(.int (own_bmp pb)), (.int (own_bb (own_bmp pa)))])) rfl (by rw [hml]; rfl) [(.int (own_bmp pb))] [(.int (own_bb (own_bmp pa)))] 1 (lenOf pd_22 rfl) rfl rfl (by show 2 * 0 + _ ≤ _; exact Nat.le_of_eq rfl) (hb hby at_78) (by decide) (by decide) (by decide) (by decide) rfl rfl ?_
      intro T55 X55 e55
      show Done _ p e below s _ _ (T55.setTop (mkF m 81 #[oI pa, oI pb, oI pc, oI pd, oI mode, oI (0 : Int32), oI (1 : Int32), oI (((mode.toUInt32 >>> ((2 : Int32) &&& 31).toUInt32).toInt32) &&& (3 : Int32)), oI (own_bmp pa), oI (own_bmp pb), .unset, .unset, .unset, .unset, .unset, .unset, .unset] [(.int (own_bb (own_bmp pb))), (.int (own_bb (own_bmp pa)))]))
      refine Done.step (fun _ => XS.iadd X55.here hx rfl (hb hby at_81) rfl) ?_
      show Done _ p e below s _ _ (T55.setTop (mkF m 82 #[oI pa, oI pb, oI pc, oI pd, oI mode, oI (0 : Int32), oI (1 : Int32), oI (((mode.toUInt32 >>> ((2 : Int32) &&& 31).toUInt32).toInt32) &&& (3 : Int32)), oI (own_bmp pa), oI (own_bmp pb), .unset, .unset, .unset, .unset, .unset, .unset, .unset] [(.int ((own_bb (own_bmp pa)) + (own_bb (own_bmp pb))))]))
      refine Done.step (fun _ => XS.istore X55.here hx rfl (hb hby at_82) rfl (l' := #[oI pa, oI pb, oI pc, oI pd, oI mode, oI (0 : Int32), oI (1 : Int32), oI (((mode.toUInt32 >>> ((2 : Int32) &&& 31).toUInt32).toInt32) &&& (3 : Int32)), oI (own_bmp pa), oI (own_bmp pb), .unset, .unset, oI ((own_bb (own_bmp pa)) + (own_bb (own_bmp pb))), .unset, .unset, .unset, .unset]) rfl) ?_
      show Done _ p e below s _ _ (T55.setTop (mkF m 84 #[oI pa, oI pb, oI pc, oI pd, oI mode, oI (0 : Int32), oI (1 : Int32), oI (((mode.toUInt32 >>> ((2 : Int32) &&& 31).toUInt32).toInt32) &&& (3 : Int32)), oI (own_bmp pa), oI (own_bmp pb), .unset, .unset, oI ((own_bb (own_bmp pa)) + (own_bb (own_bmp pb))), .unset, .unset, .unset, .unset] []))
      refine Done.step (fun _ => XS.iload X55.here hx rfl (hb hby at_84) rfl) ?_
      show Done _ p e below s _ _ (T55.setTop (mkF m 86 #[oI pa, oI pb, oI pc, oI pd, oI mode, oI (0 : Int32), oI (1 : Int32), oI (((mode.toUInt32 >>> ((2 : Int32) &&& 31).toUInt32).toInt32) &&& (3 : Int32)), oI (own_bmp pa), oI (own_bmp pb), .unset, .unset, oI ((own_bb (own_bmp pa)) + (own_bb (own_bmp pb))), .unset, .unset, .unset, .unset] [(.int (1 : Int32))]))
      refine Done.step (fun _ => XS.ifNo X55.here hx rfl (hb hby at_86) rfl (XT.i0_eq_f (by decide))) ?_
      show Done _ p e below s _ _ (T55.setTop (mkF m 89 #[oI pa, oI pb, oI pc, oI pd, oI mode, oI (0 : Int32), oI (1 : Int32), oI (((mode.toUInt32 >>> ((2 : Int32) &&& 31).toUInt32).toInt32) &&& (3 : Int32)), oI (own_bmp pa), oI (own_bmp pb), .unset, .unset, oI ((own_bb (own_bmp pa)) + (own_bb (own_bmp pb))), .unset, .unset, .unset, .unset] []))
      refine Done.step (fun _ => XS.iloadN X55.here hx rfl (hb hby at_89) rfl) ?_
      show Done _ p e below s _ _ (T55.setTop (mkF m 90 #[oI pa, oI pb, oI pc, oI pd, oI mode, oI (0 : Int32), oI (1 : Int32), oI (((mode.toUInt32 >>> ((2 : Int32) &&& 31).toUInt32).toInt32) &&& (3 : Int32)), oI (own_bmp pa), oI (own_bmp pb), .unset, .unset, oI ((own_bb (own_bmp pa)) + (own_bb (own_bmp pb))), .unset, .unset, .unset, .unset] [(.int pc)]))
      refine Done.callSP X55 hx hZ hown (wAt hw 46 rfl) (wAt hw 47 rfl) (wAt hw 2 rfl) (wAt hw 48 rfl) (by decide) (rHi l Z a0 hw [] pc h0 n0 Z0) e55 (g := (mkF m 90 #[oI pa, oI pb, oI pc, oI pd, oI mode, oI (0 : Int32), oI (1 : Int32), oI (((mode.toUInt32 >>> ((2 : Int32) &&& 31).toUInt32).toInt32) &&& (3 : Int32)), oI (own_bmp pa), oI (own_bmp pb), .unset, .unset, oI ((own_bb (own_bmp pa)) + (own_bb (own_bmp pb))), .unset, .unset, .unset, .unset] [(.int pc)])) rfl (by rw [hml]; rfl) [(.int pc)] [] 0 (lenOf pd_15 rfl) rfl rfl (by show 2 * 0 + _ ≤ _; exact Nat.le_of_eq rfl) (hb hby at_90) (by decide) (by decide) (by decide) (by decide) rfl rfl ?_
      intro T56 X56 e56
      show Done _ p e below s _ _ (T56.setTop (mkF m 93 #[oI pa, oI pb, oI pc, oI pd, oI mode, oI (0 : Int32), oI (1 : Int32), oI (((mode.toUInt32 >>> ((2 : Int32) &&& 31).toUInt32).toInt32) &&& (3 : Int32)), oI (own_bmp pa), oI (own_bmp pb), .unset, .unset, oI ((own_bb (own_bmp pa)) + (own_bb (own_bmp pb))), .unset, .unset, .unset, .unset] [(.int (own_high pc))]))
      refine Done.step (fun _ => XS.istore X56.here hx rfl (hb hby at_93) rfl (l' := #[oI pa, oI pb, oI pc, oI pd, oI mode, oI (0 : Int32), oI (1 : Int32), oI (((mode.toUInt32 >>> ((2 : Int32) &&& 31).toUInt32).toInt32) &&& (3 : Int32)), oI (own_bmp pa), oI (own_bmp pb), oI (own_high pc), .unset, oI ((own_bb (own_bmp pa)) + (own_bb (own_bmp pb))), .unset, .unset, .unset, .unset]) rfl) ?_
      show Done _ p e below s _ _ (T56.setTop (mkF m 95 #[oI pa, oI pb, oI pc, oI pd, oI mode, oI (0 : Int32), oI (1 : Int32), oI (((mode.toUInt32 >>> ((2 : Int32) &&& 31).toUInt32).toInt32) &&& (3 : Int32)), oI (own_bmp pa), oI (own_bmp pb), oI (own_high pc), .unset, oI ((own_bb (own_bmp pa)) + (own_bb (own_bmp pb))), .unset, .unset, .unset, .unset] []))
      refine Done.step (fun _ => XS.iloadN X56.here hx rfl (hb hby at_95) rfl) ?_
      show Done _ p e below s _ _ (T56.setTop (mkF m 96 #[oI pa, oI pb, oI pc, oI pd, oI mode, oI (0 : Int32), oI (1 : Int32), oI (((mode.toUInt32 >>> ((2 : Int32) &&& 31).toUInt32).toInt32) &&& (3 : Int32)), oI (own_bmp pa), oI (own_bmp pb), oI (own_high pc), .unset, oI ((own_bb (own_bmp pa)) + (own_bb (own_bmp pb))), .unset, .unset, .unset, .unset] [(.int pd)]))
      refine Done.callSP X56 hx hZ hown (wAt hw 49 rfl) (wAt hw 50 rfl) (wAt hw 2 rfl) (wAt hw 51 rfl) (by decide) (rLo l Z a0 hw [] pd h0 n0 Z0) e56 (g := (mkF m 96 #[oI pa, oI pb, oI pc, oI pd, oI mode, oI (0 : Int32), oI (1 : Int32), oI (((mode.toUInt32 >>> ((2 : Int32) &&& 31).toUInt32).toInt32) &&& (3 : Int32)), oI (own_bmp pa), oI (own_bmp pb), oI (own_high pc), .unset, oI ((own_bb (own_bmp pa)) + (own_bb (own_bmp pb))), .unset, .unset, .unset, .unset] [(.int pd)])) rfl (by rw [hml]; rfl) [(.int pd)] [] 0 (lenOf pd_15 rfl) rfl rfl (by show 2 * 0 + _ ≤ _; exact Nat.le_of_eq rfl) (hb hby at_96) (by decide) (by decide) (by decide) (by decide) rfl rfl ?_
      intro T57 X57 e57
      show Done _ p e below s _ _ (T57.setTop (mkF m 99 #[oI pa, oI pb, oI pc, oI pd, oI mode, oI (0 : Int32), oI (1 : Int32), oI (((mode.toUInt32 >>> ((2 : Int32) &&& 31).toUInt32).toInt32) &&& (3 : Int32)), oI (own_bmp pa), oI (own_bmp pb), oI (own_high pc), .unset, oI ((own_bb (own_bmp pa)) + (own_bb (own_bmp pb))), .unset, .unset, .unset, .unset] [(.int (own_low pd))]))
      refine Done.step (fun _ => XS.istore X57.here hx rfl (hb hby at_99) rfl (l' := #[oI pa, oI pb, oI pc, oI pd, oI mode, oI (0 : Int32), oI (1 : Int32), oI (((mode.toUInt32 >>> ((2 : Int32) &&& 31).toUInt32).toInt32) &&& (3 : Int32)), oI (own_bmp pa), oI (own_bmp pb), oI (own_high pc), oI (own_low pd), oI ((own_bb (own_bmp pa)) + (own_bb (own_bmp pb))), .unset, .unset, .unset, .unset]) rfl) ?_
      show Done _ p e below s _ _ (T57.setTop (mkF m 101 #[oI pa, oI pb, oI pc, oI pd, oI mode, oI (0 : Int32), oI (1 : Int32), oI (((mode.toUInt32 >>> ((2 : Int32) &&& 31).toUInt32).toInt32) &&& (3 : Int32)), oI (own_bmp pa), oI (own_bmp pb), oI (own_high pc), oI (own_low pd), oI ((own_bb (own_bmp pa)) + (own_bb (own_bmp pb))), .unset, .unset, .unset, .unset] []))
      refine Done.step (fun _ => XT.iconstV X57.here hx rfl (4 : Int32) (hb hby at_101) (by decide)) ?_
      show Done _ p e below s _ _ (T57.setTop (mkF m 102 #[oI pa, oI pb, oI pc, oI pd, oI mode, oI (0 : Int32), oI (1 : Int32), oI (((mode.toUInt32 >>> ((2 : Int32) &&& 31).toUInt32).toInt32) &&& (3 : Int32)), oI (own_bmp pa), oI (own_bmp pb), oI (own_high pc), oI (own_low pd), oI ((own_bb (own_bmp pa)) + (own_bb (own_bmp pb))), .unset, .unset, .unset, .unset] [(.int (4 : Int32))]))
      refine Done.step (fun _ => XS.istore X57.here hx rfl (hb hby at_102) rfl (l' := #[oI pa, oI pb, oI pc, oI pd, oI mode, oI (0 : Int32), oI (1 : Int32), oI (((mode.toUInt32 >>> ((2 : Int32) &&& 31).toUInt32).toInt32) &&& (3 : Int32)), oI (own_bmp pa), oI (own_bmp pb), oI (own_high pc), oI (own_low pd), oI ((own_bb (own_bmp pa)) + (own_bb (own_bmp pb))), oI (4 : Int32), .unset, .unset, .unset]) rfl) ?_
      show Done _ p e below s _ _ (T57.setTop (mkF m 104 #[oI pa, oI pb, oI pc, oI pd, oI mode, oI (0 : Int32), oI (1 : Int32), oI (((mode.toUInt32 >>> ((2 : Int32) &&& 31).toUInt32).toInt32) &&& (3 : Int32)), oI (own_bmp pa), oI (own_bmp pb), oI (own_high pc), oI (own_low pd), oI ((own_bb (own_bmp pa)) + (own_bb (own_bmp pb))), oI (4 : Int32), .unset, .unset, .unset] []))
      refine Done.step (fun _ => XS.goto X57.here hx rfl (pc0 := 104) (pc' := 132) rfl (hb hby at_104) (by decide) (by decide)) ?_
      show Done _ p e below s _ _ (T57.setTop (mkF m 132 #[oI pa, oI pb, oI pc, oI pd, oI mode, oI (0 : Int32), oI (1 : Int32), oI (((mode.toUInt32 >>> ((2 : Int32) &&& 31).toUInt32).toInt32) &&& (3 : Int32)), oI (own_bmp pa), oI (own_bmp pb), oI (own_high pc), oI (own_low pd), oI ((own_bb (own_bmp pa)) + (own_bb (own_bmp pb))), oI (4 : Int32), .unset, .unset, .unset] []))
      exact K132 T57 e57 X57 (0 : Int32) (1 : Int32) (((mode.toUInt32 >>> ((2 : Int32) &&& 31).toUInt32).toInt32) &&& (3 : Int32)) (own_bmp pa) (own_bmp pb) (own_high pc) (own_low pd) ((own_bb (own_bmp pa)) + (own_bb (own_bmp pb))) (4 : Int32) (own_bmpB _).1 (own_bmpB _).1 (own_hiB _).1 (own_loB _).1 (own_bb2 _ _) (own_ss2 _ _)
  · refine Done.step (fun _ => XS.ifNo X0.here hx rfl (hb hby at_4) rfl (XT.i0_eq_f hc42)) ?_
    show Done _ p e below s _ _ (T0.setTop (mkF m 7 #[oI pa, oI pb, oI pc, oI pd, oI mode, .unset, .unset, .unset, .unset, .unset, .unset, .unset, .unset, .unset, .unset, .unset, .unset] []))
    refine Done.step (fun _ => XT.iconstV X0.here hx rfl (1 : Int32) (hb hby at_7) (by decide)) ?_
    show Done _ p e below s _ _ (T0.setTop (mkF m 8 #[oI pa, oI pb, oI pc, oI pd, oI mode, .unset, .unset, .unset, .unset, .unset, .unset, .unset, .unset, .unset, .unset, .unset, .unset] [(.int (1 : Int32))]))
    refine Done.step (fun _ => XS.goto X0.here hx rfl (pc0 := 8) (pc' := 12) rfl (hb hby at_8) (by decide) (by decide)) ?_
    show Done _ p e below s _ _ (T0.setTop (mkF m 12 #[oI pa, oI pb, oI pc, oI pd, oI mode, .unset, .unset, .unset, .unset, .unset, .unset, .unset, .unset, .unset, .unset, .unset, .unset] [(.int (1 : Int32))]))
    refine Done.step (fun _ => XS.istore X0.here hx rfl (hb hby at_12) rfl (l' := #[oI pa, oI pb, oI pc, oI pd, oI mode, oI (1 : Int32), .unset, .unset, .unset, .unset, .unset, .unset, .unset, .unset, .unset, .unset, .unset]) rfl) ?_
    show Done _ p e below s _ _ (T0.setTop (mkF m 14 #[oI pa, oI pb, oI pc, oI pd, oI mode, oI (1 : Int32), .unset, .unset, .unset, .unset, .unset, .unset, .unset, .unset, .unset, .unset, .unset] []))
    refine Done.step (fun _ => XS.iload X0.here hx rfl (hb hby at_14) rfl) ?_
    show Done _ p e below s _ _ (T0.setTop (mkF m 16 #[oI pa, oI pb, oI pc, oI pd, oI mode, oI (1 : Int32), .unset, .unset, .unset, .unset, .unset, .unset, .unset, .unset, .unset, .unset, .unset] [(.int mode)]))
    refine Done.step (fun _ => XT.iconstV X0.here hx rfl (2 : Int32) (hb hby at_16) (by decide)) ?_
    show Done _ p e below s _ _ (T0.setTop (mkF m 17 #[oI pa, oI pb, oI pc, oI pd, oI mode, oI (1 : Int32), .unset, .unset, .unset, .unset, .unset, .unset, .unset, .unset, .unset, .unset, .unset] [(.int (2 : Int32)), (.int mode)]))
    refine Done.step (fun _ => XS.iand X0.here hx rfl (hb hby at_17) rfl) ?_
    show Done _ p e below s _ _ (T0.setTop (mkF m 18 #[oI pa, oI pb, oI pc, oI pd, oI mode, oI (1 : Int32), .unset, .unset, .unset, .unset, .unset, .unset, .unset, .unset, .unset, .unset, .unset] [(.int (mode &&& (2 : Int32)))]))
    by_cases hc58 : (mode &&& (2 : Int32)) = (0 : Int32)
    · refine Done.step (fun _ => XS.ifYes X0.here hx rfl (pc0 := 18) (pc' := 25) rfl (hb hby at_18) rfl (XT.i0_eq_t hc58) (by decide) (by decide)) ?_
      show Done _ p e below s _ _ (T0.setTop (mkF m 25 #[oI pa, oI pb, oI pc, oI pd, oI mode, oI (1 : Int32), .unset, .unset, .unset, .unset, .unset, .unset, .unset, .unset, .unset, .unset, .unset] []))
      refine Done.step (fun _ => XT.iconstV X0.here hx rfl (0 : Int32) (hb hby at_25) (by decide)) ?_
      show Done _ p e below s _ _ (T0.setTop (mkF m 26 #[oI pa, oI pb, oI pc, oI pd, oI mode, oI (1 : Int32), .unset, .unset, .unset, .unset, .unset, .unset, .unset, .unset, .unset, .unset, .unset] [(.int (0 : Int32))]))
      refine Done.step (fun _ => XS.istore X0.here hx rfl (hb hby at_26) rfl (l' := #[oI pa, oI pb, oI pc, oI pd, oI mode, oI (1 : Int32), oI (0 : Int32), .unset, .unset, .unset, .unset, .unset, .unset, .unset, .unset, .unset, .unset]) rfl) ?_
      show Done _ p e below s _ _ (T0.setTop (mkF m 28 #[oI pa, oI pb, oI pc, oI pd, oI mode, oI (1 : Int32), oI (0 : Int32), .unset, .unset, .unset, .unset, .unset, .unset, .unset, .unset, .unset, .unset] []))
      refine Done.step (fun _ => XS.iload X0.here hx rfl (hb hby at_28) rfl) ?_
      show Done _ p e below s _ _ (T0.setTop (mkF m 30 #[oI pa, oI pb, oI pc, oI pd, oI mode, oI (1 : Int32), oI (0 : Int32), .unset, .unset, .unset, .unset, .unset, .unset, .unset, .unset, .unset, .unset] [(.int mode)]))
      refine Done.step (fun _ => XT.iconstV X0.here hx rfl (2 : Int32) (hb hby at_30) (by decide)) ?_
      show Done _ p e below s _ _ (T0.setTop (mkF m 31 #[oI pa, oI pb, oI pc, oI pd, oI mode, oI (1 : Int32), oI (0 : Int32), .unset, .unset, .unset, .unset, .unset, .unset, .unset, .unset, .unset, .unset] [(.int (2 : Int32)), (.int mode)]))
      refine Done.step (fun _ => XT.iushr X0.here hx rfl (hb hby at_31) rfl) ?_
      show Done _ p e below s _ _ (T0.setTop (mkF m 32 #[oI pa, oI pb, oI pc, oI pd, oI mode, oI (1 : Int32), oI (0 : Int32), .unset, .unset, .unset, .unset, .unset, .unset, .unset, .unset, .unset, .unset] [(.int ((mode.toUInt32 >>> ((2 : Int32) &&& 31).toUInt32).toInt32))]))
      refine Done.step (fun _ => XT.iconstV X0.here hx rfl (3 : Int32) (hb hby at_32) (by decide)) ?_
      show Done _ p e below s _ _ (T0.setTop (mkF m 33 #[oI pa, oI pb, oI pc, oI pd, oI mode, oI (1 : Int32), oI (0 : Int32), .unset, .unset, .unset, .unset, .unset, .unset, .unset, .unset, .unset, .unset] [(.int (3 : Int32)), (.int ((mode.toUInt32 >>> ((2 : Int32) &&& 31).toUInt32).toInt32))]))
      refine Done.step (fun _ => XS.iand X0.here hx rfl (hb hby at_33) rfl) ?_
      show Done _ p e below s _ _ (T0.setTop (mkF m 34 #[oI pa, oI pb, oI pc, oI pd, oI mode, oI (1 : Int32), oI (0 : Int32), .unset, .unset, .unset, .unset, .unset, .unset, .unset, .unset, .unset, .unset] [(.int (((mode.toUInt32 >>> ((2 : Int32) &&& 31).toUInt32).toInt32) &&& (3 : Int32)))]))
      refine Done.step (fun _ => XS.istore X0.here hx rfl (hb hby at_34) rfl (l' := #[oI pa, oI pb, oI pc, oI pd, oI mode, oI (1 : Int32), oI (0 : Int32), oI (((mode.toUInt32 >>> ((2 : Int32) &&& 31).toUInt32).toInt32) &&& (3 : Int32)), .unset, .unset, .unset, .unset, .unset, .unset, .unset, .unset, .unset]) rfl) ?_
      show Done _ p e below s _ _ (T0.setTop (mkF m 36 #[oI pa, oI pb, oI pc, oI pd, oI mode, oI (1 : Int32), oI (0 : Int32), oI (((mode.toUInt32 >>> ((2 : Int32) &&& 31).toUInt32).toInt32) &&& (3 : Int32)), .unset, .unset, .unset, .unset, .unset, .unset, .unset, .unset, .unset] []))
      refine Done.step (fun _ => XS.iload X0.here hx rfl (hb hby at_36) rfl) ?_
      show Done _ p e below s _ _ (T0.setTop (mkF m 38 #[oI pa, oI pb, oI pc, oI pd, oI mode, oI (1 : Int32), oI (0 : Int32), oI (((mode.toUInt32 >>> ((2 : Int32) &&& 31).toUInt32).toInt32) &&& (3 : Int32)), .unset, .unset, .unset, .unset, .unset, .unset, .unset, .unset, .unset] [(.int (1 : Int32))]))
      refine Done.step (fun _ => XS.ifNo X0.here hx rfl (hb hby at_38) rfl (XT.i0_eq_f (by decide))) ?_
      show Done _ p e below s _ _ (T0.setTop (mkF m 41 #[oI pa, oI pb, oI pc, oI pd, oI mode, oI (1 : Int32), oI (0 : Int32), oI (((mode.toUInt32 >>> ((2 : Int32) &&& 31).toUInt32).toInt32) &&& (3 : Int32)), .unset, .unset, .unset, .unset, .unset, .unset, .unset, .unset, .unset] []))
      refine Done.step (fun _ => XS.iloadN X0.here hx rfl (hb hby at_41) rfl) ?_
      show Done _ p e below s _ _ (T0.setTop (mkF m 42 #[oI pa, oI pb, oI pc, oI pd, oI mode, oI (1 : Int32), oI (0 : Int32), oI (((mode.toUInt32 >>> ((2 : Int32) &&& 31).toUInt32).toInt32) &&& (3 : Int32)), .unset, .unset, .unset, .unset, .unset, .unset, .unset, .unset, .unset] [(.int pa)]))
      refine Done.callSP X0 hx hZ hown (wAt hw 46 rfl) (wAt hw 47 rfl) (wAt hw 2 rfl) (wAt hw 48 rfl) (by decide) (rHi l Z a0 hw [] pa h0 n0 Z0) e0 (g := (mkF m 42 #[oI pa, oI pb, oI pc, oI pd, oI mode, oI (1 : Int32), oI (0 : Int32), oI (((mode.toUInt32 >>> ((2 : Int32) &&& 31).toUInt32).toInt32) &&& (3 : Int32)), .unset, .unset, .unset, .unset, .unset, .unset, .unset, .unset, .unset] [(.int pa)])) rfl (by rw [hml]; rfl) [(.int pa)] [] 0 (lenOf pd_15 rfl) rfl rfl (by show 2 * 0 + _ ≤ _; exact Nat.le_of_eq rfl) (hb hby at_42) (by decide) (by decide) (by decide) (by decide) rfl rfl ?_
      intro T59 X59 e59
      show Done _ p e below s _ _ (T59.setTop (mkF m 45 #[oI pa, oI pb, oI pc, oI pd, oI mode, oI (1 : Int32), oI (0 : Int32), oI (((mode.toUInt32 >>> ((2 : Int32) &&& 31).toUInt32).toInt32) &&& (3 : Int32)), .unset, .unset, .unset, .unset, .unset, .unset, .unset, .unset, .unset] [(.int (own_high pa))]))
      refine Done.step (fun _ => XS.istore X59.here hx rfl (hb hby at_45) rfl (l' := #[oI pa, oI pb, oI pc, oI pd, oI mode, oI (1 : Int32), oI (0 : Int32), oI (((mode.toUInt32 >>> ((2 : Int32) &&& 31).toUInt32).toInt32) &&& (3 : Int32)), oI (own_high pa), .unset, .unset, .unset, .unset, .unset, .unset, .unset, .unset]) rfl) ?_
      show Done _ p e below s _ _ (T59.setTop (mkF m 47 #[oI pa, oI pb, oI pc, oI pd, oI mode, oI (1 : Int32), oI (0 : Int32), oI (((mode.toUInt32 >>> ((2 : Int32) &&& 31).toUInt32).toInt32) &&& (3 : Int32)), oI (own_high pa), .unset, .unset, .unset, .unset, .unset, .unset, .unset, .unset] []))
      refine Done.step (fun _ => XS.iloadN X59.here hx rfl (hb hby at_47) rfl) ?_
      show Done _ p e below s _ _ (T59.setTop (mkF m 48 #[oI pa, oI pb, oI pc, oI pd, oI mode, oI (1 : Int32), oI (0 : Int32), oI (((mode.toUInt32 >>> ((2 : Int32) &&& 31).toUInt32).toInt32) &&& (3 : Int32)), oI (own_high pa), .unset, .unset, .unset, .unset, .unset, .unset, .unset, .unset] [(.int pb)]))
      refine Done.callSP X59 hx hZ hown (wAt hw 49 rfl) (wAt hw 50 rfl) (wAt hw 2 rfl) (wAt hw 51 rfl) (by decide) (rLo l Z a0 hw [] pb h0 n0 Z0) e59 (g := (mkF m 48 #[oI pa, oI pb, oI pc, oI pd, oI mode, oI (1 : Int32), oI (0 : Int32), oI (((mode.toUInt32 >>> ((2 : Int32) &&& 31).toUInt32).toInt32) &&& (3 : Int32)), oI (own_high pa), .unset, .unset, .unset, .unset, .unset, .unset, .unset, .unset] [(.int pb)])) rfl (by rw [hml]; rfl) [(.int pb)] [] 0 (lenOf pd_15 rfl) rfl rfl (by show 2 * 0 + _ ≤ _; exact Nat.le_of_eq rfl) (hb hby at_48) (by decide) (by decide) (by decide) (by decide) rfl rfl ?_
      intro T60 X60 e60
      show Done _ p e below s _ _ (T60.setTop (mkF m 51 #[oI pa, oI pb, oI pc, oI pd, oI mode, oI (1 : Int32), oI (0 : Int32), oI (((mode.toUInt32 >>> ((2 : Int32) &&& 31).toUInt32).toInt32) &&& (3 : Int32)), oI (own_high pa), .unset, .unset, .unset, .unset, .unset, .unset, .unset, .unset] [(.int (own_low pb))]))
      refine Done.step (fun _ => XS.istore X60.here hx rfl (hb hby at_51) rfl (l' := #[oI pa, oI pb, oI pc, oI pd, oI mode, oI (1 : Int32), oI (0 : Int32), oI (((mode.toUInt32 >>> ((2 : Int32) &&& 31).toUInt32).toInt32) &&& (3 : Int32)), oI (own_high pa), oI (own_low pb), .unset, .unset, .unset, .unset, .unset, .unset, .unset]) rfl) ?_
      show Done _ p e below s _ _ (T60.setTop (mkF m 53 #[oI pa, oI pb, oI pc, oI pd, oI mode, oI (1 : Int32), oI (0 : Int32), oI (((mode.toUInt32 >>> ((2 : Int32) &&& 31).toUInt32).toInt32) &&& (3 : Int32)), oI (own_high pa), oI (own_low pb), .unset, .unset, .unset, .unset, .unset, .unset, .unset] []))
      refine Done.step (fun _ => XT.iconstV X60.here hx rfl (4 : Int32) (hb hby at_53) (by decide)) ?_
      show Done _ p e below s _ _ (T60.setTop (mkF m 54 #[oI pa, oI pb, oI pc, oI pd, oI mode, oI (1 : Int32), oI (0 : Int32), oI (((mode.toUInt32 >>> ((2 : Int32) &&& 31).toUInt32).toInt32) &&& (3 : Int32)), oI (own_high pa), oI (own_low pb), .unset, .unset, .unset, .unset, .unset, .unset, .unset] [(.int (4 : Int32))]))
      refine Done.step (fun _ => XS.istore X60.here hx rfl (hb hby at_54) rfl (l' := #[oI pa, oI pb, oI pc, oI pd, oI mode, oI (1 : Int32), oI (0 : Int32), oI (((mode.toUInt32 >>> ((2 : Int32) &&& 31).toUInt32).toInt32) &&& (3 : Int32)), oI (own_high pa), oI (own_low pb), .unset, .unset, oI (4 : Int32), .unset, .unset, .unset, .unset]) rfl) ?_
      show Done _ p e below s _ _ (T60.setTop (mkF m 56 #[oI pa, oI pb, oI pc, oI pd, oI mode, oI (1 : Int32), oI (0 : Int32), oI (((mode.toUInt32 >>> ((2 : Int32) &&& 31).toUInt32).toInt32) &&& (3 : Int32)), oI (own_high pa), oI (own_low pb), .unset, .unset, oI (4 : Int32), .unset, .unset, .unset, .unset] []))
      refine Done.step (fun _ => XS.goto X60.here hx rfl (pc0 := 56) (pc' := 84) rfl (hb hby at_56) (by decide) (by decide)) ?_
      show Done _ p e below s _ _ (T60.setTop (mkF m 84 #[oI pa, oI pb, oI pc, oI pd, oI mode, oI (1 : Int32), oI (0 : Int32), oI (((mode.toUInt32 >>> ((2 : Int32) &&& 31).toUInt32).toInt32) &&& (3 : Int32)), oI (own_high pa), oI (own_low pb), .unset, .unset, oI (4 : Int32), .unset, .unset, .unset, .unset] []))
      refine Done.step (fun _ => XS.iload X60.here hx rfl (hb hby at_84) rfl) ?_
      show Done _ p e below s _ _ (T60.setTop (mkF m 86 #[oI pa, oI pb, oI pc, oI pd, oI mode, oI (1 : Int32), oI (0 : Int32), oI (((mode.toUInt32 >>> ((2 : Int32) &&& 31).toUInt32).toInt32) &&& (3 : Int32)), oI (own_high pa), oI (own_low pb), .unset, .unset, oI (4 : Int32), .unset, .unset, .unset, .unset] [(.int (0 : Int32))]))
      refine Done.step (fun _ => XS.ifYes X60.here hx rfl (pc0 := 86) (pc' := 107) rfl (hb hby at_86) rfl (XT.i0_eq_t rfl) (by decide) (by decide)) ?_
      show Done _ p e below s _ _ (T60.setTop (mkF m 107 #[oI pa, oI pb, oI pc, oI pd, oI mode, oI (1 : Int32), oI (0 : Int32), oI (((mode.toUInt32 >>> ((2 : Int32) &&& 31).toUInt32).toInt32) &&& (3 : Int32)), oI (own_high pa), oI (own_low pb), .unset, .unset, oI (4 : Int32), .unset, .unset, .unset, .unset] []))
      refine Done.step (fun _ => XS.iloadN X60.here hx rfl (hb hby at_107) rfl) ?_
      show Done _ p e below s _ _ (T60.setTop (mkF m 108 #[oI pa, oI pb, oI pc, oI pd, oI mode, oI (1 : Int32), oI (0 : Int32), oI (((mode.toUInt32 >>> ((2 : Int32) &&& 31).toUInt32).toInt32) &&& (3 : Int32)), oI (own_high pa), oI (own_low pb), .unset, .unset, oI (4 : Int32), .unset, .unset, .unset, .unset] [(.int pc)]))
      refine Done.callSP X60 hx hZ hown (wAt hw 0 rfl) (wAt hw 1 rfl) (wAt hw 2 rfl) (wAt hw 3 rfl) (by decide) (rB l Z a0 hw [] pc h0 n0 Z0) e60 (g := (mkF m 108 #[oI pa, oI pb, oI pc, oI pd, oI mode, oI (1 : Int32), oI (0 : Int32), oI (((mode.toUInt32 >>> ((2 : Int32) &&& 31).toUInt32).toInt32) &&& (3 : Int32)), oI (own_high pa), oI (own_low pb), .unset, .unset, oI (4 : Int32), .unset, .unset, .unset, .unset] [(.int pc)])) rfl (by rw [hml]; rfl) [(.int pc)] [] 0 (lenOf pd_15 rfl) rfl rfl (by show 2 * 0 + _ ≤ _; exact Nat.le_of_eq rfl) (hb hby at_108) (by decide) (by decide) (by decide) (by decide) rfl rfl ?_
      intro T61 X61 e61
      show Done _ p e below s _ _ (T61.setTop (mkF m 111 #[oI pa, oI pb, oI pc, oI pd, oI mode, oI (1 : Int32), oI (0 : Int32), oI (((mode.toUInt32 >>> ((2 : Int32) &&& 31).toUInt32).toInt32) &&& (3 : Int32)), oI (own_high pa), oI (own_low pb), .unset, .unset, oI (4 : Int32), .unset, .unset, .unset, .unset] [(.int (own_bmp pc))]))
      refine Done.step (fun _ => XS.istore X61.here hx rfl (hb hby at_111) rfl (l' := #[oI pa, oI pb, oI pc, oI pd, oI mode, oI (1 : Int32), oI (0 : Int32), oI (((mode.toUInt32 >>> ((2 : Int32) &&& 31).toUInt32).toInt32) &&& (3 : Int32)), oI (own_high pa), oI (own_low pb), oI (own_bmp pc), .unset, oI (4 : Int32), .unset, .unset, .unset, .unset]) rfl) ?_
      show Done _ p e below s _ _ (T61.setTop (mkF m 113 #[oI pa, oI pb, oI pc, oI pd, oI mode, oI (1 : Int32), oI (0 : Int32), oI (((mode.toUInt32 >>> ((2 : Int32) &&& 31).toUInt32).toInt32) &&& (3 : Int32)), oI (own_high pa), oI (own_low pb), oI (own_bmp pc), .unset, oI (4 : Int32), .unset, .unset, .unset, .unset] []))
      refine Done.step (fun _ => XS.iloadN X61.here hx rfl (hb hby at_113) rfl) ?_
      show Done _ p e below s _ _ (T61.setTop (mkF m 114 #[oI pa, oI pb, oI pc, oI pd, oI mode, oI (1 : Int32), oI (0 : Int32), oI (((mode.toUInt32 >>> ((2 : Int32) &&& 31).toUInt32).toInt32) &&& (3 : Int32)), oI (own_high pa), oI (own_low pb), oI (own_bmp pc), .unset, oI (4 : Int32), .unset, .unset, .unset, .unset] [(.int pd)]))
      refine Done.callSP X61 hx hZ hown (wAt hw 0 rfl) (wAt hw 1 rfl) (wAt hw 2 rfl) (wAt hw 3 rfl) (by decide) (rB l Z a0 hw [] pd h0 n0 Z0) e61 (g := (mkF m 114 #[oI pa, oI pb, oI pc, oI pd, oI mode, oI (1 : Int32), oI (0 : Int32), oI (((mode.toUInt32 >>> ((2 : Int32) &&& 31).toUInt32).toInt32) &&& (3 : Int32)), oI (own_high pa), oI (own_low pb), oI (own_bmp pc), .unset, oI (4 : Int32), .unset, .unset, .unset, .unset] [(.int pd)])) rfl (by rw [hml]; rfl) [(.int pd)] [] 0 (lenOf pd_15 rfl) rfl rfl (by show 2 * 0 + _ ≤ _; exact Nat.le_of_eq rfl) (hb hby at_114) (by decide) (by decide) (by decide) (by decide) rfl rfl ?_
      intro T62 X62 e62
      show Done _ p e below s _ _ (T62.setTop (mkF m 117 #[oI pa, oI pb, oI pc, oI pd, oI mode, oI (1 : Int32), oI (0 : Int32), oI (((mode.toUInt32 >>> ((2 : Int32) &&& 31).toUInt32).toInt32) &&& (3 : Int32)), oI (own_high pa), oI (own_low pb), oI (own_bmp pc), .unset, oI (4 : Int32), .unset, .unset, .unset, .unset] [(.int (own_bmp pd))]))
      refine Done.step (fun _ => XS.istore X62.here hx rfl (hb hby at_117) rfl (l' := #[oI pa, oI pb, oI pc, oI pd, oI mode, oI (1 : Int32), oI (0 : Int32), oI (((mode.toUInt32 >>> ((2 : Int32) &&& 31).toUInt32).toInt32) &&& (3 : Int32)), oI (own_high pa), oI (own_low pb), oI (own_bmp pc), oI (own_bmp pd), oI (4 : Int32), .unset, .unset, .unset, .unset]) rfl) ?_
      show Done _ p e below s _ _ (T62.setTop (mkF m 119 #[oI pa, oI pb, oI pc, oI pd, oI mode, oI (1 : Int32), oI (0 : Int32), oI (((mode.toUInt32 >>> ((2 : Int32) &&& 31).toUInt32).toInt32) &&& (3 : Int32)), oI (own_high pa), oI (own_low pb), oI (own_bmp pc), oI (own_bmp pd), oI (4 : Int32), .unset, .unset, .unset, .unset] []))
      refine Done.step (fun _ => XS.iload X62.here hx rfl (hb hby at_119) rfl) ?_
      show Done _ p e below s _ _ (T62.setTop (mkF m 121 #[oI pa, oI pb, oI pc, oI pd, oI mode, oI (1 : Int32), oI (0 : Int32), oI (((mode.toUInt32 >>> ((2 : Int32) &&& 31).toUInt32).toInt32) &&& (3 : Int32)), oI (own_high pa), oI (own_low pb), oI (own_bmp pc), oI (own_bmp pd), oI (4 : Int32), .unset, .unset, .unset, .unset] [(.int (own_bmp pc))]))
      refine Done.callSP X62 hx hZ hown (wAt hw 6 rfl) (wAt hw 7 rfl) (wAt hw 2 rfl) (wAt hw 8 rfl) (by decide) (rBB l Z a0 hw [] (own_bmp pc) h0 n0 Z0) e62 (g := (mkF m 121 #[oI pa, oI pb, oI pc, oI pd, oI mode, oI (1 : Int32), oI (0 : Int32), oI (((mode.toUInt32 >>> ((2 : Int32) &&& 31).toUInt32).toInt32) &&& (3 : Int32)), oI (own_high pa), oI (own_low pb), oI (own_bmp pc), oI (own_bmp pd), oI (4 : Int32), .unset, .unset, .unset, .unset] [(.int (own_bmp pc))])) rfl (by rw [hml]; rfl) [(.int (own_bmp pc))] [] 0 (lenOf pd_22 rfl) rfl rfl (by show 2 * 0 + _ ≤ _; exact Nat.le_of_eq rfl) (hb hby at_121) (by decide) (by decide) (by decide) (by decide) rfl rfl ?_
      intro T63 X63 e63
      show Done _ p e below s _ _ (T63.setTop (mkF m 124 #[oI pa, oI pb, oI pc, oI pd, oI mode, oI (1 : Int32), oI (0 : Int32), oI (((mode.toUInt32 >>> ((2 : Int32) &&& 31).toUInt32).toInt32) &&& (3 : Int32)), oI (own_high pa), oI (own_low pb), oI (own_bmp pc), oI (own_bmp pd), oI (4 : Int32), .unset, .unset, .unset, .unset] [(.int (own_bb (own_bmp pc)))]))
      refine Done.step (fun _ => XS.iload X63.here hx rfl (hb hby at_124) rfl) ?_
      show Done _ p e below s _ _ (T63.setTop (mkF m 126 #[oI pa, oI pb, oI pc, oI pd, oI mode, oI (1 : Int32), oI (0 : Int32), oI (((mode.toUInt32 >>> ((2 : Int32) &&& 31).toUInt32).toInt32) &&& (3 : Int32)), oI (own_high pa), oI (own_low pb), oI (own_bmp pc), oI (own_bmp pd), oI (4 : Int32), .unset, .unset, .unset, .unset] [(.int (own_bmp pd)), (.int (own_bb (own_bmp pc)))]))
      refine Done.callSP X63 hx hZ hown (wAt hw 6 rfl) (wAt hw 7 rfl) (wAt hw 2 rfl) (wAt hw 8 rfl) (by decide) (rBB l Z a0 hw [] (own_bmp pd) h0 n0 Z0) e63 (g := (mkF m 126 #[oI pa, oI pb, oI pc, oI pd, oI mode, oI (1 : Int32), oI (0 : Int32), oI (((mode.toUInt32 >>> ((2 : Int32) &&& 31).toUInt32).toInt32) &&& (3 : Int32)), oI (own_high pa), oI (own_low pb), oI (own_bmp pc), oI (own_bmp pd), oI (4 : Int32), .unset, .unset, .unset, .unset] [(.int (own_bmp pd)), (.int (own_bb (own_bmp pc)))])) rfl (by rw [hml]; rfl) [(.int (own_bmp pd))] [(.int (own_bb (own_bmp pc)))] 1 (lenOf pd_22 rfl) rfl rfl (by show 2 * 0 + _ ≤ _; exact Nat.le_of_eq rfl) (hb hby at_126) (by decide) (by decide) (by decide) (by decide) rfl rfl ?_
      intro T64 X64 e64
      show Done _ p e below s _ _ (T64.setTop (mkF m 129 #[oI pa, oI pb, oI pc, oI pd, oI mode, oI (1 : Int32), oI (0 : Int32), oI (((mode.toUInt32 >>> ((2 : Int32) &&& 31).toUInt32).toInt32) &&& (3 : Int32)), oI (own_high pa), oI (own_low pb), oI (own_bmp pc), oI (own_bmp pd), oI (4 : Int32), .unset, .unset, .unset, .unset] [(.int (own_bb (own_bmp pd))), (.int (own_bb (own_bmp pc)))]))
      refine Done.step (fun _ => XS.iadd X64.here hx rfl (hb hby at_129) rfl) ?_
      show Done _ p e below s _ _ (T64.setTop (mkF m 130 #[oI pa, oI pb, oI pc, oI pd, oI mode, oI (1 : Int32), oI (0 : Int32), oI (((mode.toUInt32 >>> ((2 : Int32) &&& 31).toUInt32).toInt32) &&& (3 : Int32)), oI (own_high pa), oI (own_low pb), oI (own_bmp pc), oI (own_bmp pd), oI (4 : Int32), .unset, .unset, .unset, .unset] [(.int ((own_bb (own_bmp pc)) + (own_bb (own_bmp pd))))]))
      refine Done.step (fun _ => XS.istore X64.here hx rfl (hb hby at_130) rfl (l' := #[oI pa, oI pb, oI pc, oI pd, oI mode, oI (1 : Int32), oI (0 : Int32), oI (((mode.toUInt32 >>> ((2 : Int32) &&& 31).toUInt32).toInt32) &&& (3 : Int32)), oI (own_high pa), oI (own_low pb), oI (own_bmp pc), oI (own_bmp pd), oI (4 : Int32), oI ((own_bb (own_bmp pc)) + (own_bb (own_bmp pd))), .unset, .unset, .unset]) rfl) ?_
      show Done _ p e below s _ _ (T64.setTop (mkF m 132 #[oI pa, oI pb, oI pc, oI pd, oI mode, oI (1 : Int32), oI (0 : Int32), oI (((mode.toUInt32 >>> ((2 : Int32) &&& 31).toUInt32).toInt32) &&& (3 : Int32)), oI (own_high pa), oI (own_low pb), oI (own_bmp pc), oI (own_bmp pd), oI (4 : Int32), oI ((own_bb (own_bmp pc)) + (own_bb (own_bmp pd))), .unset, .unset, .unset] []))
      exact K132 T64 e64 X64 (1 : Int32) (0 : Int32) (((mode.toUInt32 >>> ((2 : Int32) &&& 31).toUInt32).toInt32) &&& (3 : Int32)) (own_high pa) (own_low pb) (own_bmp pc) (own_bmp pd) (4 : Int32) ((own_bb (own_bmp pc)) + (own_bb (own_bmp pd))) (own_hiB _).1 (own_loB _).1 (own_bmpB _).1 (own_bmpB _).1 (own_ss2 _ _) (own_bb2 _ _)
    · refine Done.step (fun _ => XS.ifNo X0.here hx rfl (hb hby at_18) rfl (XT.i0_eq_f hc58)) ?_
      show Done _ p e below s _ _ (T0.setTop (mkF m 21 #[oI pa, oI pb, oI pc, oI pd, oI mode, oI (1 : Int32), .unset, .unset, .unset, .unset, .unset, .unset, .unset, .unset, .unset, .unset, .unset] []))
      refine Done.step (fun _ => XT.iconstV X0.here hx rfl (1 : Int32) (hb hby at_21) (by decide)) ?_
      show Done _ p e below s _ _ (T0.setTop (mkF m 22 #[oI pa, oI pb, oI pc, oI pd, oI mode, oI (1 : Int32), .unset, .unset, .unset, .unset, .unset, .unset, .unset, .unset, .unset, .unset, .unset] [(.int (1 : Int32))]))
      refine Done.step (fun _ => XS.goto X0.here hx rfl (pc0 := 22) (pc' := 26) rfl (hb hby at_22) (by decide) (by decide)) ?_
      show Done _ p e below s _ _ (T0.setTop (mkF m 26 #[oI pa, oI pb, oI pc, oI pd, oI mode, oI (1 : Int32), .unset, .unset, .unset, .unset, .unset, .unset, .unset, .unset, .unset, .unset, .unset] [(.int (1 : Int32))]))
      refine Done.step (fun _ => XS.istore X0.here hx rfl (hb hby at_26) rfl (l' := #[oI pa, oI pb, oI pc, oI pd, oI mode, oI (1 : Int32), oI (1 : Int32), .unset, .unset, .unset, .unset, .unset, .unset, .unset, .unset, .unset, .unset]) rfl) ?_
      show Done _ p e below s _ _ (T0.setTop (mkF m 28 #[oI pa, oI pb, oI pc, oI pd, oI mode, oI (1 : Int32), oI (1 : Int32), .unset, .unset, .unset, .unset, .unset, .unset, .unset, .unset, .unset, .unset] []))
      refine Done.step (fun _ => XS.iload X0.here hx rfl (hb hby at_28) rfl) ?_
      show Done _ p e below s _ _ (T0.setTop (mkF m 30 #[oI pa, oI pb, oI pc, oI pd, oI mode, oI (1 : Int32), oI (1 : Int32), .unset, .unset, .unset, .unset, .unset, .unset, .unset, .unset, .unset, .unset] [(.int mode)]))
      refine Done.step (fun _ => XT.iconstV X0.here hx rfl (2 : Int32) (hb hby at_30) (by decide)) ?_
      show Done _ p e below s _ _ (T0.setTop (mkF m 31 #[oI pa, oI pb, oI pc, oI pd, oI mode, oI (1 : Int32), oI (1 : Int32), .unset, .unset, .unset, .unset, .unset, .unset, .unset, .unset, .unset, .unset] [(.int (2 : Int32)), (.int mode)]))
      refine Done.step (fun _ => XT.iushr X0.here hx rfl (hb hby at_31) rfl) ?_
      show Done _ p e below s _ _ (T0.setTop (mkF m 32 #[oI pa, oI pb, oI pc, oI pd, oI mode, oI (1 : Int32), oI (1 : Int32), .unset, .unset, .unset, .unset, .unset, .unset, .unset, .unset, .unset, .unset] [(.int ((mode.toUInt32 >>> ((2 : Int32) &&& 31).toUInt32).toInt32))]))
      refine Done.step (fun _ => XT.iconstV X0.here hx rfl (3 : Int32) (hb hby at_32) (by decide)) ?_
      show Done _ p e below s _ _ (T0.setTop (mkF m 33 #[oI pa, oI pb, oI pc, oI pd, oI mode, oI (1 : Int32), oI (1 : Int32), .unset, .unset, .unset, .unset, .unset, .unset, .unset, .unset, .unset, .unset] [(.int (3 : Int32)), (.int ((mode.toUInt32 >>> ((2 : Int32) &&& 31).toUInt32).toInt32))]))
      refine Done.step (fun _ => XS.iand X0.here hx rfl (hb hby at_33) rfl) ?_
      show Done _ p e below s _ _ (T0.setTop (mkF m 34 #[oI pa, oI pb, oI pc, oI pd, oI mode, oI (1 : Int32), oI (1 : Int32), .unset, .unset, .unset, .unset, .unset, .unset, .unset, .unset, .unset, .unset] [(.int (((mode.toUInt32 >>> ((2 : Int32) &&& 31).toUInt32).toInt32) &&& (3 : Int32)))]))
      refine Done.step (fun _ => XS.istore X0.here hx rfl (hb hby at_34) rfl (l' := #[oI pa, oI pb, oI pc, oI pd, oI mode, oI (1 : Int32), oI (1 : Int32), oI (((mode.toUInt32 >>> ((2 : Int32) &&& 31).toUInt32).toInt32) &&& (3 : Int32)), .unset, .unset, .unset, .unset, .unset, .unset, .unset, .unset, .unset]) rfl) ?_
      show Done _ p e below s _ _ (T0.setTop (mkF m 36 #[oI pa, oI pb, oI pc, oI pd, oI mode, oI (1 : Int32), oI (1 : Int32), oI (((mode.toUInt32 >>> ((2 : Int32) &&& 31).toUInt32).toInt32) &&& (3 : Int32)), .unset, .unset, .unset, .unset, .unset, .unset, .unset, .unset, .unset] []))
      refine Done.step (fun _ => XS.iload X0.here hx rfl (hb hby at_36) rfl) ?_
      show Done _ p e below s _ _ (T0.setTop (mkF m 38 #[oI pa, oI pb, oI pc, oI pd, oI mode, oI (1 : Int32), oI (1 : Int32), oI (((mode.toUInt32 >>> ((2 : Int32) &&& 31).toUInt32).toInt32) &&& (3 : Int32)), .unset, .unset, .unset, .unset, .unset, .unset, .unset, .unset, .unset] [(.int (1 : Int32))]))
      refine Done.step (fun _ => XS.ifNo X0.here hx rfl (hb hby at_38) rfl (XT.i0_eq_f (by decide))) ?_
      show Done _ p e below s _ _ (T0.setTop (mkF m 41 #[oI pa, oI pb, oI pc, oI pd, oI mode, oI (1 : Int32), oI (1 : Int32), oI (((mode.toUInt32 >>> ((2 : Int32) &&& 31).toUInt32).toInt32) &&& (3 : Int32)), .unset, .unset, .unset, .unset, .unset, .unset, .unset, .unset, .unset] []))
      refine Done.step (fun _ => XS.iloadN X0.here hx rfl (hb hby at_41) rfl) ?_
      show Done _ p e below s _ _ (T0.setTop (mkF m 42 #[oI pa, oI pb, oI pc, oI pd, oI mode, oI (1 : Int32), oI (1 : Int32), oI (((mode.toUInt32 >>> ((2 : Int32) &&& 31).toUInt32).toInt32) &&& (3 : Int32)), .unset, .unset, .unset, .unset, .unset, .unset, .unset, .unset, .unset] [(.int pa)]))
      refine Done.callSP X0 hx hZ hown (wAt hw 46 rfl) (wAt hw 47 rfl) (wAt hw 2 rfl) (wAt hw 48 rfl) (by decide) (rHi l Z a0 hw [] pa h0 n0 Z0) e0 (g := (mkF m 42 #[oI pa, oI pb, oI pc, oI pd, oI mode, oI (1 : Int32), oI (1 : Int32), oI (((mode.toUInt32 >>> ((2 : Int32) &&& 31).toUInt32).toInt32) &&& (3 : Int32)), .unset, .unset, .unset, .unset, .unset, .unset, .unset, .unset, .unset] [(.int pa)])) rfl (by rw [hml]; rfl) [(.int pa)] [] 0 (lenOf pd_15 rfl) rfl rfl (by show 2 * 0 + _ ≤ _; exact Nat.le_of_eq rfl) (hb hby at_42) (by decide) (by decide) (by decide) (by decide) rfl rfl ?_
      intro T65 X65 e65
      show Done _ p e below s _ _ (T65.setTop (mkF m 45 #[oI pa, oI pb, oI pc, oI pd, oI mode, oI (1 : Int32), oI (1 : Int32), oI (((mode.toUInt32 >>> ((2 : Int32) &&& 31).toUInt32).toInt32) &&& (3 : Int32)), .unset, .unset, .unset, .unset, .unset, .unset, .unset, .unset, .unset] [(.int (own_high pa))]))
      refine Done.step (fun _ => XS.istore X65.here hx rfl (hb hby at_45) rfl (l' := #[oI pa, oI pb, oI pc, oI pd, oI mode, oI (1 : Int32), oI (1 : Int32), oI (((mode.toUInt32 >>> ((2 : Int32) &&& 31).toUInt32).toInt32) &&& (3 : Int32)), oI (own_high pa), .unset, .unset, .unset, .unset, .unset, .unset, .unset, .unset]) rfl) ?_
      show Done _ p e below s _ _ (T65.setTop (mkF m 47 #[oI pa, oI pb, oI pc, oI pd, oI mode, oI (1 : Int32), oI (1 : Int32), oI (((mode.toUInt32 >>> ((2 : Int32) &&& 31).toUInt32).toInt32) &&& (3 : Int32)), oI (own_high pa), .unset, .unset, .unset, .unset, .unset, .unset, .unset, .unset] []))
      refine Done.step (fun _ => XS.iloadN X65.here hx rfl (hb hby at_47) rfl) ?_
      show Done _ p e below s _ _ (T65.setTop (mkF m 48 #[oI pa, oI pb, oI pc, oI pd, oI mode, oI (1 : Int32), oI (1 : Int32), oI (((mode.toUInt32 >>> ((2 : Int32) &&& 31).toUInt32).toInt32) &&& (3 : Int32)), oI (own_high pa), .unset, .unset, .unset, .unset, .unset, .unset, .unset, .unset] [(.int pb)]))
      refine Done.callSP X65 hx hZ hown (wAt hw 49 rfl) (wAt hw 50 rfl) (wAt hw 2 rfl) (wAt hw 51 rfl) (by decide) (rLo l Z a0 hw [] pb h0 n0 Z0) e65 (g := (mkF m 48 #[oI pa, oI pb, oI pc, oI pd, oI mode, oI (1 : Int32), oI (1 : Int32), oI (((mode.toUInt32 >>> ((2 : Int32) &&& 31).toUInt32).toInt32) &&& (3 : Int32)), oI (own_high pa), .unset, .unset, .unset, .unset, .unset, .unset, .unset, .unset] [(.int pb)])) rfl (by rw [hml]; rfl) [(.int pb)] [] 0 (lenOf pd_15 rfl) rfl rfl (by show 2 * 0 + _ ≤ _; exact Nat.le_of_eq rfl) (hb hby at_48) (by decide) (by decide) (by decide) (by decide) rfl rfl ?_
      intro T66 X66 e66
      show Done _ p e below s _ _ (T66.setTop (mkF m 51 #[oI pa, oI pb, oI pc, oI pd, oI mode, oI (1 : Int32), oI (1 : Int32), oI (((mode.toUInt32 >>> ((2 : Int32) &&& 31).toUInt32).toInt32) &&& (3 : Int32)), oI (own_high pa), .unset, .unset, .unset, .unset, .unset, .unset, .unset, .unset] [(.int (own_low pb))]))
      refine Done.step (fun _ => XS.istore X66.here hx rfl (hb hby at_51) rfl (l' := #[oI pa, oI pb, oI pc, oI pd, oI mode, oI (1 : Int32), oI (1 : Int32), oI (((mode.toUInt32 >>> ((2 : Int32) &&& 31).toUInt32).toInt32) &&& (3 : Int32)), oI (own_high pa), oI (own_low pb), .unset, .unset, .unset, .unset, .unset, .unset, .unset]) rfl) ?_
      show Done _ p e below s _ _ (T66.setTop (mkF m 53 #[oI pa, oI pb, oI pc, oI pd, oI mode, oI (1 : Int32), oI (1 : Int32), oI (((mode.toUInt32 >>> ((2 : Int32) &&& 31).toUInt32).toInt32) &&& (3 : Int32)), oI (own_high pa), oI (own_low pb), .unset, .unset, .unset, .unset, .unset, .unset, .unset] []))
      refine Done.step (fun _ => XT.iconstV X66.here hx rfl (4 : Int32) (hb hby at_53) (by decide)) ?_
      show Done _ p e below s _ _ (T66.setTop (mkF m 54 #[oI pa, oI pb, oI pc, oI pd, oI mode, oI (1 : Int32), oI (1 : Int32), oI (((mode.toUInt32 >>> ((2 : Int32) &&& 31).toUInt32).toInt32) &&& (3 : Int32)), oI (own_high pa), oI (own_low pb), .unset, .unset, .unset, .unset, .unset, .unset, .unset] [(.int (4 : Int32))]))
      refine Done.step (fun _ => XS.istore X66.here hx rfl (hb hby at_54) rfl (l' := #[oI pa, oI pb, oI pc, oI pd, oI mode, oI (1 : Int32), oI (1 : Int32), oI (((mode.toUInt32 >>> ((2 : Int32) &&& 31).toUInt32).toInt32) &&& (3 : Int32)), oI (own_high pa), oI (own_low pb), .unset, .unset, oI (4 : Int32), .unset, .unset, .unset, .unset]) rfl) ?_
      show Done _ p e below s _ _ (T66.setTop (mkF m 56 #[oI pa, oI pb, oI pc, oI pd, oI mode, oI (1 : Int32), oI (1 : Int32), oI (((mode.toUInt32 >>> ((2 : Int32) &&& 31).toUInt32).toInt32) &&& (3 : Int32)), oI (own_high pa), oI (own_low pb), .unset, .unset, oI (4 : Int32), .unset, .unset, .unset, .unset] []))
      refine Done.step (fun _ => XS.goto X66.here hx rfl (pc0 := 56) (pc' := 84) rfl (hb hby at_56) (by decide) (by decide)) ?_
      show Done _ p e below s _ _ (T66.setTop (mkF m 84 #[oI pa, oI pb, oI pc, oI pd, oI mode, oI (1 : Int32), oI (1 : Int32), oI (((mode.toUInt32 >>> ((2 : Int32) &&& 31).toUInt32).toInt32) &&& (3 : Int32)), oI (own_high pa), oI (own_low pb), .unset, .unset, oI (4 : Int32), .unset, .unset, .unset, .unset] []))
      refine Done.step (fun _ => XS.iload X66.here hx rfl (hb hby at_84) rfl) ?_
      show Done _ p e below s _ _ (T66.setTop (mkF m 86 #[oI pa, oI pb, oI pc, oI pd, oI mode, oI (1 : Int32), oI (1 : Int32), oI (((mode.toUInt32 >>> ((2 : Int32) &&& 31).toUInt32).toInt32) &&& (3 : Int32)), oI (own_high pa), oI (own_low pb), .unset, .unset, oI (4 : Int32), .unset, .unset, .unset, .unset] [(.int (1 : Int32))]))
      refine Done.step (fun _ => XS.ifNo X66.here hx rfl (hb hby at_86) rfl (XT.i0_eq_f (by decide))) ?_
      show Done _ p e below s _ _ (T66.setTop (mkF m 89 #[oI pa, oI pb, oI pc, oI pd, oI mode, oI (1 : Int32), oI (1 : Int32), oI (((mode.toUInt32 >>> ((2 : Int32) &&& 31).toUInt32).toInt32) &&& (3 : Int32)), oI (own_high pa), oI (own_low pb), .unset, .unset, oI (4 : Int32), .unset, .unset, .unset, .unset] []))
      refine Done.step (fun _ => XS.iloadN X66.here hx rfl (hb hby at_89) rfl) ?_
      show Done _ p e below s _ _ (T66.setTop (mkF m 90 #[oI pa, oI pb, oI pc, oI pd, oI mode, oI (1 : Int32), oI (1 : Int32), oI (((mode.toUInt32 >>> ((2 : Int32) &&& 31).toUInt32).toInt32) &&& (3 : Int32)), oI (own_high pa), oI (own_low pb), .unset, .unset, oI (4 : Int32), .unset, .unset, .unset, .unset] [(.int pc)]))
      refine Done.callSP X66 hx hZ hown (wAt hw 46 rfl) (wAt hw 47 rfl) (wAt hw 2 rfl) (wAt hw 48 rfl) (by decide) (rHi l Z a0 hw [] pc h0 n0 Z0) e66 (g := (mkF m 90 #[oI pa, oI pb, oI pc, oI pd, oI mode, oI (1 : Int32), oI (1 : Int32), oI (((mode.toUInt32 >>> ((2 : Int32) &&& 31).toUInt32).toInt32) &&& (3 : Int32)), oI (own_high pa), oI (own_low pb), .unset, .unset, oI (4 : Int32), .unset, .unset, .unset, .unset] [(.int pc)])) rfl (by rw [hml]; rfl) [(.int pc)] [] 0 (lenOf pd_15 rfl) rfl rfl (by show 2 * 0 + _ ≤ _; exact Nat.le_of_eq rfl) (hb hby at_90) (by decide) (by decide) (by decide) (by decide) rfl rfl ?_
      intro T67 X67 e67
      show Done _ p e below s _ _ (T67.setTop (mkF m 93 #[oI pa, oI pb, oI pc, oI pd, oI mode, oI (1 : Int32), oI (1 : Int32), oI (((mode.toUInt32 >>> ((2 : Int32) &&& 31).toUInt32).toInt32) &&& (3 : Int32)), oI (own_high pa), oI (own_low pb), .unset, .unset, oI (4 : Int32), .unset, .unset, .unset, .unset] [(.int (own_high pc))]))
      refine Done.step (fun _ => XS.istore X67.here hx rfl (hb hby at_93) rfl (l' := #[oI pa, oI pb, oI pc, oI pd, oI mode, oI (1 : Int32), oI (1 : Int32), oI (((mode.toUInt32 >>> ((2 : Int32) &&& 31).toUInt32).toInt32) &&& (3 : Int32)), oI (own_high pa), oI (own_low pb), oI (own_high pc), .unset, oI (4 : Int32), .unset, .unset, .unset, .unset]) rfl) ?_
      show Done _ p e below s _ _ (T67.setTop (mkF m 95 #[oI pa, oI pb, oI pc, oI pd, oI mode, oI (1 : Int32), oI (1 : Int32), oI (((mode.toUInt32 >>> ((2 : Int32) &&& 31).toUInt32).toInt32) &&& (3 : Int32)), oI (own_high pa), oI (own_low pb), oI (own_high pc), .unset, oI (4 : Int32), .unset, .unset, .unset, .unset] []))
      refine Done.step (fun _ => XS.iloadN X67.here hx rfl (hb hby at_95) rfl) ?_
      show Done _ p e below s _ _ (T67.setTop (mkF m 96 #[oI pa, oI pb, oI pc, oI pd, oI mode, oI (1 : Int32), oI (1 : Int32), oI (((mode.toUInt32 >>> ((2 : Int32) &&& 31).toUInt32).toInt32) &&& (3 : Int32)), oI (own_high pa), oI (own_low pb), oI (own_high pc), .unset, oI (4 : Int32), .unset, .unset, .unset, .unset] [(.int pd)]))
      refine Done.callSP X67 hx hZ hown (wAt hw 49 rfl) (wAt hw 50 rfl) (wAt hw 2 rfl) (wAt hw 51 rfl) (by decide) (rLo l Z a0 hw [] pd h0 n0 Z0) e67 (g := (mkF m 96 #[oI pa, oI pb, oI pc, oI pd, oI mode, oI (1 : Int32), oI (1 : Int32), oI (((mode.toUInt32 >>> ((2 : Int32) &&& 31).toUInt32).toInt32) &&& (3 : Int32)), oI (own_high pa), oI (own_low pb), oI (own_high pc), .unset, oI (4 : Int32), .unset, .unset, .unset, .unset] [(.int pd)])) rfl (by rw [hml]; rfl) [(.int pd)] [] 0 (lenOf pd_15 rfl) rfl rfl (by show 2 * 0 + _ ≤ _; exact Nat.le_of_eq rfl) (hb hby at_96) (by decide) (by decide) (by decide) (by decide) rfl rfl ?_
      intro T68 X68 e68
      show Done _ p e below s _ _ (T68.setTop (mkF m 99 #[oI pa, oI pb, oI pc, oI pd, oI mode, oI (1 : Int32), oI (1 : Int32), oI (((mode.toUInt32 >>> ((2 : Int32) &&& 31).toUInt32).toInt32) &&& (3 : Int32)), oI (own_high pa), oI (own_low pb), oI (own_high pc), .unset, oI (4 : Int32), .unset, .unset, .unset, .unset] [(.int (own_low pd))]))
      refine Done.step (fun _ => XS.istore X68.here hx rfl (hb hby at_99) rfl (l' := #[oI pa, oI pb, oI pc, oI pd, oI mode, oI (1 : Int32), oI (1 : Int32), oI (((mode.toUInt32 >>> ((2 : Int32) &&& 31).toUInt32).toInt32) &&& (3 : Int32)), oI (own_high pa), oI (own_low pb), oI (own_high pc), oI (own_low pd), oI (4 : Int32), .unset, .unset, .unset, .unset]) rfl) ?_
      show Done _ p e below s _ _ (T68.setTop (mkF m 101 #[oI pa, oI pb, oI pc, oI pd, oI mode, oI (1 : Int32), oI (1 : Int32), oI (((mode.toUInt32 >>> ((2 : Int32) &&& 31).toUInt32).toInt32) &&& (3 : Int32)), oI (own_high pa), oI (own_low pb), oI (own_high pc), oI (own_low pd), oI (4 : Int32), .unset, .unset, .unset, .unset] []))
      refine Done.step (fun _ => XT.iconstV X68.here hx rfl (4 : Int32) (hb hby at_101) (by decide)) ?_
      show Done _ p e below s _ _ (T68.setTop (mkF m 102 #[oI pa, oI pb, oI pc, oI pd, oI mode, oI (1 : Int32), oI (1 : Int32), oI (((mode.toUInt32 >>> ((2 : Int32) &&& 31).toUInt32).toInt32) &&& (3 : Int32)), oI (own_high pa), oI (own_low pb), oI (own_high pc), oI (own_low pd), oI (4 : Int32), .unset, .unset, .unset, .unset] [(.int (4 : Int32))]))
      refine Done.step (fun _ => XS.istore X68.here hx rfl (hb hby at_102) rfl (l' := #[oI pa, oI pb, oI pc, oI pd, oI mode, oI (1 : Int32), oI (1 : Int32), oI (((mode.toUInt32 >>> ((2 : Int32) &&& 31).toUInt32).toInt32) &&& (3 : Int32)), oI (own_high pa), oI (own_low pb), oI (own_high pc), oI (own_low pd), oI (4 : Int32), oI (4 : Int32), .unset, .unset, .unset]) rfl) ?_
      show Done _ p e below s _ _ (T68.setTop (mkF m 104 #[oI pa, oI pb, oI pc, oI pd, oI mode, oI (1 : Int32), oI (1 : Int32), oI (((mode.toUInt32 >>> ((2 : Int32) &&& 31).toUInt32).toInt32) &&& (3 : Int32)), oI (own_high pa), oI (own_low pb), oI (own_high pc), oI (own_low pd), oI (4 : Int32), oI (4 : Int32), .unset, .unset, .unset] []))
      refine Done.step (fun _ => XS.goto X68.here hx rfl (pc0 := 104) (pc' := 132) rfl (hb hby at_104) (by decide) (by decide)) ?_
      show Done _ p e below s _ _ (T68.setTop (mkF m 132 #[oI pa, oI pb, oI pc, oI pd, oI mode, oI (1 : Int32), oI (1 : Int32), oI (((mode.toUInt32 >>> ((2 : Int32) &&& 31).toUInt32).toInt32) &&& (3 : Int32)), oI (own_high pa), oI (own_low pb), oI (own_high pc), oI (own_low pd), oI (4 : Int32), oI (4 : Int32), .unset, .unset, .unset] []))
      exact K132 T68 e68 X68 (1 : Int32) (1 : Int32) (((mode.toUInt32 >>> ((2 : Int32) &&& 31).toUInt32).toInt32) &&& (3 : Int32)) (own_high pa) (own_low pb) (own_high pc) (own_low pd) (4 : Int32) (4 : Int32) (own_hiB _).1 (own_loB _).1 (own_hiB _).1 (own_loB _).1 (own_ss2 _ _) (own_ss2 _ _)
set_option maxRecDepth 65536 in
set_option maxHeartbeats 40000000 in
theorem comes_1 {Post : Tables → Env → Array Value → State → Outcome → State → Prop} (hpost : ∀ tb e args s v u, (limb_1_1.after args s (.returned v) u = true ∧ limb_1_2.after args s (.returned v) u = true ∧ True) → ReturnedEndW s (.returned v) u (Jvm.fieldLocs frame_1_writes args s ++ Jvm.arrayLocs frame_1_arrays args s ++ Jvm.staticLocs frame_1_statics s) 24 1152 → Post tb e args s (.returned v) u) :
    ArmFor flags0 classFile x code maxLocals ret World_1 tables_1 room_1 Calls_1 rest_1 Pre_1 Post := by
  intro l hfl _ _ p e ha hc hk s m args below hf hA hF happ hP
  obtain ⟨hcalls, hrest, hpre⟩ := hP
  obtain ⟨-, -, -, hnamed, -, -, -, hat⟩ := (Spec.applies_iff hf).mp happ
  obtain ⟨hg, hn⟩ := and_e (Cond.before_iff.mp (show (Jvm.Cond.and given_1 narrow_1).before args s = true from hpre))
  obtain ⟨w0, w1, w2, w3, w4, rfl⟩ : ∃ w0 w1 w2 w3 w4 : Value, args = #[w0, w1, w2, w3, w4] := by
    have hs : args.size = 5 := by simpa [Cond.value] using (and_e hg).1
    obtain ⟨L⟩ := args
    match L, hs with
    | [w0, w1, w2, w3, w4], _ => exact ⟨w0, w1, w2, w3, w4, rfl⟩
  have hw := fun d (hd : d ∈ tables_1) => atoms_spec (ws := Jvm.Cond.code x code maxLocals ret :: tables_1) hat d (List.mem_cons_of_mem _ hd)
  have hfit : Fit s := fun {y c} hc i hi => by
    obtain ⟨ha, rfl⟩ := Array.getElem?_eq_some_iff.mp hc
    have q := List.all_eq_true.mp ((Array.all_eq_true_iff_forall_mem.mp hF) _ (Array.getElem_mem ha)) i (List.mem_range.mpr hi)
    simpa [Array.getElem?_eq_getElem hi] using q
  obtain ⟨hsets, hown0⟩ := atoms_of _ (rest_1_c_eq ▸ (show rest_1_c.before _ s = true from hrest))
  have hr0 := Cond.before_iff.mp hown0
  obtain ⟨_, hg0⟩ := and_e hg
  obtain ⟨ga0, hg1⟩ := and_e hg0
  obtain ⟨i0, ei0⟩ := is_v ga0
  obtain rfl : w0 = (.int i0) := Option.some.inj ei0
  obtain ⟨ga1, hg2⟩ := and_e hg1
  obtain ⟨i1, ei1⟩ := is_v ga1
  obtain rfl : w1 = (.int i1) := Option.some.inj ei1
  obtain ⟨ga2, hg3⟩ := and_e hg2
  obtain ⟨i2, ei2⟩ := is_v ga2
  obtain rfl : w2 = (.int i2) := Option.some.inj ei2
  obtain ⟨ga3, hg4⟩ := and_e hg3
  obtain ⟨i3, ei3⟩ := is_v ga3
  obtain rfl : w3 = (.int i3) := Option.some.inj ei3
  obtain ⟨i4, ei4⟩ := is_v hg4
  obtain rfl : w4 = (.int i4) := Option.some.inj ei4
  obtain ⟨z, ez⟩ := is_v (Cond.before_iff.mp (hsets _ (List.mem_of_getElem? (i := 1) rfl)))
  have SC := Sta.start ez (Or.inl (hsets _ (List.mem_of_getElem? (i := 0) rfl)))
  have hz : ¬ z = 0 := fun q => gotF (eq_v ez) (not_v (Cond.before_iff.mp (hsets _ (List.mem_of_getElem? (i := 2) rfl)))) q
  obtain ⟨fm, ef, rF⟩ := isR_v (Cond.before_iff.mp (hsets _ (List.mem_of_getElem? (i := 8) rfl)))
  have SF := Sta.start ef (Or.inl (hsets _ (List.mem_of_getElem? (i := 7) rfl)))
  have eSA := int_eq_v (Cond.before_iff.mp (hsets _ (List.mem_of_getElem? (i := 12) rfl)))
  have SA := Sta.start eSA (Or.inl (hsets _ (List.mem_of_getElem? (i := 11) rfl)))
  have eSH := int_eq_v (Cond.before_iff.mp (hsets _ (List.mem_of_getElem? (i := 15) rfl)))
  have SH := Sta.start eSH (Or.inl (hsets _ (List.mem_of_getElem? (i := 14) rfl)))
  have eSL := int_eq_v (Cond.before_iff.mp (hsets _ (List.mem_of_getElem? (i := 18) rfl)))
  have SL := Sta.start eSL (Or.inl (hsets _ (List.mem_of_getElem? (i := 17) rfl)))
  have hcw : Jvm.Lit.compactW.before #[(.int i0), (.int i1), (.int i2), (.int i3), (.int i4)] s = true := hsets _ (List.mem_of_getElem? (i := 2) rfl)
  have hh : Jvm.Lit.constHeld s "java/lang/String" 7 := hcalls.1 _ (List.mem_of_getElem? (i := 0) rfl)
  obtain ⟨n, o, h1, h2, h3, _, L, rfl, ⟨rfl, N⟩, hq⟩ := rm0 l s _ hw tables_1 i0 i1 i2 i3 i4 z fm s.heap s.heap.size (Nat.le_refl _) (Old.start s) SC hz SF rF SA SH SL hh hcw p e ha hc hk s m _ below hf ((Spec.applies_iff_loose hf).mp happ).1 ⟨rfl, State.Warmed39.refl s, rfl, IB.start⟩ trivial
  refine ⟨n, _, h1, h2, h3, hpost _ _ _ _ _ _ ⟨Cond.after_iff.mpr rfl, Cond.after_iff.mpr (eq_i res_at (Term.int_eval (1)) rfl), trivial⟩ ⟨hq.1, hq.2.1, hq.2.2.1, (hq.2.2.2.sift fun y hy => Or.inr (N y hy)).mono (by decide) (by decide)⟩⟩
theorem main_1_1 : Claimed_1_1 := comes_1 fun _ _ _ _ _ _ h hF => ⟨h.1, hF⟩
theorem main_1_2 : Claimed_1_2 := comes_1 fun _ _ _ _ _ _ h hF => ⟨h.2.1, hF⟩
end Jvm.Pilot.@@N@@
namespace Jvm.Pilot.@@N@@
open Jvm Jvm.ClassFile Sem Op Lib Jvm.Free Jvm.Stand Jvm.Pilot.@@N@@.Jvm.D
/-! MADE BY PROGRAM (witnessworld.py) out of the Statement's table words and the real class files: 21 classes; the members and pool entries that the words name. The judged class is class 1, her method 5. -/
namespace start1
open Jvm.ClassFile
def u (s : String) : CpInfo := .utf8 (stringToUtf16 s)
/-- a pool by its gaps: so many unusable entries, then the entry; so many at the end -/
def gap : Nat → List CpInfo → List CpInfo
  | 0, r => r
  | n + 1, r => .unusable :: gap n r
def poolList (es : List (Nat × CpInfo)) (last : Nat) : List CpInfo := es.foldr (fun e r => gap e.1 (e.2 :: r)) (gap last [])
def pool (es : List (Nat × CpInfo)) (last : Nat) : Array CpInfo := ⟨poolList es last⟩
def fileOf (pool : Array CpInfo) (this : Nat) (attrs : Array Attribute := #[]) (ms : Array MethodInfo := #[]) (fl : Nat := 33) (sup : Nat := 0) (ifs : Array Nat := #[]) (fds : Array FieldInfo := #[]) : ClassFile where
  minorVersion := 0
  majorVersion := 65
  constantPool := pool
  accessFlags := fl
  thisClass := this
  superClass := sup
  interfaces := ifs
  fields := fds
  methods := ms
  attributes := attrs
def plain (name : String) (sup : Option ClassId) : Class where
  name := name
  kind := .ordinary
  loader := none
  accessFlags := 33
  super := sup
  interfaces := #[]
  cf := none
  fields := #[]
  methods := #[]
  instanceTypes := #[]
  staticTypes := #[]
  resolved := #[]
  callSites := []
  init := .initialized
  statics := none
  mirror := none

def pool0 : Array CpInfo := pool [(5, u "<init>"), (0, u "()V"), (1, .class_ 10), (1, u "java/lang/Object")] 113

def k0c0 : Code := { maxStack := 0, maxLocals := 1, code := object_method_1_code, exceptionTable := #[], attributes := #[] }
def k0m0 : Method := { name := "<init>", desc := "()V", sig := { parameters := [], returnType := none }, accessFlags := 1, code := some k0c0 }
/-- java/lang/Object -/
def k0 : Class := { plain "java/lang/Object" none with
  accessFlags := 33
  interfaces := #[]
  cf := some (fileOf pool0 8 #[] #[{ accessFlags := 1, nameIndex := 5, descriptorIndex := 6, attributes := #[] }] 33 0 #[] #[])
  fields := #[]
  methods := #[k0m0]
  instanceTypes := #[]
  staticTypes := #[]
  resolved := Array.replicate 124 none
  statics := none }

def pool1 : Array CpInfo := pool [(2, .class_ 4), (1, u "java/lang/Object"), (0, u "<init>"), (0, u "()V"), (0, .integer 65535), (0, .integer 55296), (0, .integer 57343), (0, .integer 56320), (0, .methodref 12 13), (0, .class_ 14), (0, .nameAndType 15 16), (0, u "com/example/wide_weir/wideweir/http/QueryUtf8LengthPinLaw"), (0, u "high"), (0, u "(I)C"), (0, .methodref 12 18), (0, .nameAndType 19 16), (0, u "low"), (0, .methodref 12 21), (0, .nameAndType 22 16), (0, u "bmp"), (0, .methodref 12 24), (0, .nameAndType 25 26), (0, u "bmpBytes"), (0, u "(C)I"), (0, .class_ 28), (0, u "java/lang/String"), (0, .methodref 27 30), (0, .nameAndType 5 31), (0, u "([C)V"), (0, .methodref 27 33), (0, .nameAndType 34 35), (0, u "valueOf"), (0, u "(C)Ljava/lang/String;"), (0, .methodref 37 38), (0, .class_ 39), (0, .nameAndType 40 41), (0, u "com/example/wide_weir/wideweir/http/Query"), (0, u "utf8Length"), (0, u "(Ljava/lang/String;)I"), (3, u "law"), (0, u "(IIIII)Z")] 2

def k1m0 : Method := { name := "<init>", desc := "()V", sig := { parameters := [], returnType := none }, accessFlags := 2, code := none }
def k1c1 : Code := { maxStack := 2, maxLocals := 2, code := method_2_code, exceptionTable := #[], attributes := #[] }
def k1m1 : Method := { name := "bmp", desc := "(I)C", sig := { parameters := [.int], returnType := some .char }, accessFlags := 10, code := some k1c1 }
def k1c2 : Code := { maxStack := 2, maxLocals := 1, code := method_3_code, exceptionTable := #[], attributes := #[] }
def k1m2 : Method := { name := "bmpBytes", desc := "(C)I", sig := { parameters := [.char], returnType := some .int }, accessFlags := 10, code := some k1c2 }
def k1c3 : Code := { maxStack := 3, maxLocals := 1, code := method_4_code, exceptionTable := #[], attributes := #[] }
def k1m3 : Method := { name := "high", desc := "(I)C", sig := { parameters := [.int], returnType := some .char }, accessFlags := 10, code := some k1c3 }
def k1c4 : Code := { maxStack := 3, maxLocals := 1, code := method_5_code, exceptionTable := #[], attributes := #[] }
def k1m4 : Method := { name := "low", desc := "(I)C", sig := { parameters := [.int], returnType := some .char }, accessFlags := 10, code := some k1c4 }
def k1c5 : Code := { maxStack := 6, maxLocals := 17, code := code, exceptionTable := #[], attributes := #[] }
def k1m5 : Method := { name := "law", desc := "(IIIII)Z", sig := { parameters := [.int, .int, .int, .int, .int], returnType := some .boolean }, accessFlags := 9, code := some k1c5 }
/-- com/example/wide_weir/wideweir/http/QueryUtf8LengthPinLaw -/
def k1 : Class := { plain "com/example/wide_weir/wideweir/http/QueryUtf8LengthPinLaw" (some 0) with
  accessFlags := 49
  interfaces := #[]
  cf := some (fileOf pool1 12 #[] #[{ accessFlags := 2, nameIndex := 5, descriptorIndex := 6, attributes := #[] }, { accessFlags := 10, nameIndex := 22, descriptorIndex := 16, attributes := #[] }, { accessFlags := 10, nameIndex := 25, descriptorIndex := 26, attributes := #[] }, { accessFlags := 10, nameIndex := 15, descriptorIndex := 16, attributes := #[] }, { accessFlags := 10, nameIndex := 19, descriptorIndex := 16, attributes := #[] }, { accessFlags := 9, nameIndex := 45, descriptorIndex := 46, attributes := #[] }] 49 2 #[] #[])
  fields := #[]
  methods := #[k1m0, k1m1, k1m2, k1m3, k1m4, k1m5]
  instanceTypes := #[]
  staticTypes := #[]
  resolved := Array.replicate 49 none
  statics := none }

def pool2 : Array CpInfo := pool [(1, .class_ 2), (0, u "java/io/Serializable"), (0, .class_ 4), (0, u "java/lang/Object")] 2

/-- java/io/Serializable -/
def k2 : Class := { plain "java/io/Serializable" (some 0) with
  accessFlags := 1537
  interfaces := #[]
  cf := some (fileOf pool2 1 #[] #[] 1537 3 #[] #[])
  fields := #[]
  methods := #[]
  instanceTypes := #[]
  staticTypes := #[]
  resolved := Array.replicate 7 none
  statics := none }

def pool3 : Array CpInfo := pool [(1, .class_ 2), (0, u "java/lang/Comparable"), (0, .class_ 4), (0, u "java/lang/Object")] 7

/-- java/lang/Comparable -/
def k3 : Class := { plain "java/lang/Comparable" (some 0) with
  accessFlags := 1537
  interfaces := #[]
  cf := some (fileOf pool3 1 #[] #[] 1537 3 #[] #[])
  fields := #[]
  methods := #[]
  instanceTypes := #[]
  staticTypes := #[]
  resolved := Array.replicate 12 none
  statics := none }

def pool4 : Array CpInfo := pool [(2, .class_ 4), (1, u "java/lang/CharSequence"), (42, .class_ 48), (0, u "java/lang/CharSequence$1CodePointIterator"), (10, .class_ 60), (0, u "java/lang/CharSequence$1CharIterator"), (5, .class_ 67), (0, u "java/lang/Object")] 63

/-- java/lang/CharSequence -/
def k4 : Class := { plain "java/lang/CharSequence" (some 0) with
  accessFlags := 1537
  interfaces := #[]
  cf := some (fileOf pool4 2 #[.nestMembers #[47, 59]] #[] 1537 66 #[] #[])
  fields := #[]
  methods := #[]
  instanceTypes := #[]
  staticTypes := #[]
  resolved := Array.replicate 131 none
  statics := none }

def pool5 : Array CpInfo := pool [(1, .class_ 2), (0, u "java/lang/constant/Constable"), (0, .class_ 4), (0, u "java/lang/Object")] 6

/-- java/lang/constant/Constable -/
def k5 : Class := { plain "java/lang/constant/Constable" (some 0) with
  accessFlags := 1537
  interfaces := #[]
  cf := some (fileOf pool5 1 #[] #[] 1537 3 #[] #[])
  fields := #[]
  methods := #[]
  instanceTypes := #[]
  staticTypes := #[]
  resolved := Array.replicate 11 none
  statics := none }

def pool6 : Array CpInfo := pool [(1, .class_ 2), (0, u "java/lang/constant/ConstantDesc"), (0, .class_ 4), (0, u "java/lang/Object")] 32

/-- java/lang/constant/ConstantDesc -/
def k6 : Class := { plain "java/lang/constant/ConstantDesc" (some 0) with
  accessFlags := 1537
  interfaces := #[]
  cf := some (fileOf pool6 1 #[] #[] 1537 3 #[] #[])
  fields := #[]
  methods := #[]
  instanceTypes := #[]
  staticTypes := #[]
  resolved := Array.replicate 37 none
  statics := none }

def pool7 : Array CpInfo := pool [(1, .methodref 2 3), (0, .class_ 4), (0, .nameAndType 5 6), (0, u "java/lang/Object"), (0, u "<init>"), (0, u "()V"), (0, .string 8), (0, u ""), (0, .fieldref 10 11), (0, .class_ 12), (0, .nameAndType 13 14), (0, u "java/lang/String"), (0, u "value"), (0, u "[B"), (0, .fieldref 10 16), (0, .nameAndType 17 18), (0, u "coder"), (0, u "B"), (2, u "hash"), (0, u "I"), (2, u "hashIsZero"), (0, u "Z"), (0, .methodref 10 28), (0, .nameAndType 5 29), (0, u "([CIILjava/lang/Void;)V"), (8, .fieldref 10 39), (0, .nameAndType 40 26), (0, u "COMPACT_STRINGS"), (1, .class_ 44), (1, u "java/lang/StringUTF16"), (0, u "compress"), (1, .methodref 42 48), (0, .nameAndType 49 50), (0, u "coderFromArrayLen"), (0, u "([BI)B"), (2, u "toBytes"), (53, .class_ 109), (1, u "java/lang/StringLatin1"), (32, u "()Z"), (34, .methodref 42 178), (0, .nameAndType 45 179), (0, u "([CII)[B"), (29, .methodref 10 210), (0, .nameAndType 5 211), (0, u "([BB)V"), (122, u "()I"), (0, .methodref 10 336), (0, .nameAndType 17 337), (0, u "()B"), (25, u "([BI)C"), (5, u "(C)Z"), (21, u "(II)V"), (35, u "(I)C"), (64, .methodref 10 493), (0, .nameAndType 494 142), (0, u "isLatin1"), (0, .methodref 107 496), (0, .nameAndType 497 363), (0, u "charAt"), (0, .methodref 42 496), (2, u "checkIndex"), (5, u "length"), (67, .class_ 576), (0, u "java/lang/CharSequence"), (22, u "CASE_INSENSITIVE_ORDER"), (0, u "Ljava/util/Comparator;"), (181, u "valueOf"), (0, u "(C)Ljava/lang/String;"), (226, u "([C)V"), (4, .methodref 107 1016), (0, .nameAndType 1017 369), (0, u "canEncode"), (0, .methodref 107 1019), (0, .nameAndType 53 1020), (0, u "(C)[B"), (0, .methodref 42 1019), (31, .fieldref 1054 1055), (0, .class_ 1056), (0, .nameAndType 1057 1058), (0, u "jdk/internal/util/Preconditions"), (0, u "SIOOBE_FORMATTER"), (0, u "Ljava/util/function/BiFunction;"), (0, .methodref 1054 1060), (0, .nameAndType 501 1061), (0, u "(IILjava/util/function/BiFunction;)I"), (39, u "serialPersistentFields"), (0, u "[Ljava/io/ObjectStreamField;"), (0, .class_ 1104), (0, u "java/lang/String$CaseInsensitiveComparator"), (1, .class_ 1107), (0, u "java/io/Serializable"), (0, .class_ 1109), (0, u "java/lang/Comparable"), (0, .class_ 1111), (0, u "java/lang/constant/Constable"), (0, .class_ 1113), (0, u "java/lang/constant/ConstantDesc"), (2, u "serialVersionUID"), (0, u "J"), (3, u "REPL"), (0, u "C"), (2, u "LATIN1"), (1, u "UTF16")] 323

def k7m0 : Method := { name := "<init>", desc := "()V", sig := { parameters := [], returnType := none }, accessFlags := 1, code := none }
def k7c1 : Code := { maxStack := 5, maxLocals := 2, code := jdk_42_method_3_code, exceptionTable := #[], attributes := #[] }
def k7m1 : Method := { name := "<init>", desc := "([C)V", sig := { parameters := [(.array .char)], returnType := none }, accessFlags := 1, code := some k7c1 }
def k7c2 : Code := { maxStack := 2, maxLocals := 1, code := jdk_42_method_54_code, exceptionTable := #[], attributes := #[] }
def k7m2 : Method := { name := "length", desc := "()I", sig := { parameters := [], returnType := some .int }, accessFlags := 1, code := some k7c2 }
def k7c3 : Code := { maxStack := 2, maxLocals := 2, code := jdk_42_method_56_code, exceptionTable := #[], attributes := #[] }
def k7m3 : Method := { name := "charAt", desc := "(I)C", sig := { parameters := [.int], returnType := some .char }, accessFlags := 1, code := some k7c3 }
def k7c4 : Code := { maxStack := 4, maxLocals := 1, code := jdk_42_method_139_code, exceptionTable := #[], attributes := #[] }
def k7m4 : Method := { name := "valueOf", desc := "(C)Ljava/lang/String;", sig := { parameters := [.char], returnType := some (.object "java/lang/String") }, accessFlags := 9, code := some k7c4 }
def k7c5 : Code := { maxStack := 4, maxLocals := 6, code := jdk_42_method_149_code, exceptionTable := #[], attributes := #[] }
def k7m5 : Method := { name := "<init>", desc := "([CIILjava/lang/Void;)V", sig := { parameters := [(.array .char), .int, .int, (.object "java/lang/Void")], returnType := none }, accessFlags := 2, code := some k7c5 }
def k7c6 : Code := { maxStack := 2, maxLocals := 3, code := jdk_42_method_151_code, exceptionTable := #[], attributes := #[] }
def k7m6 : Method := { name := "<init>", desc := "([BB)V", sig := { parameters := [(.array .byte), .byte], returnType := none }, accessFlags := 0, code := some k7c6 }
def k7c7 : Code := { maxStack := 1, maxLocals := 1, code := jdk_42_method_152_code, exceptionTable := #[], attributes := #[] }
def k7m7 : Method := { name := "coder", desc := "()B", sig := { parameters := [], returnType := some .byte }, accessFlags := 0, code := some k7c7 }
def k7c8 : Code := { maxStack := 1, maxLocals := 1, code := jdk_42_method_154_code, exceptionTable := #[], attributes := #[] }
def k7m8 : Method := { name := "isLatin1", desc := "()Z", sig := { parameters := [], returnType := some .boolean }, accessFlags := 0, code := some k7c8 }
def k7c9 : Code := { maxStack := 3, maxLocals := 2, code := jdk_42_method_155_code, exceptionTable := #[], attributes := #[] }
def k7m9 : Method := { name := "checkIndex", desc := "(II)V", sig := { parameters := [.int, .int], returnType := none }, accessFlags := 8, code := some k7c9 }
/-- java/lang/String -/
def k7 : Class := { plain "java/lang/String" (some 0) with
  accessFlags := 49
  interfaces := #[2, 3, 4, 5, 6]
  cf := some (fileOf pool7 10 #[.nestMembers #[1103]] #[{ accessFlags := 1, nameIndex := 5, descriptorIndex := 6, attributes := #[] }, { accessFlags := 1, nameIndex := 5, descriptorIndex := 1010, attributes := #[] }, { accessFlags := 1, nameIndex := 507, descriptorIndex := 334, attributes := #[] }, { accessFlags := 1, nameIndex := 497, descriptorIndex := 427, attributes := #[] }, { accessFlags := 9, nameIndex := 782, descriptorIndex := 783, attributes := #[] }, { accessFlags := 2, nameIndex := 5, descriptorIndex := 29, attributes := #[] }, { accessFlags := 0, nameIndex := 5, descriptorIndex := 211, attributes := #[] }, { accessFlags := 0, nameIndex := 17, descriptorIndex := 337, attributes := #[] }, { accessFlags := 0, nameIndex := 494, descriptorIndex := 142, attributes := #[] }, { accessFlags := 8, nameIndex := 501, descriptorIndex := 391, attributes := #[] }] 49 2 #[1106, 1108, 575, 1110, 1112] #[{ accessFlags := 18, nameIndex := 13, descriptorIndex := 14, attributes := #[] }, { accessFlags := 18, nameIndex := 17, descriptorIndex := 18, attributes := #[] }, { accessFlags := 2, nameIndex := 21, descriptorIndex := 22, attributes := #[] }, { accessFlags := 2, nameIndex := 25, descriptorIndex := 26, attributes := #[] }, { accessFlags := 26, nameIndex := 1116, descriptorIndex := 1117, attributes := #[] }, { accessFlags := 24, nameIndex := 40, descriptorIndex := 26, attributes := #[] }, { accessFlags := 26, nameIndex := 1101, descriptorIndex := 1102, attributes := #[] }, { accessFlags := 26, nameIndex := 1121, descriptorIndex := 1122, attributes := #[] }, { accessFlags := 25, nameIndex := 599, descriptorIndex := 600, attributes := #[] }, { accessFlags := 24, nameIndex := 1125, descriptorIndex := 18, attributes := #[] }, { accessFlags := 24, nameIndex := 1127, descriptorIndex := 18, attributes := #[] }])
  fields := #[{ name := "value", type := (.array .byte), accessFlags := 18, slot := 0, constantValue := 0 }, { name := "coder", type := .byte, accessFlags := 18, slot := 1, constantValue := 0 }, { name := "hash", type := .int, accessFlags := 2, slot := 2, constantValue := 0 }, { name := "hashIsZero", type := .boolean, accessFlags := 2, slot := 3, constantValue := 0 }, { name := "serialVersionUID", type := .long, accessFlags := 26, slot := 0, constantValue := 0 }, { name := "COMPACT_STRINGS", type := .boolean, accessFlags := 24, slot := 1, constantValue := 0 }, { name := "serialPersistentFields", type := (.array (.object "java/io/ObjectStreamField")), accessFlags := 26, slot := 2, constantValue := 0 }, { name := "REPL", type := .char, accessFlags := 26, slot := 3, constantValue := 0 }, { name := "CASE_INSENSITIVE_ORDER", type := (.object "java/util/Comparator"), accessFlags := 25, slot := 4, constantValue := 0 }, { name := "LATIN1", type := .byte, accessFlags := 24, slot := 5, constantValue := 0 }, { name := "UTF16", type := .byte, accessFlags := 24, slot := 6, constantValue := 0 }]
  methods := #[k7m0, k7m1, k7m2, k7m3, k7m4, k7m5, k7m6, k7m7, k7m8, k7m9]
  instanceTypes := #[(.array .byte), .byte, .int, .boolean]
  staticTypes := #[.long, .boolean, (.array (.object "java/io/ObjectStreamField")), .char, (.object "java/util/Comparator"), .byte, .byte]
  resolved := Array.replicate 1451 none
  statics := some 0 }

def pool8 : Array CpInfo := pool [(2, .class_ 4), (1, u "java/lang/Object"), (0, u "<init>"), (0, u "()V"), (6, .class_ 15), (1, u "java/lang/String"), (15, .class_ 33), (1, u "com/example/wide_weir/wideweir/http/Query"), (36, .methodref 13 71), (0, .nameAndType 72 73), (0, u "length"), (0, u "()I"), (0, .methodref 13 75), (0, .nameAndType 76 77), (0, u "charAt"), (0, u "(I)C"), (0, .methodref 79 80), (0, .class_ 81), (0, .nameAndType 82 83), (0, u "java/lang/Character"), (0, u "isSurrogate"), (0, u "(C)Z"), (85, u "utf8Length"), (0, u "(Ljava/lang/String;)I")] 32

def k8m0 : Method := { name := "<init>", desc := "()V", sig := { parameters := [], returnType := none }, accessFlags := 2, code := none }
def k8c1 : Code := { maxStack := 2, maxLocals := 4, code := prog_37_method_3_code, exceptionTable := #[], attributes := #[] }
def k8m1 : Method := { name := "utf8Length", desc := "(Ljava/lang/String;)I", sig := { parameters := [(.object "java/lang/String")], returnType := some .int }, accessFlags := 8, code := some k8c1 }
/-- com/example/wide_weir/wideweir/http/Query -/
def k8 : Class := { plain "com/example/wide_weir/wideweir/http/Query" (some 0) with
  accessFlags := 48
  interfaces := #[]
  cf := some (fileOf pool8 31 #[] #[{ accessFlags := 2, nameIndex := 5, descriptorIndex := 6, attributes := #[] }, { accessFlags := 8, nameIndex := 169, descriptorIndex := 170, attributes := #[] }] 48 2 #[] #[])
  fields := #[]
  methods := #[k8m0, k8m1]
  instanceTypes := #[]
  staticTypes := #[]
  resolved := Array.replicate 203 none
  statics := none }

def pool9 : Array CpInfo := pool [(1, .class_ 2), (0, u "java/lang/String"), (1, .class_ 6), (1, u "java/lang/Object"), (0, u "<init>"), (0, u "()V"), (0, .methodref 1 10), (0, .nameAndType 11 12), (0, u "checkIndex"), (0, u "(II)V"), (1, .class_ 16), (1, u "java/lang/StringLatin1"), (36, u "([BI)C"), (36, u "canEncode"), (14, u "(C)Z"), (15, u "$assertionsDisabled"), (0, u "Z"), (98, .class_ 223), (1, u "java/lang/StringLatin1$LinesSpliterator"), (28, u "charAt"), (127, u "toBytes"), (1, u "(C)[B"), (7, .class_ 391), (0, u "java/lang/StringLatin1$CharsSpliterator")] 3

def k9m0 : Method := { name := "<init>", desc := "()V", sig := { parameters := [], returnType := none }, accessFlags := 0, code := none }
def k9c1 : Code := { maxStack := 2, maxLocals := 2, code := jdk_43_method_2_code, exceptionTable := #[], attributes := #[] }
def k9m1 : Method := { name := "charAt", desc := "([BI)C", sig := { parameters := [(.array .byte), .int], returnType := some .char }, accessFlags := 9, code := some k9c1 }
def k9c2 : Code := { maxStack := 2, maxLocals := 1, code := jdk_43_method_3_code, exceptionTable := #[], attributes := #[] }
def k9m2 : Method := { name := "canEncode", desc := "(C)Z", sig := { parameters := [.char], returnType := some .boolean }, accessFlags := 9, code := some k9c2 }
def k9c3 : Code := { maxStack := 4, maxLocals := 1, code := jdk_43_method_46_code, exceptionTable := #[], attributes := #[] }
def k9m3 : Method := { name := "toBytes", desc := "(C)[B", sig := { parameters := [.char], returnType := some (.array .byte) }, accessFlags := 9, code := some k9c3 }
/-- java/lang/StringLatin1 -/
def k9 : Class := { plain "java/lang/StringLatin1" (some 0) with
  accessFlags := 48
  interfaces := #[]
  cf := some (fileOf pool9 14 #[.nestMembers #[390, 221]] #[{ accessFlags := 0, nameIndex := 7, descriptorIndex := 8, attributes := #[] }, { accessFlags := 9, nameIndex := 252, descriptorIndex := 53, attributes := #[] }, { accessFlags := 9, nameIndex := 90, descriptorIndex := 105, attributes := #[] }, { accessFlags := 9, nameIndex := 380, descriptorIndex := 382, attributes := #[] }] 48 4 #[] #[{ accessFlags := 4120, nameIndex := 121, descriptorIndex := 122, attributes := #[] }])
  fields := #[{ name := "$assertionsDisabled", type := .boolean, accessFlags := 4120, slot := 0, constantValue := 0 }]
  methods := #[k9m0, k9m1, k9m2, k9m3]
  instanceTypes := #[]
  staticTypes := #[.boolean]
  resolved := Array.replicate 395 none
  statics := none }

def pool10 : Array CpInfo := pool [(2, .class_ 4), (1, u "java/lang/Object"), (0, u "<init>"), (0, u "()V"), (17, .class_ 26), (1, u "jdk/internal/util/Preconditions"), (6, u "checkIndex"), (21, .class_ 56), (0, u "jdk/internal/util/Preconditions$4"), (57, .class_ 115), (0, u "jdk/internal/util/Preconditions$1"), (7, u "SIOOBE_FORMATTER"), (0, u "Ljava/util/function/BiFunction;"), (0, .class_ 126), (0, u "jdk/internal/util/Preconditions$2"), (3, u "AIOOBE_FORMATTER"), (0, .class_ 132), (0, u "jdk/internal/util/Preconditions$3"), (3, u "IOOBE_FORMATTER"), (41, u "(IILjava/util/function/BiFunction;)I")] 15

def k10m0 : Method := { name := "<init>", desc := "()V", sig := { parameters := [], returnType := none }, accessFlags := 1, code := none }
def k10c1 : Code := { maxStack := 3, maxLocals := 3, code := jdk_41_method_11_code, exceptionTable := #[], attributes := #[] }
def k10m1 : Method := { name := "checkIndex", desc := "(IILjava/util/function/BiFunction;)I", sig := { parameters := [.int, .int, (.object "java/util/function/BiFunction")], returnType := some .int }, accessFlags := 9, code := some k10c1 }
/-- jdk/internal/util/Preconditions -/
def k10 : Class := { plain "jdk/internal/util/Preconditions" (some 0) with
  accessFlags := 33
  interfaces := #[]
  cf := some (fileOf pool10 24 #[.nestMembers #[55, 131, 125, 114]] #[{ accessFlags := 1, nameIndex := 5, descriptorIndex := 6, attributes := #[] }, { accessFlags := 9, nameIndex := 33, descriptorIndex := 178, attributes := #[] }] 33 2 #[] #[{ accessFlags := 25, nameIndex := 123, descriptorIndex := 124, attributes := #[] }, { accessFlags := 25, nameIndex := 130, descriptorIndex := 124, attributes := #[] }, { accessFlags := 25, nameIndex := 136, descriptorIndex := 124, attributes := #[] }])
  fields := #[{ name := "SIOOBE_FORMATTER", type := (.object "java/util/function/BiFunction"), accessFlags := 25, slot := 0, constantValue := 0 }, { name := "AIOOBE_FORMATTER", type := (.object "java/util/function/BiFunction"), accessFlags := 25, slot := 1, constantValue := 0 }, { name := "IOOBE_FORMATTER", type := (.object "java/util/function/BiFunction"), accessFlags := 25, slot := 2, constantValue := 0 }]
  methods := #[k10m0, k10m1]
  instanceTypes := #[]
  staticTypes := #[(.object "java/util/function/BiFunction"), (.object "java/util/function/BiFunction"), (.object "java/util/function/BiFunction")]
  resolved := Array.replicate 194 none
  statics := some 1 }

def pool11 : Array CpInfo := pool [(3, .class_ 4), (0, u "java/lang/String"), (1, .class_ 8), (1, u "java/lang/Object"), (0, u "<init>"), (0, u "()V"), (0, .methodref 12 13), (0, .class_ 14), (0, .nameAndType 15 16), (0, u "java/lang/StringUTF16"), (0, u "newBytesLength"), (0, u "(I)I"), (3, .integer 1073741823), (23, .fieldref 12 45), (0, .nameAndType 46 47), (0, u "$assertionsDisabled"), (0, u "Z"), (0, .methodref 12 49), (0, .nameAndType 50 51), (0, u "length"), (0, u "([B)I"), (7, .fieldref 12 60), (0, .nameAndType 61 62), (0, u "HI_BYTE_SHIFT"), (0, u "I"), (0, .fieldref 12 64), (0, .nameAndType 65 62), (0, u "LO_BYTE_SHIFT"), (1, .methodref 12 68), (0, .nameAndType 69 70), (0, u "checkIndex"), (0, u "(I[B)V"), (0, .methodref 12 72), (0, .nameAndType 73 74), (0, u "getChar"), (0, u "([BI)C"), (32, .methodref 12 108), (0, .nameAndType 109 110), (0, u "newBytesFor"), (0, u "(I)[B"), (0, .methodref 12 112), (0, .nameAndType 113 114), (0, u "putChar"), (0, u "([BII)V"), (0, .methodref 12 116), (0, .nameAndType 117 118), (0, u "compress"), (0, u "([CI[BII)I"), (0, .methodref 12 120), (0, .nameAndType 121 122), (0, u "toBytes"), (0, u "([CII)[B"), (138, u "coderFromArrayLen"), (0, u "([BI)B"), (106, .class_ 371), (1, u "java/lang/StringUTF16$LinesSpliterator"), (20, u "charAt"), (21, .methodref 3 415), (0, .nameAndType 69 416), (0, u "(II)V"), (13, u "MAX_LENGTH"), (44, u "(C)[B"), (151, .class_ 628), (0, u "java/lang/StringUTF16$CodePointsSpliterator"), (0, .class_ 630), (0, u "java/lang/StringUTF16$CharsSpliterator")] 4

def k11m0 : Method := { name := "<init>", desc := "()V", sig := { parameters := [], returnType := none }, accessFlags := 0, code := none }
def k11c1 : Code := { maxStack := 1, maxLocals := 1, code := jdk_52_method_2_code, exceptionTable := #[], attributes := #[] }
def k11m1 : Method := { name := "newBytesFor", desc := "(I)[B", sig := { parameters := [.int], returnType := some (.array .byte) }, accessFlags := 9, code := some k11c1 }
def k11c2 : Code := { maxStack := 4, maxLocals := 1, code := jdk_52_method_3_code, exceptionTable := #[], attributes := #[] }
def k11m2 : Method := { name := "newBytesLength", desc := "(I)I", sig := { parameters := [.int], returnType := some .int }, accessFlags := 9, code := some k11c2 }
def k11c3 : Code := { maxStack := 4, maxLocals := 3, code := jdk_52_method_4_code, exceptionTable := #[], attributes := #[] }
def k11m3 : Method := { name := "putChar", desc := "([BII)V", sig := { parameters := [(.array .byte), .int, .int], returnType := none }, accessFlags := 8, code := some k11c3 }
def k11c4 : Code := { maxStack := 3, maxLocals := 2, code := jdk_52_method_5_code, exceptionTable := #[], attributes := #[] }
def k11m4 : Method := { name := "getChar", desc := "([BI)C", sig := { parameters := [(.array .byte), .int], returnType := some .char }, accessFlags := 8, code := some k11c4 }
def k11c5 : Code := { maxStack := 2, maxLocals := 1, code := jdk_52_method_6_code, exceptionTable := #[], attributes := #[] }
def k11m5 : Method := { name := "length", desc := "([B)I", sig := { parameters := [(.array .byte)], returnType := some .int }, accessFlags := 9, code := some k11c5 }
def k11c6 : Code := { maxStack := 4, maxLocals := 5, code := jdk_52_method_14_code, exceptionTable := #[], attributes := #[] }
def k11m6 : Method := { name := "toBytes", desc := "([CII)[B", sig := { parameters := [(.array .char), .int, .int], returnType := some (.array .byte) }, accessFlags := 9, code := some k11c6 }
def k11c7 : Code := { maxStack := 2, maxLocals := 2, code := jdk_52_method_15_code, exceptionTable := #[], attributes := #[] }
def k11m7 : Method := { name := "coderFromArrayLen", desc := "([BI)B", sig := { parameters := [(.array .byte), .int], returnType := some .byte }, accessFlags := 8, code := some k11c7 }
def k11c8 : Code := { maxStack := 5, maxLocals := 6, code := jdk_52_method_16_code, exceptionTable := #[], attributes := #[] }
def k11m8 : Method := { name := "compress", desc := "([CII)[B", sig := { parameters := [(.array .char), .int, .int], returnType := some (.array .byte) }, accessFlags := 9, code := some k11c8 }
def k11c9 : Code := { maxStack := 3, maxLocals := 7, code := jdk_52_method_21_code, exceptionTable := #[], attributes := #[] }
def k11m9 : Method := { name := "compress", desc := "([CI[BII)I", sig := { parameters := [(.array .char), .int, (.array .byte), .int, .int], returnType := some .int }, accessFlags := 9, code := some k11c9 }
def k11c10 : Code := { maxStack := 3, maxLocals := 2, code := jdk_52_method_24_code, exceptionTable := #[], attributes := #[] }
def k11m10 : Method := { name := "toBytes", desc := "(C)[B", sig := { parameters := [.char], returnType := some (.array .byte) }, accessFlags := 9, code := some k11c10 }
def k11c11 : Code := { maxStack := 2, maxLocals := 2, code := jdk_52_method_83_code, exceptionTable := #[], attributes := #[] }
def k11m11 : Method := { name := "charAt", desc := "([BI)C", sig := { parameters := [(.array .byte), .int], returnType := some .char }, accessFlags := 9, code := some k11c11 }
def k11c12 : Code := { maxStack := 2, maxLocals := 2, code := jdk_52_method_91_code, exceptionTable := #[], attributes := #[] }
def k11m12 : Method := { name := "checkIndex", desc := "(I[B)V", sig := { parameters := [.int, (.array .byte)], returnType := none }, accessFlags := 9, code := some k11c12 }
/-- java/lang/StringUTF16 -/
def k11 : Class := { plain "java/lang/StringUTF16" (some 0) with
  accessFlags := 48
  interfaces := #[]
  cf := some (fileOf pool11 12 #[.nestMembers #[627, 629, 369]] #[{ accessFlags := 0, nameIndex := 9, descriptorIndex := 10, attributes := #[] }, { accessFlags := 9, nameIndex := 109, descriptorIndex := 110, attributes := #[] }, { accessFlags := 9, nameIndex := 15, descriptorIndex := 16, attributes := #[] }, { accessFlags := 8, nameIndex := 113, descriptorIndex := 114, attributes := #[] }, { accessFlags := 8, nameIndex := 73, descriptorIndex := 74, attributes := #[] }, { accessFlags := 9, nameIndex := 50, descriptorIndex := 51, attributes := #[] }, { accessFlags := 9, nameIndex := 121, descriptorIndex := 122, attributes := #[] }, { accessFlags := 8, nameIndex := 261, descriptorIndex := 262, attributes := #[] }, { accessFlags := 9, nameIndex := 117, descriptorIndex := 122, attributes := #[] }, { accessFlags := 9, nameIndex := 117, descriptorIndex := 118, attributes := #[] }, { accessFlags := 9, nameIndex := 121, descriptorIndex := 475, attributes := #[] }, { accessFlags := 9, nameIndex := 392, descriptorIndex := 74, attributes := #[] }, { accessFlags := 9, nameIndex := 69, descriptorIndex := 70, attributes := #[] }] 48 6 #[] #[{ accessFlags := 26, nameIndex := 61, descriptorIndex := 62, attributes := #[] }, { accessFlags := 26, nameIndex := 65, descriptorIndex := 62, attributes := #[] }, { accessFlags := 24, nameIndex := 430, descriptorIndex := 62, attributes := #[] }, { accessFlags := 4120, nameIndex := 46, descriptorIndex := 47, attributes := #[] }])
  fields := #[{ name := "HI_BYTE_SHIFT", type := .int, accessFlags := 26, slot := 0, constantValue := 0 }, { name := "LO_BYTE_SHIFT", type := .int, accessFlags := 26, slot := 1, constantValue := 0 }, { name := "MAX_LENGTH", type := .int, accessFlags := 24, slot := 2, constantValue := 0 }, { name := "$assertionsDisabled", type := .boolean, accessFlags := 4120, slot := 3, constantValue := 0 }]
  methods := #[k11m0, k11m1, k11m2, k11m3, k11m4, k11m5, k11m6, k11m7, k11m8, k11m9, k11m10, k11m11, k11m12]
  instanceTypes := #[]
  staticTypes := #[.int, .int, .int, .boolean]
  resolved := Array.replicate 635 none
  statics := some 2 }

def pool12 : Array CpInfo := pool [(1, .class_ 2), (0, u "java/lang/Character"), (18, u "value"), (0, u "C"), (19, .class_ 44), (1, u "java/lang/Object"), (3, .class_ 50), (1, u "java/lang/Character$CharacterCache"), (24, .integer 55296), (1, .integer 57344), (3, u "(C)Z"), (202, u "$assertionsDisabled"), (0, u "Z"), (21, .class_ 309), (1, u "java/lang/Character$UnicodeBlock"), (73, u "TYPE"), (0, u "Ljava/lang/Class;"), (0, .class_ 386), (0, u "java/io/Serializable"), (0, .class_ 388), (0, u "java/lang/Comparable"), (0, .class_ 390), (0, u "java/lang/constant/Constable"), (0, u "MIN_RADIX"), (0, u "I"), (2, u "MAX_RADIX"), (1, u "MIN_VALUE"), (1, u "MAX_VALUE"), (3, u "UNASSIGNED"), (0, u "B"), (0, u "UPPERCASE_LETTER"), (1, u "LOWERCASE_LETTER"), (0, u "TITLECASE_LETTER"), (1, u "MODIFIER_LETTER"), (1, u "OTHER_LETTER"), (1, u "NON_SPACING_MARK"), (1, u "ENCLOSING_MARK"), (1, u "COMBINING_SPACING_MARK"), (1, u "DECIMAL_DIGIT_NUMBER"), (1, u "LETTER_NUMBER"), (1, u "OTHER_NUMBER"), (1, u "SPACE_SEPARATOR"), (1, u "LINE_SEPARATOR"), (1, u "PARAGRAPH_SEPARATOR"), (1, u "CONTROL"), (1, u "FORMAT"), (1, u "PRIVATE_USE"), (1, u "SURROGATE"), (1, u "DASH_PUNCTUATION"), (1, u "START_PUNCTUATION"), (1, u "END_PUNCTUATION"), (1, u "CONNECTOR_PUNCTUATION"), (1, u "OTHER_PUNCTUATION"), (1, u "MATH_SYMBOL"), (1, u "CURRENCY_SYMBOL"), (1, u "MODIFIER_SYMBOL"), (1, u "OTHER_SYMBOL"), (1, u "INITIAL_QUOTE_PUNCTUATION"), (1, u "FINAL_QUOTE_PUNCTUATION"), (1, u "ERROR"), (1, u "DIRECTIONALITY_UNDEFINED"), (0, u "DIRECTIONALITY_LEFT_TO_RIGHT"), (0, u "DIRECTIONALITY_RIGHT_TO_LEFT"), (0, u "DIRECTIONALITY_RIGHT_TO_LEFT_ARABIC"), (0, u "DIRECTIONALITY_EUROPEAN_NUMBER"), (0, u "DIRECTIONALITY_EUROPEAN_NUMBER_SEPARATOR"), (0, u "DIRECTIONALITY_EUROPEAN_NUMBER_TERMINATOR"), (0, u "DIRECTIONALITY_ARABIC_NUMBER"), (0, u "DIRECTIONALITY_COMMON_NUMBER_SEPARATOR"), (0, u "DIRECTIONALITY_NONSPACING_MARK"), (0, u "DIRECTIONALITY_BOUNDARY_NEUTRAL"), (0, u "DIRECTIONALITY_PARAGRAPH_SEPARATOR"), (0, u "DIRECTIONALITY_SEGMENT_SEPARATOR"), (0, u "DIRECTIONALITY_WHITESPACE"), (0, u "DIRECTIONALITY_OTHER_NEUTRALS"), (0, u "DIRECTIONALITY_LEFT_TO_RIGHT_EMBEDDING"), (0, u "DIRECTIONALITY_LEFT_TO_RIGHT_OVERRIDE"), (0, u "DIRECTIONALITY_RIGHT_TO_LEFT_EMBEDDING"), (0, u "DIRECTIONALITY_RIGHT_TO_LEFT_OVERRIDE"), (1, u "DIRECTIONALITY_POP_DIRECTIONAL_FORMAT"), (0, u "DIRECTIONALITY_LEFT_TO_RIGHT_ISOLATE"), (0, u "DIRECTIONALITY_RIGHT_TO_LEFT_ISOLATE"), (0, u "DIRECTIONALITY_FIRST_STRONG_ISOLATE"), (0, u "DIRECTIONALITY_POP_DIRECTIONAL_ISOLATE"), (0, u "MIN_HIGH_SURROGATE"), (0, u "MAX_HIGH_SURROGATE"), (1, u "MIN_LOW_SURROGATE"), (0, u "MAX_LOW_SURROGATE"), (1, u "MIN_SURROGATE"), (0, u "MAX_SURROGATE"), (0, u "MIN_SUPPLEMENTARY_CODE_POINT"), (0, u "MIN_CODE_POINT"), (0, u "MAX_CODE_POINT"), (1, u "serialVersionUID"), (0, u "J"), (2, u "SIZE"), (0, u "BYTES"), (24, u "isSurrogate"), (63, .class_ 596), (0, u "java/lang/Character$UnicodeScript"), (0, .class_ 598), (0, u "java/lang/Character$Subset")] 5

def k12c0 : Code := { maxStack := 2, maxLocals := 1, code := jdk_89_method_16_code, exceptionTable := #[], attributes := #[] }
def k12m0 : Method := { name := "isSurrogate", desc := "(C)Z", sig := { parameters := [.char], returnType := some .boolean }, accessFlags := 9, code := some k12c0 }
/-- java/lang/Character -/
def k12 : Class := { plain "java/lang/Character" (some 0) with
  accessFlags := 49
  interfaces := #[2, 3, 5]
  cf := some (fileOf pool12 1 #[.nestMembers #[48, 595, 307, 597]] #[{ accessFlags := 9, nameIndex := 531, descriptorIndex := 81, attributes := #[] }] 49 42 #[385, 387, 389] #[{ accessFlags := 25, nameIndex := 391, descriptorIndex := 392, attributes := #[] }, { accessFlags := 25, nameIndex := 395, descriptorIndex := 392, attributes := #[] }, { accessFlags := 25, nameIndex := 397, descriptorIndex := 22, attributes := #[] }, { accessFlags := 25, nameIndex := 399, descriptorIndex := 22, attributes := #[] }, { accessFlags := 25, nameIndex := 383, descriptorIndex := 384, attributes := #[] }, { accessFlags := 25, nameIndex := 403, descriptorIndex := 404, attributes := #[] }, { accessFlags := 25, nameIndex := 405, descriptorIndex := 404, attributes := #[] }, { accessFlags := 25, nameIndex := 407, descriptorIndex := 404, attributes := #[] }, { accessFlags := 25, nameIndex := 408, descriptorIndex := 404, attributes := #[] }, { accessFlags := 25, nameIndex := 410, descriptorIndex := 404, attributes := #[] }, { accessFlags := 25, nameIndex := 412, descriptorIndex := 404, attributes := #[] }, { accessFlags := 25, nameIndex := 414, descriptorIndex := 404, attributes := #[] }, { accessFlags := 25, nameIndex := 416, descriptorIndex := 404, attributes := #[] }, { accessFlags := 25, nameIndex := 418, descriptorIndex := 404, attributes := #[] }, { accessFlags := 25, nameIndex := 420, descriptorIndex := 404, attributes := #[] }, { accessFlags := 25, nameIndex := 422, descriptorIndex := 404, attributes := #[] }, { accessFlags := 25, nameIndex := 424, descriptorIndex := 404, attributes := #[] }, { accessFlags := 25, nameIndex := 426, descriptorIndex := 404, attributes := #[] }, { accessFlags := 25, nameIndex := 428, descriptorIndex := 404, attributes := #[] }, { accessFlags := 25, nameIndex := 430, descriptorIndex := 404, attributes := #[] }, { accessFlags := 25, nameIndex := 432, descriptorIndex := 404, attributes := #[] }, { accessFlags := 25, nameIndex := 434, descriptorIndex := 404, attributes := #[] }, { accessFlags := 25, nameIndex := 436, descriptorIndex := 404, attributes := #[] }, { accessFlags := 25, nameIndex := 438, descriptorIndex := 404, attributes := #[] }, { accessFlags := 25, nameIndex := 440, descriptorIndex := 404, attributes := #[] }, { accessFlags := 25, nameIndex := 442, descriptorIndex := 404, attributes := #[] }, { accessFlags := 25, nameIndex := 444, descriptorIndex := 404, attributes := #[] }, { accessFlags := 25, nameIndex := 446, descriptorIndex := 404, attributes := #[] }, { accessFlags := 25, nameIndex := 448, descriptorIndex := 404, attributes := #[] }, { accessFlags := 25, nameIndex := 450, descriptorIndex := 404, attributes := #[] }, { accessFlags := 25, nameIndex := 452, descriptorIndex := 404, attributes := #[] }, { accessFlags := 25, nameIndex := 454, descriptorIndex := 404, attributes := #[] }, { accessFlags := 25, nameIndex := 456, descriptorIndex := 404, attributes := #[] }, { accessFlags := 25, nameIndex := 458, descriptorIndex := 404, attributes := #[] }, { accessFlags := 25, nameIndex := 460, descriptorIndex := 404, attributes := #[] }, { accessFlags := 24, nameIndex := 462, descriptorIndex := 392, attributes := #[] }, { accessFlags := 25, nameIndex := 464, descriptorIndex := 404, attributes := #[] }, { accessFlags := 25, nameIndex := 465, descriptorIndex := 404, attributes := #[] }, { accessFlags := 25, nameIndex := 466, descriptorIndex := 404, attributes := #[] }, { accessFlags := 25, nameIndex := 467, descriptorIndex := 404, attributes := #[] }, { accessFlags := 25, nameIndex := 468, descriptorIndex := 404, attributes := #[] }, { accessFlags := 25, nameIndex := 469, descriptorIndex := 404, attributes := #[] }, { accessFlags := 25, nameIndex := 470, descriptorIndex := 404, attributes := #[] }, { accessFlags := 25, nameIndex := 471, descriptorIndex := 404, attributes := #[] }, { accessFlags := 25, nameIndex := 472, descriptorIndex := 404, attributes := #[] }, { accessFlags := 25, nameIndex := 473, descriptorIndex := 404, attributes := #[] }, { accessFlags := 25, nameIndex := 474, descriptorIndex := 404, attributes := #[] }, { accessFlags := 25, nameIndex := 475, descriptorIndex := 404, attributes := #[] }, { accessFlags := 25, nameIndex := 476, descriptorIndex := 404, attributes := #[] }, { accessFlags := 25, nameIndex := 477, descriptorIndex := 404, attributes := #[] }, { accessFlags := 25, nameIndex := 478, descriptorIndex := 404, attributes := #[] }, { accessFlags := 25, nameIndex := 479, descriptorIndex := 404, attributes := #[] }, { accessFlags := 25, nameIndex := 480, descriptorIndex := 404, attributes := #[] }, { accessFlags := 25, nameIndex := 481, descriptorIndex := 404, attributes := #[] }, { accessFlags := 25, nameIndex := 482, descriptorIndex := 404, attributes := #[] }, { accessFlags := 25, nameIndex := 484, descriptorIndex := 404, attributes := #[] }, { accessFlags := 25, nameIndex := 485, descriptorIndex := 404, attributes := #[] }, { accessFlags := 25, nameIndex := 486, descriptorIndex := 404, attributes := #[] }, { accessFlags := 25, nameIndex := 487, descriptorIndex := 404, attributes := #[] }, { accessFlags := 25, nameIndex := 488, descriptorIndex := 404, attributes := #[] }, { accessFlags := 25, nameIndex := 489, descriptorIndex := 22, attributes := #[] }, { accessFlags := 25, nameIndex := 490, descriptorIndex := 22, attributes := #[] }, { accessFlags := 25, nameIndex := 492, descriptorIndex := 22, attributes := #[] }, { accessFlags := 25, nameIndex := 493, descriptorIndex := 22, attributes := #[] }, { accessFlags := 25, nameIndex := 495, descriptorIndex := 22, attributes := #[] }, { accessFlags := 25, nameIndex := 496, descriptorIndex := 22, attributes := #[] }, { accessFlags := 25, nameIndex := 497, descriptorIndex := 392, attributes := #[] }, { accessFlags := 25, nameIndex := 498, descriptorIndex := 392, attributes := #[] }, { accessFlags := 25, nameIndex := 499, descriptorIndex := 392, attributes := #[] }, { accessFlags := 18, nameIndex := 21, descriptorIndex := 22, attributes := #[] }, { accessFlags := 26, nameIndex := 501, descriptorIndex := 502, attributes := #[] }, { accessFlags := 25, nameIndex := 505, descriptorIndex := 392, attributes := #[] }, { accessFlags := 25, nameIndex := 506, descriptorIndex := 392, attributes := #[] }, { accessFlags := 4120, nameIndex := 284, descriptorIndex := 285, attributes := #[] }])
  fields := #[{ name := "MIN_RADIX", type := .int, accessFlags := 25, slot := 0, constantValue := 0 }, { name := "MAX_RADIX", type := .int, accessFlags := 25, slot := 1, constantValue := 0 }, { name := "MIN_VALUE", type := .char, accessFlags := 25, slot := 2, constantValue := 0 }, { name := "MAX_VALUE", type := .char, accessFlags := 25, slot := 3, constantValue := 0 }, { name := "TYPE", type := (.object "java/lang/Class"), accessFlags := 25, slot := 4, constantValue := 0 }, { name := "UNASSIGNED", type := .byte, accessFlags := 25, slot := 5, constantValue := 0 }, { name := "UPPERCASE_LETTER", type := .byte, accessFlags := 25, slot := 6, constantValue := 0 }, { name := "LOWERCASE_LETTER", type := .byte, accessFlags := 25, slot := 7, constantValue := 0 }, { name := "TITLECASE_LETTER", type := .byte, accessFlags := 25, slot := 8, constantValue := 0 }, { name := "MODIFIER_LETTER", type := .byte, accessFlags := 25, slot := 9, constantValue := 0 }, { name := "OTHER_LETTER", type := .byte, accessFlags := 25, slot := 10, constantValue := 0 }, { name := "NON_SPACING_MARK", type := .byte, accessFlags := 25, slot := 11, constantValue := 0 }, { name := "ENCLOSING_MARK", type := .byte, accessFlags := 25, slot := 12, constantValue := 0 }, { name := "COMBINING_SPACING_MARK", type := .byte, accessFlags := 25, slot := 13, constantValue := 0 }, { name := "DECIMAL_DIGIT_NUMBER", type := .byte, accessFlags := 25, slot := 14, constantValue := 0 }, { name := "LETTER_NUMBER", type := .byte, accessFlags := 25, slot := 15, constantValue := 0 }, { name := "OTHER_NUMBER", type := .byte, accessFlags := 25, slot := 16, constantValue := 0 }, { name := "SPACE_SEPARATOR", type := .byte, accessFlags := 25, slot := 17, constantValue := 0 }, { name := "LINE_SEPARATOR", type := .byte, accessFlags := 25, slot := 18, constantValue := 0 }, { name := "PARAGRAPH_SEPARATOR", type := .byte, accessFlags := 25, slot := 19, constantValue := 0 }, { name := "CONTROL", type := .byte, accessFlags := 25, slot := 20, constantValue := 0 }, { name := "FORMAT", type := .byte, accessFlags := 25, slot := 21, constantValue := 0 }, { name := "PRIVATE_USE", type := .byte, accessFlags := 25, slot := 22, constantValue := 0 }, { name := "SURROGATE", type := .byte, accessFlags := 25, slot := 23, constantValue := 0 }, { name := "DASH_PUNCTUATION", type := .byte, accessFlags := 25, slot := 24, constantValue := 0 }, { name := "START_PUNCTUATION", type := .byte, accessFlags := 25, slot := 25, constantValue := 0 }, { name := "END_PUNCTUATION", type := .byte, accessFlags := 25, slot := 26, constantValue := 0 }, { name := "CONNECTOR_PUNCTUATION", type := .byte, accessFlags := 25, slot := 27, constantValue := 0 }, { name := "OTHER_PUNCTUATION", type := .byte, accessFlags := 25, slot := 28, constantValue := 0 }, { name := "MATH_SYMBOL", type := .byte, accessFlags := 25, slot := 29, constantValue := 0 }, { name := "CURRENCY_SYMBOL", type := .byte, accessFlags := 25, slot := 30, constantValue := 0 }, { name := "MODIFIER_SYMBOL", type := .byte, accessFlags := 25, slot := 31, constantValue := 0 }, { name := "OTHER_SYMBOL", type := .byte, accessFlags := 25, slot := 32, constantValue := 0 }, { name := "INITIAL_QUOTE_PUNCTUATION", type := .byte, accessFlags := 25, slot := 33, constantValue := 0 }, { name := "FINAL_QUOTE_PUNCTUATION", type := .byte, accessFlags := 25, slot := 34, constantValue := 0 }, { name := "ERROR", type := .int, accessFlags := 24, slot := 35, constantValue := 0 }, { name := "DIRECTIONALITY_UNDEFINED", type := .byte, accessFlags := 25, slot := 36, constantValue := 0 }, { name := "DIRECTIONALITY_LEFT_TO_RIGHT", type := .byte, accessFlags := 25, slot := 37, constantValue := 0 }, { name := "DIRECTIONALITY_RIGHT_TO_LEFT", type := .byte, accessFlags := 25, slot := 38, constantValue := 0 }, { name := "DIRECTIONALITY_RIGHT_TO_LEFT_ARABIC", type := .byte, accessFlags := 25, slot := 39, constantValue := 0 }, { name := "DIRECTIONALITY_EUROPEAN_NUMBER", type := .byte, accessFlags := 25, slot := 40, constantValue := 0 }, { name := "DIRECTIONALITY_EUROPEAN_NUMBER_SEPARATOR", type := .byte, accessFlags := 25, slot := 41, constantValue := 0 }, { name := "DIRECTIONALITY_EUROPEAN_NUMBER_TERMINATOR", type := .byte, accessFlags := 25, slot := 42, constantValue := 0 }, { name := "DIRECTIONALITY_ARABIC_NUMBER", type := .byte, accessFlags := 25, slot := 43, constantValue := 0 }, { name := "DIRECTIONALITY_COMMON_NUMBER_SEPARATOR", type := .byte, accessFlags := 25, slot := 44, constantValue := 0 }, { name := "DIRECTIONALITY_NONSPACING_MARK", type := .byte, accessFlags := 25, slot := 45, constantValue := 0 }, { name := "DIRECTIONALITY_BOUNDARY_NEUTRAL", type := .byte, accessFlags := 25, slot := 46, constantValue := 0 }, { name := "DIRECTIONALITY_PARAGRAPH_SEPARATOR", type := .byte, accessFlags := 25, slot := 47, constantValue := 0 }, { name := "DIRECTIONALITY_SEGMENT_SEPARATOR", type := .byte, accessFlags := 25, slot := 48, constantValue := 0 }, { name := "DIRECTIONALITY_WHITESPACE", type := .byte, accessFlags := 25, slot := 49, constantValue := 0 }, { name := "DIRECTIONALITY_OTHER_NEUTRALS", type := .byte, accessFlags := 25, slot := 50, constantValue := 0 }, { name := "DIRECTIONALITY_LEFT_TO_RIGHT_EMBEDDING", type := .byte, accessFlags := 25, slot := 51, constantValue := 0 }, { name := "DIRECTIONALITY_LEFT_TO_RIGHT_OVERRIDE", type := .byte, accessFlags := 25, slot := 52, constantValue := 0 }, { name := "DIRECTIONALITY_RIGHT_TO_LEFT_EMBEDDING", type := .byte, accessFlags := 25, slot := 53, constantValue := 0 }, { name := "DIRECTIONALITY_RIGHT_TO_LEFT_OVERRIDE", type := .byte, accessFlags := 25, slot := 54, constantValue := 0 }, { name := "DIRECTIONALITY_POP_DIRECTIONAL_FORMAT", type := .byte, accessFlags := 25, slot := 55, constantValue := 0 }, { name := "DIRECTIONALITY_LEFT_TO_RIGHT_ISOLATE", type := .byte, accessFlags := 25, slot := 56, constantValue := 0 }, { name := "DIRECTIONALITY_RIGHT_TO_LEFT_ISOLATE", type := .byte, accessFlags := 25, slot := 57, constantValue := 0 }, { name := "DIRECTIONALITY_FIRST_STRONG_ISOLATE", type := .byte, accessFlags := 25, slot := 58, constantValue := 0 }, { name := "DIRECTIONALITY_POP_DIRECTIONAL_ISOLATE", type := .byte, accessFlags := 25, slot := 59, constantValue := 0 }, { name := "MIN_HIGH_SURROGATE", type := .char, accessFlags := 25, slot := 60, constantValue := 0 }, { name := "MAX_HIGH_SURROGATE", type := .char, accessFlags := 25, slot := 61, constantValue := 0 }, { name := "MIN_LOW_SURROGATE", type := .char, accessFlags := 25, slot := 62, constantValue := 0 }, { name := "MAX_LOW_SURROGATE", type := .char, accessFlags := 25, slot := 63, constantValue := 0 }, { name := "MIN_SURROGATE", type := .char, accessFlags := 25, slot := 64, constantValue := 0 }, { name := "MAX_SURROGATE", type := .char, accessFlags := 25, slot := 65, constantValue := 0 }, { name := "MIN_SUPPLEMENTARY_CODE_POINT", type := .int, accessFlags := 25, slot := 66, constantValue := 0 }, { name := "MIN_CODE_POINT", type := .int, accessFlags := 25, slot := 67, constantValue := 0 }, { name := "MAX_CODE_POINT", type := .int, accessFlags := 25, slot := 68, constantValue := 0 }, { name := "value", type := .char, accessFlags := 18, slot := 0, constantValue := 0 }, { name := "serialVersionUID", type := .long, accessFlags := 26, slot := 69, constantValue := 0 }, { name := "SIZE", type := .int, accessFlags := 25, slot := 70, constantValue := 0 }, { name := "BYTES", type := .int, accessFlags := 25, slot := 71, constantValue := 0 }, { name := "$assertionsDisabled", type := .boolean, accessFlags := 4120, slot := 72, constantValue := 0 }]
  methods := #[k12m0]
  instanceTypes := #[.char]
  staticTypes := #[.int, .int, .char, .char, (.object "java/lang/Class"), .byte, .byte, .byte, .byte, .byte, .byte, .byte, .byte, .byte, .byte, .byte, .byte, .byte, .byte, .byte, .byte, .byte, .byte, .byte, .byte, .byte, .byte, .byte, .byte, .byte, .byte, .byte, .byte, .byte, .byte, .int, .byte, .byte, .byte, .byte, .byte, .byte, .byte, .byte, .byte, .byte, .byte, .byte, .byte, .byte, .byte, .byte, .byte, .byte, .byte, .byte, .byte, .byte, .byte, .byte, .char, .char, .char, .char, .char, .char, .int, .int, .int, .long, .int, .int, .boolean]
  resolved := Array.replicate 604 none
  statics := none }

def pool13 : Array CpInfo := pool [(9, u "<init>"), (6, .class_ 18), (1, u "java/lang/Object"), (0, u "()V"), (1, .class_ 23), (1, u "jdk/internal/util/ArraysSupport"), (0, u "LOG2_ARRAY_LONG_INDEX_SCALE"), (0, u "I"), (2, u "U"), (0, u "Ljdk/internal/misc/Unsafe;"), (8, u "BIG_ENDIAN"), (0, u "Z"), (8, u "LOG2_BYTE_BIT_SIZE"), (4, u "LOG2_ARRAY_INT_INDEX_SCALE"), (54, u "JLA"), (0, u "Ljdk/internal/access/JavaLangAccess;"), (11, u "LOG2_ARRAY_BOOLEAN_INDEX_SCALE"), (9, u "LOG2_ARRAY_BYTE_INDEX_SCALE"), (5, u "LOG2_ARRAY_CHAR_INDEX_SCALE"), (5, u "LOG2_ARRAY_SHORT_INDEX_SCALE"), (18, u "LOG2_ARRAY_FLOAT_INDEX_SCALE"), (24, u "LOG2_ARRAY_DOUBLE_INDEX_SCALE"), (89, u "T_BOOLEAN"), (2, u "T_CHAR"), (1, u "T_FLOAT"), (1, u "T_DOUBLE"), (1, u "T_BYTE"), (1, u "T_SHORT"), (1, u "T_INT"), (1, u "T_LONG"), (1, u "SOFT_MAX_ARRAY_LENGTH")] 83

def k13m0 : Method := { name := "<init>", desc := "()V", sig := { parameters := [], returnType := none }, accessFlags := 2, code := none }
/-- jdk/internal/util/ArraysSupport -/
def k13 : Class := { plain "jdk/internal/util/ArraysSupport" (some 0) with
  accessFlags := 33
  interfaces := #[]
  cf := some (fileOf pool13 21 #[] #[{ accessFlags := 2, nameIndex := 9, descriptorIndex := 19, attributes := #[] }] 33 16 #[] #[{ accessFlags := 24, nameIndex := 28, descriptorIndex := 29, attributes := #[] }, { accessFlags := 26, nameIndex := 38, descriptorIndex := 39, attributes := #[] }, { accessFlags := 25, nameIndex := 121, descriptorIndex := 25, attributes := #[] }, { accessFlags := 25, nameIndex := 131, descriptorIndex := 25, attributes := #[] }, { accessFlags := 25, nameIndex := 137, descriptorIndex := 25, attributes := #[] }, { accessFlags := 25, nameIndex := 143, descriptorIndex := 25, attributes := #[] }, { accessFlags := 25, nameIndex := 53, descriptorIndex := 25, attributes := #[] }, { accessFlags := 25, nameIndex := 24, descriptorIndex := 25, attributes := #[] }, { accessFlags := 25, nameIndex := 162, descriptorIndex := 25, attributes := #[] }, { accessFlags := 25, nameIndex := 187, descriptorIndex := 25, attributes := #[] }, { accessFlags := 26, nameIndex := 48, descriptorIndex := 25, attributes := #[] }, { accessFlags := 25, nameIndex := 277, descriptorIndex := 25, attributes := #[] }, { accessFlags := 25, nameIndex := 280, descriptorIndex := 25, attributes := #[] }, { accessFlags := 25, nameIndex := 282, descriptorIndex := 25, attributes := #[] }, { accessFlags := 25, nameIndex := 284, descriptorIndex := 25, attributes := #[] }, { accessFlags := 25, nameIndex := 286, descriptorIndex := 25, attributes := #[] }, { accessFlags := 25, nameIndex := 288, descriptorIndex := 25, attributes := #[] }, { accessFlags := 25, nameIndex := 290, descriptorIndex := 25, attributes := #[] }, { accessFlags := 25, nameIndex := 292, descriptorIndex := 25, attributes := #[] }, { accessFlags := 26, nameIndex := 108, descriptorIndex := 109, attributes := #[] }, { accessFlags := 25, nameIndex := 294, descriptorIndex := 25, attributes := #[] }])
  fields := #[{ name := "U", type := (.object "jdk/internal/misc/Unsafe"), accessFlags := 24, slot := 0, constantValue := 0 }, { name := "BIG_ENDIAN", type := .boolean, accessFlags := 26, slot := 1, constantValue := 0 }, { name := "LOG2_ARRAY_BOOLEAN_INDEX_SCALE", type := .int, accessFlags := 25, slot := 2, constantValue := 0 }, { name := "LOG2_ARRAY_BYTE_INDEX_SCALE", type := .int, accessFlags := 25, slot := 3, constantValue := 0 }, { name := "LOG2_ARRAY_CHAR_INDEX_SCALE", type := .int, accessFlags := 25, slot := 4, constantValue := 0 }, { name := "LOG2_ARRAY_SHORT_INDEX_SCALE", type := .int, accessFlags := 25, slot := 5, constantValue := 0 }, { name := "LOG2_ARRAY_INT_INDEX_SCALE", type := .int, accessFlags := 25, slot := 6, constantValue := 0 }, { name := "LOG2_ARRAY_LONG_INDEX_SCALE", type := .int, accessFlags := 25, slot := 7, constantValue := 0 }, { name := "LOG2_ARRAY_FLOAT_INDEX_SCALE", type := .int, accessFlags := 25, slot := 8, constantValue := 0 }, { name := "LOG2_ARRAY_DOUBLE_INDEX_SCALE", type := .int, accessFlags := 25, slot := 9, constantValue := 0 }, { name := "LOG2_BYTE_BIT_SIZE", type := .int, accessFlags := 26, slot := 10, constantValue := 0 }, { name := "T_BOOLEAN", type := .int, accessFlags := 25, slot := 11, constantValue := 0 }, { name := "T_CHAR", type := .int, accessFlags := 25, slot := 12, constantValue := 0 }, { name := "T_FLOAT", type := .int, accessFlags := 25, slot := 13, constantValue := 0 }, { name := "T_DOUBLE", type := .int, accessFlags := 25, slot := 14, constantValue := 0 }, { name := "T_BYTE", type := .int, accessFlags := 25, slot := 15, constantValue := 0 }, { name := "T_SHORT", type := .int, accessFlags := 25, slot := 16, constantValue := 0 }, { name := "T_INT", type := .int, accessFlags := 25, slot := 17, constantValue := 0 }, { name := "T_LONG", type := .int, accessFlags := 25, slot := 18, constantValue := 0 }, { name := "JLA", type := (.object "jdk/internal/access/JavaLangAccess"), accessFlags := 26, slot := 19, constantValue := 0 }, { name := "SOFT_MAX_ARRAY_LENGTH", type := .int, accessFlags := 25, slot := 20, constantValue := 0 }]
  methods := #[k13m0]
  instanceTypes := #[]
  staticTypes := #[(.object "jdk/internal/misc/Unsafe"), .boolean, .int, .int, .int, .int, .int, .int, .int, .int, .int, .int, .int, .int, .int, .int, .int, .int, .int, (.object "jdk/internal/access/JavaLangAccess"), .int]
  resolved := Array.replicate 378 none
  statics := none }

def pool14 : Array CpInfo := pool [(1, u "java/lang/Cloneable"), (0, .class_ 1), (0, u "java/lang/Object"), (0, .class_ 3)] 3

/-- java/lang/Cloneable -/
def k14 : Class := { plain "java/lang/Cloneable" (some 0) with
  accessFlags := 1537
  interfaces := #[]
  cf := some (fileOf pool14 2 #[] #[] 1537 4 #[] #[])
  fields := #[]
  methods := #[]
  instanceTypes := #[]
  staticTypes := #[]
  resolved := Array.replicate 8 none
  statics := none }

/-- the primitive byte -/
def k15 : Class := { plain "byte" none with kind := .primitive 'B', accessFlags := 0x411 }
/-- [B -/
def k16 : Class := { plain "[B" (some 0) with kind := .array 15 .byte, interfaces := #[14, 2], accessFlags := 1041 }

/-- the primitive char -/
def k17 : Class := { plain "char" none with kind := .primitive 'C', accessFlags := 0x411 }
/-- [C -/
def k18 : Class := { plain "[C" (some 0) with kind := .array 17 .char, interfaces := #[14, 2], accessFlags := 1041 }

/-- the primitive int -/
def k19 : Class := { plain "int" none with kind := .primitive 'I', accessFlags := 0x411 }
/-- [I -/
def k20 : Class := { plain "[I" (some 0) with kind := .array 19 .int, interfaces := #[14, 2], accessFlags := 1041 }

def heap : Heap := #[{ cls := 7, slots := #[.long 0, .int 1, .null, .int 0, .null, .int 0, .int 0], vm := .statics 7 },
  { cls := 10, slots := #[.null, .null, .null], vm := .statics 10 },
  { cls := 11, slots := #[.int 0, .int 8, .int 0, .int 1], vm := .statics 11 }]
def classes : Array Class := #[k0, k1, k2, k3, k4, k5, k6, k7, k8, k9, k10, k11, k12, k13, k14, k15, k16, k17, k18, k19, k20]
def interned : List (Array UInt16 × Addr) := []
def slotsUsed : Nat := 14
def theMethod : MethodId := ⟨1, 5⟩
def args0 : Array Value := #[.int 5, .int 6, .int 7, .int 8, .int 9]
def aboutOver (below : List Frame) : State where
  vm := { classes := classes, interned := interned.toArray }
  heap := heap
  slotsUsed := slotsUsed
  threads := #[{ frames := .invoking theMethod args0 :: below }]
def below0 : List Frame := [.native { method := ⟨0, 0⟩, args := #[] }]
def about1 : State := aboutOver below0
def p0 : Program := .bare "" "" ""
def e0 : Env := launch0.env 0 0 0
theorem w_frames : about1.frames = Frame.invoking theMethod args0 :: below0 := rfl
set_option maxRecDepth 65536 in
theorem w_args : argsFit about1.vm theMethod args0 = true := by decide +kernel
set_option maxRecDepth 65536 in
theorem w_heap : heapFits about1 = true := by decide +kernel
set_option maxRecDepth 65536 in
theorem w_runnable : about1.curStatus? = some .runnable := by decide +kernel
set_option maxRecDepth 65536 in
theorem w_alone : about1.alone = true := by decide +kernel
set_option maxRecDepth 65536 in
theorem w_named : about1.methodNamed? x = some theMethod := by decide +kernel
set_option maxRecDepth 65536 in
theorem w_hears : about1.hears theMethod below0 = true := by decide +kernel
set_option maxRecDepth 65536 in
theorem w_ripe : about1.ripe theMethod args0 below0 = true := by decide +kernel
theorem w_running : about1.status = .running := rfl
set_option maxRecDepth 65536 in
theorem w_room : about1.hasRoom e0.platform room_1 = true :=
  launch0.hasRoom_least _ room_1 (by decide +kernel) (by decide +kernel) (by decide +kernel) (by decide +kernel) (by decide +kernel) (by decide +kernel)
theorem allAtoms_all (ts : List Jvm.Cond) (a : Array Jvm.Value) (st : Jvm.State) : (allAtoms ts).before a st = ts.all (fun c => c.before a st) := by
  induction ts with
  | nil => rfl
  | cons c t ih =>
    show (Jvm.Cond.and c (allAtoms t)).before a st = _
    rw [Jvm.Cond.before_and, ih, List.all_cons]
def words1 : List Jvm.Cond := Jvm.Cond.code x code maxLocals ret :: tables_1
/-- a 'code' word, met by the world's own term for the bytes: nothing is compared byte by byte -/
theorem code_word {y : MethodName} {bytes : ByteArray} {mx : Nat} {rt : Option FieldType} {a : Array Value} {s : State} {m : MethodId} {meth : Method} {c : Code} (h1 : s.methodNamed? y = some m) (h2 : s.vm.method? m = some meth) (h3 : meth.code = some c) (h4 : c.code = bytes)
    (h5 : (c.maxLocals == mx && c.exceptionTable.isEmpty && decide (c.maxStack ≤ mostOperands) && decide (meth.sig.returnType = rt) && !meth.locks && decide (parseMethodDescriptor y.desc = some meth.sig)) = true) : (Jvm.Cond.code y bytes mx rt).before a s = true := by
  simp only [Bool.and_eq_true, beq_iff_eq, Bool.not_eq_true', decide_eq_true_eq] at h5
  obtain ⟨⟨⟨⟨⟨g1, g2⟩, g3⟩, g4⟩, g5⟩, g6⟩ := h5
  simp [Cond.before, Cond.holds, Cond.value, h1, h2, h3, h4, g1, g2, g3, g4, g5, g6]
def isCode : Jvm.Cond → Bool
  | .code _ _ _ _ => true
  | _ => false
theorem all_split {L : List Jvm.Cond} {P : Jvm.Cond → Bool} (h1 : L.all (fun c => isCode c || P c) = true) (h2 : ∀ c ∈ L.filter isCode, P c = true) : L.all P = true := by
  refine List.all_eq_true.mpr fun c hc => ?_
  have h := List.all_eq_true.mp h1 c hc
  rcases Bool.eq_false_or_eq_true (isCode c) with hi | hi
  · exact h2 c (List.mem_filter.mpr ⟨hc, hi⟩)
  · simpa [hi] using h
set_option maxRecDepth 65536 in
theorem w_c0 : (Jvm.Cond.code x code maxLocals ret).before args0 about1 = true := code_word (m := ⟨1, 5⟩) (meth := k1m5) (c := k1c5) (by decide +kernel) rfl rfl rfl (by decide +kernel)
set_option maxRecDepth 65536 in
theorem w_c1 : (Jvm.Cond.code ({ cls := "com/example/wide_weir/wideweir/http/QueryUtf8LengthPinLaw", name := "bmp", desc := "(I)C" } : Jvm.MethodName) method_2_code (2 : Nat) (Option.some Jvm.ClassFile.FieldType.char)).before args0 about1 = true := code_word (m := ⟨1, 1⟩) (meth := k1m1) (c := k1c1) (by decide +kernel) rfl rfl rfl (by decide +kernel)
set_option maxRecDepth 65536 in
theorem w_c2 : (Jvm.Cond.code ({ cls := "com/example/wide_weir/wideweir/http/QueryUtf8LengthPinLaw", name := "bmpBytes", desc := "(C)I" } : Jvm.MethodName) method_3_code (1 : Nat) (Option.some Jvm.ClassFile.FieldType.int)).before args0 about1 = true := code_word (m := ⟨1, 2⟩) (meth := k1m2) (c := k1c2) (by decide +kernel) rfl rfl rfl (by decide +kernel)
set_option maxRecDepth 65536 in
theorem w_c3 : (Jvm.Cond.code ({ cls := "java/lang/String", name := "<init>", desc := "([C)V" } : Jvm.MethodName) jdk_42_method_3_code (2 : Nat) (Option.none : Option Jvm.ClassFile.FieldType)).before args0 about1 = true := code_word (m := ⟨7, 1⟩) (meth := k7m1) (c := k7c1) (by decide +kernel) rfl rfl rfl (by decide +kernel)
set_option maxRecDepth 65536 in
theorem w_c4 : (Jvm.Cond.code ({ cls := "java/lang/String", name := "<init>", desc := "([CIILjava/lang/Void;)V" } : Jvm.MethodName) jdk_42_method_149_code (6 : Nat) (Option.none : Option Jvm.ClassFile.FieldType)).before args0 about1 = true := code_word (m := ⟨7, 5⟩) (meth := k7m5) (c := k7c5) (by decide +kernel) rfl rfl rfl (by decide +kernel)
set_option maxRecDepth 65536 in
theorem w_c5 : (Jvm.Cond.code ({ cls := "java/lang/Object", name := "<init>", desc := "()V" } : Jvm.MethodName) object_method_1_code (1 : Nat) (Option.none : Option Jvm.ClassFile.FieldType)).before args0 about1 = true := code_word (m := ⟨0, 0⟩) (meth := k0m0) (c := k0c0) (by decide +kernel) rfl rfl rfl (by decide +kernel)
set_option maxRecDepth 65536 in
theorem w_c6 : (Jvm.Cond.code ({ cls := "com/example/wide_weir/wideweir/http/Query", name := "utf8Length", desc := "(Ljava/lang/String;)I" } : Jvm.MethodName) prog_37_method_3_code (4 : Nat) (Option.some Jvm.ClassFile.FieldType.int)).before args0 about1 = true := code_word (m := ⟨8, 1⟩) (meth := k8m1) (c := k8c1) (by decide +kernel) rfl rfl rfl (by decide +kernel)
set_option maxRecDepth 65536 in
theorem w_c7 : (Jvm.Cond.code ({ cls := "java/lang/String", name := "length", desc := "()I" } : Jvm.MethodName) jdk_42_method_54_code (1 : Nat) (Option.some Jvm.ClassFile.FieldType.int)).before args0 about1 = true := code_word (m := ⟨7, 2⟩) (meth := k7m2) (c := k7c2) (by decide +kernel) rfl rfl rfl (by decide +kernel)
set_option maxRecDepth 65536 in
theorem w_c8 : (Jvm.Cond.code ({ cls := "java/lang/String", name := "coder", desc := "()B" } : Jvm.MethodName) jdk_42_method_152_code (1 : Nat) (Option.some Jvm.ClassFile.FieldType.byte)).before args0 about1 = true := code_word (m := ⟨7, 7⟩) (meth := k7m7) (c := k7c7) (by decide +kernel) rfl rfl rfl (by decide +kernel)
set_option maxRecDepth 65536 in
theorem w_c9 : (Jvm.Cond.code ({ cls := "com/example/wide_weir/wideweir/http/QueryUtf8LengthPinLaw", name := "high", desc := "(I)C" } : Jvm.MethodName) method_4_code (1 : Nat) (Option.some Jvm.ClassFile.FieldType.char)).before args0 about1 = true := code_word (m := ⟨1, 3⟩) (meth := k1m3) (c := k1c3) (by decide +kernel) rfl rfl rfl (by decide +kernel)
set_option maxRecDepth 65536 in
theorem w_c10 : (Jvm.Cond.code ({ cls := "com/example/wide_weir/wideweir/http/QueryUtf8LengthPinLaw", name := "low", desc := "(I)C" } : Jvm.MethodName) method_5_code (1 : Nat) (Option.some Jvm.ClassFile.FieldType.char)).before args0 about1 = true := code_word (m := ⟨1, 4⟩) (meth := k1m4) (c := k1c4) (by decide +kernel) rfl rfl rfl (by decide +kernel)
set_option maxRecDepth 65536 in
theorem w_c11 : (Jvm.Cond.code ({ cls := "java/lang/String", name := "valueOf", desc := "(C)Ljava/lang/String;" } : Jvm.MethodName) jdk_42_method_139_code (1 : Nat) (Option.some (Jvm.ClassFile.FieldType.object "java/lang/String"))).before args0 about1 = true := code_word (m := ⟨7, 4⟩) (meth := k7m4) (c := k7c4) (by decide +kernel) rfl rfl rfl (by decide +kernel)
set_option maxRecDepth 65536 in
theorem w_c12 : (Jvm.Cond.code ({ cls := "java/lang/StringLatin1", name := "canEncode", desc := "(C)Z" } : Jvm.MethodName) jdk_43_method_3_code (1 : Nat) (Option.some Jvm.ClassFile.FieldType.boolean)).before args0 about1 = true := code_word (m := ⟨9, 2⟩) (meth := k9m2) (c := k9c2) (by decide +kernel) rfl rfl rfl (by decide +kernel)
set_option maxRecDepth 65536 in
theorem w_c13 : (Jvm.Cond.code ({ cls := "java/lang/StringLatin1", name := "toBytes", desc := "(C)[B" } : Jvm.MethodName) jdk_43_method_46_code (1 : Nat) (Option.some (Jvm.ClassFile.FieldType.array Jvm.ClassFile.FieldType.byte))).before args0 about1 = true := code_word (m := ⟨9, 3⟩) (meth := k9m3) (c := k9c3) (by decide +kernel) rfl rfl rfl (by decide +kernel)
set_option maxRecDepth 65536 in
theorem w_c14 : (Jvm.Cond.code ({ cls := "java/lang/String", name := "<init>", desc := "([BB)V" } : Jvm.MethodName) jdk_42_method_151_code (3 : Nat) (Option.none : Option Jvm.ClassFile.FieldType)).before args0 about1 = true := code_word (m := ⟨7, 6⟩) (meth := k7m6) (c := k7c6) (by decide +kernel) rfl rfl rfl (by decide +kernel)
set_option maxRecDepth 65536 in
theorem w_c15 : (Jvm.Cond.code ({ cls := "java/lang/String", name := "charAt", desc := "(I)C" } : Jvm.MethodName) jdk_42_method_56_code (2 : Nat) (Option.some Jvm.ClassFile.FieldType.char)).before args0 about1 = true := code_word (m := ⟨7, 3⟩) (meth := k7m3) (c := k7c3) (by decide +kernel) rfl rfl rfl (by decide +kernel)
set_option maxRecDepth 65536 in
theorem w_c16 : (Jvm.Cond.code ({ cls := "java/lang/String", name := "isLatin1", desc := "()Z" } : Jvm.MethodName) jdk_42_method_154_code (1 : Nat) (Option.some Jvm.ClassFile.FieldType.boolean)).before args0 about1 = true := code_word (m := ⟨7, 8⟩) (meth := k7m8) (c := k7c8) (by decide +kernel) rfl rfl rfl (by decide +kernel)
set_option maxRecDepth 65536 in
theorem w_c17 : (Jvm.Cond.code ({ cls := "java/lang/StringLatin1", name := "charAt", desc := "([BI)C" } : Jvm.MethodName) jdk_43_method_2_code (2 : Nat) (Option.some Jvm.ClassFile.FieldType.char)).before args0 about1 = true := code_word (m := ⟨9, 1⟩) (meth := k9m1) (c := k9c1) (by decide +kernel) rfl rfl rfl (by decide +kernel)
set_option maxRecDepth 65536 in
theorem w_c18 : (Jvm.Cond.code ({ cls := "java/lang/String", name := "checkIndex", desc := "(II)V" } : Jvm.MethodName) jdk_42_method_155_code (2 : Nat) (Option.none : Option Jvm.ClassFile.FieldType)).before args0 about1 = true := code_word (m := ⟨7, 9⟩) (meth := k7m9) (c := k7c9) (by decide +kernel) rfl rfl rfl (by decide +kernel)
set_option maxRecDepth 65536 in
theorem w_c19 : (Jvm.Cond.code ({ cls := "jdk/internal/util/Preconditions", name := "checkIndex", desc := "(IILjava/util/function/BiFunction;)I" } : Jvm.MethodName) jdk_41_method_11_code (3 : Nat) (Option.some Jvm.ClassFile.FieldType.int)).before args0 about1 = true := code_word (m := ⟨10, 1⟩) (meth := k10m1) (c := k10c1) (by decide +kernel) rfl rfl rfl (by decide +kernel)
set_option maxRecDepth 65536 in
theorem w_c20 : (Jvm.Cond.code ({ cls := "java/lang/StringUTF16", name := "compress", desc := "([CII)[B" } : Jvm.MethodName) jdk_52_method_16_code (6 : Nat) (Option.some (Jvm.ClassFile.FieldType.array Jvm.ClassFile.FieldType.byte))).before args0 about1 = true := code_word (m := ⟨11, 8⟩) (meth := k11m8) (c := k11c8) (by decide +kernel) rfl rfl rfl (by decide +kernel)
set_option maxRecDepth 65536 in
theorem w_c21 : (Jvm.Cond.code ({ cls := "java/lang/StringUTF16", name := "compress", desc := "([CI[BII)I" } : Jvm.MethodName) jdk_52_method_21_code (7 : Nat) (Option.some Jvm.ClassFile.FieldType.int)).before args0 about1 = true := code_word (m := ⟨11, 9⟩) (meth := k11m9) (c := k11c9) (by decide +kernel) rfl rfl rfl (by decide +kernel)
set_option maxRecDepth 65536 in
theorem w_c22 : (Jvm.Cond.code ({ cls := "java/lang/StringUTF16", name := "toBytes", desc := "([CII)[B" } : Jvm.MethodName) jdk_52_method_14_code (5 : Nat) (Option.some (Jvm.ClassFile.FieldType.array Jvm.ClassFile.FieldType.byte))).before args0 about1 = true := code_word (m := ⟨11, 6⟩) (meth := k11m6) (c := k11c6) (by decide +kernel) rfl rfl rfl (by decide +kernel)
set_option maxRecDepth 65536 in
theorem w_c23 : (Jvm.Cond.code ({ cls := "java/lang/StringUTF16", name := "newBytesFor", desc := "(I)[B" } : Jvm.MethodName) jdk_52_method_2_code (1 : Nat) (Option.some (Jvm.ClassFile.FieldType.array Jvm.ClassFile.FieldType.byte))).before args0 about1 = true := code_word (m := ⟨11, 1⟩) (meth := k11m1) (c := k11c1) (by decide +kernel) rfl rfl rfl (by decide +kernel)
set_option maxRecDepth 65536 in
theorem w_c24 : (Jvm.Cond.code ({ cls := "java/lang/StringUTF16", name := "newBytesLength", desc := "(I)I" } : Jvm.MethodName) jdk_52_method_3_code (1 : Nat) (Option.some Jvm.ClassFile.FieldType.int)).before args0 about1 = true := code_word (m := ⟨11, 2⟩) (meth := k11m2) (c := k11c2) (by decide +kernel) rfl rfl rfl (by decide +kernel)
set_option maxRecDepth 65536 in
theorem w_c25 : (Jvm.Cond.code ({ cls := "java/lang/StringUTF16", name := "putChar", desc := "([BII)V" } : Jvm.MethodName) jdk_52_method_4_code (3 : Nat) (Option.none : Option Jvm.ClassFile.FieldType)).before args0 about1 = true := code_word (m := ⟨11, 3⟩) (meth := k11m3) (c := k11c3) (by decide +kernel) rfl rfl rfl (by decide +kernel)
set_option maxRecDepth 65536 in
theorem w_c26 : (Jvm.Cond.code ({ cls := "java/lang/StringUTF16", name := "getChar", desc := "([BI)C" } : Jvm.MethodName) jdk_52_method_5_code (2 : Nat) (Option.some Jvm.ClassFile.FieldType.char)).before args0 about1 = true := code_word (m := ⟨11, 4⟩) (meth := k11m4) (c := k11c4) (by decide +kernel) rfl rfl rfl (by decide +kernel)
set_option maxRecDepth 65536 in
theorem w_c27 : (Jvm.Cond.code ({ cls := "java/lang/StringUTF16", name := "coderFromArrayLen", desc := "([BI)B" } : Jvm.MethodName) jdk_52_method_15_code (2 : Nat) (Option.some Jvm.ClassFile.FieldType.byte)).before args0 about1 = true := code_word (m := ⟨11, 7⟩) (meth := k11m7) (c := k11c7) (by decide +kernel) rfl rfl rfl (by decide +kernel)
set_option maxRecDepth 65536 in
theorem w_c28 : (Jvm.Cond.code ({ cls := "java/lang/StringUTF16", name := "charAt", desc := "([BI)C" } : Jvm.MethodName) jdk_52_method_83_code (2 : Nat) (Option.some Jvm.ClassFile.FieldType.char)).before args0 about1 = true := code_word (m := ⟨11, 11⟩) (meth := k11m11) (c := k11c11) (by decide +kernel) rfl rfl rfl (by decide +kernel)
set_option maxRecDepth 65536 in
theorem w_c29 : (Jvm.Cond.code ({ cls := "java/lang/StringUTF16", name := "checkIndex", desc := "(I[B)V" } : Jvm.MethodName) jdk_52_method_91_code (2 : Nat) (Option.none : Option Jvm.ClassFile.FieldType)).before args0 about1 = true := code_word (m := ⟨11, 12⟩) (meth := k11m12) (c := k11c12) (by decide +kernel) rfl rfl rfl (by decide +kernel)
set_option maxRecDepth 65536 in
theorem w_c30 : (Jvm.Cond.code ({ cls := "java/lang/StringUTF16", name := "length", desc := "([B)I" } : Jvm.MethodName) jdk_52_method_6_code (1 : Nat) (Option.some Jvm.ClassFile.FieldType.int)).before args0 about1 = true := code_word (m := ⟨11, 5⟩) (meth := k11m5) (c := k11c5) (by decide +kernel) rfl rfl rfl (by decide +kernel)
set_option maxRecDepth 65536 in
theorem w_c31 : (Jvm.Cond.code ({ cls := "java/lang/Character", name := "isSurrogate", desc := "(C)Z" } : Jvm.MethodName) jdk_89_method_16_code (1 : Nat) (Option.some Jvm.ClassFile.FieldType.boolean)).before args0 about1 = true := code_word (m := ⟨12, 0⟩) (meth := k12m0) (c := k12c0) (by decide +kernel) rfl rfl rfl (by decide +kernel)
set_option maxRecDepth 65536 in
theorem w_c32 : (Jvm.Cond.code ({ cls := "java/lang/StringUTF16", name := "toBytes", desc := "(C)[B" } : Jvm.MethodName) jdk_52_method_24_code (2 : Nat) (Option.some (Jvm.ClassFile.FieldType.array Jvm.ClassFile.FieldType.byte))).before args0 about1 = true := code_word (m := ⟨11, 10⟩) (meth := k11m10) (c := k11c10) (by decide +kernel) rfl rfl rfl (by decide +kernel)
def codes1 : List Jvm.Cond := [Jvm.Cond.code x code maxLocals ret, Jvm.Cond.code ({ cls := "com/example/wide_weir/wideweir/http/QueryUtf8LengthPinLaw", name := "bmp", desc := "(I)C" } : Jvm.MethodName) method_2_code (2 : Nat) (Option.some Jvm.ClassFile.FieldType.char), Jvm.Cond.code ({ cls := "com/example/wide_weir/wideweir/http/QueryUtf8LengthPinLaw", name := "bmpBytes", desc := "(C)I" } : Jvm.MethodName) method_3_code (1 : Nat) (Option.some Jvm.ClassFile.FieldType.int), Jvm.Cond.code ({ cls := "java/lang/String", name := "<init>", desc := "([C)V" } : Jvm.MethodName) jdk_42_method_3_code (2 : Nat) (Option.none : Option Jvm.ClassFile.FieldType), Jvm.Cond.code ({ cls := "java/lang/String", name := "<init>", desc := "([CIILjava/lang/Void;)V" } : Jvm.MethodName) jdk_42_method_149_code (6 : Nat) (Option.none : Option Jvm.ClassFile.FieldType), Jvm.Cond.code ({ cls := "java/lang/Object", name := "<init>", desc := "()V" } : Jvm.MethodName) object_method_1_code (1 : Nat) (Option.none : Option Jvm.ClassFile.FieldType), Jvm.Cond.code ({ cls := "com/example/wide_weir/wideweir/http/Query", name := "utf8Length", desc := "(Ljava/lang/String;)I" } : Jvm.MethodName) prog_37_method_3_code (4 : Nat) (Option.some Jvm.ClassFile.FieldType.int), Jvm.Cond.code ({ cls := "java/lang/String", name := "length", desc := "()I" } : Jvm.MethodName) jdk_42_method_54_code (1 : Nat) (Option.some Jvm.ClassFile.FieldType.int), Jvm.Cond.code ({ cls := "java/lang/String", name := "coder", desc := "()B" } : Jvm.MethodName) jdk_42_method_152_code (1 : Nat) (Option.some Jvm.ClassFile.FieldType.byte), Jvm.Cond.code ({ cls := "com/example/wide_weir/wideweir/http/QueryUtf8LengthPinLaw", name := "high", desc := "(I)C" } : Jvm.MethodName) method_4_code (1 : Nat) (Option.some Jvm.ClassFile.FieldType.char), Jvm.Cond.code ({ cls := "com/example/wide_weir/wideweir/http/QueryUtf8LengthPinLaw", name := "low", desc := "(I)C" } : Jvm.MethodName) method_5_code (1 : Nat) (Option.some Jvm.ClassFile.FieldType.char), Jvm.Cond.code ({ cls := "java/lang/String", name := "valueOf", desc := "(C)Ljava/lang/String;" } : Jvm.MethodName) jdk_42_method_139_code (1 : Nat) (Option.some (Jvm.ClassFile.FieldType.object "java/lang/String")), Jvm.Cond.code ({ cls := "java/lang/StringLatin1", name := "canEncode", desc := "(C)Z" } : Jvm.MethodName) jdk_43_method_3_code (1 : Nat) (Option.some Jvm.ClassFile.FieldType.boolean), Jvm.Cond.code ({ cls := "java/lang/StringLatin1", name := "toBytes", desc := "(C)[B" } : Jvm.MethodName) jdk_43_method_46_code (1 : Nat) (Option.some (Jvm.ClassFile.FieldType.array Jvm.ClassFile.FieldType.byte)), Jvm.Cond.code ({ cls := "java/lang/String", name := "<init>", desc := "([BB)V" } : Jvm.MethodName) jdk_42_method_151_code (3 : Nat) (Option.none : Option Jvm.ClassFile.FieldType), Jvm.Cond.code ({ cls := "java/lang/String", name := "charAt", desc := "(I)C" } : Jvm.MethodName) jdk_42_method_56_code (2 : Nat) (Option.some Jvm.ClassFile.FieldType.char), Jvm.Cond.code ({ cls := "java/lang/String", name := "isLatin1", desc := "()Z" } : Jvm.MethodName) jdk_42_method_154_code (1 : Nat) (Option.some Jvm.ClassFile.FieldType.boolean), Jvm.Cond.code ({ cls := "java/lang/StringLatin1", name := "charAt", desc := "([BI)C" } : Jvm.MethodName) jdk_43_method_2_code (2 : Nat) (Option.some Jvm.ClassFile.FieldType.char), Jvm.Cond.code ({ cls := "java/lang/String", name := "checkIndex", desc := "(II)V" } : Jvm.MethodName) jdk_42_method_155_code (2 : Nat) (Option.none : Option Jvm.ClassFile.FieldType), Jvm.Cond.code ({ cls := "jdk/internal/util/Preconditions", name := "checkIndex", desc := "(IILjava/util/function/BiFunction;)I" } : Jvm.MethodName) jdk_41_method_11_code (3 : Nat) (Option.some Jvm.ClassFile.FieldType.int), Jvm.Cond.code ({ cls := "java/lang/StringUTF16", name := "compress", desc := "([CII)[B" } : Jvm.MethodName) jdk_52_method_16_code (6 : Nat) (Option.some (Jvm.ClassFile.FieldType.array Jvm.ClassFile.FieldType.byte)), Jvm.Cond.code ({ cls := "java/lang/StringUTF16", name := "compress", desc := "([CI[BII)I" } : Jvm.MethodName) jdk_52_method_21_code (7 : Nat) (Option.some Jvm.ClassFile.FieldType.int), Jvm.Cond.code ({ cls := "java/lang/StringUTF16", name := "toBytes", desc := "([CII)[B" } : Jvm.MethodName) jdk_52_method_14_code (5 : Nat) (Option.some (Jvm.ClassFile.FieldType.array Jvm.ClassFile.FieldType.byte)), Jvm.Cond.code ({ cls := "java/lang/StringUTF16", name := "newBytesFor", desc := "(I)[B" } : Jvm.MethodName) jdk_52_method_2_code (1 : Nat) (Option.some (Jvm.ClassFile.FieldType.array Jvm.ClassFile.FieldType.byte)), Jvm.Cond.code ({ cls := "java/lang/StringUTF16", name := "newBytesLength", desc := "(I)I" } : Jvm.MethodName) jdk_52_method_3_code (1 : Nat) (Option.some Jvm.ClassFile.FieldType.int), Jvm.Cond.code ({ cls := "java/lang/StringUTF16", name := "putChar", desc := "([BII)V" } : Jvm.MethodName) jdk_52_method_4_code (3 : Nat) (Option.none : Option Jvm.ClassFile.FieldType), Jvm.Cond.code ({ cls := "java/lang/StringUTF16", name := "getChar", desc := "([BI)C" } : Jvm.MethodName) jdk_52_method_5_code (2 : Nat) (Option.some Jvm.ClassFile.FieldType.char), Jvm.Cond.code ({ cls := "java/lang/StringUTF16", name := "coderFromArrayLen", desc := "([BI)B" } : Jvm.MethodName) jdk_52_method_15_code (2 : Nat) (Option.some Jvm.ClassFile.FieldType.byte), Jvm.Cond.code ({ cls := "java/lang/StringUTF16", name := "charAt", desc := "([BI)C" } : Jvm.MethodName) jdk_52_method_83_code (2 : Nat) (Option.some Jvm.ClassFile.FieldType.char), Jvm.Cond.code ({ cls := "java/lang/StringUTF16", name := "checkIndex", desc := "(I[B)V" } : Jvm.MethodName) jdk_52_method_91_code (2 : Nat) (Option.none : Option Jvm.ClassFile.FieldType), Jvm.Cond.code ({ cls := "java/lang/StringUTF16", name := "length", desc := "([B)I" } : Jvm.MethodName) jdk_52_method_6_code (1 : Nat) (Option.some Jvm.ClassFile.FieldType.int), Jvm.Cond.code ({ cls := "java/lang/Character", name := "isSurrogate", desc := "(C)Z" } : Jvm.MethodName) jdk_89_method_16_code (1 : Nat) (Option.some Jvm.ClassFile.FieldType.boolean), Jvm.Cond.code ({ cls := "java/lang/StringUTF16", name := "toBytes", desc := "(C)[B" } : Jvm.MethodName) jdk_52_method_24_code (2 : Nat) (Option.some (Jvm.ClassFile.FieldType.array Jvm.ClassFile.FieldType.byte))]
set_option maxRecDepth 65536 in
theorem codes_eq : words1.filter isCode = codes1 := rfl
theorem w_codes : ∀ c ∈ words1.filter isCode, c.before args0 about1 = true := by
  rw [codes_eq]
  intro c hc
  simp only [codes1, List.mem_cons, List.not_mem_nil, or_false] at hc
  rcases hc with rfl | rfl | rfl | rfl | rfl | rfl | rfl | rfl | rfl | rfl | rfl | rfl | rfl | rfl | rfl | rfl | rfl | rfl | rfl | rfl | rfl | rfl | rfl | rfl | rfl | rfl | rfl | rfl | rfl | rfl | rfl | rfl | rfl
  · exact w_c0
  · exact w_c1
  · exact w_c2
  · exact w_c3
  · exact w_c4
  · exact w_c5
  · exact w_c6
  · exact w_c7
  · exact w_c8
  · exact w_c9
  · exact w_c10
  · exact w_c11
  · exact w_c12
  · exact w_c13
  · exact w_c14
  · exact w_c15
  · exact w_c16
  · exact w_c17
  · exact w_c18
  · exact w_c19
  · exact w_c20
  · exact w_c21
  · exact w_c22
  · exact w_c23
  · exact w_c24
  · exact w_c25
  · exact w_c26
  · exact w_c27
  · exact w_c28
  · exact w_c29
  · exact w_c30
  · exact w_c31
  · exact w_c32
set_option maxRecDepth 65536 in
theorem w_t1 : (words1.take 24).all (fun c => isCode c || c.before args0 about1) = true := by decide +kernel
set_option maxRecDepth 65536 in
theorem w_t2 : ((words1.drop 24).take 24).all (fun c => isCode c || c.before args0 about1) = true := by decide +kernel
set_option maxRecDepth 65536 in
theorem w_t3 : (((words1.drop 24).drop 24).take 24).all (fun c => isCode c || c.before args0 about1) = true := by decide +kernel
set_option maxRecDepth 65536 in
theorem w_t4 : ((((words1.drop 24).drop 24).drop 24).take 24).all (fun c => isCode c || c.before args0 about1) = true := by decide +kernel
set_option maxRecDepth 65536 in
theorem w_t5 : (((((words1.drop 24).drop 24).drop 24).drop 24).take 24).all (fun c => isCode c || c.before args0 about1) = true := by decide +kernel
set_option maxRecDepth 65536 in
theorem w_t6 : (((((words1.drop 24).drop 24).drop 24).drop 24).drop 24).all (fun c => isCode c || c.before args0 about1) = true := by decide +kernel
theorem w_tables : (allAtoms (Jvm.Cond.code x code maxLocals ret :: tables_1)).before args0 about1 = true := by
  rw [allAtoms_all]
  show words1.all (fun c => c.before args0 about1) = true
  refine all_split ?_ w_codes
  rw [← List.take_append_drop 24 words1, List.all_append, w_t1, ← List.take_append_drop 24 (words1.drop 24), List.all_append, w_t2, ← List.take_append_drop 24 ((words1.drop 24).drop 24), List.all_append, w_t3, ← List.take_append_drop 24 (((words1.drop 24).drop 24).drop 24), List.all_append, w_t4, ← List.take_append_drop 24 ((((words1.drop 24).drop 24).drop 24).drop 24), List.all_append, w_t5, w_t6]
  rfl
set_option maxRecDepth 65536 in
theorem w_rest : rest_1_c.before args0 about1 = true := by decide +kernel
set_option maxRecDepth 65536 in
theorem w_case : (Jvm.Cond.and given_1 narrow_1).before args0 about1 = true := by decide +kernel
set_option maxRecDepth 65536 in
theorem w_consts : constsHeld consts_1 about1 := Jvm.Lit.constsHeldB_iff.mp (by decide +kernel)
theorem w_applies : (headSpec (Jvm.Cond.code x code maxLocals ret :: tables_1) room_1).applies x e0.platform about1 = true :=
  (Spec.applies_iff w_frames).mpr ⟨w_running, w_runnable, w_alone, w_named, w_hears, w_ripe, w_room, w_tables⟩
theorem atStart : AtStart classFile x code maxLocals ret World_1 tables_1 room_1 Calls_1 rest_1 Pre_1 launch0 p0 e0 about1 theMethod args0 below0 :=
  ⟨lists_1, trivial, launch0.admits_env _ _ _, launch0.least_env, fairChoices_fair.cas, fairChoices_fair.clock, w_frames, w_args, w_heap, w_applies, ⟨w_consts, trivial⟩, w_rest, w_case⟩
end start1
theorem witness_1 : WitnessClaimed_1 := ⟨start1.p0, start1.e0, start1.about1, start1.theMethod, start1.args0, start1.below0, start1.atStart⟩
end Jvm.Pilot.@@N@@
