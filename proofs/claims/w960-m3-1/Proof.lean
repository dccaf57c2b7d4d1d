import JvmDerived
import JvmDerived.Pilot.@@N@@Statement
import JvmDerived.Pilot.@@N@@Code
set_option linter.unusedVariables false
set_option linter.unusedSimpArgs false
namespace Jvm.OwnKit
open Sem ClassFile Op Lib Jvm.Stand Jvm.Free Jvm.LawKit Jvm.RoadKit
section Own
variable {p : Program} {l : Launch} {e : Env} {R : Room} {s s0 : State} {m : MethodId} {args : Array Value} {below : List Frame} {meth : Method} {c : Code} {T : State} {locs : List Loc} {cells slots : Nat} {Z : State} {a0 : Array Value} {h : Heap}
/-- a walk comes to its return; Q says what it leaves; En is the frame's word -/
def Done (En : State → Outcome → State → List Loc → Nat → Nat → Prop) (p : Program) (e : Env) (below : List Frame) (s : State) (R : Room) (Q : Option Value → Heap → Vm → List Loc → Prop) (U : State) : Prop :=
  ∃ s₂ o, Steps p.tables e below U s₂ ∧ s₂.status = .running ∧ Ended s₂ below o ∧ ∃ v L, o = .returned v ∧ Q v s₂.heap s₂.vm L ∧ En s o s₂ L R.cells R.slots
variable {En : State → Outcome → State → List Loc → Nat → Nat → Prop} {Q : Option Value → Heap → Vm → List Loc → Prop} {U U' : State}
theorem Done.step (k : ∀ t, Steps p.tables e below U' t → Steps p.tables e below U t) (h : Done En p e below s R Q U') : Done En p e below s R Q U := by
  obtain ⟨s₂, o, h1, r⟩ := h
  exact ⟨s₂, o, k _ h1, r⟩
theorem Done.go (k : Steps p.tables e below U U') (h : Done En p e below s R Q U') : Done En p e below s R Q U := by
  obtain ⟨s₂, o, h1, r⟩ := h
  exact ⟨s₂, o, k.trans h1, r⟩
/-- the method may be left here -/
def Leaves (En : State → Outcome → State → List Loc → Nat → Nat → Prop) (e : Env) (below : List Frame) (s : State) (m : MethodId) (meth : Method) (T : State) (locs : List Loc) (R : Room) : Prop :=
  ∀ v : Option Value, (meth.sig.returnType = none → v = none) → ∃ fs, (∀ (f : JFrame) (acts : List Action), f.method = m → f.locked = none → f.entered = [] → (doReturn e (T.setTop f) acts v).1 = T.setFrames fs) ∧
    (T.setFrames fs).status = .running ∧ Ended (T.setFrames fs) below (.returned v) ∧ En s (.returned v) (T.setFrames fs) locs R.cells R.slots
theorem leavesF (X : Stand p l e R s m args below meth c T locs cells slots) (hlk : meth.locks = false) (hc : cells ≤ R.cells) (hs : slots ≤ R.slots) : Leaves FrameEnd e below s m meth T locs R := by
  intro v hv
  obtain ⟨fs, hr, hrun, hended, hW, hsame⟩ := X.leave hv hlk
  exact ⟨fs, hr, hrun, hended, ⟨_, rfl⟩, hW, hsame.mono hc hs⟩
theorem leavesW {vm0 : Vm} (X : Stand p l e R (s.setVm vm0) m args below meth c T locs cells slots) {n : Nat} (hS : s.Since vm0 n) (hn : n ≤ T.heap.size) (hlk : meth.locks = false) (hc : cells ≤ R.cells) (hs : slots ≤ R.slots) : Leaves ReturnedEndW e below s m meth T locs R := by
  intro v hv
  obtain ⟨fs, hr, hrun, hended, h1, h2, h3, h4⟩ := X.leaveW hS hn hv hlk
  exact ⟨fs, hr, hrun, hended, h1, h2, h3, h4.mono hc hs⟩
theorem Done.retI (Lv : Leaves En e below s0 m meth T locs R) (X : Stand p l e R s m args below meth c T locs cells slots) (hx : p.tables.exec = Jvm.exec) {pc : Nat} {Ls : Array Slot} {z : Int32} {rest : List Value} (hret : meth.sig.returnType = some .int) (hd : decode c.code pc = .ok (.ireturn, 1))
    (hq : Q (some (.int z)) T.heap T.vm locs) : Done En p e below s0 R Q (T.setTop (mkF m pc Ls (.int z :: rest))) := by
  obtain ⟨fs, hr, hrun, hended, hE⟩ := Lv (some (.int z)) (fun h => by rw [hret] at h; cases h)
  exact ⟨_, _, retOut X hx hret rfl (Or.inl ⟨rfl, Or.inl rfl, z, rfl⟩) hd hr, hrun, hended, _, _, rfl, hq, hE⟩
theorem Done.retJ (Lv : Leaves En e below s0 m meth T locs R) (X : Stand p l e R s m args below meth c T locs cells slots) (hx : p.tables.exec = Jvm.exec) {pc : Nat} {Ls : Array Slot} {z : Int64} {rest : List Value} (hret : meth.sig.returnType = some .long) (hd : decode c.code pc = .ok (.lreturn, 1))
    (hq : Q (some (.long z)) T.heap T.vm locs) : Done En p e below s0 R Q (T.setTop (mkF m pc Ls (.long z :: rest))) := by
  obtain ⟨fs, hr, hrun, hended, hE⟩ := Lv (some (.long z)) (fun h => by rw [hret] at h; cases h)
  exact ⟨_, _, retOut X hx hret rfl (Or.inr (Or.inl ⟨rfl, rfl, z, rfl⟩)) hd hr, hrun, hended, _, _, rfl, hq, hE⟩
theorem Done.retD (Lv : Leaves En e below s0 m meth T locs R) (X : Stand p l e R s m args below meth c T locs cells slots) (hx : p.tables.exec = Jvm.exec) {pc : Nat} {Ls : Array Slot} {z : UInt64} {rest : List Value} (hret : meth.sig.returnType = some .double) (hd : decode c.code pc = .ok (.dreturn, 1))
    (hq : Q (some (.double z)) T.heap T.vm locs) : Done En p e below s0 R Q (T.setTop (mkF m pc Ls (.double z :: rest))) := by
  obtain ⟨fs, hr, hrun, hended, hE⟩ := Lv (some (.double z)) (fun h => by rw [hret] at h; cases h)
  exact ⟨_, _, retOut X hx hret rfl (Or.inr (Or.inr (Or.inl ⟨rfl, rfl, z, rfl⟩))) hd hr, hrun, hended, _, _, rfl, hq, hE⟩
theorem Done.retA (Lv : Leaves En e below s0 m meth T locs R) (X : Stand p l e R s m args below meth c T locs cells slots) (hx : p.tables.exec = Jvm.exec) {pc : Nat} {Ls : Array Slot} {w : Value} {t : FieldType} {rest : List Value} (hret : meth.sig.returnType = some t) (ht : t.isReference = true) (hw : w.isRef = true) (hd : decode c.code pc = .ok (.areturn, 1))
    (hq : Q (some w) T.heap T.vm locs) : Done En p e below s0 R Q (T.setTop (mkF m pc Ls (w :: rest))) := by
  obtain ⟨fs, hr, hrun, hended, hE⟩ := Lv (some w) (fun h => by rw [hret] at h; cases h)
  have hn : narrow t w = w := by rcases ref_cases hw with rfl | ⟨a, rfl⟩ <;> cases t <;> rfl
  exact ⟨_, _, retOut X hx hret hn (Or.inr (Or.inr (Or.inr (Or.inr ⟨rfl, ht, hw⟩)))) hd hr, hrun, hended, _, _, rfl, hq, hE⟩
theorem Done.retN (Lv : Leaves En e below s0 m meth T locs R) (X : Stand p l e R s m args below meth c T locs cells slots) (hx : p.tables.exec = Jvm.exec) {pc : Nat} {Ls : Array Slot} {z : Int32} {t : FieldType} {rest : List Value} (hret : meth.sig.returnType = some t) (ht : t = .boolean ∨ t = .byte ∨ t = .char ∨ t = .short) (hd : decode c.code pc = .ok (.ireturn, 1))
    (hq : Q (some (.int (nar t z))) T.heap T.vm locs) : Done En p e below s0 R Q (T.setTop (mkF m pc Ls (.int z :: rest))) := by
  obtain ⟨fs, hr, hrun, hended, hE⟩ := Lv (some (.int (nar t z))) (fun h => by rw [hret] at h; cases h)
  exact ⟨_, _, Jvm.RoadKit.retN X hx hret ht hd hr, hrun, hended, _, _, rfl, hq, hE⟩
theorem Done.retV (Lv : Leaves En e below s0 m meth T locs R) (X : Stand p l e R s m args below meth c T locs cells slots) (hx : p.tables.exec = Jvm.exec) {pc : Nat} {Ls : Array Slot} (hret : meth.sig.returnType = none) (hd : decode c.code pc = .ok (.return_, 1))
    (hq : Q none T.heap T.vm locs) : Done En p e below s0 R Q (T.setTop (mkF m pc Ls [])) := by
  obtain ⟨fs, hr, hrun, hended, hE⟩ := Lv none (fun _ => rfl)
  exact ⟨_, _, X.returnOut hx hret hd hr, hrun, hended, _, _, rfl, hq, hE⟩
/-- a body's contract: from the arguments as' and the heap h0 it returns, and Q holds; PV is asked of the tables -/
def Ctr (En : State → Outcome → State → List Loc → Nat → Nat → Prop) (l : Launch) (Z : State) (y : MethodName) (code : ByteArray) (ml : Nat) (rt : Option FieldType) (ws : List Jvm.Cond) (rm : Room) (as' : Array Value) (h0 : Heap) (PV : Vm → Prop) (Q : Option Value → Heap → Vm → List Loc → Prop) : Prop :=
  MetFree l y (head1 (Jvm.Cond.code y code ml rt :: ws) rm) (fun a U => a = as' ∧ Z.Warmed39 U.vm ∧ U.heap = h0 ∧ PV U.vm) (fun _ _ _ _ _ => True) (fun _ U o U' => ∃ v L, o = .returned v ∧ Q v U'.heap U'.vm L ∧ En U o U' L rm.cells rm.slots)
abbrev TrueV : Vm → Prop := fun _ => True
theorem Ctr.intro {y : MethodName} {code : ByteArray} {ml : Nat} {rt : Option FieldType} {ws : List Jvm.Cond} {rm : Room} {as' : Array Value} {h0 : Heap} {PV : Vm → Prop} {Ls : Array Slot} (hpl : plainFor y = true) (hf : ∀ m, entryFrame m as' ml = mkF m 0 Ls [])
    (body : ∀ (p : Program) (e : Env) (s : State) (m : MethodId) (below : List Frame) (meth : Method) (c : Code) (T : State), p.tables.exec = Jvm.exec → c.code = code → c.maxLocals = ml → s.vm.findClass y.cls = some m.cls → meth.name = y.name → meth.sig.returnType = rt → meth.locks = false → Z.Warmed39 s.vm → PV s.vm → s.heap = h0 → T.heap = h0 →
      Stand p l e rm s m as' below meth c T [] 0 0 → Done En p e below s rm Q (T.setTop (mkF m 0 Ls []))) : Ctr En l Z y code ml rt ws rm as' h0 PV Q := by
  refine MetFree.of_bodySF hpl hisR ?_
  intro p e s m args below meth c s₁ Bd hml0 hP hK
  obtain ⟨rfl, hZ, hh, hV⟩ := hP
  have X0 : Stand p l e rm s m args below meth c s₁ [] 0 0 := Stand.of_body Bd
  have e0 : s₁.heap = h0 := by rw [← hh, Bd.state]; rfl
  obtain ⟨s₂, o, h1, r⟩ := body p e s m below meth c s₁ Bd.exec Bd.bytes hml0 (findClass_of_methodNamed Bd.named) (name_of_methodNamed Bd.named Bd.method).1 Bd.returns Bd.notSynchronized hZ hV hh e0 X0
  exact ⟨s₂, o, castTop (hf m) h1, r⟩
variable {Qc : Option Value → Heap → Vm → List Loc → Prop}
theorem Ctr.back {y : MethodName} {bytes : ByteArray} {maxL : Nat} {ret : Option FieldType} {rm : Room} {len W : Nat} {as' : Array Value} {PV : Vm → Prop} (hM : Ctr FrameEnd l Z y bytes maxL ret [] rm as' h PV Qc)
    (hZ : Z.Warmed39 s.vm) (hV : ∀ vm', s.WarmedH vm' → PV vm') (wc : (Jvm.Cond.code y bytes maxL ret).before a0 Z = true) (wz : (Jvm.Cond.initialized y.cls).before a0 Z = true) (hf : rm.frames + 1 ≤ R.frames) (hl : W + (maxL + 11) + rm.locals ≤ R.locals) :
    Back l R p e below s args y len W (fun A a => a = as' ∧ A.U.heap = h ∧ A.cells + rm.cells ≤ R.cells ∧ A.slots + rm.slots ≤ R.slots)
      (fun A _ v B => ∃ L, Qc v B.U.heap B.U.vm L ∧ B.locs = A.locs ++ L ∧ B.cells = A.cells + rm.cells ∧ B.slots = A.slots + rm.slots) :=
  Back.of_free (bytes := bytes) (maxL := maxL) (ret := ret) (E := fun _ _ o t L k n => k = rm.cells ∧ n = rm.slots ∧ ∃ v, o = .returned v ∧ Qc v t.heap t.vm L) hM hf hl
    (fun m meth c A a Y hp => have hU : Z.Warmed39 A.U.vm := wtrans hZ Y.warmed
      ⟨by show (Cond.and _ .tt).before a A.U = true; rw [Cond.before_and, mv hU wc]; rfl, mv hU wc, mv hU wz, hp.2.2.1, hp.2.2.2⟩)
    (fun m meth c A a g mk Y hp => ⟨hp.1, wtrans hZ Y.warmed, hp.2.1, hV _ Y.warmed⟩) (fun _ _ _ _ _ _ _ _ _ => trivial)
    (fun _ _ _ _ ⟨v, L, h1, h2, h3⟩ => ⟨L, _, _, h3, rfl, rfl, v, h1, h2⟩)
    (fun m meth c A a g mk v t L k n Y hp _ _ ⟨e1, e2, v', e3, e4⟩ => by cases e3; subst e1 e2; exact ⟨L, e4, rfl, rfl, rfl⟩)
theorem Ctr.backW {y : MethodName} {bytes : ByteArray} {maxL : Nat} {ret : Option FieldType} {rm : Room} {len W : Nat} {as' : Array Value} {PV : Vm → Prop} (hM : Ctr ReturnedEndW l Z y bytes maxL ret [] rm as' h PV Qc)
    (hZ : Z.Warmed39 s.vm) (hV : ∀ vm', s.WarmedH vm' → PV vm') (wc : (Jvm.Cond.code y bytes maxL ret).before a0 Z = true) (wz : (Jvm.Cond.initialized y.cls).before a0 Z = true) (hf : rm.frames + 1 ≤ R.frames) (hl : W + (maxL + 11) + rm.locals ≤ R.locals) :
    BackS l R p e below s args y len W (fun A a => a = as' ∧ A.U.heap = h ∧ A.cells + rm.cells ≤ R.cells ∧ A.slots + rm.slots ≤ R.slots)
      (fun A _ v B => ∃ L, Qc v B.U.heap B.U.vm L ∧ B.locs = A.locs ++ L ∧ B.cells = A.cells + rm.cells ∧ B.slots = A.slots + rm.slots) :=
  BackS.of_freeW (bytes := bytes) (maxL := maxL) (ret := ret) (E := fun _ _ o t L k n => k = rm.cells ∧ n = rm.slots ∧ ∃ v, o = .returned v ∧ Qc v t.heap t.vm L) hM hf hl
    (fun m meth c A a Y hp => have hU : Z.Warmed39 A.U.vm := wtrans hZ Y.warmed
      ⟨by show (Cond.and _ .tt).before a A.U = true; rw [Cond.before_and, mv hU wc]; rfl, mv hU wc, mv hU wz, hp.2.2.1, hp.2.2.2⟩)
    (fun m meth c A a g mk Y hp => ⟨hp.1, wtrans hZ Y.warmed, hp.2.1, hV _ Y.warmed⟩) (fun _ _ _ _ _ _ _ _ _ => trivial)
    (fun _ _ _ _ ⟨v, L, h1, h2, h3⟩ => ⟨L, _, _, h3, rfl, rfl, v, h1, h2⟩)
    (fun m meth c A a g mk v t L k n Y hp _ _ ⟨e1, e2, v', e3, e4⟩ => by cases e3; subst e1 e2; exact ⟨L, e4, rfl, rfl, rfl⟩)
theorem wAt {ws : List Jvm.Cond} (hw : ∀ d ∈ ws, d.before a0 Z = true) (k : Nat) {d : Jvm.Cond} (q : ws[k]? = some d) : d.before a0 Z = true := hw _ (List.mem_of_getElem? q)
theorem int_eq_v {first s : State} {o : Option Outcome} {idx : List Nat} {t : Term} {k : Int32} (q : (Jvm.Cond.eq t (.int k)).value args first o s idx = some true) : t.eval args first o idx s = some (.int k) := by
  cases ht : t.eval args first o idx s with
  | none => simp [Cond.value, ht] at q
  | some x => cases x <;> simp [Cond.value, Term.eval, ht] at q ⊢; exact q
/-- a truth value as the JVM returns it -/
def bP (P : Prop) [Decidable P] : Int32 := if P then 1 else 0
theorem bP_t {P : Prop} [Decidable P] (q : P) : bP P = 1 := if_pos q
theorem bP_f {P : Prop} [Decidable P] (q : ¬ P) : bP P = 0 := if_neg q
/-- what a law leaves: it returns 1, and wrote in new cells alone -/
def LawQ (n0 : Nat) : Option Value → Heap → Vm → List Loc → Prop := fun v _ _ L => v = some (.int 1) ∧ Fr n0 L
/-- what a body leaves that writes and makes nothing -/
def PureQ (r : Option Value) (h0 : Heap) : Option Value → Heap → Vm → List Loc → Prop := fun v h _ L => v = r ∧ h = h0 ∧ L = []
/-- what a constructor leaves of which no more is wanted: it wrote in ws and in new cells alone -/
def QW (n0 : Nat) (h0 : Heap) (ws : List Addr) : Option Value → Heap → Vm → List Loc → Prop := fun v h _ L => v = none ∧ Fr n0 L ∧ Keep h0 h ws
section Calls
variable {own C : String} {index : Nat} {y z : MethodName} {bytes : ByteArray} {maxL : Nat} {ret : Option FieldType} {rm : Room} {as' : Array Value} {PV : Vm → Prop} {g : JFrame} {r : Option Value}
theorem Done.callS (X : Stand p l e R s m args below meth c T locs cells slots) (hx : p.tables.exec = Jvm.exec) (hZ : Z.Warmed39 s.vm) (hown : s.vm.findClass own = some m.cls)
    (w1 : (Jvm.Cond.methodLink own index y).before a0 Z = true) (w2 : (Jvm.Cond.static y).before a0 Z = true) (w3 : (Jvm.Cond.initialized y.cls).before a0 Z = true) (w4 : (Jvm.Cond.code y bytes maxL ret).before a0 Z = true)
    (hy : y.cls ≠ "java/lang/invoke/MethodHandle" ∧ y.cls ≠ "java/lang/invoke/VarHandle") (hM : Ctr FrameEnd l Z y bytes maxL ret [] rm as' h PV Qc) (hV : ∀ vm', s.WarmedH vm' → PV vm') (eT : T.heap = h)
    (hg : g.method = m) (hsize : g.locals.size = c.maxLocals) (argsL rest : List Value) (W : Nat) (hlen : ∀ sig, parseMethodDescriptor y.desc = some sig → argsL.length = sig.parameters.length)
    (hstack : g.stack = argsL.reverse ++ rest) (has : argsL.toArray = as') (hW : 2 * g.monitorRoom + (rest.map fun v => v.category).sum ≤ W) (hdg : decode c.code g.pc = .ok (.invokestatic index, 3))
    (hf : rm.frames + 1 ≤ R.frames) (hl : W + (maxL + 11) + rm.locals ≤ R.locals) (hc : cells + rm.cells ≤ R.cells) (hs : slots + rm.slots ≤ R.slots)
    (k : ∀ (T' : State) (v : Option Value) (L : List Loc), Stand p l e R s m args below meth c T' (locs ++ L) (cells + rm.cells) (slots + rm.slots) → Qc v T'.heap T'.vm L → Done En p e below s0 R Q (T'.setTop { g with pc := g.pc + 3, stack := v.toList ++ rest })) :
    Done En p e below s0 R Q (T.setTop g) := by
  subst has
  obtain ⟨v, vm₁, ⟨T', L', k', n'⟩, -, X', ⟨L, hq, e1, e2, e3⟩, st⟩ := Jvm.LawKit.callS X hx (y := y) hown (mvT hZ w1) (mvT hZ w2) (mvT hZ w3) (mvT hZ w4) hy (hM.back (W := W) hZ hV w4 w3 hf hl) hg hsize (argsL := argsL) (rest := rest) hlen hstack hW hdg (fun _ _ => ⟨rfl, eT, hc, hs⟩)
  dsimp only [Pt.U, Pt.locs, Pt.cells, Pt.slots] at X' e1 e2 e3 st hq
  subst e1 e2 e3
  exact Done.step st (k _ _ _ X' hq)
theorem Done.callSP (X : Stand p l e R s m args below meth c T locs cells slots) (hx : p.tables.exec = Jvm.exec) (hZ : Z.Warmed39 s.vm) (hown : s.vm.findClass own = some m.cls)
    (w1 : (Jvm.Cond.methodLink own index y).before a0 Z = true) (w2 : (Jvm.Cond.static y).before a0 Z = true) (w3 : (Jvm.Cond.initialized y.cls).before a0 Z = true) (w4 : (Jvm.Cond.code y bytes maxL ret).before a0 Z = true)
    (hy : y.cls ≠ "java/lang/invoke/MethodHandle" ∧ y.cls ≠ "java/lang/invoke/VarHandle") (hM : Ctr FrameEnd l Z y bytes maxL ret [] rm as' h TrueV (PureQ r h)) (eT : T.heap = h)
    (hg : g.method = m) (hsize : g.locals.size = c.maxLocals) (argsL rest : List Value) (W : Nat) (hlen : ∀ sig, parseMethodDescriptor y.desc = some sig → argsL.length = sig.parameters.length)
    (hstack : g.stack = argsL.reverse ++ rest) (has : argsL.toArray = as') (hW : 2 * g.monitorRoom + (rest.map fun v => v.category).sum ≤ W) (hdg : decode c.code g.pc = .ok (.invokestatic index, 3))
    (hf : rm.frames + 1 ≤ R.frames) (hl : W + (maxL + 11) + rm.locals ≤ R.locals) (hc : cells ≤ R.cells) (hs : slots ≤ R.slots) (rc : rm.cells = 0) (rs : rm.slots = 0)
    (k : ∀ (T' : State), Stand p l e R s m args below meth c T' locs cells slots → T'.heap = h → Done En p e below s0 R Q (T'.setTop { g with pc := g.pc + 3, stack := r.toList ++ rest })) :
    Done En p e below s0 R Q (T.setTop g) := by
  refine Done.callS X hx hZ hown w1 w2 w3 w4 hy hM (fun _ _ => trivial) eT hg hsize argsL rest W hlen hstack has hW hdg hf hl (by rw [rc]; exact hc) (by rw [rs]; exact hs) ?_
  intro T' v L X' q
  obtain ⟨rfl, e1, rfl⟩ := q
  rw [List.append_nil, rc, rs] at X'
  exact k T' X' e1
theorem Done.callI (X : Stand p l e R s m args below meth c T locs cells slots) (hx : p.tables.exec = Jvm.exec) (hZ : Z.Warmed39 s.vm) (hy1 : y.name = "<init>") (hown : s.vm.findClass own = some m.cls)
    (w1 : (Jvm.Cond.methodLink own index y).before a0 Z = true) (w2 : (Jvm.Cond.instanceMethod y).before a0 Z = true) (w3 : (Jvm.Cond.initialized y.cls).before a0 Z = true) (w4 : (Jvm.Cond.code y bytes maxL none).before a0 Z = true)
    (hy : y.cls ≠ "java/lang/invoke/MethodHandle" ∧ y.cls ≠ "java/lang/invoke/VarHandle") (hM : Ctr FrameEnd l Z y bytes maxL none [] rm as' h PV Qc) (hV : ∀ vm', s.WarmedH vm' → PV vm') (eT : T.heap = h)
    (hg : g.method = m) (hsize : g.locals.size = c.maxLocals) (a : Addr) (argsL rest : List Value) (W : Nat) (hlen : ∀ sig, parseMethodDescriptor y.desc = some sig → argsL.length = sig.parameters.length)
    (hstack : g.stack = argsL.reverse ++ .ref a :: rest) (has : (Value.ref a :: argsL).toArray = as') (hW : 2 * g.monitorRoom + (rest.map fun v => v.category).sum ≤ W) (hdg : decode c.code g.pc = .ok (.invokespecial index, 3))
    (hf : rm.frames + 1 ≤ R.frames) (hl : W + (maxL + 11) + rm.locals ≤ R.locals) (hc : cells + rm.cells ≤ R.cells) (hs : slots + rm.slots ≤ R.slots)
    (k : ∀ (T' : State) (v : Option Value) (L : List Loc), Stand p l e R s m args below meth c T' (locs ++ L) (cells + rm.cells) (slots + rm.slots) → Qc v T'.heap T'.vm L → Done En p e below s0 R Q (T'.setTop { g with pc := g.pc + 3, stack := v.toList ++ rest })) :
    Done En p e below s0 R Q (T.setTop g) := by
  subst has
  obtain ⟨v, vm₁, ⟨T', L', k', n'⟩, -, X', ⟨L, hq, e1, e2, e3⟩, st⟩ := X.specialBack hx (y := y) hy1 hown (mvT hZ w1) (mvT hZ w2) (mvT hZ w4) hy (hM.back (W := W) hZ hV w4 w3 hf hl) hg hsize (Steps.refl _) (a := a) (argsL := argsL) (rest := rest) hlen hstack hW hdg (fun _ _ => ⟨rfl, eT, hc, hs⟩)
  dsimp only [Pt.U, Pt.locs, Pt.cells, Pt.slots] at X' e1 e2 e3 st hq
  subst e1 e2 e3
  exact Done.go st (k _ _ _ X' hq)
theorem Done.callV (X : Stand p l e R s m args below meth c T locs cells slots) (hx : p.tables.exec = Jvm.exec) (hZ : Z.Warmed39 s.vm) (hown : s.vm.findClass own = some m.cls)
    (w1 : (Jvm.Cond.methodLink own index y).before a0 Z = true) (w2 : (Jvm.Cond.declares y).before a0 Z = true) (hnf : NotFace s y) (w5 : (Jvm.Cond.selects C y z).before a0 Z = true) (w6 : (Jvm.Cond.instanceMethod z).before a0 Z = true)
    (w3 : (Jvm.Cond.initialized z.cls).before a0 Z = true) (w4 : (Jvm.Cond.code z bytes maxL ret).before a0 Z = true)
    (hy : y.cls ≠ "java/lang/invoke/MethodHandle" ∧ y.cls ≠ "java/lang/invoke/VarHandle") (hM : Ctr FrameEnd l Z z bytes maxL ret [] rm as' h PV Qc) (hV : ∀ vm', s.WarmedH vm' → PV vm') (eT : T.heap = h) {b : Addr} (E : Exa Z h b C)
    (hg : g.method = m) (hsize : g.locals.size = c.maxLocals) (argsL rest : List Value) (W : Nat) (hlen : ∀ sig, parseMethodDescriptor y.desc = some sig → argsL.length = sig.parameters.length)
    (hstack : g.stack = argsL.reverse ++ .ref b :: rest) (has : (Value.ref b :: argsL).toArray = as') (hW : 2 * g.monitorRoom + (rest.map fun v => v.category).sum ≤ W) (hdg : decode c.code g.pc = .ok (.invokevirtual index, 3))
    (hf : rm.frames + 1 ≤ R.frames) (hl : W + (maxL + 11) + rm.locals ≤ R.locals) (hc : cells + rm.cells ≤ R.cells) (hs : slots + rm.slots ≤ R.slots)
    (k : ∀ (T' : State) (v : Option Value) (L : List Loc), Stand p l e R s m args below meth c T' (locs ++ L) (cells + rm.cells) (slots + rm.slots) → Qc v T'.heap T'.vm L → Done En p e below s0 R Q (T'.setTop { g with pc := g.pc + 3, stack := v.toList ++ rest })) :
    Done En p e below s0 R Q (T.setTop g) := by
  subst has
  obtain ⟨cq, kq, qa, qb, qc⟩ := isOf (T := T) hZ eT E
  obtain ⟨v, vm₁, ⟨T', L', k', n'⟩, -, X', ⟨L, hq, e1, e2, e3⟩, st⟩ := X.virtualBack hx (y := y) (z := z) hown (mvT hZ w1) (mvT hZ w2) hnf (mvT hZ w5) (mvT hZ w6) hy (hM.back (W := W) hZ hV w4 w3 hf hl) qa qc hg hsize (Steps.refl _) (argsL := argsL) (rest := rest) hlen hstack hW hdg (fun _ _ => ⟨rfl, eT, hc, hs⟩)
  dsimp only [Pt.U, Pt.locs, Pt.cells, Pt.slots] at X' e1 e2 e3 st hq
  subst e1 e2 e3
  exact Done.go st (k _ _ _ X' hq)
theorem Done.callVP (X : Stand p l e R s m args below meth c T locs cells slots) (hx : p.tables.exec = Jvm.exec) (hZ : Z.Warmed39 s.vm) (hown : s.vm.findClass own = some m.cls)
    (w1 : (Jvm.Cond.methodLink own index y).before a0 Z = true) (w2 : (Jvm.Cond.declares y).before a0 Z = true) (hnf : NotFace s y) (w5 : (Jvm.Cond.selects C y z).before a0 Z = true) (w6 : (Jvm.Cond.instanceMethod z).before a0 Z = true)
    (w3 : (Jvm.Cond.initialized z.cls).before a0 Z = true) (w4 : (Jvm.Cond.code z bytes maxL ret).before a0 Z = true)
    (hy : y.cls ≠ "java/lang/invoke/MethodHandle" ∧ y.cls ≠ "java/lang/invoke/VarHandle") (hM : Ctr FrameEnd l Z z bytes maxL ret [] rm as' h TrueV (PureQ r h)) (eT : T.heap = h) {b : Addr} (E : Exa Z h b C)
    (hg : g.method = m) (hsize : g.locals.size = c.maxLocals) (argsL rest : List Value) (W : Nat) (hlen : ∀ sig, parseMethodDescriptor y.desc = some sig → argsL.length = sig.parameters.length)
    (hstack : g.stack = argsL.reverse ++ .ref b :: rest) (has : (Value.ref b :: argsL).toArray = as') (hW : 2 * g.monitorRoom + (rest.map fun v => v.category).sum ≤ W) (hdg : decode c.code g.pc = .ok (.invokevirtual index, 3))
    (hf : rm.frames + 1 ≤ R.frames) (hl : W + (maxL + 11) + rm.locals ≤ R.locals) (hc : cells ≤ R.cells) (hs : slots ≤ R.slots) (rc : rm.cells = 0) (rs : rm.slots = 0)
    (k : ∀ (T' : State), Stand p l e R s m args below meth c T' locs cells slots → T'.heap = h → Done En p e below s0 R Q (T'.setTop { g with pc := g.pc + 3, stack := r.toList ++ rest })) :
    Done En p e below s0 R Q (T.setTop g) := by
  refine Done.callV X hx hZ hown w1 w2 hnf w5 w6 w3 w4 hy hM (fun _ _ => trivial) eT E hg hsize argsL rest W hlen hstack has hW hdg hf hl (by rw [rc]; exact hc) (by rw [rs]; exact hs) ?_
  intro T' v L X' q
  obtain ⟨rfl, e1, rfl⟩ := q
  rw [List.append_nil, rc, rs] at X'
  exact k T' X' e1
/-- calls that a law of the library or of a paste pays -/
theorem Done.callIB {nc ns W : Nat} {Qh : Option Value → Heap → List Loc → Prop} (X : Stand p l e R s m args below meth c T locs cells slots) (hx : p.tables.exec = Jvm.exec) (hZ : Z.Warmed39 s.vm) (hy1 : y.name = "<init>") (hown : s.vm.findClass own = some m.cls)
    (w1 : (Jvm.Cond.methodLink own index y).before a0 Z = true) (w2 : (Jvm.Cond.instanceMethod y).before a0 Z = true) (w4 : (Jvm.Cond.code y bytes maxL none).before a0 Z = true)
    (hy : y.cls ≠ "java/lang/invoke/MethodHandle" ∧ y.cls ≠ "java/lang/invoke/VarHandle")
    (hK : Back l R p e below s args y 3 W (fun A a => a = as' ∧ A.U.heap = h ∧ A.cells + nc ≤ R.cells ∧ A.slots + ns ≤ R.slots) (fun A _ v B => ∃ L, Qh v B.U.heap L ∧ B.locs = A.locs ++ L ∧ B.cells = A.cells + nc ∧ B.slots = A.slots + ns)) (eT : T.heap = h)
    (hg : g.method = m) (hsize : g.locals.size = c.maxLocals) (a : Addr) (argsL rest : List Value) (hlen : ∀ sig, parseMethodDescriptor y.desc = some sig → argsL.length = sig.parameters.length)
    (hstack : g.stack = argsL.reverse ++ .ref a :: rest) (has : (Value.ref a :: argsL).toArray = as') (hW : 2 * g.monitorRoom + (rest.map fun v => v.category).sum ≤ W) (hdg : decode c.code g.pc = .ok (.invokespecial index, 3))
    (hc : cells + nc ≤ R.cells) (hs : slots + ns ≤ R.slots)
    (k : ∀ (T' : State) (v : Option Value) (L : List Loc), Stand p l e R s m args below meth c T' (locs ++ L) (cells + nc) (slots + ns) → Qh v T'.heap L → Done En p e below s0 R Q (T'.setTop { g with pc := g.pc + 3, stack := v.toList ++ rest })) :
    Done En p e below s0 R Q (T.setTop g) := by
  subst has
  obtain ⟨v, vm₁, ⟨T', L', k', n'⟩, -, X', ⟨L, hq, e1, e2, e3⟩, st⟩ := X.specialBack hx (y := y) hy1 hown (mvT hZ w1) (mvT hZ w2) (mvT hZ w4) hy hK hg hsize (Steps.refl _) (a := a) (argsL := argsL) (rest := rest) hlen hstack hW hdg (fun _ _ => ⟨rfl, eT, hc, hs⟩)
  dsimp only [Pt.U, Pt.locs, Pt.cells, Pt.slots] at X' e1 e2 e3 st hq
  subst e1 e2 e3
  exact Done.go st (k _ _ _ X' hq)
theorem Done.callVB {nc ns W : Nat} {Qh : Option Value → Heap → List Loc → Prop} (X : Stand p l e R s m args below meth c T locs cells slots) (hx : p.tables.exec = Jvm.exec) (hZ : Z.Warmed39 s.vm) (hown : s.vm.findClass own = some m.cls)
    (w1 : (Jvm.Cond.methodLink own index y).before a0 Z = true) (w2 : (Jvm.Cond.declares y).before a0 Z = true) (hnf : NotFace s y) (w5 : (Jvm.Cond.selects C y z).before a0 Z = true) (w6 : (Jvm.Cond.instanceMethod z).before a0 Z = true)
    (hy : y.cls ≠ "java/lang/invoke/MethodHandle" ∧ y.cls ≠ "java/lang/invoke/VarHandle")
    (hK : Back l R p e below s args z 3 W (fun A a => a = as' ∧ A.U.heap = h ∧ A.cells + nc ≤ R.cells ∧ A.slots + ns ≤ R.slots) (fun A _ v B => ∃ L, Qh v B.U.heap L ∧ B.locs = A.locs ++ L ∧ B.cells = A.cells + nc ∧ B.slots = A.slots + ns)) (eT : T.heap = h) {b : Addr} (E : Exa Z h b C)
    (hg : g.method = m) (hsize : g.locals.size = c.maxLocals) (argsL rest : List Value) (hlen : ∀ sig, parseMethodDescriptor y.desc = some sig → argsL.length = sig.parameters.length)
    (hstack : g.stack = argsL.reverse ++ .ref b :: rest) (has : (Value.ref b :: argsL).toArray = as') (hW : 2 * g.monitorRoom + (rest.map fun v => v.category).sum ≤ W) (hdg : decode c.code g.pc = .ok (.invokevirtual index, 3))
    (hc : cells + nc ≤ R.cells) (hs : slots + ns ≤ R.slots)
    (k : ∀ (T' : State) (v : Option Value) (L : List Loc), Stand p l e R s m args below meth c T' (locs ++ L) (cells + nc) (slots + ns) → Qh v T'.heap L → Done En p e below s0 R Q (T'.setTop { g with pc := g.pc + 3, stack := v.toList ++ rest })) :
    Done En p e below s0 R Q (T.setTop g) := by
  subst has
  obtain ⟨cq, kq, qa, qb, qc⟩ := isOf (T := T) hZ eT E
  obtain ⟨v, vm₁, ⟨T', L', k', n'⟩, -, X', ⟨L, hq, e1, e2, e3⟩, st⟩ := X.virtualBack hx (y := y) (z := z) hown (mvT hZ w1) (mvT hZ w2) hnf (mvT hZ w5) (mvT hZ w6) hy hK qa qc hg hsize (Steps.refl _) (argsL := argsL) (rest := rest) hlen hstack hW hdg (fun _ _ => ⟨rfl, eT, hc, hs⟩)
  dsimp only [Pt.U, Pt.locs, Pt.cells, Pt.slots] at X' e1 e2 e3 st hq
  subst e1 e2 e3
  exact Done.go st (k _ _ _ X' hq)
/-- the three calls of a callee that may load literals -/
theorem Done.callSW {vm0 : Vm} {k0 : Nat} (X : Stand p l e R (s.setVm vm0) m args below meth c T locs cells slots) (hx : p.tables.exec = Jvm.exec) (hZ : Z.Warmed39 vm0) (hown : vm0.findClass own = some m.cls) (hS : s.Since vm0 k0) (hk : k0 ≤ h.size)
    (w1 : (Jvm.Cond.methodLink own index y).before a0 Z = true) (w2 : (Jvm.Cond.static y).before a0 Z = true) (w3 : (Jvm.Cond.initialized y.cls).before a0 Z = true) (w4 : (Jvm.Cond.code y bytes maxL ret).before a0 Z = true)
    (hy : y.cls ≠ "java/lang/invoke/MethodHandle" ∧ y.cls ≠ "java/lang/invoke/VarHandle") (hM : Ctr ReturnedEndW l Z y bytes maxL ret [] rm as' h PV Qc) (hV : ∀ vm', (s.setVm vm0).WarmedH vm' → PV vm') (eT : T.heap = h)
    (hg : g.method = m) (hsize : g.locals.size = c.maxLocals) (argsL rest : List Value) (W : Nat) (hlen : ∀ sig, parseMethodDescriptor y.desc = some sig → argsL.length = sig.parameters.length)
    (hstack : g.stack = argsL.reverse ++ rest) (has : argsL.toArray = as') (hW : 2 * g.monitorRoom + (rest.map fun v => v.category).sum ≤ W) (hdg : decode c.code g.pc = .ok (.invokestatic index, 3))
    (hf : rm.frames + 1 ≤ R.frames) (hl : W + (maxL + 11) + rm.locals ≤ R.locals) (hc : cells + rm.cells ≤ R.cells) (hs : slots + rm.slots ≤ R.slots)
    (k : ∀ (T' : State) (v : Option Value) (L : List Loc), Stand p l e R (s.setVm T'.vm) m args below meth c T' (locs ++ L) (cells + rm.cells) (slots + rm.slots) → s.Since T'.vm T'.heap.size → Z.Warmed39 T'.vm → T'.vm.findClass own = some m.cls → (s.setVm vm0).Warmed39 T'.vm → Qc v T'.heap T'.vm L →
      Done En p e below s0 R Q (T'.setTop { g with pc := g.pc + 3, stack := v.toList ++ rest })) :
    Done En p e below s0 R Q (T.setTop g) := by
  subst has eT
  obtain ⟨v, vm₁, ⟨T', L', k', n'⟩, hW1, X', hS', hgr, ⟨L, hq, e1, e2, e3⟩, st⟩ := callSS (s := s.setVm vm0) X hx (y := y) hown (mvT (s := s.setVm vm0) hZ w1) (mvT (s := s.setVm vm0) hZ w2) (mvT (s := s.setVm vm0) hZ w3) (mvT (s := s.setVm vm0) hZ w4) hy (hM.backW (s := s.setVm vm0) (W := W) hZ hV w4 w3 hf hl) hg hsize (argsL := argsL) (rest := rest) hlen hstack hW hdg (fun _ _ => ⟨rfl, rfl, hc, hs⟩)
  dsimp only [Pt.U, Pt.locs, Pt.cells, Pt.slots] at X' e1 e2 e3 st hq hS' hgr
  subst e1 e2 e3
  exact Done.go st (k T' v L X' (hS.trans hS' (Nat.le_trans hk hgr)) (State.Warmed39.trans (t := s.setVm vm0) hZ hS'.1) (by rw [hS'.1.alike.findClass]; exact hown) hS'.1 hq)
theorem Done.callIW {vm0 : Vm} {k0 : Nat} (X : Stand p l e R (s.setVm vm0) m args below meth c T locs cells slots) (hx : p.tables.exec = Jvm.exec) (hZ : Z.Warmed39 vm0) (hy1 : y.name = "<init>") (hown : vm0.findClass own = some m.cls) (hS : s.Since vm0 k0) (hk : k0 ≤ h.size)
    (w1 : (Jvm.Cond.methodLink own index y).before a0 Z = true) (w2 : (Jvm.Cond.instanceMethod y).before a0 Z = true) (w3 : (Jvm.Cond.initialized y.cls).before a0 Z = true) (w4 : (Jvm.Cond.code y bytes maxL none).before a0 Z = true)
    (hy : y.cls ≠ "java/lang/invoke/MethodHandle" ∧ y.cls ≠ "java/lang/invoke/VarHandle") (hM : Ctr ReturnedEndW l Z y bytes maxL none [] rm as' h PV Qc) (hV : ∀ vm', (s.setVm vm0).WarmedH vm' → PV vm') (eT : T.heap = h)
    (hg : g.method = m) (hsize : g.locals.size = c.maxLocals) (a : Addr) (argsL rest : List Value) (W : Nat) (hlen : ∀ sig, parseMethodDescriptor y.desc = some sig → argsL.length = sig.parameters.length)
    (hstack : g.stack = argsL.reverse ++ .ref a :: rest) (has : (Value.ref a :: argsL).toArray = as') (hW : 2 * g.monitorRoom + (rest.map fun v => v.category).sum ≤ W) (hdg : decode c.code g.pc = .ok (.invokespecial index, 3))
    (hf : rm.frames + 1 ≤ R.frames) (hl : W + (maxL + 11) + rm.locals ≤ R.locals) (hc : cells + rm.cells ≤ R.cells) (hs : slots + rm.slots ≤ R.slots)
    (k : ∀ (T' : State) (v : Option Value) (L : List Loc), Stand p l e R (s.setVm T'.vm) m args below meth c T' (locs ++ L) (cells + rm.cells) (slots + rm.slots) → s.Since T'.vm T'.heap.size → Z.Warmed39 T'.vm → T'.vm.findClass own = some m.cls → (s.setVm vm0).Warmed39 T'.vm → Qc v T'.heap T'.vm L →
      Done En p e below s0 R Q (T'.setTop { g with pc := g.pc + 3, stack := v.toList ++ rest })) :
    Done En p e below s0 R Q (T.setTop g) := by
  subst has eT
  obtain ⟨v, vm₁, ⟨T', L', k', n'⟩, hW1, X', hS', hgr, ⟨L, hq, e1, e2, e3⟩, st⟩ := specialBackS (s := s.setVm vm0) X hx (y := y) hy1 hown (mvT (s := s.setVm vm0) hZ w1) (mvT (s := s.setVm vm0) hZ w2) (mvT (s := s.setVm vm0) hZ w4) hy (hM.backW (s := s.setVm vm0) (W := W) hZ hV w4 w3 hf hl) hg hsize (Steps.refl _) (a := a) (argsL := argsL) (rest := rest) hlen hstack hW hdg (fun _ _ => ⟨rfl, rfl, hc, hs⟩)
  dsimp only [Pt.U, Pt.locs, Pt.cells, Pt.slots] at X' e1 e2 e3 st hq hS' hgr
  subst e1 e2 e3
  exact Done.go st (k T' v L X' (hS.trans hS' (Nat.le_trans hk hgr)) (State.Warmed39.trans (t := s.setVm vm0) hZ hS'.1) (by rw [hS'.1.alike.findClass]; exact hown) hS'.1 hq)
end Calls
end Own
end Jvm.OwnKit
@@BLOCK:NumsL.lean.txt@@
/- laws to paste: Road.backV, Road.empW, Road.lenW, Road.chN, Road.codOf (cut by pick.py; bodies as the Statement names them) -/
namespace Jvm.Pilot.@@N@@
namespace StrChars
open Jvm Sem ClassFile Op Lib Jvm.Stand Jvm.Free.XT Jvm.Free.ALB Jvm.Free.JM Jvm.Free
open Jvm.Lib.Cold (StaticIs)
/-- a char array whose places are chars -/
def Ch (a : Addr) (A : Cell) (U : State) : Prop := Arr .char a A U ∧ Typed .char A
theorem Ch.mv {a : Addr} {A : Cell} {U U' : State} (h : Ch a A U) (hal : U.vm.Alike U'.vm) (hh : U'.heap = U.heap) : Ch a A U' := ⟨h.1.mv hal hh, h.2⟩
theorem Ch.keep {a : Addr} {A : Cell} {U U' : State} (h : Ch a A U) (hal : U.vm.Alike U'.vm) (hk : U'.heap[a]? = some A) : Ch a A U' := ⟨h.1.keep hal hk, h.2⟩
/-- what place i of a char[]'s cell holds -/
def cv (A : Cell) (i : Nat) : Int32 := match A.slots[i]? with | some (.int x) => x | _ => 0
theorem Ch.get {a : Addr} {A : Cell} {U : State} (h : Ch a A U) {i : Nat} (hi : i < A.slots.size) : A.slots[i]? = some (.int (cv A i)) := by
  have e := Array.getElem?_eq_getElem hi
  have f := h.2 i _ e
  unfold cv; rw [e]
  generalize A.slots[i] = v at f
  cases v <;> simp [fits] at f ⊢
/-- the byte that i2b leaves of a char -/
def lo8 (x : Int32) : Int32 := x.toInt8.toInt32
theorem fits_lo8 (y : Int32) : fits .byte (.int (lo8 y)) = true := by
  have h1 := y.toInt8.le_toInt
  have h2 := y.toInt8.toInt_lt
  simp only [lo8, fits, Bool.and_eq_true, decide_eq_true_eq, Int32.le_iff_toInt_le, Int8.toInt_toInt32, show (-128 : Int32).toInt = -128 from by decide, show (127 : Int32).toInt = 127 from by decide]
  omega
/-- A' is A but that each place j of lo .. hi - 1 holds f j -/
def Laid (A A' : Cell) (lo hi : Nat) (f : Nat → Value) : Prop := A'.cls = A.cls ∧ A'.vm = A.vm ∧ A'.slots.size = A.slots.size ∧ ∀ i, A'.slots[i]? = if lo ≤ i ∧ i < hi then some (f i) else A.slots[i]?
theorem Laid.zero (A : Cell) (lo : Nat) (f : Nat → Value) : Laid A A lo (lo + 0) f := ⟨rfl, rfl, rfl, fun i => by rw [if_neg (by omega)]⟩
theorem Laid.step {A Ak : Cell} {lo k : Nat} {f : Nat → Value} {v : Value} (h : Laid A Ak lo k f) (hlo : lo ≤ k) (hk : k < Ak.slots.size) (hv : v = f k) : Laid A (Ak.setSlot k v) lo (k + 1) f := by
  refine ⟨h.1, h.2.1, by simpa [Cell.setSlot] using h.2.2.1, fun i => ?_⟩
  by_cases e : k = i
  · subst e; rw [Cell.slots_setSlot_self v hk, if_pos (by omega), hv]
  · rw [Cell.slots_setSlot_ne v e, h.2.2.2 i]
    by_cases q : lo ≤ i ∧ i < k
    · rw [if_pos q, if_pos (by omega)]
    · rw [if_neg q, if_neg (by omega)]
def U16 : String := "java/lang/StringUTF16"
namespace Cmp5
def yN : MethodName := ⟨"java/lang/StringUTF16", "compress", "([CI[BII)I"⟩
abbrev yB : ByteArray := jdk_52_method_21_code
theorem d0 : decode yB 0 = .ok (.iconst 0, 1) := by decide +kernel
theorem d1 : decode yB 1 = .ok (.istore 5, 2) := by decide +kernel
theorem d3 : decode yB 3 = .ok (.iload 5, 2) := by decide +kernel
theorem d5 : decode yB 5 = .ok (.iload 4, 2) := by decide +kernel
theorem d7 : decode yB 7 = .ok (.if_icmp (.ge) 37, 3) := by decide +kernel
theorem d10 : decode yB 10 = .ok (.aload_n 0, 1) := by decide +kernel
theorem d11 : decode yB 11 = .ok (.iload_n 1, 1) := by decide +kernel
theorem d12 : decode yB 12 = .ok (.caload, 1) := by decide +kernel
theorem d13 : decode yB 13 = .ok (.istore 6, 2) := by decide +kernel
theorem d15 : decode yB 15 = .ok (.iload 6, 2) := by decide +kernel
theorem d17 : decode yB 17 = .ok (.sipush 255, 3) := by decide +kernel
theorem d20 : decode yB 20 = .ok (.if_icmp (.le) 6, 3) := by decide +kernel
theorem d26 : decode yB 26 = .ok (.aload_n 2, 1) := by decide +kernel
theorem d27 : decode yB 27 = .ok (.iload_n 3, 1) := by decide +kernel
theorem d28 : decode yB 28 = .ok (.iload 6, 2) := by decide +kernel
theorem d30 : decode yB 30 = .ok (.i2b, 1) := by decide +kernel
theorem d31 : decode yB 31 = .ok (.bastore, 1) := by decide +kernel
theorem d32 : decode yB 32 = .ok (.iinc 1 1, 3) := by decide +kernel
theorem d35 : decode yB 35 = .ok (.iinc 3 1, 3) := by decide +kernel
theorem d38 : decode yB 38 = .ok (.iinc 5 1, 3) := by decide +kernel
theorem d41 : decode yB 41 = .ok (.goto (-38), 3) := by decide +kernel
theorem d44 : decode yB 44 = .ok (.iload 4, 2) := by decide +kernel
theorem d46 : decode yB 46 = .ok (.ireturn, 1) := by decide +kernel
def site : List Cond := []
def tab : Cond := tabOf yN yB 7 (some .int) site
def P (b : Addr) (A : Cell) (d : Addr) (B : Cell) (o q len : Nat) (args : Array Value) (s : State) : Prop := args = #[.ref b, .int (Int32.ofNat o), .ref d, .int (Int32.ofNat q), .int (Int32.ofNat len)] ∧ Ch b A s ∧ Arr .byte d B s ∧ b ≠ d ∧ o + len ≤ A.slots.size ∧ q + len ≤ B.slots.size ∧ ∀ i, i < len → ¬ 255 < cv A (o + i)
def E (b : Addr) (A : Cell) (d : Addr) (B : Cell) (o q len : Nat) (r : Option Value) (s u : State) : Prop := r = some (.int (Int32.ofNat len)) ∧ ∃ B', Put d B' s u ∧ Laid B B' q (q + len) (fun j => Value.int (lo8 (cv A (o + (j - q)))))
/-- no char of the range above 255: len; the places written hold each char's low byte -/
theorem law (l : Launch) (b : Addr) (A : Cell) (d : Addr) (B : Cell) (o q len : Nat) : Law l yN 5 5 0 0 yB 7 (some .int) site (P b A d B o q len) (E b A d B o q len) (copyLocs d q len) 0 0 := by
  refine Law.of_walk (plainFor_of_name (by decide +kernel)) (by decide +kernel) (by decide +kernel) (by decide) (fun _ _ h => by rw [h.1]; rfl) (fun _ U U' hal hh h => ⟨h.1, h.2.1.mv hal hh, h.2.2.1.mv hal hh, h.2.2.2⟩) (fun r U U' V V' h1 hal h2 h => ⟨h.1, h.2.elim fun B' q => ⟨B', q.1.mv h1 h2, q.2⟩⟩) ?_
  intro p e s m args below meth c s₁ X0 hexec hbytes hml hret hlk hnm hown hh0 W hP
  obtain ⟨rfl, hA, hB, hne, l1, l2, hp⟩ := hP
  have c1 : Steps p.tables e below (s₁.setTop (entryFrame m #[.ref b, .int (Int32.ofNat o), .ref d, .int (Int32.ofNat q), .int (Int32.ofNat len)] 7)) (s₁.setTop (mkF m 0 #[.val (.ref b), .val (.int (Int32.ofNat o)), .val (.ref d), .val (.int (Int32.ofNat q)), .val (.int (Int32.ofNat len)), .unset, .unset] [])) := entry rfl
  have hA0 := hA.1.mv X0.warmed.alike hh0
  have hB0 := hB.mv X0.warmed.alike hh0
  have a31 := hA.1.2.2.2
  have c2 : Steps p.tables e below (s₁.setTop (entryFrame m #[.ref b, .int (Int32.ofNat o), .ref d, .int (Int32.ofNat q), .int (Int32.ofNat len)] 7)) (s₁.setTop (mkF m 3 #[.val (.ref b), .val (.int (Int32.ofNat o)), .val (.ref d), .val (.int (Int32.ofNat q)), .val (.int (Int32.ofNat len)), .val (.int 0), .unset] [])) := c1.trans (by
    refine iconstV X0.here hexec rfl 0 (hb hbytes d0) (by decide) ?_
    refine XS.istore X0.here hexec rfl (hb hbytes d1) rfl rfl ?_
    exact Steps.refl _)
  have loop : ∀ (r i : Nat), i + r = len → ∀ (z : Slot), (z = .unset ∨ ∃ w, z = .val w ∧ w.category = 1) → ∀ (Tl : State) (Bk : Cell), Stand p l e { frames := 0, locals := 0, cells := 0, slots := 0 } s m #[.ref b, .int (Int32.ofNat o), .ref d, .int (Int32.ofNat q), .int (Int32.ofNat len)] below meth c Tl ([] ++ copyLocs d q i) 0 0 → Put d Bk s₁ Tl → Laid B Bk q (q + i) (fun j => Value.int (lo8 (cv A (o + (j - q))))) →
      Steps p.tables e below (s₁.setTop (entryFrame m #[.ref b, .int (Int32.ofNat o), .ref d, .int (Int32.ofNat q), .int (Int32.ofNat len)] 7)) (Tl.setTop (mkF m 3 #[.val (.ref b), .val (.int (Int32.ofNat (o + i))), .val (.ref d), .val (.int (Int32.ofNat (q + i))), .val (.int (Int32.ofNat len)), .val (.int (Int32.ofNat i)), z] [])) → ∃ (T' : State) (B' : Cell) (z' : Slot), Stand p l e { frames := 0, locals := 0, cells := 0, slots := 0 } s m #[.ref b, .int (Int32.ofNat o), .ref d, .int (Int32.ofNat q), .int (Int32.ofNat len)] below meth c T' ([] ++ copyLocs d q len) 0 0 ∧ Put d B' s₁ T' ∧ Laid B B' q (q + len) (fun j => Value.int (lo8 (cv A (o + (j - q))))) ∧
      Steps p.tables e below (s₁.setTop (entryFrame m #[.ref b, .int (Int32.ofNat o), .ref d, .int (Int32.ofNat q), .int (Int32.ofNat len)] 7)) (T'.setTop (mkF m 3 #[.val (.ref b), .val (.int (Int32.ofNat (o + len))), .val (.ref d), .val (.int (Int32.ofNat (q + len))), .val (.int (Int32.ofNat len)), .val (.int (Int32.ofNat len)), z'] [])) := by
    intro r
    induction r with
    | zero =>
      intro i hi z hz Tl Bk Xl pl fl cl
      have hil : i = len := by omega
      rw [hil] at Xl fl cl
      exact ⟨Tl, Bk, z, Xl, pl, fl, cl⟩
    | succ r ih =>
      intro i hi z hz Tl Bk Xl pl fl cl
      have all := X0.warmed.alike.symm.trans Xl.warmed.alike
      have hAl := hA0.keep all (pl.other hne hA0.1)
      have hBk := hB0.like all pl.1 fl.1 fl.2.1 fl.2.2.1
      have hlt : q + i < Bk.slots.size := by rw [fl.2.2.1]; omega
      have c3 : Steps p.tables e below (s₁.setTop (entryFrame m #[.ref b, .int (Int32.ofNat o), .ref d, .int (Int32.ofNat q), .int (Int32.ofNat len)] 7)) (Tl.setTop (mkF m 12 #[.val (.ref b), .val (.int (Int32.ofNat (o + i))), .val (.ref d), .val (.int (Int32.ofNat (q + i))), .val (.int (Int32.ofNat len)), .val (.int (Int32.ofNat i)), z] [.int (Int32.ofNat (o + i)), .ref b])) := cl.trans (by
        refine XS.iload Xl.here hexec rfl (hb hbytes d3) rfl ?_
        refine XS.iload Xl.here hexec rfl (hb hbytes d5) rfl ?_
        refine XS.icmpNo Xl.here hexec rfl (hb hbytes d7) rfl (ii_ge_f (lt32 (by omega) (by omega))) ?_
        refine XS.aloadN Xl.here hexec rfl (hb hbytes d10) rfl rfl ?_
        refine XS.iloadN Xl.here hexec rfl (hb hbytes d11) rfl ?_
        exact Steps.refl _)
      have c4 : Steps p.tables e below (s₁.setTop (entryFrame m #[.ref b, .int (Int32.ofNat o), .ref d, .int (Int32.ofNat q), .int (Int32.ofNat len)] 7)) (Tl.setTop (mkF m 13 #[.val (.ref b), .val (.int (Int32.ofNat (o + i))), .val (.ref d), .val (.int (Int32.ofNat (q + i))), .val (.int (Int32.ofNat len)), .val (.int (Int32.ofNat i)), z] [.int (cv A (o + i))])) := c3.trans (by
        refine Xl.aget hexec hAl rfl (hA.get (i := o + i) (by omega)) rfl rfl (hb hbytes d12) ?_
        exact Steps.refl _)
      have c5 : Steps p.tables e below (s₁.setTop (entryFrame m #[.ref b, .int (Int32.ofNat o), .ref d, .int (Int32.ofNat q), .int (Int32.ofNat len)] 7)) (Tl.setTop (mkF m 15 #[.val (.ref b), .val (.int (Int32.ofNat (o + i))), .val (.ref d), .val (.int (Int32.ofNat (q + i))), .val (.int (Int32.ofNat len)), .val (.int (Int32.ofNat i)), .val (.int (cv A (o + i)))] [])) := c4.trans (by
        refine XS.istoreS Xl.here hexec rfl (hb hbytes d13) rfl rfl hz ?_
        exact Steps.refl _)
      have c6 : Steps p.tables e below (s₁.setTop (entryFrame m #[.ref b, .int (Int32.ofNat o), .ref d, .int (Int32.ofNat q), .int (Int32.ofNat len)] 7)) (Tl.setTop (mkF m 31 #[.val (.ref b), .val (.int (Int32.ofNat (o + i))), .val (.ref d), .val (.int (Int32.ofNat (q + i))), .val (.int (Int32.ofNat len)), .val (.int (Int32.ofNat i)), .val (.int (cv A (o + i)))] [.int (lo8 (cv A (o + i))), .int (Int32.ofNat (q + i)), .ref d])) := c5.trans (by
        refine XS.iload Xl.here hexec rfl (hb hbytes d15) rfl ?_
        refine sipushV Xl.here hexec rfl 255 (hb hbytes d17) (by decide) ?_
        refine XS.icmpYes Xl.here hexec rfl (pc0 := 20) rfl (hb hbytes d20) rfl (ii_le_t (hp i (by omega))) (by decide) rfl ?_
        refine XS.aloadN Xl.here hexec rfl (hb hbytes d26) rfl rfl ?_
        refine XS.iloadN Xl.here hexec rfl (hb hbytes d27) rfl ?_
        refine XS.iload Xl.here hexec rfl (hb hbytes d28) rfl ?_
        refine i2b Xl.here hexec rfl (hb hbytes d30) rfl ?_
        exact Steps.refl _)
      obtain ⟨T7, X7, p7, st7⟩ := Xl.aput hexec hBk rfl hlt rfl (fits_lo8 (cv A (o + i))) (g := (mkF m 31 #[.val (.ref b), .val (.int (Int32.ofNat (o + i))), .val (.ref d), .val (.int (Int32.ofNat (q + i))), .val (.int (Int32.ofNat len)), .val (.int (Int32.ofNat i)), .val (.int (cv A (o + i)))] [.int (lo8 (cv A (o + i))), .int (Int32.ofNat (q + i)), .ref d])) rfl (rest := []) rfl (hb hbytes d31)
      have c8 : Steps p.tables e below (s₁.setTop (entryFrame m #[.ref b, .int (Int32.ofNat o), .ref d, .int (Int32.ofNat q), .int (Int32.ofNat len)] 7)) (T7.setTop (mkF m 32 #[.val (.ref b), .val (.int (Int32.ofNat (o + i))), .val (.ref d), .val (.int (Int32.ofNat (q + i))), .val (.int (Int32.ofNat len)), .val (.int (Int32.ofNat i)), .val (.int (cv A (o + i)))] [])) := c6.trans (st7 _ (Steps.refl _))
      have c9 : Steps p.tables e below (s₁.setTop (entryFrame m #[.ref b, .int (Int32.ofNat o), .ref d, .int (Int32.ofNat q), .int (Int32.ofNat len)] 7)) (T7.setTop (mkF m 3 #[.val (.ref b), .val (.int (Int32.ofNat (o + i) + 1)), .val (.ref d), .val (.int (Int32.ofNat (q + i) + 1)), .val (.int (Int32.ofNat len)), .val (.int (Int32.ofNat i + 1)), .val (.int (cv A (o + i)))] [])) := c8.trans (by
        refine iincV X7.here hexec rfl 1 (hb hbytes d32) (by decide) rfl rfl ?_
        refine iincV X7.here hexec rfl 1 (hb hbytes d35) (by decide) rfl rfl ?_
        refine iincV X7.here hexec rfl 1 (hb hbytes d38) (by decide) rfl rfl ?_
        refine XS.goto X7.here hexec rfl (pc0 := 41) rfl (hb hbytes d41) (by decide) rfl ?_
        exact Steps.refl _)
      have c10 : Steps p.tables e below (s₁.setTop (entryFrame m #[.ref b, .int (Int32.ofNat o), .ref d, .int (Int32.ofNat q), .int (Int32.ofNat len)] 7)) (T7.setTop (mkF m 3 #[.val (.ref b), .val (.int (Int32.ofNat (o + (i + 1)))), .val (.ref d), .val (.int (Int32.ofNat (q + (i + 1)))), .val (.int (Int32.ofNat len)), .val (.int (Int32.ofNat (i + 1))), .val (.int (cv A (o + i)))] [])) := by
        have := c9
        rw [succ32, succ32, succ32] at this
        exact this
      exact ih (i + 1) (by omega) _ (Or.inr ⟨_, rfl, rfl⟩) T7 _ (by rw [copyLocs_step, ← List.append_assoc]; exact X7) (pl.trans p7) (fl.step (by omega) hlt (by simp)) c10
  obtain ⟨T9, B9, z9, X9, p9, f9, g9⟩ := loop len 0 (by omega) .unset (Or.inl rfl) s₁ B (by simpa [copyLocs] using X0) ⟨hB0.1, fun _ _ => rfl, rfl⟩ (Laid.zero _ _ _) c2
  have c11 : Steps p.tables e below (s₁.setTop (entryFrame m #[.ref b, .int (Int32.ofNat o), .ref d, .int (Int32.ofNat q), .int (Int32.ofNat len)] 7)) (T9.setTop (mkF m 46 #[.val (.ref b), .val (.int (Int32.ofNat (o + len))), .val (.ref d), .val (.int (Int32.ofNat (q + len))), .val (.int (Int32.ofNat len)), .val (.int (Int32.ofNat len)), z9] [.int (Int32.ofNat len)])) := g9.trans (by
    refine XS.iload X9.here hexec rfl (hb hbytes d3) rfl ?_
    refine XS.iload X9.here hexec rfl (hb hbytes d5) rfl ?_
    refine XS.icmpYes X9.here hexec rfl (pc0 := 7) rfl (hb hbytes d7) rfl (ii_ge_t (nlt32 (by omega) (Nat.le_refl _))) (by decide) rfl ?_
    refine XS.iload X9.here hexec rfl (hb hbytes d44) rfl ?_
    exact Steps.refl _)
  exact ⟨T9, some (.int (Int32.ofNat len)), _, _, _, X9, by simp, rfl, rfl, (fun h => by cases h), ⟨rfl, B9, p9.from hh0, f9⟩, fun fs hl => c11.trans (X9.ireturnOut hexec hret rfl (Or.inl rfl) (hb hbytes d46) hl)⟩
end Cmp5
namespace Cmp3
def yN : MethodName := ⟨"java/lang/StringUTF16", "compress", "([CII)[B"⟩
abbrev yB : ByteArray := jdk_52_method_16_code
theorem d0 : decode yB 0 = .ok (.iload_n 2, 1) := by decide +kernel
theorem d1 : decode yB 1 = .ok (.newarray .byte, 2) := by decide +kernel
theorem d3 : decode yB 3 = .ok (.astore_n 3, 1) := by decide +kernel
theorem d4 : decode yB 4 = .ok (.aload_n 0, 1) := by decide +kernel
theorem d5 : decode yB 5 = .ok (.iload_n 1, 1) := by decide +kernel
theorem d6 : decode yB 6 = .ok (.aload_n 3, 1) := by decide +kernel
theorem d7 : decode yB 7 = .ok (.iconst 0, 1) := by decide +kernel
theorem d8 : decode yB 8 = .ok (.iload_n 2, 1) := by decide +kernel
theorem d9 : decode yB 9 = .ok (.invokestatic 115, 3) := by decide +kernel
theorem d12 : decode yB 12 = .ok (.istore 4, 2) := by decide +kernel
theorem d14 : decode yB 14 = .ok (.iload 4, 2) := by decide +kernel
theorem d16 : decode yB 16 = .ok (.iload_n 2, 1) := by decide +kernel
theorem d17 : decode yB 17 = .ok (.if_icmp (.eq) 40, 3) := by decide +kernel
theorem d57 : decode yB 57 = .ok (.aload_n 3, 1) := by decide +kernel
theorem d58 : decode yB 58 = .ok (.areturn, 1) := by decide +kernel
def site : List Cond := [.arrayClass .byte, Cmp5.tab] ++ staticW U16 115 Cmp5.yN
def tab : Cond := tabOf yN yB 6 (some (.array .byte)) site
def P (b : Addr) (A : Cell) (o len : Nat) (args : Array Value) (s : State) : Prop := args = #[.ref b, .int (Int32.ofNat o), .int (Int32.ofNat len)] ∧ Ch b A s ∧ o + len ≤ A.slots.size ∧ len ≤ 536870912 ∧ ∀ i, i < len → ¬ 255 < cv A (o + i)
def E (b : Addr) (A : Cell) (o len : Nat) (r : Option Value) (s u : State) : Prop := NewArr .byte "[B" len (fun j => .int (lo8 (cv A (o + j)))) r s u ∧ u.heap.size = s.heap.size + 1
/-- no char of the range above 255: a new byte[] of their low bytes -/
theorem law (l : Launch) (b : Addr) (A : Cell) (o len : Nat) : Law l yN 3 3 1 18 yB 6 (some (.array .byte)) site (P b A o len) (E b A o len) [] 1 len := by
  refine Law.of_walk (plainFor_of_name (by decide +kernel)) (by decide +kernel) (by decide +kernel) (by decide) (fun _ _ h => by rw [h.1]; rfl) (fun _ U U' hal hh h => ⟨h.1, h.2.1.mv hal hh, h.2.2⟩) (fun r U U' V V' h1 hal h2 h => ⟨NewArr.mv r U U' V V' h1 hal h2 h.1, by rw [h1, h2]; exact h.2⟩) ?_
  intro p e s m args below meth c s₁ X0 hexec hbytes hml hret hlk hnm hown hh0 W hP
  obtain ⟨rfl, hA, l1, l2, hp⟩ := hP
  have a31 := hA.1.2.2.2
  have c1 : Steps p.tables e below (s₁.setTop (entryFrame m #[.ref b, .int (Int32.ofNat o), .int (Int32.ofNat len)] 6)) (s₁.setTop (mkF m 0 #[.val (.ref b), .val (.int (Int32.ofNat o)), .val (.int (Int32.ofNat len)), .unset, .unset, .unset] [])) := entry rfl
  have c2 : Steps p.tables e below (s₁.setTop (entryFrame m #[.ref b, .int (Int32.ofNat o), .int (Int32.ofNat len)] 6)) (s₁.setTop (mkF m 1 #[.val (.ref b), .val (.int (Int32.ofNat o)), .val (.int (Int32.ofNat len)), .unset, .unset, .unset] [.int (Int32.ofNat len)])) := c1.trans (by
    refine XS.iloadN X0.here hexec rfl (hb hbytes d0) rfl ?_
    exact Steps.refl _)
  obtain ⟨T3, B3, X3, ba3, bs3, bv3, bh3, bf3, st3⟩ := X0.anew hexec (atype := .byte) (wk W (.arrayClass .byte)) rfl (by show len * 1 ≤ _; omega) (by omega) (g := (mkF m 1 #[.val (.ref b), .val (.int (Int32.ofNat o)), .val (.int (Int32.ofNat len)), .unset, .unset, .unset] [.int (Int32.ofNat len)])) rfl (hb hbytes d1) (rest := []) rfl (Nat.le_refl _) (by show 0 + len ≤ len; omega)
  rw [hh0] at ba3 st3
  have kp3 : XT.Kept s T3 := (XT.Kept.of_eq hh0).push bh3
  have hA3 := hA.keep X3.warmed.alike (kp3 _ _ hA.1.1)
  have hne : b ≠ s.heap.size := hA.1.ne
  have c4 : Steps p.tables e below (s₁.setTop (entryFrame m #[.ref b, .int (Int32.ofNat o), .int (Int32.ofNat len)] 6)) (T3.setTop (mkF m 3 #[.val (.ref b), .val (.int (Int32.ofNat o)), .val (.int (Int32.ofNat len)), .unset, .unset, .unset] [.ref s.heap.size])) := c2.trans (st3 _ (Steps.refl _))
  have c5 : Steps p.tables e below (s₁.setTop (entryFrame m #[.ref b, .int (Int32.ofNat o), .int (Int32.ofNat len)] 6)) (T3.setTop (mkF m 9 #[.val (.ref b), .val (.int (Int32.ofNat o)), .val (.int (Int32.ofNat len)), .val (.ref s.heap.size), .unset, .unset] [.int (Int32.ofNat len), .int 0, .ref s.heap.size, .int (Int32.ofNat o), .ref b])) := c4.trans (by
    refine XS.astoreN X3.here hexec rfl (hb hbytes d3) rfl rfl rfl ?_
    refine XS.aloadN X3.here hexec rfl (hb hbytes d4) rfl rfl ?_
    refine XS.iloadN X3.here hexec rfl (hb hbytes d5) rfl ?_
    refine XS.aloadN X3.here hexec rfl (hb hbytes d6) rfl rfl ?_
    refine iconstV X3.here hexec rfl 0 (hb hbytes d7) (by decide) ?_
    refine XS.iloadN X3.here hexec rfl (hb hbytes d8) rfl ?_
    exact Steps.refl _)
  obtain ⟨v6, T6, X6, E6, g6⟩ := X3.callS hexec (Cmp5.law l b A s.heap.size B3 o 0 len) hown (wks W (staticW U16 115 Cmp5.yN)) (wk W Cmp5.tab) (W := 0) (Nat.le_of_ble_eq_true rfl) (Nat.le_of_ble_eq_true rfl) (Nat.le_refl _) (by show 0 + len + 0 ≤ len; omega) (g := (mkF m 9 #[.val (.ref b), .val (.int (Int32.ofNat o)), .val (.int (Int32.ofNat len)), .val (.ref s.heap.size), .unset, .unset] [.int (Int32.ofNat len), .int (Int32.ofNat 0), .ref s.heap.size, .int (Int32.ofNat o), .ref b])) rfl (by rw [hml]; rfl) c5 (argsL := [.ref b, .int (Int32.ofNat o), .ref s.heap.size, .int (Int32.ofNat 0), .int (Int32.ofNat len)]) (rest := []) rfl rfl (by show 2 * 0 + 0 ≤ _; decide) (hb hbytes d9) (⟨rfl, hA3, ba3, hne, l1, by rw [bs3]; simp, hp⟩)
  obtain ⟨rfl, B6, p6, f6⟩ := E6
  have c7 : Steps p.tables e below (s₁.setTop (entryFrame m #[.ref b, .int (Int32.ofNat o), .int (Int32.ofNat len)] 6)) (T6.setTop (mkF m 12 #[.val (.ref b), .val (.int (Int32.ofNat o)), .val (.int (Int32.ofNat len)), .val (.ref s.heap.size), .unset, .unset] [.int (Int32.ofNat len)])) := g6
  have c8 : Steps p.tables e below (s₁.setTop (entryFrame m #[.ref b, .int (Int32.ofNat o), .int (Int32.ofNat len)] 6)) (T6.setTop (mkF m 58 #[.val (.ref b), .val (.int (Int32.ofNat o)), .val (.int (Int32.ofNat len)), .val (.ref s.heap.size), .val (.int (Int32.ofNat len)), .unset] [.ref s.heap.size])) := c7.trans (by
    refine XS.istore X6.here hexec rfl (hb hbytes d12) rfl rfl ?_
    refine XS.iload X6.here hexec rfl (hb hbytes d14) rfl ?_
    refine XS.iloadN X6.here hexec rfl (hb hbytes d16) rfl ?_
    refine XS.icmpYes X6.here hexec rfl (pc0 := 17) rfl (hb hbytes d17) rfl (ii_eq_t rfl) (by decide) rfl ?_
    refine XS.aloadN X6.here hexec rfl (hb hbytes d57) rfl rfl ?_
    exact Steps.refl _)
  have X8 := X6.wide (L' := []) (cells' := 1) (slots' := len) (fun x hx hlt => by
    simp only [List.nil_append, copyLocs, List.mem_map, List.mem_range] at hx
    obtain ⟨i, -, rfl⟩ := hx
    exact absurd hlt (Nat.lt_irrefl _)) (Nat.le_refl _) (by omega)
  exact ⟨T6, some (.ref s.heap.size), _, _, _, X8, rfl, rfl, rfl, (fun h => by cases h), ⟨⟨rfl, B6, ba3.like (X3.warmed.alike.symm.trans X6.warmed.alike) p6.1 f6.1 f6.2.1 f6.2.2.1, f6.2.1.trans bv3, by rw [X6.warmed.alike.findClass, f6.1]; exact bf3, by rw [f6.2.2.1, bs3]; simp, fun j hj => by rw [f6.2.2.2 j, if_pos (by omega)]; rfl, kp3.put p6 (Nat.le_refl _)⟩, by rw [p6.2.2, bh3, hh0]; simp⟩, fun fs hl => c8.trans (X8.areturnOut hexec rfl hret rfl (hb hbytes d58) hl)⟩
end Cmp3
namespace CodL
def yN : MethodName := ⟨"java/lang/StringUTF16", "coderFromArrayLen", "([BI)B"⟩
abbrev yB : ByteArray := jdk_52_method_15_code
theorem d0 : decode yB 0 = .ok (.iload_n 1, 1) := by decide +kernel
theorem d1 : decode yB 1 = .ok (.aload_n 0, 1) := by decide +kernel
theorem d2 : decode yB 2 = .ok (.arraylength, 1) := by decide +kernel
theorem d3 : decode yB 3 = .ok (.isub, 1) := by decide +kernel
theorem d4 : decode yB 4 = .ok (.bipush 31, 2) := by decide +kernel
theorem d6 : decode yB 6 = .ok (.iushr, 1) := by decide +kernel
theorem d7 : decode yB 7 = .ok (.i2b, 1) := by decide +kernel
theorem d8 : decode yB 8 = .ok (.ireturn, 1) := by decide +kernel
def site : List Cond := []
def tab : Cond := tabOf yN yB 2 (some .byte) site
def P (d : Addr) (B : Cell) (args : Array Value) (s : State) : Prop := args = #[.ref d, .int (Int32.ofNat B.slots.size)] ∧ Arr .byte d B s
def E (r : Option Value) (s u : State) : Prop := XT.PureE (some (.int 0)) r s u
/-- an array as long as the number of chars: LATIN1 -/
theorem law (l : Launch) (d : Addr) (B : Cell) : Law l yN 2 2 0 0 yB 2 (some .byte) site (P d B) E [] 0 0 := by
  refine Law.of_walk (plainFor_of_name (by decide +kernel)) (by decide +kernel) (by decide +kernel) (by decide) (fun _ _ h => by rw [h.1]; rfl) (fun _ U U' hal hh h => ⟨h.1, h.2.mv hal hh⟩) (fun r U U' V V' h1 hal h2 h => XT.PureE.mv r U U' V V' h1 hal h2 h) ?_
  intro p e s m args below meth c s₁ X0 hexec hbytes hml hret hlk hnm hown hh0 W hP
  obtain ⟨rfl, hB⟩ := hP
  have hB0 := hB.mv X0.warmed.alike hh0
  have c1 : Steps p.tables e below (s₁.setTop (entryFrame m #[.ref d, .int (Int32.ofNat B.slots.size)] 2)) (s₁.setTop (mkF m 0 #[.val (.ref d), .val (.int (Int32.ofNat B.slots.size))] [])) := entry rfl
  have c2 : Steps p.tables e below (s₁.setTop (entryFrame m #[.ref d, .int (Int32.ofNat B.slots.size)] 2)) (s₁.setTop (mkF m 2 #[.val (.ref d), .val (.int (Int32.ofNat B.slots.size))] [.ref d, .int (Int32.ofNat B.slots.size)])) := c1.trans (by
    refine XS.iloadN X0.here hexec rfl (hb hbytes d0) rfl ?_
    refine XS.aloadN X0.here hexec rfl (hb hbytes d1) rfl rfl ?_
    exact Steps.refl _)
  have c3 : Steps p.tables e below (s₁.setTop (entryFrame m #[.ref d, .int (Int32.ofNat B.slots.size)] 2)) (s₁.setTop (mkF m 8 #[.val (.ref d), .val (.int (Int32.ofNat B.slots.size))] [.int (lo8 (ushr (Int32.ofNat B.slots.size - Int32.ofNat B.slots.size) 31))])) := c2.trans (by
    refine X0.alen hexec hB0 rfl rfl (hb hbytes d2) ?_
    refine XS.isub X0.here hexec rfl (hb hbytes d3) rfl ?_
    refine bipushV X0.here hexec rfl 31 (hb hbytes d4) (by decide) ?_
    refine iushr X0.here hexec rfl (hb hbytes d6) rfl ?_
    refine i2b X0.here hexec rfl (hb hbytes d7) rfl ?_
    exact Steps.refl _)
  have e0 : lo8 (ushr (Int32.ofNat B.slots.size - Int32.ofNat B.slots.size) 31) = 0 := by rw [Int32.sub_self]; decide
  rw [e0] at c3
  exact ⟨s₁, some (.int 0), _, _, _, X0, rfl, rfl, rfl, (fun h => by cases h), ⟨rfl, hh0⟩, fun fs hl => c3.trans (X0.ireturnOut hexec hret rfl (Or.inr (Or.inr (Or.inl rfl))) (hb hbytes d8) hl)⟩
end CodL
/-- the String at a is Latin-1 over a new byte[] (the heap's one new cell): the low bytes of the len chars of A from o on; every cell but a is kept -/
def Got (a : Addr) (D : Cell) (fV fC : Field) (A : Cell) (o len : Nat) (r : Option Value) (s u : State) : Prop := r = none ∧ ∃ D' V : Cell, Blank "java/lang/String" a D' u ∧ Same D D' [fV.slot, fC.slot] ∧ D'.slots[fV.slot]? = some (.ref s.heap.size) ∧ D'.slots[fC.slot]? = some (.int 0) ∧ Arr .byte s.heap.size V u ∧ V.vm = .none ∧ u.vm.findClass "[B" = some V.cls ∧ V.slots.size = len ∧ (∀ j, j < len → V.slots[j]? = some (.int (lo8 (cv A (o + j))))) ∧ (∀ (y : Addr) (c : Cell), y ≠ a → s.heap[y]? = some c → u.heap[y]? = some c) ∧ u.heap.size = s.heap.size + 1
theorem Got.mv {a : Addr} {D A : Cell} {fV fC : Field} {o len : Nat} : ∀ r (U U' V V' : State), U'.heap = U.heap → V.vm.Alike V'.vm → V'.heap = V.heap → Got a D fV fC A o len r U V → Got a D fV fC A o len r U' V' :=
  fun r U U' V V' h1 hal h2 ⟨e0, D', X, a1, a2, a3, a4, a5, a6, a7, a8, a9, a10, a11⟩ => ⟨e0, D', X, a1.mv hal h2, a2, by rw [h1]; exact a3, a4, by rw [h1]; exact a5.mv hal h2, a6, by rw [hal.findClass]; exact a7, a8, a9, by rw [h1, h2]; exact a10, by rw [h1, h2]; exact a11⟩
namespace New4
def yN : MethodName := ⟨"java/lang/String", "<init>", "([CIILjava/lang/Void;)V"⟩
abbrev yB : ByteArray := jdk_42_method_149_code
theorem d0 : decode yB 0 = .ok (.aload_n 0, 1) := by decide +kernel
theorem d1 : decode yB 1 = .ok (.invokespecial 1, 3) := by decide +kernel
theorem d4 : decode yB 4 = .ok (.iload_n 3, 1) := by decide +kernel
theorem d5 : decode yB 5 = .ok (.ifCond (.ne) 22, 3) := by decide +kernel
theorem d27 : decode yB 27 = .ok (.getstatic 38, 3) := by decide +kernel
theorem d30 : decode yB 30 = .ok (.ifCond (.eq) 28, 3) := by decide +kernel
theorem d33 : decode yB 33 = .ok (.aload_n 1, 1) := by decide +kernel
theorem d34 : decode yB 34 = .ok (.iload_n 2, 1) := by decide +kernel
theorem d35 : decode yB 35 = .ok (.iload_n 3, 1) := by decide +kernel
theorem d36 : decode yB 36 = .ok (.invokestatic 177, 3) := by decide +kernel
theorem d39 : decode yB 39 = .ok (.astore 5, 2) := by decide +kernel
theorem d41 : decode yB 41 = .ok (.aload_n 0, 1) := by decide +kernel
theorem d42 : decode yB 42 = .ok (.aload 5, 2) := by decide +kernel
theorem d44 : decode yB 44 = .ok (.iload_n 3, 1) := by decide +kernel
theorem d45 : decode yB 45 = .ok (.invokestatic 47, 3) := by decide +kernel
theorem d48 : decode yB 48 = .ok (.putfield 15, 3) := by decide +kernel
theorem d51 : decode yB 51 = .ok (.aload_n 0, 1) := by decide +kernel
theorem d52 : decode yB 52 = .ok (.aload 5, 2) := by decide +kernel
theorem d54 : decode yB 54 = .ok (.putfield 9, 3) := by decide +kernel
theorem d57 : decode yB 57 = .ok (.return_, 1) := by decide +kernel
def site : List Cond := [.fieldLink "java/lang/String" 38 "java/lang/String" "COMPACT_STRINGS" "Z", Cmp3.tab, CodL.tab, .laysFinal "java/lang/String" "java/lang/String" "value" "[B", .fieldLink "java/lang/String" 9 "java/lang/String" "value" "[B", .laysFinal "java/lang/String" "java/lang/String" "coder" "B", .fieldLink "java/lang/String" 15 "java/lang/String" "coder" "B"] ++ objW "java/lang/String" 1 ++ staticW "java/lang/String" 177 Cmp3.yN ++ staticW "java/lang/String" 47 CodL.yN
def tab : Cond := tabOf yN yB 6 none site
def P (a : Addr) (D : Cell) (fV fC : Field) (b : Addr) (A : Cell) (z : Int32) (o len : Nat) (args : Array Value) (s : State) : Prop := args = #[.ref a, .ref b, .int (Int32.ofNat o), .int (Int32.ofNat len), .null] ∧ Blank "java/lang/String" a D s ∧ Found "java/lang/String" "value" "[B" fV s ∧ Found "java/lang/String" "coder" "B" fC s ∧ Ch b A s ∧ StaticIs s "java/lang/String" "COMPACT_STRINGS" "Z" (.int z) ∧ ¬ z = 0 ∧ 0 < len ∧ o + len ≤ A.slots.size ∧ len ≤ 536870912 ∧ ∀ i, i < len → ¬ 255 < cv A (o + i)
def E (a : Addr) (D : Cell) (fV fC : Field) (A : Cell) (o len : Nat) (r : Option Value) (s u : State) : Prop := Got a D fV fC A o len r s u
/-- len > 0, no char of the range above 255: a Latin-1 String of their low bytes -/
theorem law (l : Launch) (a : Addr) (D : Cell) (fV fC : Field) (b : Addr) (A : Cell) (z : Int32) (o len : Nat) : Law l yN 5 4 2 35 yB 6 none site (P a D fV fC b A z o len) (E a D fV fC A o len) [⟨a, fC.slot⟩, ⟨a, fV.slot⟩] 1 len := by
  refine Law.of_walk (plainFor_of_name (by decide +kernel)) (by decide +kernel) (by decide +kernel) (by decide) (fun _ _ h => by rw [h.1]; rfl) (fun _ U U' hal hh h => ⟨h.1, h.2.1.mv hal hh, h.2.2.1.al hal, h.2.2.2.1.al hal, h.2.2.2.2.1.mv hal hh, h.2.2.2.2.2.1.there hal hh, h.2.2.2.2.2.2⟩) (fun r U U' V V' h1 hal h2 h => Got.mv r U U' V V' h1 hal h2 h) ?_
  intro p e s m args below meth c s₁ X0 hexec hbytes hml hret hlk hnm hown hh0 W hP
  obtain ⟨rfl, hB, f1, f2, hA, s1, hz, l0, l1, l2, hp⟩ := hP
  have a31 := hA.1.2.2.2
  have c1 : Steps p.tables e below (s₁.setTop (entryFrame m #[.ref a, .ref b, .int (Int32.ofNat o), .int (Int32.ofNat len), .null] 6)) (s₁.setTop (mkF m 0 #[.val (.ref a), .val (.ref b), .val (.int (Int32.ofNat o)), .val (.int (Int32.ofNat len)), .val .null, .unset] [])) := entry rfl
  have c2 : Steps p.tables e below (s₁.setTop (entryFrame m #[.ref a, .ref b, .int (Int32.ofNat o), .int (Int32.ofNat len), .null] 6)) (s₁.setTop (mkF m 1 #[.val (.ref a), .val (.ref b), .val (.int (Int32.ofNat o)), .val (.int (Int32.ofNat len)), .val .null, .unset] [.ref a])) := c1.trans (by
    refine XS.aloadN X0.here hexec rfl (hb hbytes d0) rfl rfl ?_
    exact Steps.refl _)
  obtain ⟨T3, X3, q3, st3⟩ := X0.oinit hexec hown (wks W (objW "java/lang/String" 1)) (g := (mkF m 1 #[.val (.ref a), .val (.ref b), .val (.int (Int32.ofNat o)), .val (.int (Int32.ofNat len)), .val .null, .unset] [.ref a])) rfl (by rw [hml]; rfl) (rest := []) rfl (hb hbytes d1) (W := 0) (by show 2 * 0 + 0 ≤ _; decide) (Nat.le_of_ble_eq_true rfl) (Nat.le_of_ble_eq_true rfl)
  have hh3 := q3.trans hh0
  have c4 : Steps p.tables e below (s₁.setTop (entryFrame m #[.ref a, .ref b, .int (Int32.ofNat o), .int (Int32.ofNat len), .null] 6)) (T3.setTop (mkF m 27 #[.val (.ref a), .val (.ref b), .val (.int (Int32.ofNat o)), .val (.int (Int32.ofNat len)), .val .null, .unset] [])) := (c2.trans (st3 _ (Steps.refl _))).trans (by
    refine XS.iloadN X3.here hexec rfl (hb hbytes d4) rfl ?_
    refine XS.ifYes X3.here hexec rfl (pc0 := 5) rfl (hb hbytes d5) rfl (i0_ne_t (nz32 (by omega) l0)) (by decide) rfl ?_
    exact Steps.refl _)
  obtain ⟨T5, X5, q5, st5⟩ := X3.sget hexec hown (wk W (.fieldLink "java/lang/String" 38 "java/lang/String" "COMPACT_STRINGS" "Z")) s1 (fun _ _ h => by rw [hh3]; exact h) (g := (mkF m 27 #[.val (.ref a), .val (.ref b), .val (.int (Int32.ofNat o)), .val (.int (Int32.ofNat len)), .val .null, .unset] [])) rfl (hb hbytes d27)
  have hh5 := q5.trans hh3
  have c6 : Steps p.tables e below (s₁.setTop (entryFrame m #[.ref a, .ref b, .int (Int32.ofNat o), .int (Int32.ofNat len), .null] 6)) (T5.setTop (mkF m 30 #[.val (.ref a), .val (.ref b), .val (.int (Int32.ofNat o)), .val (.int (Int32.ofNat len)), .val .null, .unset] [.int z])) := c4.trans (st5 _ (Steps.refl _))
  have c7 : Steps p.tables e below (s₁.setTop (entryFrame m #[.ref a, .ref b, .int (Int32.ofNat o), .int (Int32.ofNat len), .null] 6)) (T5.setTop (mkF m 36 #[.val (.ref a), .val (.ref b), .val (.int (Int32.ofNat o)), .val (.int (Int32.ofNat len)), .val .null, .unset] [.int (Int32.ofNat len), .int (Int32.ofNat o), .ref b])) := c6.trans (by
    refine XS.ifNo X5.here hexec rfl (hb hbytes d30) rfl (i0_eq_f hz) ?_
    refine XS.aloadN X5.here hexec rfl (hb hbytes d33) rfl rfl ?_
    refine XS.iloadN X5.here hexec rfl (hb hbytes d34) rfl ?_
    refine XS.iloadN X5.here hexec rfl (hb hbytes d35) rfl ?_
    exact Steps.refl _)
  obtain ⟨v8, T8, X8, E8, g8⟩ := X5.callS hexec (Cmp3.law l b A o len) hown (wks W (staticW "java/lang/String" 177 Cmp3.yN)) (wk W Cmp3.tab) (W := 0) (Nat.le_of_ble_eq_true rfl) (Nat.le_of_ble_eq_true rfl) (Nat.le_refl _) (by show 0 + len ≤ len; omega) (g := (mkF m 36 #[.val (.ref a), .val (.ref b), .val (.int (Int32.ofNat o)), .val (.int (Int32.ofNat len)), .val .null, .unset] [.int (Int32.ofNat len), .int (Int32.ofNat o), .ref b])) rfl (by rw [hml]; rfl) c7 (argsL := [.ref b, .int (Int32.ofNat o), .int (Int32.ofNat len)]) (rest := []) rfl rfl (by show 2 * 0 + 0 ≤ _; decide) (hb hbytes d36) (⟨rfl, hA.mv X5.warmed.alike hh5, l1, l2, hp⟩)
  obtain ⟨e8, z8⟩ := E8
  obtain ⟨rfl, N, n1, n2, n3, n4, n5, n6⟩ := NewArr.mv _ T5 s _ _ hh5.symm (Vm.Alike.refl _) rfl e8
  rw [hh5] at z8
  have hB1 := hB.keep X8.warmed.alike (n6 _ _ hB.1)
  have hne : s.heap.size ≠ a := (Nat.ne_of_lt (Array.getElem?_eq_some_iff.mp hB.1).1).symm
  have c9 : Steps p.tables e below (s₁.setTop (entryFrame m #[.ref a, .ref b, .int (Int32.ofNat o), .int (Int32.ofNat len), .null] 6)) (T8.setTop (mkF m 39 #[.val (.ref a), .val (.ref b), .val (.int (Int32.ofNat o)), .val (.int (Int32.ofNat len)), .val .null, .unset] [.ref s.heap.size])) := g8
  have c10 : Steps p.tables e below (s₁.setTop (entryFrame m #[.ref a, .ref b, .int (Int32.ofNat o), .int (Int32.ofNat len), .null] 6)) (T8.setTop (mkF m 45 #[.val (.ref a), .val (.ref b), .val (.int (Int32.ofNat o)), .val (.int (Int32.ofNat len)), .val .null, .val (.ref s.heap.size)] [.int (Int32.ofNat N.slots.size), .ref s.heap.size, .ref a])) := by
    have hc : Steps p.tables e below (s₁.setTop (entryFrame m #[.ref a, .ref b, .int (Int32.ofNat o), .int (Int32.ofNat len), .null] 6)) (T8.setTop (mkF m 45 #[.val (.ref a), .val (.ref b), .val (.int (Int32.ofNat o)), .val (.int (Int32.ofNat len)), .val .null, .val (.ref s.heap.size)] [.int (Int32.ofNat len), .ref s.heap.size, .ref a])) := c9.trans (by
      refine XS.astore X8.here hexec rfl (hb hbytes d39) rfl rfl rfl ?_
      refine XS.aloadN X8.here hexec rfl (hb hbytes d41) rfl rfl ?_
      refine XS.aload X8.here hexec rfl (hb hbytes d42) rfl rfl ?_
      refine XS.iloadN X8.here hexec rfl (hb hbytes d44) rfl ?_
      exact Steps.refl _)
    rw [n4]; exact hc
  obtain ⟨v11, T11, X11, E11, g11⟩ := X8.callS hexec (CodL.law l s.heap.size N) hown (wks W (staticW "java/lang/String" 47 CodL.yN)) (wk W CodL.tab) (W := 1) (Nat.le_of_ble_eq_true rfl) (Nat.le_of_ble_eq_true rfl) (Nat.le_refl _) (by show 0 + len + 0 ≤ len; omega) (g := (mkF m 45 #[.val (.ref a), .val (.ref b), .val (.int (Int32.ofNat o)), .val (.int (Int32.ofNat len)), .val .null, .val (.ref s.heap.size)] [.int (Int32.ofNat N.slots.size), .ref s.heap.size, .ref a])) rfl (by rw [hml]; rfl) c10 (argsL := [.ref s.heap.size, .int (Int32.ofNat N.slots.size)]) (rest := [.ref a]) rfl rfl (by show 2 * 0 + (1 + 0) ≤ _; decide) (hb hbytes d45) (⟨rfl, n1⟩)
  obtain ⟨rfl, q11⟩ := E11
  have hB11 := hB1.mv (X8.warmed.alike.symm.trans X11.warmed.alike) q11
  have c12 : Steps p.tables e below (s₁.setTop (entryFrame m #[.ref a, .ref b, .int (Int32.ofNat o), .int (Int32.ofNat len), .null] 6)) (T11.setTop (mkF m 48 #[.val (.ref a), .val (.ref b), .val (.int (Int32.ofNat o)), .val (.int (Int32.ofNat len)), .val .null, .val (.ref s.heap.size)] [.int 0, .ref a])) := g11
  obtain ⟨T13, X13, p13, bl13, sl13, st13⟩ := X11.finit hexec hown (wk W (.fieldLink "java/lang/String" 15 "java/lang/String" "coder" "B")) (Or.inr ⟨_, (wk W (.laysFinal "java/lang/String" "java/lang/String" "coder" "B"))⟩) (Or.inl ⟨rfl, hnm⟩) f2 (Or.inl rfl) hB11 (t := .byte) (by decide +kernel) rfl (g := (mkF m 48 #[.val (.ref a), .val (.ref b), .val (.int (Int32.ofNat o)), .val (.int (Int32.ofNat len)), .val .null, .val (.ref s.heap.size)] [.int 0, .ref a])) rfl (rest := []) rfl (hb hbytes d48)
  have c14 : Steps p.tables e below (s₁.setTop (entryFrame m #[.ref a, .ref b, .int (Int32.ofNat o), .int (Int32.ofNat len), .null] 6)) (T13.setTop (mkF m 54 #[.val (.ref a), .val (.ref b), .val (.int (Int32.ofNat o)), .val (.int (Int32.ofNat len)), .val .null, .val (.ref s.heap.size)] [.ref s.heap.size, .ref a])) := (c12.trans (st13 _ (Steps.refl _))).trans (by
    refine XS.aloadN X13.here hexec rfl (hb hbytes d51) rfl rfl ?_
    refine XS.aload X13.here hexec rfl (hb hbytes d52) rfl rfl ?_
    exact Steps.refl _)
  obtain ⟨T15, X15, p15, bl15, sl15, st15⟩ := X13.finit hexec hown (wk W (.fieldLink "java/lang/String" 9 "java/lang/String" "value" "[B")) (Or.inr ⟨_, (wk W (.laysFinal "java/lang/String" "java/lang/String" "value" "[B"))⟩) (Or.inl ⟨rfl, hnm⟩) f1 (Or.inl rfl) bl13 (t := (.array .byte)) (by decide +kernel) rfl (g := (mkF m 54 #[.val (.ref a), .val (.ref b), .val (.int (Int32.ofNat o)), .val (.int (Int32.ofNat len)), .val .null, .val (.ref s.heap.size)] [.ref s.heap.size, .ref a])) rfl (rest := []) rfl (hb hbytes d54)
  have c16 : Steps p.tables e below (s₁.setTop (entryFrame m #[.ref a, .ref b, .int (Int32.ofNat o), .int (Int32.ofNat len), .null] 6)) (T15.setTop (mkF m 57 #[.val (.ref a), .val (.ref b), .val (.int (Int32.ofNat o)), .val (.int (Int32.ofNat len)), .val .null, .val (.ref s.heap.size)] [])) := c14.trans (st15 _ (Steps.refl _))
  have ap := apart (Or.inr ⟨_, (wk W (.laysFinal "java/lang/String" "java/lang/String" "value" "[B"))⟩) (Or.inr ⟨_, (wk W (.laysFinal "java/lang/String" "java/lang/String" "coder" "B"))⟩) f1 f2 (t₁ := .array .byte) (t₂ := .byte) (by decide +kernel) (by decide +kernel) (by decide)
  have al := X8.warmed.alike.symm.trans X15.warmed.alike
  have n7 : T11.heap[s.heap.size]? = some N := by rw [q11]; exact n1.1
  exact ⟨T15, none, _, _, _, X15, by simp, rfl, by omega, (fun _ => rfl), ⟨rfl, _, N, bl15, ((Same.refl D _).set _ (by simp)).set _ (by simp), sl15, (Cell.slots_setSlot_ne _ ap).trans sl13, n1.keep al (p15.other hne (p13.other hne n7)), n2, by rw [al.findClass]; exact n3, n4, n5, fun y c h1 h2 => p15.other h1 (p13.other h1 (by rw [q11]; exact n6 y c h2)), by rw [p15.2.2, p13.2.2, q11]; exact z8⟩, fun fs hl => c16.trans (X15.returnOut hexec hret (hb hbytes d57) hl)⟩
end New4
namespace New1
def yN : MethodName := ⟨"java/lang/String", "<init>", "([C)V"⟩
abbrev yB : ByteArray := jdk_42_method_3_code
theorem d0 : decode yB 0 = .ok (.aload_n 0, 1) := by decide +kernel
theorem d1 : decode yB 1 = .ok (.aload_n 1, 1) := by decide +kernel
theorem d2 : decode yB 2 = .ok (.iconst 0, 1) := by decide +kernel
theorem d3 : decode yB 3 = .ok (.aload_n 1, 1) := by decide +kernel
theorem d4 : decode yB 4 = .ok (.arraylength, 1) := by decide +kernel
theorem d5 : decode yB 5 = .ok (.aconst_null, 1) := by decide +kernel
theorem d6 : decode yB 6 = .ok (.invokespecial 27, 3) := by decide +kernel
theorem d9 : decode yB 9 = .ok (.return_, 1) := by decide +kernel
def site : List Cond := [New4.tab] ++ initW "java/lang/String" 27 New4.yN
def tab : Cond := tabOf yN yB 2 none site
def P (a : Addr) (D : Cell) (fV fC : Field) (b : Addr) (A : Cell) (z : Int32) (args : Array Value) (s : State) : Prop := args = #[.ref a, .ref b] ∧ Blank "java/lang/String" a D s ∧ Found "java/lang/String" "value" "[B" fV s ∧ Found "java/lang/String" "coder" "B" fC s ∧ Ch b A s ∧ StaticIs s "java/lang/String" "COMPACT_STRINGS" "Z" (.int z) ∧ ¬ z = 0 ∧ 0 < A.slots.size ∧ A.slots.size ≤ 536870912 ∧ ∀ i, i < A.slots.size → ¬ 255 < cv A i
def E (a : Addr) (D : Cell) (fV fC : Field) (A : Cell) (r : Option Value) (s u : State) : Prop := Got a D fV fC A 0 A.slots.size r s u
/-- new String(chars), not empty, no char above 255: a Latin-1 String of their low bytes -/
theorem law (l : Launch) (a : Addr) (D : Cell) (fV fC : Field) (b : Addr) (A : Cell) (z : Int32) : Law l yN 2 1 3 52 yB 2 none site (P a D fV fC b A z) (E a D fV fC A) [⟨a, fC.slot⟩, ⟨a, fV.slot⟩] 1 A.slots.size := by
  refine Law.of_walk (plainFor_of_name (by decide +kernel)) (by decide +kernel) (by decide +kernel) (by decide) (fun _ _ h => by rw [h.1]; rfl) (fun _ U U' hal hh h => ⟨h.1, h.2.1.mv hal hh, h.2.2.1.al hal, h.2.2.2.1.al hal, h.2.2.2.2.1.mv hal hh, h.2.2.2.2.2.1.there hal hh, h.2.2.2.2.2.2⟩) (fun r U U' V V' h1 hal h2 h => Got.mv r U U' V V' h1 hal h2 h) ?_
  intro p e s m args below meth c s₁ X0 hexec hbytes hml hret hlk hnm hown hh0 W hP
  obtain ⟨rfl, hB, f1, f2, hA, s1, hz, l0, l2, hp⟩ := hP
  have c1 : Steps p.tables e below (s₁.setTop (entryFrame m #[.ref a, .ref b] 2)) (s₁.setTop (mkF m 0 #[.val (.ref a), .val (.ref b)] [])) := entry rfl
  have c2 : Steps p.tables e below (s₁.setTop (entryFrame m #[.ref a, .ref b] 2)) (s₁.setTop (mkF m 6 #[.val (.ref a), .val (.ref b)] [.null, .int (Int32.ofNat A.slots.size), .int 0, .ref b, .ref a])) := c1.trans (by
    refine XS.aloadN X0.here hexec rfl (hb hbytes d0) rfl rfl ?_
    refine XS.aloadN X0.here hexec rfl (hb hbytes d1) rfl rfl ?_
    refine iconstV X0.here hexec rfl 0 (hb hbytes d2) (by decide) ?_
    refine XS.aloadN X0.here hexec rfl (hb hbytes d3) rfl rfl ?_
    refine X0.alen hexec (hA.1.mv X0.warmed.alike hh0) rfl rfl (hb hbytes d4) ?_
    refine XS.aconstNull X0.here hexec rfl (hb hbytes d5) ?_
    exact Steps.refl _)
  obtain ⟨v3, T3, X3, E3, g3⟩ := X0.callN hexec (New4.law l a D fV fC b A z 0 A.slots.size) rfl hown (wks W (initW "java/lang/String" 27 New4.yN)) (W New4.tab (by simp only [site, List.mem_cons, List.mem_append, true_or, or_true])) (W := 0) (Nat.le_of_ble_eq_true rfl) (Nat.le_of_ble_eq_true rfl) (Nat.le_refl _) (by show 0 + A.slots.size ≤ A.slots.size; omega) (g := (mkF m 6 #[.val (.ref a), .val (.ref b)] [.null, .int (Int32.ofNat A.slots.size), .int (Int32.ofNat 0), .ref b, .ref a])) rfl (by rw [hml]; rfl) c2 (argsL := [.ref b, .int (Int32.ofNat 0), .int (Int32.ofNat A.slots.size), .null]) (rest := []) rfl rfl (by show 2 * 0 + 0 ≤ _; decide) (hb hbytes d6) (⟨rfl, hB.mv X0.warmed.alike hh0, f1.al X0.warmed.alike, f2.al X0.warmed.alike, hA.mv X0.warmed.alike hh0, s1.there X0.warmed.alike hh0, hz, l0, by omega, l2, fun i hi => by rw [Nat.zero_add]; exact hp i hi⟩)
  have e0 := Got.mv _ s₁ s _ _ hh0.symm (Vm.Alike.refl _) rfl E3
  obtain rfl := e0.1
  have c4 : Steps p.tables e below (s₁.setTop (entryFrame m #[.ref a, .ref b] 2)) (T3.setTop (mkF m 9 #[.val (.ref a), .val (.ref b)] [])) := g3
  exact ⟨T3, none, _, _, _, X3, by simp, rfl, by omega, (fun _ => rfl), e0, fun fs hl => c4.trans (X3.returnOut hexec hret (hb hbytes d9) hl)⟩
theorem pays {l : Launch} {R : Room} {p : Program} {e : Env} {below : List Frame} {s : State} {sargs : Array Value} {len W : Nat} (a : Addr) (D : Cell) (fV fC : Field) (b : Addr) (A : Cell) (z : Int32) (htab : tab.before sargs s = true) (hfr : 4 ≤ R.frames) (hlo : W + 65 ≤ R.locals) :
    Back l R p e below s sargs yN len W (fun A₁ a₁ => A₁.cells + 1 ≤ R.cells ∧ A₁.slots + A.slots.size ≤ R.slots ∧ P a D fV fC b A z a₁ A₁.U) (fun A₁ _ v₁ B₁ => E a D fV fC A v₁ A₁.U B₁.U ∧ B₁.locs = A₁.locs ++ [⟨a, fC.slot⟩, ⟨a, fV.slot⟩] ∧ B₁.cells = A₁.cells + 1 ∧ B₁.slots = A₁.slots + A.slots.size) :=
  (law l a D fV fC b A z).pays htab hfr (by omega)
end New1
/-- the byte, read back as charAt reads it, is the char -/
theorem lo8_mask {x : Int32} (h0 : ¬ x < 0) (h1 : ¬ 255 < x) : lo8 x &&& 255 = x := by
  have t : ∀ k : Fin 256, lo8 (Int32.ofNat k.val) &&& 255 = Int32.ofNat k.val := by decide +kernel
  rw [Int32.lt_iff_toInt_lt] at h0 h1
  have e0 : (0 : Int32).toInt = 0 := rfl
  have e1 : (255 : Int32).toInt = 255 := rfl
  obtain ⟨k, hk⟩ : ∃ k : Nat, x.toInt = k := ⟨x.toInt.toNat, by omega⟩
  have hx : x = Int32.ofNat k := Int32.toInt_inj.mp (by rw [hk, Int32.toInt_ofNat_small (by omega)])
  rw [hx]
  exact t ⟨k, by omega⟩
end StrChars
namespace StrChars.Road
open Jvm Sem ClassFile Op Lib Jvm.Stand Jvm.Free Jvm.Free.XT
open Jvm.Lib.Cold (StaticIs)
abbrev ST : String := "java/lang/String"
/-- every table word that New1's law asks, flat -/
abbrev words : List Jvm.Cond := [.code New1.yN New1.yB 2 none, .initialized ST, .methodLink ST 27 New4.yN, .instanceMethod New4.yN,
  .code New4.yN New4.yB 6 none, .fieldLink ST 38 ST "COMPACT_STRINGS" "Z", .laysFinal ST ST "value" "[B", .fieldLink ST 9 ST "value" "[B", .laysFinal ST ST "coder" "B", .fieldLink ST 15 ST "coder" "B",
  .methodLink ST 1 Lib.objectInit, .instanceMethod Lib.objectInit, .code Lib.objectInit ⟨#[0xb1]⟩ 1 none, .methodLink ST 177 Cmp3.yN, .static Cmp3.yN, .methodLink ST 47 CodL.yN, .static CodL.yN,
  .code Cmp3.yN Cmp3.yB 6 (some (.array .byte)), .initialized U16, .arrayClass .byte, .methodLink U16 115 Cmp5.yN, .static Cmp5.yN, .code Cmp5.yN Cmp5.yB 7 (some .int), .code CodL.yN CodL.yB 2 (some .byte)]
theorem tab_of {a : Array Value} {s : State} (h : ∀ w ∈ words, w.before a s = true) : New1.tab.before a s = true := by
  have h5 : Cmp5.tab.before a s = true := unparts (wk h (.code Cmp5.yN Cmp5.yB 7 (some .int))) (wks h (.initialized Cmp5.yN.cls :: Cmp5.site))
  have hc : CodL.tab.before a s = true := unparts (wk h (.code CodL.yN CodL.yB 2 (some .byte))) (wks h (.initialized CodL.yN.cls :: CodL.site))
  have q5 : ∀ w ∈ Cmp5.tab :: words, w.before a s = true := fun w hw => (List.mem_cons.mp hw).elim (fun e => e ▸ h5) (h w)
  have h3 : Cmp3.tab.before a s = true := unparts (wk q5 (.code Cmp3.yN Cmp3.yB 6 (some (.array .byte)))) (wks q5 (.initialized Cmp3.yN.cls :: Cmp3.site))
  have q3 : ∀ w ∈ Cmp3.tab :: CodL.tab :: words, w.before a s = true := fun w hw => (List.mem_cons.mp hw).elim (fun e => e ▸ h3) fun hw => (List.mem_cons.mp hw).elim (fun e => e ▸ hc) (h w)
  have h4 : New4.tab.before a s = true := unparts (wk q3 (.code New4.yN New4.yB 6 none)) (wks q3 (.initialized New4.yN.cls :: New4.site))
  have q4 : ∀ w ∈ New4.tab :: words, w.before a s = true := fun w hw => (List.mem_cons.mp hw).elim (fun e => e ▸ h4) (h w)
  exact unparts (wk q4 (.code New1.yN New1.yB 2 none)) (wks q4 (.initialized New1.yN.cls :: New1.site))
/-- the words ride from the start Z to the walk's own state -/
theorem moved {Z s : State} {a0 args : Array Value} (hZ : Z.Warmed39 s.vm) (hw : ∀ d ∈ words, d.before a0 Z = true) : ∀ d ∈ words, d.before args s = true := fun d hd => by
  have q := hw d hd
  have t : ∀ d ∈ words, d = .arrayClass .byte ∨ (d.onTables && d.keepsFace) = true := by decide +kernel
  rcases t d hd with rfl | t
  · exact RoadKit.mvA hZ q
  · exact RoadKit.mv hZ q t
/-- WHAT COMES BACK, over the tables of the start Z: h the heap at the call, h' behind it -/
def Q (Z : State) (x : Addr) (A : Cell) (h : Heap) (v : Option Value) (h' : Heap) (L : List Loc) : Prop := v = none ∧ (∀ y ∈ L, y.base = x) ∧ RoadKit.Keep h h' [x] ∧ h'.size = h.size + 1 ∧ RoadKit.Exa Z h' x ST ∧ RoadKit.Fld Z h' x ST "value" "[B" (.ref h.size) ∧ RoadKit.Fld Z h' x ST "coder" "B" (.int 0) ∧
  (∃ V : Cell, RoadKit.Arr Z h' h.size V .byte ∧ V.vm = .none ∧ Z.vm.findClass "[B" = some V.cls ∧ V.slots.size = A.slots.size ∧ ∀ j, j < A.slots.size → V.slots[j]? = some (.int (lo8 (cv A j)))) ∧
  ∀ (O n d : String) (w : Value), RoadKit.Fld Z h x O n d w → RoadKit.slotOf Z O n d ≠ RoadKit.slotOf Z ST "value" "[B" → RoadKit.slotOf Z O n d ≠ RoadKit.slotOf Z ST "coder" "B" → RoadKit.Fld Z h' x O n d w
/-- **new String(chars) AT A CALL, IN THE ROAD'S FORM**: for specialBack behind newO: x the fresh String, b the char[] with the cell A -/
theorem back {p : Program} {l : Launch} {e : Env} {R : Room} {s : State} {args : Array Value} {below : List Frame} {len W : Nat} {Z : State} {a0 : Array Value} {h : Heap} (hZ : Z.Warmed39 s.vm) (hw : ∀ d ∈ words, d.before a0 Z = true) {kI : Nat} (wi : (Jvm.Cond.instantiable ST kI).before a0 Z = true)
    {x b : Addr} {A : Cell} {z : Int32} {v0 c0 : Value} (E : RoadKit.Exa Z h x ST) (V : RoadKit.Fld Z h x ST "value" "[B" v0) (C : RoadKit.Fld Z h x ST "coder" "B" c0) (K : RoadKit.Arr Z h b A .char) (hty : Typed .char A) (S : RoadKit.Sta Z h ST "COMPACT_STRINGS" "Z" (.int z)) (hz : ¬ z = 0)
    (l0 : 0 < A.slots.size) (l2 : A.slots.size ≤ 536870912) (hp : ∀ i, i < A.slots.size → ¬ 255 < cv A i) (hfr : 4 ≤ R.frames) (hlo : W + 65 ≤ R.locals) :
    Back l R p e below s args New1.yN len W (fun P a => a = #[.ref x, .ref b] ∧ P.U.heap = h ∧ P.cells + 1 ≤ R.cells ∧ P.slots + A.slots.size ≤ R.slots)
      (fun P _ v B => ∃ L, Q Z x A h v B.U.heap L ∧ B.locs = P.locs ++ L ∧ B.cells = P.cells + 1 ∧ B.slots = P.slots + A.slots.size) := by
  intro m meth c P g ig mk a X hg hsize hdg hW hn hp'
  obtain ⟨rfl, rfl, r1, r2⟩ := hp'
  have al : Z.vm.Alike P.U.vm := hZ.alike.trans X.warmed.alike
  obtain ⟨D, cfV, kV, iV, fV, hD, gV, stV, knV, obV, asV, slV⟩ := id V
  obtain ⟨D', cfC, kC, iC, fC, hD', gC, stC, -, -, asC, slC⟩ := id C
  cases hD.symm.trans hD'
  obtain ⟨D2, kD, e1, e2, e3, e4, e5⟩ := id E
  cases hD.symm.trans e1
  obtain ⟨c2, k2, i1, i2, i3, -⟩ := Cond.instantiable_spec wi
  cases e2.symm.trans i1
  cases e3.symm.trans i2
  obtain ⟨kU, u1, u2⟩ := al.2.2 _ _ e3
  have hB : Blank ST x D P.U := ⟨hD, ⟨knV, fun q hq => by rw [hq] at obV; cases obV⟩, by rw [al.findClass]; exact e2, kU, u1, by rw [u2]; exact i3, by rw [u2]; exact e5 i3⟩
  have F1 : Found ST "value" "[B" fV P.U := ⟨SBG.found_only al ⟨cfV, kV, iV, gV⟩, stV⟩
  have F2 : Found ST "coder" "B" fC P.U := ⟨SBG.found_only al ⟨cfC, kC, iC, gC⟩, stC⟩
  have hA : Ch b A P.U := ⟨⟨K.1, State.isArrayOf_alike al K.2.1, K.2.2, by omega⟩, hty⟩
  have hS : StaticIs P.U ST "COMPACT_STRINGS" "Z" (.int z) := by
    obtain ⟨cfS, iS, kS, fS, st, cS, t1, t2, t3, t4, t5, t6, t7⟩ := S
    exact StaticIs.there (s := { Z with heap := P.U.heap }) ⟨cfS, iS, kS, fS, st, cS, t1, t2, t3, t4, t5, (fun q => by rw [q] at t6; cases t6), t7⟩ al rfl
  obtain ⟨v, B, X', ⟨⟨hv, E', V', q1, q2, q3, q4, q5, q6, q7, q8, q9, q10, q11⟩, hl, hc, hs⟩, st⟩ := New1.pays x D fV fC b A z (tab_of (moved hZ hw)) hfr hlo m meth c P g ig mk _ X hg hsize hdg hW hn ⟨r1, r2, rfl, hB, F1, F2, hA, hS, hz, l0, l2, hp⟩
  have al' : Z.vm.Alike B.U.vm := hZ.alike.trans X'.warmed.alike
  have hsz : E'.slots.size = D.slots.size := by
    obtain ⟨-, -, -, kB, w1, w2, w3⟩ := q1
    obtain ⟨kB', y1, y2⟩ := al'.2.2 _ _ e3
    rw [q2.2.1] at w1
    cases w1.symm.trans y1
    rw [w3, e5 i3, y2]
  refine ⟨v, B, X', ⟨_, ⟨hv, ?_, ⟨by omega, fun y cy hy hn' => q10 y cy (by simpa using hn') hy, fun y cy hy => ?_⟩, q11, ⟨E', _, q1.1, by rw [q2.2.1]; exact e2, by rw [q2.2.1]; exact e3, by rw [q2.1]; exact obV, fun _ => by rw [hsz]; exact e5 i3⟩,
    ⟨E', cfV, kV, iV, fV, q1.1, gV, stV, by rw [q2.1]; exact knV, by rw [q2.1]; exact obV, by rw [q2.2.1]; exact asV, q3⟩, ⟨E', cfC, kC, iC, fC, q1.1, gC, stC, by rw [q2.1]; exact knV, by rw [q2.1]; exact obV, by rw [q2.2.1]; exact asC, q4⟩,
    ⟨V', ⟨q5.1, State.isArrayOf_alike al'.symm q5.2.1, q5.2.2.1⟩, q6, by rw [← al'.findClass]; exact q7, q8, fun j hj => by have := q9 j hj; rwa [Nat.zero_add] at this⟩, fun O n d w F n1 n2 => ?_⟩, hl, hc, hs⟩, st⟩
  · intro y hy
    simp only [List.mem_cons, List.not_mem_nil, or_false] at hy
    rcases hy with rfl | rfl <;> rfl
  · by_cases q : y = x
    · subst q
      cases hD.symm.trans hy
      exact ⟨E', q1.1, q2.2.1, q2.1, hsz⟩
    · exact ⟨cy, q10 y cy q hy, rfl, rfl, rfl⟩
  · obtain ⟨D3, cf, k, i, f, g1, g2, g3, g4, g5, g6, g7⟩ := F
    cases hD.symm.trans g1
    simp only [RoadKit.slotOf, g2, gV, gC, Option.map_some, Option.getD_some] at n1 n2
    exact ⟨E', cf, k, i, f, q1.1, g2, g3, by rw [q2.1]; exact g4, by rw [q2.1]; exact g5, by rw [q2.2.1]; exact g6, by rw [q2.2.2 f.slot (by simp [n1, n2])]; exact g7⟩
end StrChars.Road
namespace StrChars.Road
open Jvm Sem ClassFile Op Lib Jvm.Stand Jvm.Free Jvm.Free.XT
/-- WHAT COMES BACK, the byte[] as a list of values -/
def QA (Z : State) (x : Addr) (zn : Int32) (cs : List Int32) (h : Heap) (v : Option Value) (h' : Heap) (L : List Loc) : Prop := v = none ∧ (∀ y ∈ L, y.base = x) ∧ RoadKit.Keep h h' [x] ∧ h'.size = h.size + 1 ∧ RoadKit.Exa Z h' x ST ∧ RoadKit.Fld Z h' x ST "value" "[B" (.ref h.size) ∧ RoadKit.Fld Z h' x ST "coder" "B" (.int 0) ∧
  (∃ kb, Z.vm.findClass "[B" = some kb ∧ RoadKit.Arv Z h' h.size kb .byte zn (cs.map fun c => .int (lo8 c)) (.int 0)) ∧
  ∀ (O n d : String) (w : Value), RoadKit.Fld Z h x O n d w → RoadKit.slotOf Z O n d ≠ RoadKit.slotOf Z ST "value" "[B" → RoadKit.slotOf Z O n d ≠ RoadKit.slotOf Z ST "coder" "B" → RoadKit.Fld Z h' x O n d w
/-- **new String(chars) AT A CALL, THE ARRAYS AS LISTS**: the char[] at b holds cs, not empty, no char above 255 -/
theorem backArv {p : Program} {l : Launch} {e : Env} {R : Room} {s : State} {args : Array Value} {below : List Frame} {len W : Nat} {Z : State} {a0 : Array Value} {h : Heap} (hZ : Z.Warmed39 s.vm) (hw : ∀ d ∈ words, d.before a0 Z = true) {kI : Nat} (wi : (Jvm.Cond.instantiable ST kI).before a0 Z = true)
    {x b : Addr} {k : ClassId} {zn z : Int32} {cs : List Int32} {dv v0 c0 : Value} (E : RoadKit.Exa Z h x ST) (V : RoadKit.Fld Z h x ST "value" "[B" v0) (C : RoadKit.Fld Z h x ST "coder" "B" c0) (K : RoadKit.Arv Z h b k .char zn (cs.map Value.int) dv) (S : RoadKit.Sta Z h ST "COMPACT_STRINGS" "Z" (.int z)) (hz : ¬ z = 0)
    (hlen : zn.toNatClampNeg = cs.length) (h0 : 0 < cs.length) (hbig : cs.length ≤ 536870912) (hall : ∀ c ∈ cs, ¬ 255 < c) (hfr : 4 ≤ R.frames) (hlo : W + 65 ≤ R.locals) :
    Back l R p e below s args New1.yN len W (fun P a => a = #[.ref x, .ref b] ∧ P.U.heap = h ∧ P.cells + 1 ≤ R.cells ∧ P.slots + cs.length ≤ R.slots)
      (fun P _ v B => ∃ L, QA Z x zn cs h v B.U.heap L ∧ B.locs = P.locs ++ L ∧ B.cells = P.cells + 1 ∧ B.slots = P.slots + cs.length) := by
  obtain ⟨A, K1, K2, K3, K4, K5, K6⟩ := K
  have e : A.slots.size = cs.length := K3.trans hlen
  have hat : ∀ (i : Nat) (hi : i < cs.length), A.slots[i]? = some (.int cs[i]) := fun i hi => by rw [K5 i (by omega)]; simp [List.getD_eq_getElem?_getD, hi]
  have hcv : ∀ (i : Nat) (hi : i < cs.length), cv A i = cs[i] := fun i hi => by unfold cv; rw [hat i hi]
  have hty : Typed .char A := fun i v hv => by
    have hi : i < A.slots.size := (Array.getElem?_eq_some_iff.mp hv).1
    have q := K5 i hi
    rw [hv] at q
    rw [Option.some.inj q]
    exact K6 i hi
  refine Back.mono (back hZ hw wi E V C K1 hty S hz (by omega) (by omega) (fun i hi => by rw [hcv i (by omega)]; exact hall _ (List.getElem_mem _)) hfr hlo) (fun P a hp => ⟨hp.1, hp.2.1, hp.2.2.1, by rw [e]; exact hp.2.2.2⟩) (fun P a v B hp hq => ?_)
  obtain ⟨L, ⟨q1, q2, q3, q4, q5, q6, q7, ⟨V', v1, v2, v3, v4, v5⟩, q9⟩, hl, hc, hs⟩ := hq
  refine ⟨L, ⟨q1, q2, q3, q4, q5, q6, q7, ⟨V'.cls, v3, V', v1, rfl, by rw [v4, e, hlen], K4, fun i hi => ?_, fun i hi => ?_⟩, q9⟩, hl, hc, by rw [hs, e]⟩
  · have hi' : i < cs.length := by omega
    rw [v5 i (by omega), hcv i hi']; simp [List.getD_eq_getElem?_getD, hi']
  · have hi' : i < cs.length := by omega
    simp only [List.getD_eq_getElem?_getD, List.getElem?_map, List.getElem?_eq_getElem hi', Option.map_some, Option.getD_some]
    exact fits_lo8 _
end StrChars.Road
namespace StrChars.Road
open Jvm Sem ClassFile Op Lib Jvm.Stand Jvm.Free Jvm.Free.XT
/-- WHAT COMES BACK, in the writer's own shape -/
def QV (Z : State) (x : Addr) (N : Int32) (bs : List Int32) (h : Heap) (n0 : Nat) (v : Option Value) (h' : Heap) (L : List Loc) : Prop := v = none ∧ RoadKit.Fr n0 L ∧ RoadKit.Keep h h' [x] ∧ RoadKit.Exa Z h' x ST ∧ RoadKit.Fld Z h' x ST "coder" "B" (.int 0) ∧
  ∃ (t : Addr) (kb : ClassId), n0 ≤ t ∧ h.size ≤ t ∧ ¬ t = x ∧ RoadKit.Fld Z h' x ST "value" "[B" (.ref t) ∧ RoadKit.Arv Z h' t kb .byte N (bs.map Value.int) (.int 0)
/-- **new String(chars) AT A CALL, FOR THE WRITER**: a char[] of n known ints, each 0 to 255 -/
theorem backV {p : Program} {l : Launch} {e : Env} {R : Room} {s : State} {args : Array Value} {below : List Frame} {len W : Nat} {Z : State} {a0 : Array Value} {h : Heap} (hZ : Z.Warmed39 s.vm) (hw : ∀ d ∈ words, d.before a0 Z = true) {kI : Nat} (wi : (Jvm.Cond.instantiable ST kI).before a0 Z = true)
    {x b : Addr} {kC : ClassId} {cs bs : List Int32} {d v0 c0 : Value} {z N : Int32} {n n0 : Nat} (hx0 : n0 ≤ x) (hh0 : n0 ≤ h.size) (E : RoadKit.Exa Z h x ST) (V : RoadKit.Fld Z h x ST "value" "[B" v0) (C : RoadKit.Fld Z h x ST "coder" "B" c0) (K : RoadKit.Arv Z h b kC .char N (cs.map Value.int) d) (S : RoadKit.Sta Z h ST "COMPACT_STRINGS" "Z" (.int z)) (hz : ¬ z = 0)
    (hn : cs.length = n) (hN : N = Int32.ofNat n) (l0 : 0 < n) (l2 : n ≤ 4000) (hp : ∀ c ∈ cs, ¬ c < 0 ∧ ¬ (255 : Int32) < c) (hb : bs = cs.map (fun c => c.toInt8.toInt32)) (hfr : 4 ≤ R.frames) (hlo : W + 65 ≤ R.locals) :
    Back l R p e below s args (⟨"java/lang/String", "<init>", "([C)V"⟩ : MethodName) len W (fun P a => a = #[.ref x, .ref b] ∧ P.U.heap = h ∧ P.cells + 1 ≤ R.cells ∧ P.slots + n ≤ R.slots)
      (fun P _ v B => ∃ L, QV Z x N bs h n0 v B.U.heap L ∧ B.locs = P.locs ++ L ∧ B.cells = P.cells + 1 ∧ B.slots = P.slots + n) := by
  subst hn hN hb
  refine Back.mono (backArv hZ hw wi E V C K S hz (n32 (by omega)) l0 (by omega) (fun c hc => (hp c hc).2) hfr hlo) (fun P a hp => hp) (fun P a v B hp hq => ?_)
  obtain ⟨L, ⟨q1, q2, q3, q4, q5, q6, q7, ⟨kb, v1, v2⟩, q9⟩, hl, hc, hs⟩ := hq
  exact ⟨L, ⟨q1, fun y hy => by rw [q2 y hy]; exact hx0, q3, q5, q7, h.size, kb, hh0, Nat.le_refl _, Nat.ne_of_gt E.lt, q6, by rw [List.map_map]; exact v2⟩, hl, hc, hs⟩
end StrChars.Road
namespace StrChars
open Jvm Sem ClassFile Op Lib Jvm.Stand Jvm.Free.XT Jvm.Free.ALB Jvm.Free.JM Jvm.Free
open Jvm.Lib.Cold (StaticIs)
def hi8 (x : Int32) : Int32 := lo8 (x >>> ((8 : Int32) &&& 31))
/-- what StringUTF16.getChar makes of two bytes -/
def pairCh (u v : Int32) : Int32 := (((u &&& 255) <<< ((0 : Int32) &&& 31)) ||| ((v &&& 255) <<< ((8 : Int32) &&& 31))).toUInt32.toUInt16.toUInt32.toInt32
theorem shr0 (c : Int32) : c >>> ((0 : Int32) &&& 31) = c := by
  have e : ((0 : Int32) &&& 31) = 0 := by decide
  rw [e]
  apply Int32.toBitVec_inj.mp
  rw [Int32.toBitVec_shiftRight]
  have e1 : ((0 : Int32).toBitVec.smod 32) = 0#32 := by decide
  rw [e1, BitVec.sshiftRight_eq']
  exact BitVec.sshiftRight_zero
theorem lo8_and (x : Int32) : (lo8 x &&& 255).toBitVec.toNat = x.toBitVec.toNat % 256 := by
  have h : (lo8 x).toBitVec = (x.toBitVec.signExtend 8).signExtend 32 := by rw [lo8, Int8.toBitVec_toInt32, Int32.toBitVec_toInt8]
  rw [Int32.toBitVec_and, BitVec.toNat_and, h]
  have e : ((x.toBitVec.signExtend 8).signExtend 32).toNat % 256 = x.toBitVec.toNat % 256 := by
    rw [BitVec.toNat_signExtend]
    have hlt := x.toBitVec.isLt
    simp only [BitVec.toNat_setWidth, BitVec.toNat_signExtend]
    split <;> split <;> omega
  rw [← e]
  exact Nat.and_two_pow_sub_one_eq_mod _ 8
theorem pair_says {c : Int32} (h0 : ¬ c < 0) (h1 : ¬ 65535 < c) : pairCh (lo8 c) (hi8 c) = c := by
  rw [Int32.lt_iff_toInt_lt] at h0 h1
  have e0 : (0 : Int32).toInt = 0 := rfl
  have e1 : (65535 : Int32).toInt = 65535 := rfl
  have hc : c.toInt = c.toBitVec.toNat := by
    have := c.toBitVec.isLt
    have e : c.toInt = c.toBitVec.toInt := rfl
    rw [e] at h0 h1
    rw [e]
    rw [BitVec.toInt_eq_toNat_cond] at h0 h1 ⊢
    split at h0 <;> split <;> omega
  have hn : c.toBitVec.toNat < 65536 := by omega
  have a1 := lo8_and c
  have a2 : (hi8 c &&& 255).toBitVec.toNat = c.toBitVec.toNat / 256 := by
    rw [hi8, lo8_and]
    have e : ((8 : Int32) &&& 31) = 8 := by decide
    rw [e, Int32.toBitVec_shiftRight]
    have e2 : ((8 : Int32).toBitVec.smod 32) = 8#32 := by decide
    rw [e2, BitVec.sshiftRight_eq', BitVec.toNat_sshiftRight_of_msb_false (by rw [BitVec.msb_eq_false_iff_two_mul_lt]; omega)]
    show c.toBitVec.toNat >>> 8 % 256 = _
    rw [Nat.shiftRight_eq_div_pow]
    omega
  unfold pairCh
  apply Int32.toBitVec_inj.mp
  apply BitVec.eq_of_toNat_eq
  have f0 : ((0 : Int32) &&& 31) = 0 := by decide
  have f8 : ((8 : Int32) &&& 31) = 8 := by decide
  rw [f0, f8]
  have g : (((lo8 c &&& 255) <<< (0 : Int32)) ||| ((hi8 c &&& 255) <<< (8 : Int32))).toBitVec.toNat = c.toBitVec.toNat := by
    rw [Int32.toBitVec_or, Int32.toBitVec_shiftLeft, Int32.toBitVec_shiftLeft]
    have s0 : ((0 : Int32).toBitVec.smod 32) = 0#32 := by decide
    have s8 : ((8 : Int32).toBitVec.smod 32) = 8#32 := by decide
    rw [s0, s8, BitVec.toNat_or]
    simp only [BitVec.shiftLeft_eq', BitVec.toNat_shiftLeft, a1, a2]
    show (c.toBitVec.toNat % 256) <<< 0 % 2 ^ 32 ||| (c.toBitVec.toNat / 256) <<< 8 % 2 ^ 32 = _
    rw [Nat.shiftLeft_zero, Nat.mod_eq_of_lt (show c.toBitVec.toNat % 256 < 2 ^ 32 by omega), Nat.mod_eq_of_lt (show (c.toBitVec.toNat / 256) <<< 8 < 2 ^ 32 by rw [Nat.shiftLeft_eq]; omega), Nat.or_comm, ← Nat.shiftLeft_add_eq_or_of_lt (by omega), Nat.shiftLeft_eq]
    omega
  show BitVec.toNat (((((lo8 c &&& 255) <<< (0 : Int32)) ||| ((hi8 c &&& 255) <<< (8 : Int32))).toBitVec.setWidth 16).setWidth 32) = _
  rw [BitVec.toNat_setWidth, BitVec.toNat_setWidth, g]
  omega
end StrChars
namespace StrChars
open Jvm Sem ClassFile Op Lib Jvm.Stand Jvm.Free.XT Jvm.Free.ALB Jvm.Free.JM Jvm.Free
open Jvm.Lib.Cold (StaticIs)
theorem shr1 {n : Nat} (h : 2 * n < 2 ^ 31) : Int32.ofNat (2 * n) >>> ((1 : Int32) &&& 31) = Int32.ofNat n := by
  have e : ((1 : Int32) &&& 31) = 1 := by decide
  rw [e]
  apply Int32.toBitVec_inj.mp
  rw [Int32.toBitVec_shiftRight]
  have e1 : ((1 : Int32).toBitVec.smod 32) = 1#32 := by decide
  have hm : (BitVec.ofNat 32 (2 * n)).toNat = 2 * n := by rw [BitVec.toNat_ofNat, Nat.mod_eq_of_lt (by omega)]
  rw [e1, BitVec.sshiftRight_eq']
  apply BitVec.eq_of_toNat_eq
  show ((BitVec.ofNat 32 (2 * n)).sshiftRight 1).toNat = (BitVec.ofNat 32 n).toNat
  rw [BitVec.toNat_sshiftRight_of_msb_false (by rw [BitVec.msb_eq_false_iff_two_mul_lt, hm]; omega), hm, BitVec.toNat_ofNat, Nat.shiftRight_eq_div_pow]
  omega
/-- charAt's cast of a byte read back -/
def chr8 (u : Int32) : Int32 := (u &&& 255).toUInt32.toUInt16.toUInt32.toInt32
theorem chr8_lo8 {c : Int32} (h0 : ¬ c < 0) (h1 : ¬ 255 < c) : chr8 (lo8 c) = c := by
  have t : ∀ k : Fin 256, (Int32.ofNat k.val).toUInt32.toUInt16.toUInt32.toInt32 = Int32.ofNat k.val := by decide +kernel
  unfold chr8
  rw [lo8_mask h0 h1]
  rw [Int32.lt_iff_toInt_lt] at h0 h1
  have e0 : (0 : Int32).toInt = 0 := rfl
  have e1 : (255 : Int32).toInt = 255 := rfl
  obtain ⟨k, hk⟩ : ∃ k : Nat, c.toInt = k := ⟨c.toInt.toNat, by omega⟩
  have hx : c = Int32.ofNat k := Int32.toInt_inj.mp (by rw [hk, Int32.toInt_ofNat_small (by omega)])
  rw [hx]
  exact t ⟨k, by omega⟩
theorem narrow_ch {c : Int32} (h0 : ¬ c < 0) (h1 : ¬ 65535 < c) : narrow .char (.int c) = .int c := by
  have q : narrow .char (.int (pairCh (lo8 c) (hi8 c))) = .int (pairCh (lo8 c) (hi8 c)) := narrow_c _
  rwa [pair_says h0 h1] at q
/-- the array's cell V codes the n chars f 0 .. f (n - 1) by the coder cd, as the JDK does: coder 1 just where some char is above 255 -/
def Cod (cd : Int32) (n : Nat) (f : Nat → Int32) (V : Cell) : Prop := (cd = 0 ∧ V.slots.size = n ∧ ∀ j, j < n → V.slots[j]? = some (.int (lo8 (f j))) ∧ ¬ 255 < f j) ∨ (cd = 1 ∧ V.slots.size = 2 * n ∧ (∀ j, j < n → V.slots[2 * j]? = some (.int (lo8 (f j))) ∧ V.slots[2 * j + 1]? = some (.int (hi8 (f j)))) ∧ ∃ j, j < n ∧ 255 < f j)
theorem Cod.cd {cd : Int32} {n : Nat} {f : Nat → Int32} {V : Cell} (h : Cod cd n f V) : cd = 0 ∨ cd = 1 := h.imp (fun q => q.1) fun q => q.1
theorem Cod.len {cd : Int32} {n : Nat} {f : Nat → Int32} {V : Cell} (h : Cod cd n f V) (hs : V.slots.size < 2 ^ 31) : Int32.ofNat V.slots.size >>> (cd &&& 31) = Int32.ofNat n := by
  rcases h with ⟨rfl, h, -⟩ | ⟨rfl, h, -⟩
  · rw [shr0, h]
  · rw [h, shr1 (by omega)]
/-- **x is a String of the n chars f 0 .. f (n - 1)**, Latin-1 or UTF-16; its array at t has the cell V -/
def Txt (x t : Addr) (V : Cell) (cd : Int32) (n : Nat) (f : Nat → Int32) (U : State) : Prop := Exact "java/lang/String" x U ∧ Has x "java/lang/String" "value" "[B" (.ref t) U ∧ Has x "java/lang/String" "coder" "B" (.int cd) U ∧ XT.Arr .byte t V U ∧ Cod cd n f V ∧ ∀ j, j < n → ¬ f j < 0 ∧ ¬ 65535 < f j
theorem Txt.mv {x t : Addr} {V : Cell} {cd : Int32} {n : Nat} {f : Nat → Int32} {U U' : State} (h : Txt x t V cd n f U) (hal : U.vm.Alike U'.vm) (hh : U'.heap = U.heap) : Txt x t V cd n f U' := ⟨h.1.mv hal hh, h.2.1.mv hal hh, h.2.2.1.mv hal hh, h.2.2.2.1.mv hal hh, h.2.2.2.2⟩
namespace Cdr
def yN : MethodName := ⟨"java/lang/String", "coder", "()B"⟩
abbrev yB : ByteArray := jdk_42_method_152_code
theorem d0 : decode yB 0 = .ok (.getstatic 38, 3) := by decide +kernel
theorem d3 : decode yB 3 = .ok (.ifCond (.eq) 10, 3) := by decide +kernel
theorem d6 : decode yB 6 = .ok (.aload_n 0, 1) := by decide +kernel
theorem d7 : decode yB 7 = .ok (.getfield 15, 3) := by decide +kernel
theorem d10 : decode yB 10 = .ok (.goto 4, 3) := by decide +kernel
theorem d14 : decode yB 14 = .ok (.ireturn, 1) := by decide +kernel
def site : List Cond := [.fieldLink "java/lang/String" 38 "java/lang/String" "COMPACT_STRINGS" "Z", .fieldLink "java/lang/String" 15 "java/lang/String" "coder" "B"]
def tab : Cond := tabOf yN yB 1 (some .byte) site
def P (x : Addr) (cd z : Int32) (args : Array Value) (s : State) : Prop := args = #[.ref x] ∧ Has x "java/lang/String" "coder" "B" (.int cd) s ∧ (cd = 0 ∨ cd = 1) ∧ StaticIs s "java/lang/String" "COMPACT_STRINGS" "Z" (.int z) ∧ ¬ z = 0
def E (cd : Int32) (r : Option Value) (s u : State) : Prop := XT.PureE (some (.int cd)) r s u
theorem law (l : Launch) (x : Addr) (cd z : Int32) : Law l yN 1 0 0 0 yB 1 (some .byte) site (P x cd z) (E cd) [] 0 0 := by
  refine Law.of_walk (plainFor_of_name (by decide +kernel)) (by decide +kernel) (by decide +kernel) (by decide) (fun _ _ h => by rw [h.1]; rfl) (fun _ U U' hal hh h => ⟨h.1, h.2.1.mv hal hh, h.2.2.1, h.2.2.2.1.there hal hh, h.2.2.2.2⟩) (fun r U U' V V' h1 hal h2 h => XT.PureE.mv r U U' V V' h1 hal h2 h) ?_
  intro p e s m args below meth c s₁ X0 hexec hbytes hml hret hlk hnm hown hh0 W hP
  obtain ⟨rfl, hx, hc, s1, hz⟩ := hP
  have c1 : Steps p.tables e below (s₁.setTop (entryFrame m #[.ref x] 1)) (s₁.setTop (mkF m 0 #[.val (.ref x)] [])) := entry rfl
  obtain ⟨T2, X2, q2, st2⟩ := X0.sget hexec hown (wk W (.fieldLink "java/lang/String" 38 "java/lang/String" "COMPACT_STRINGS" "Z")) s1 (fun _ _ h => by rw [hh0]; exact h) (g := (mkF m 0 #[.val (.ref x)] [])) rfl (hb hbytes d0)
  have hh2 := q2.trans hh0
  have c3 : Steps p.tables e below (s₁.setTop (entryFrame m #[.ref x] 1)) (T2.setTop (mkF m 7 #[.val (.ref x)] [.ref x])) := (c1.trans (st2 _ (Steps.refl _))).trans (by
    refine XS.ifNo X2.here hexec rfl (hb hbytes d3) rfl (i0_eq_f hz) ?_
    refine XS.aloadN X2.here hexec rfl (hb hbytes d6) rfl rfl ?_
    exact Steps.refl _)
  obtain ⟨T4, X4, q4, st4⟩ := X2.hget hexec hown (wk W (.fieldLink "java/lang/String" 15 "java/lang/String" "coder" "B")) (hx.mv X2.warmed.alike hh2) (g := (mkF m 7 #[.val (.ref x)] [.ref x])) rfl (rest := []) rfl (hb hbytes d7)
  have c5 : Steps p.tables e below (s₁.setTop (entryFrame m #[.ref x] 1)) (T4.setTop (mkF m 14 #[.val (.ref x)] [.int cd])) := (c3.trans (st4 _ (Steps.refl _))).trans (by
    refine XS.goto X4.here hexec rfl (pc0 := 10) rfl (hb hbytes d10) (by decide) rfl ?_
    exact Steps.refl _)
  exact ⟨T4, some (.int cd), _, _, _, X4, rfl, rfl, rfl, (fun h => by cases h), ⟨rfl, q4.trans hh2⟩, fun fs hl => c5.trans (X4.ireturnOut hexec hret (by rcases hc with rfl | rfl <;> rfl) (Or.inr (Or.inr (Or.inl rfl))) (hb hbytes d14) hl)⟩
end Cdr
namespace Len
def yN : MethodName := ⟨"java/lang/String", "length", "()I"⟩
abbrev yB : ByteArray := jdk_42_method_54_code
theorem d0 : decode yB 0 = .ok (.aload_n 0, 1) := by decide +kernel
theorem d1 : decode yB 1 = .ok (.getfield 9, 3) := by decide +kernel
theorem d4 : decode yB 4 = .ok (.arraylength, 1) := by decide +kernel
theorem d5 : decode yB 5 = .ok (.aload_n 0, 1) := by decide +kernel
theorem d6 : decode yB 6 = .ok (.invokevirtual 335, 3) := by decide +kernel
theorem d9 : decode yB 9 = .ok (.ishr, 1) := by decide +kernel
theorem d10 : decode yB 10 = .ok (.ireturn, 1) := by decide +kernel
def site : List Cond := [.fieldLink "java/lang/String" 9 "java/lang/String" "value" "[B", Cdr.tab] ++ virtW "java/lang/String" 335 "java/lang/String" Cdr.yN Cdr.yN
def tab : Cond := tabOf yN yB 1 (some .int) site
def P (x t : Addr) (V : Cell) (cd : Int32) (n : Nat) (f : Nat → Int32) (z : Int32) (args : Array Value) (s : State) : Prop := args = #[.ref x] ∧ Txt x t V cd n f s ∧ StaticIs s "java/lang/String" "COMPACT_STRINGS" "Z" (.int z) ∧ ¬ z = 0
def E (n : Nat) (r : Option Value) (s u : State) : Prop := XT.PureE (some (.int (Int32.ofNat n))) r s u
/-- length() of a String of n chars, in either coding -/
theorem law (l : Launch) (x t : Addr) (V : Cell) (cd : Int32) (n : Nat) (f : Nat → Int32) (z : Int32) : Law l yN 1 0 1 13 yB 1 (some .int) site (P x t V cd n f z) (E n) [] 0 0 := by
  refine Law.of_walk (plainFor_of_name (by decide +kernel)) (by decide +kernel) (by decide +kernel) (by decide) (fun _ _ h => by rw [h.1]; rfl) (fun _ U U' hal hh h => ⟨h.1, h.2.1.mv hal hh, h.2.2.1.there hal hh, h.2.2.2⟩) (fun r U U' V V' h1 hal h2 h => XT.PureE.mv r U U' V V' h1 hal h2 h) ?_
  intro p e s m args below meth c s₁ X0 hexec hbytes hml hret hlk hnm hown hh0 W hP
  obtain ⟨rfl, hx, s1, hz⟩ := hP
  have v31 := hx.2.2.2.1.2.2.2
  have c1 : Steps p.tables e below (s₁.setTop (entryFrame m #[.ref x] 1)) (s₁.setTop (mkF m 1 #[.val (.ref x)] [.ref x])) := Steps.trans (entry rfl) (by
    show Steps p.tables e below (s₁.setTop (mkF m 0 #[.val (.ref x)] [])) _
    refine XS.aloadN X0.here hexec rfl (hb hbytes d0) rfl rfl ?_
    exact Steps.refl _)
  obtain ⟨T2, X2, q2, st2⟩ := X0.hget hexec hown (wk W (.fieldLink "java/lang/String" 9 "java/lang/String" "value" "[B")) (hx.mv X0.warmed.alike hh0).2.1 (g := (mkF m 1 #[.val (.ref x)] [.ref x])) rfl (rest := []) rfl (hb hbytes d1)
  have hh2 := q2.trans hh0
  have hx2 := hx.mv X2.warmed.alike hh2
  have c3 : Steps p.tables e below (s₁.setTop (entryFrame m #[.ref x] 1)) (T2.setTop (mkF m 6 #[.val (.ref x)] [.ref x, .int (Int32.ofNat V.slots.size)])) := (c1.trans (st2 _ (Steps.refl _))).trans (by
    refine X2.alen hexec hx2.2.2.2.1 rfl rfl (hb hbytes d4) ?_
    refine XS.aloadN X2.here hexec rfl (hb hbytes d5) rfl rfl ?_
    exact Steps.refl _)
  obtain ⟨v4, T4, X4, E4, g4⟩ := X2.callV hexec (Cdr.law l x cd z) hown (wks W (virtW "java/lang/String" 335 "java/lang/String" Cdr.yN Cdr.yN)) rfl (by decide) (wk W Cdr.tab) (W := 1) (Nat.le_of_ble_eq_true rfl) (Nat.le_of_ble_eq_true rfl) (Nat.le_refl _) (Nat.le_refl _) (hx2.1.fc X2.warmed.alike) hx2.1.is (g := (mkF m 6 #[.val (.ref x)] [.ref x, .int (Int32.ofNat V.slots.size)])) rfl (by rw [hml]; rfl) c3 (argsL := []) (rest := [.int (Int32.ofNat V.slots.size)]) rfl rfl (by show 2 * 0 + (1 + 0) ≤ _; decide) (hb hbytes d6) (⟨rfl, hx2.2.2.1, hx.2.2.2.2.1.cd, s1.there X2.warmed.alike hh2, hz⟩)
  obtain ⟨rfl, q4⟩ := E4
  have c5 : Steps p.tables e below (s₁.setTop (entryFrame m #[.ref x] 1)) (T4.setTop (mkF m 10 #[.val (.ref x)] [.int (Int32.ofNat V.slots.size >>> (cd &&& 31))])) := Steps.trans g4 (by
    refine ishr X4.here hexec rfl (hb hbytes d9) rfl ?_
    exact Steps.refl _)
  rw [hx.2.2.2.2.1.len v31] at c5
  exact ⟨T4, some (.int (Int32.ofNat n)), _, _, _, X4, rfl, rfl, rfl, (fun h => by cases h), ⟨rfl, q4.trans hh2⟩, fun fs hl => c5.trans (X4.ireturnOut hexec hret rfl (Or.inl rfl) (hb hbytes d10) hl)⟩
theorem pays {l : Launch} {R : Room} {p : Program} {e : Env} {below : List Frame} {s : State} {sargs : Array Value} {len W : Nat} (x t : Addr) (V : Cell) (cd : Int32) (n : Nat) (f : Nat → Int32) (z : Int32) (htab : tab.before sargs s = true) (hfr : 2 ≤ R.frames) (hlo : W + 25 ≤ R.locals) :
    Back l R p e below s sargs yN len W (fun A₁ a₁ => A₁.cells + 0 ≤ R.cells ∧ A₁.slots + 0 ≤ R.slots ∧ P x t V cd n f z a₁ A₁.U) (fun A₁ _ v₁ B₁ => E n v₁ A₁.U B₁.U ∧ B₁.locs = A₁.locs ++ [] ∧ B₁.cells = A₁.cells + 0 ∧ B₁.slots = A₁.slots + 0) :=
  (law l x t V cd n f z).pays htab hfr (by omega)
end Len
namespace IsL
def yN : MethodName := ⟨"java/lang/String", "isLatin1", "()Z"⟩
abbrev yB : ByteArray := jdk_42_method_154_code
theorem d0 : decode yB 0 = .ok (.getstatic 38, 3) := by decide +kernel
theorem d3 : decode yB 3 = .ok (.ifCond (.eq) 14, 3) := by decide +kernel
theorem d6 : decode yB 6 = .ok (.aload_n 0, 1) := by decide +kernel
theorem d7 : decode yB 7 = .ok (.getfield 15, 3) := by decide +kernel
theorem d10 : decode yB 10 = .ok (.ifCond (.ne) 7, 3) := by decide +kernel
theorem d13 : decode yB 13 = .ok (.iconst 1, 1) := by decide +kernel
theorem d14 : decode yB 14 = .ok (.goto 4, 3) := by decide +kernel
theorem d17 : decode yB 17 = .ok (.iconst 0, 1) := by decide +kernel
theorem d18 : decode yB 18 = .ok (.ireturn, 1) := by decide +kernel
def site : List Cond := [.fieldLink "java/lang/String" 38 "java/lang/String" "COMPACT_STRINGS" "Z", .fieldLink "java/lang/String" 15 "java/lang/String" "coder" "B"]
def tab : Cond := tabOf yN yB 1 (some .boolean) site
def P (x : Addr) (cd z : Int32) (args : Array Value) (s : State) : Prop := args = #[.ref x] ∧ Has x "java/lang/String" "coder" "B" (.int cd) s ∧ (cd = 0 ∨ cd = 1) ∧ StaticIs s "java/lang/String" "COMPACT_STRINGS" "Z" (.int z) ∧ ¬ z = 0
def E (cd : Int32) (r : Option Value) (s u : State) : Prop := XT.PureE (some (.int (1 - cd))) r s u
theorem law (l : Launch) (x : Addr) (cd z : Int32) : Law l yN 1 0 0 0 yB 1 (some .boolean) site (P x cd z) (E cd) [] 0 0 := by
  refine Law.of_walk (plainFor_of_name (by decide +kernel)) (by decide +kernel) (by decide +kernel) (by decide) (fun _ _ h => by rw [h.1]; rfl) (fun _ U U' hal hh h => ⟨h.1, h.2.1.mv hal hh, h.2.2.1, h.2.2.2.1.there hal hh, h.2.2.2.2⟩) (fun r U U' V V' h1 hal h2 h => XT.PureE.mv r U U' V V' h1 hal h2 h) ?_
  intro p e s m args below meth c s₁ X0 hexec hbytes hml hret hlk hnm hown hh0 W hP
  obtain ⟨rfl, hx, hc, s1, hz⟩ := hP
  have c1 : Steps p.tables e below (s₁.setTop (entryFrame m #[.ref x] 1)) (s₁.setTop (mkF m 0 #[.val (.ref x)] [])) := entry rfl
  obtain ⟨T2, X2, q2, st2⟩ := X0.sget hexec hown (wk W (.fieldLink "java/lang/String" 38 "java/lang/String" "COMPACT_STRINGS" "Z")) s1 (fun _ _ h => by rw [hh0]; exact h) (g := (mkF m 0 #[.val (.ref x)] [])) rfl (hb hbytes d0)
  have hh2 := q2.trans hh0
  have c3 : Steps p.tables e below (s₁.setTop (entryFrame m #[.ref x] 1)) (T2.setTop (mkF m 7 #[.val (.ref x)] [.ref x])) := (c1.trans (st2 _ (Steps.refl _))).trans (by
    refine XS.ifNo X2.here hexec rfl (hb hbytes d3) rfl (i0_eq_f hz) ?_
    refine XS.aloadN X2.here hexec rfl (hb hbytes d6) rfl rfl ?_
    exact Steps.refl _)
  obtain ⟨T4, X4, q4, st4⟩ := X2.hget hexec hown (wk W (.fieldLink "java/lang/String" 15 "java/lang/String" "coder" "B")) (hx.mv X2.warmed.alike hh2) (g := (mkF m 7 #[.val (.ref x)] [.ref x])) rfl (rest := []) rfl (hb hbytes d7)
  have c5 : Steps p.tables e below (s₁.setTop (entryFrame m #[.ref x] 1)) (T4.setTop (mkF m 10 #[.val (.ref x)] [.int cd])) := c3.trans (st4 _ (Steps.refl _))
  have c6 : Steps p.tables e below (s₁.setTop (entryFrame m #[.ref x] 1)) (T4.setTop (mkF m 18 #[.val (.ref x)] [.int (1 - cd)])) := by
    rcases hc with rfl | rfl
    · exact c5.trans (by
        refine XS.ifNo X4.here hexec rfl (hb hbytes d10) rfl (i0_ne_f rfl) ?_
        refine iconstV X4.here hexec rfl 1 (hb hbytes d13) (by decide) ?_
        refine XS.goto X4.here hexec rfl (pc0 := 14) rfl (hb hbytes d14) (by decide) rfl ?_
        exact Steps.refl _)
    · exact c5.trans (by
        refine XS.ifYes X4.here hexec rfl (pc0 := 10) rfl (hb hbytes d10) rfl (i0_ne_t (by decide)) (by decide) rfl ?_
        refine iconstV X4.here hexec rfl 0 (hb hbytes d17) (by decide) ?_
        exact Steps.refl _)
  exact ⟨T4, some (.int (1 - cd)), _, _, _, X4, rfl, rfl, rfl, (fun h => by cases h), ⟨rfl, q4.trans hh2⟩, fun fs hl => c6.trans (X4.ireturnOut hexec hret (by rcases hc with rfl | rfl <;> rfl) (Or.inr (Or.inl rfl)) (hb hbytes d18) hl)⟩
end IsL
namespace LChA
def yN : MethodName := ⟨"java/lang/StringLatin1", "charAt", "([BI)C"⟩
abbrev yB : ByteArray := jdk_43_method_2_code
theorem d0 : decode yB 0 = .ok (.iload_n 1, 1) := by decide +kernel
theorem d1 : decode yB 1 = .ok (.aload_n 0, 1) := by decide +kernel
theorem d2 : decode yB 2 = .ok (.arraylength, 1) := by decide +kernel
theorem d3 : decode yB 3 = .ok (.invokestatic 9, 3) := by decide +kernel
theorem d6 : decode yB 6 = .ok (.aload_n 0, 1) := by decide +kernel
theorem d7 : decode yB 7 = .ok (.iload_n 1, 1) := by decide +kernel
theorem d8 : decode yB 8 = .ok (.baload, 1) := by decide +kernel
theorem d9 : decode yB 9 = .ok (.sipush 255, 3) := by decide +kernel
theorem d12 : decode yB 12 = .ok (.iand, 1) := by decide +kernel
theorem d13 : decode yB 13 = .ok (.i2c, 1) := by decide +kernel
theorem d14 : decode yB 14 = .ok (.ireturn, 1) := by decide +kernel
def site : List Cond := [JO.Str_checkIndex.tab] ++ staticW "java/lang/StringLatin1" 9 JO.Str_checkIndex.yN
def tab : Cond := tabOf yN yB 2 (some .char) site
def P (t : Addr) (V : Cell) (i : Nat) (u : Int32) (fm : Value) (args : Array Value) (s : State) : Prop := args = #[.ref t, .int (Int32.ofNat i)] ∧ XT.Arr .byte t V s ∧ V.slots[i]? = some (.int u) ∧ (StaticIs s "jdk/internal/util/Preconditions" "SIOOBE_FORMATTER" "Ljava/util/function/BiFunction;" fm ∧ fm.isRef = true)
def E (u : Int32) (r : Option Value) (s w : State) : Prop := XT.PureE (some (.int (chr8 u))) r s w
theorem law (l : Launch) (t : Addr) (V : Cell) (i : Nat) (u : Int32) (fm : Value) : Law l yN 2 2 2 27 yB 2 (some .char) site (P t V i u fm) (E u) [] 0 0 := by
  refine Law.of_walk (plainFor_of_name (by decide +kernel)) (by decide +kernel) (by decide +kernel) (by decide) (fun _ _ h => by rw [h.1]; rfl) (fun _ U U' hal hh h => ⟨h.1, h.2.1.mv hal hh, h.2.2.1, h.2.2.2.1.there hal hh, h.2.2.2.2⟩) (fun r U U' V V' h1 hal h2 h => XT.PureE.mv r U U' V V' h1 hal h2 h) ?_
  intro p e s m args below meth c s₁ X0 hexec hbytes hml hret hlk hnm hown hh0 W hP
  obtain ⟨rfl, hV, hu, s1, rf⟩ := hP
  have v31 := hV.2.2.2
  have hi : i < V.slots.size := (Array.getElem?_eq_some_iff.mp hu).1
  have c1 : Steps p.tables e below (s₁.setTop (entryFrame m #[.ref t, .int (Int32.ofNat i)] 2)) (s₁.setTop (mkF m 0 #[.val (.ref t), .val (.int (Int32.ofNat i))] [])) := entry rfl
  have c2 : Steps p.tables e below (s₁.setTop (entryFrame m #[.ref t, .int (Int32.ofNat i)] 2)) (s₁.setTop (mkF m 3 #[.val (.ref t), .val (.int (Int32.ofNat i))] [.int (Int32.ofNat V.slots.size), .int (Int32.ofNat i)])) := c1.trans (by
    refine XS.iloadN X0.here hexec rfl (hb hbytes d0) rfl ?_
    refine XS.aloadN X0.here hexec rfl (hb hbytes d1) rfl rfl ?_
    refine X0.alen hexec (hV.mv X0.warmed.alike hh0) rfl rfl (hb hbytes d2) ?_
    exact Steps.refl _)
  obtain ⟨v3, T3, X3, E3, g3⟩ := X0.callS hexec (JO.Str_checkIndex.law l (Int32.ofNat i) (Int32.ofNat V.slots.size) fm) hown (wks W (staticW "java/lang/StringLatin1" 9 JO.Str_checkIndex.yN)) (wk W JO.Str_checkIndex.tab) (W := 0) (Nat.le_of_ble_eq_true rfl) (Nat.le_of_ble_eq_true rfl) (Nat.le_refl _) (Nat.le_refl _) (g := (mkF m 3 #[.val (.ref t), .val (.int (Int32.ofNat i))] [.int (Int32.ofNat V.slots.size), .int (Int32.ofNat i)])) rfl (by rw [hml]; rfl) c2 (argsL := [.int (Int32.ofNat i), .int (Int32.ofNat V.slots.size)]) (rest := []) rfl rfl (by show 2 * 0 + 0 ≤ _; decide) (hb hbytes d3) (⟨rfl, rf, s1.there X0.warmed.alike hh0, Int32.ofNat_not_neg (by omega), lt32 v31 hi⟩)
  obtain ⟨rfl, q3⟩ := E3
  have hh3 := q3.trans hh0
  have c4 : Steps p.tables e below (s₁.setTop (entryFrame m #[.ref t, .int (Int32.ofNat i)] 2)) (T3.setTop (mkF m 14 #[.val (.ref t), .val (.int (Int32.ofNat i))] [.int (chr8 u)])) := Steps.trans g3 (by
    refine XS.aloadN X3.here hexec rfl (hb hbytes d6) rfl rfl ?_
    refine XS.iloadN X3.here hexec rfl (hb hbytes d7) rfl ?_
    refine X3.aget hexec (hV.mv X3.warmed.alike hh3) rfl hu rfl rfl (hb hbytes d8) ?_
    refine sipushV X3.here hexec rfl 255 (hb hbytes d9) (by decide) ?_
    refine XS.iand X3.here hexec rfl (hb hbytes d12) rfl ?_
    refine i2c X3.here hexec rfl (hb hbytes d13) rfl ?_
    exact Steps.refl _)
  exact ⟨T3, some (.int (chr8 u)), _, _, _, X3, rfl, rfl, rfl, (fun h => by cases h), ⟨rfl, hh3⟩, fun fs hl => c4.trans (X3.ireturnOut hexec hret (narrow_c _) (Or.inr (Or.inr (Or.inr (Or.inl rfl)))) (hb hbytes d14) hl)⟩
end LChA
end StrChars
namespace StrChars.Road
open Jvm Sem ClassFile Op Lib Jvm.Stand Jvm.Free Jvm.Free.XT
open Jvm.Lib.Cold (StaticIs)
theorem consq {a : Array Value} {s : State} {c : Jvm.Cond} {L : List Jvm.Cond} (h0 : c.before a s = true) (h : ∀ w ∈ L, w.before a s = true) : ∀ w ∈ c :: L, w.before a s = true := fun w hw => (List.mem_cons.mp hw).elim (fun e => e ▸ h0) (h w)
/-- the words of String.length(), either coding -/
abbrev wordsLen : List Jvm.Cond := [.code Len.yN Len.yB 1 (some .int), .initialized ST, .fieldLink ST 9 ST "value" "[B", .fieldLink ST 38 ST "COMPACT_STRINGS" "Z", .fieldLink ST 15 ST "coder" "B", .code Cdr.yN Cdr.yB 1 (some .byte), .methodLink ST 335 Cdr.yN, .declares Cdr.yN, .selects ST Cdr.yN Cdr.yN, .instanceMethod Cdr.yN]
theorem tabLen_of {a : Array Value} {s : State} (h : ∀ w ∈ wordsLen, w.before a s = true) : Len.tab.before a s = true := by
  have hc : Cdr.tab.before a s = true := unparts (wk h (.code Cdr.yN Cdr.yB 1 (some .byte))) (wks h (.initialized Cdr.yN.cls :: Cdr.site))
  have q := consq hc h
  exact unparts (wk q (.code Len.yN Len.yB 1 (some .int))) (wks q (.initialized Len.yN.cls :: Len.site))
theorem movedLen {Z s : State} {a0 args : Array Value} (hZ : Z.Warmed39 s.vm) (hw : ∀ d ∈ wordsLen, d.before a0 Z = true) : ∀ d ∈ wordsLen, d.before args s = true := fun d hd => by
  have q := hw d hd
  have t : ∀ d ∈ wordsLen, d = .arrayClass .byte ∨ (d.onTables && d.keepsFace) = true := by decide +kernel
  rcases t d hd with rfl | t
  · exact RoadKit.mvA hZ q
  · exact RoadKit.mv hZ q t
/-- the bytes of the chars cs, low before high -/
def wideBytes : List Int32 → List Value
  | [] => []
  | c :: cs => .int (lo8 c) :: .int (hi8 c) :: wideBytes cs
theorem wide_lo (d : Value) : ∀ (cs : List Int32) (j : Nat), j < cs.length → (wideBytes cs).getD (2 * j) d = .int (lo8 (cs.getD j 0))
  | [], j, h => absurd h (Nat.not_lt_zero j)
  | c :: cs, 0, _ => rfl
  | c :: cs, j + 1, h => by
    have q := wide_lo d cs j (by simpa using h)
    rw [show 2 * (j + 1) = 2 * j + 1 + 1 from by omega]
    simpa [wideBytes] using q
theorem wide_hi (d : Value) : ∀ (cs : List Int32) (j : Nat), j < cs.length → (wideBytes cs).getD (2 * j + 1) d = .int (hi8 (cs.getD j 0))
  | [], j, h => absurd h (Nat.not_lt_zero j)
  | c :: cs, 0, _ => rfl
  | c :: cs, j + 1, h => by
    have q := wide_hi d cs j (by simpa using h)
    rw [show 2 * (j + 1) + 1 = 2 * j + 1 + 1 + 1 from by omega]
    simpa [wideBytes] using q
theorem low_at (d : Value) (cs : List Int32) (j : Nat) (h : j < cs.length) : (cs.map fun c => Value.int (lo8 c)).getD j d = .int (lo8 (cs.getD j 0)) := by
  simp [List.getD_eq_getElem?_getD, h]
/-- an array of N2 bytes vs codes the chars cs by the coder cd -/
def CodA (cs : List Int32) (cd N2 : Int32) (vs : List Value) : Prop := (cd = 0 ∧ N2 = Int32.ofNat cs.length ∧ vs = (cs.map fun c => Value.int (lo8 c)) ∧ ∀ c ∈ cs, ¬ 255 < c) ∨ (cd = 1 ∧ N2 = Int32.ofNat (2 * cs.length) ∧ vs = wideBytes cs ∧ ∃ c ∈ cs, 255 < c)
theorem CodA.cod {cs : List Int32} {cd N2 : Int32} {vs : List Value} {V : Cell} (h : CodA cs cd N2 vs) (hn : 2 * cs.length < 2 ^ 31) (hs : V.slots.size = N2.toNatClampNeg) (hv : RoadKit.Has V vs (.int 0)) : Cod cd cs.length (fun j => cs.getD j 0) V := by
  rcases h with ⟨rfl, rfl, rfl, h⟩ | ⟨rfl, rfl, rfl, c, hc, hw⟩
  · rw [n32 (by omega)] at hs
    exact Or.inl ⟨rfl, hs, fun j hj => ⟨by rw [hv j (by omega), low_at _ _ _ hj], by
      have e : cs.getD j 0 = cs[j] := by simp [List.getD_eq_getElem?_getD, hj]
      show ¬ 255 < cs.getD j 0
      rw [e]; exact h _ (List.getElem_mem _)⟩⟩
  · rw [n32 (by omega)] at hs
    obtain ⟨j, hj, rfl⟩ := List.getElem_of_mem hc
    exact Or.inr ⟨rfl, hs, fun j hj => ⟨by rw [hv _ (by omega), wide_lo _ _ _ hj], by rw [hv _ (by omega), wide_hi _ _ _ hj]⟩, j, hj, by
      have e : cs.getD j 0 = cs[j] := by simp [List.getD_eq_getElem?_getD, hj]
      show 255 < cs.getD j 0
      rw [e]; exact hw⟩
/-- an object of exactly java/lang/String, its two fields found: as the laws ask it -/
theorem strObj {Z U : State} {a0 : Array Value} {kI : Nat} (wi : (Jvm.Cond.instantiable ST kI).before a0 Z = true) (al : Z.vm.Alike U.vm) {x : Addr} {v0 c0 : Value} (E : RoadKit.Exa Z U.heap x ST) (V : RoadKit.Fld Z U.heap x ST "value" "[B" v0) (C : RoadKit.Fld Z U.heap x ST "coder" "B" c0) :
    ∃ (D : Cell) (fV fC : Field), Blank ST x D U ∧ Found ST "value" "[B" fV U ∧ Found ST "coder" "B" fC U ∧ D.slots[fV.slot]? = some v0 ∧ D.slots[fC.slot]? = some c0 ∧ RoadKit.slotOf Z ST "value" "[B" = fV.slot ∧ RoadKit.slotOf Z ST "coder" "B" = fC.slot := by
  obtain ⟨D, cfV, kV, iV, fV, hD, gV, stV, knV, obV, asV, slV⟩ := V
  obtain ⟨D', cfC, kC, iC, fC, hD', gC, stC, -, -, asC, slC⟩ := C
  cases hD.symm.trans hD'
  obtain ⟨D2, kD, e1, e2, e3, e4, e5⟩ := E
  cases hD.symm.trans e1
  obtain ⟨c2, k2, i1, i2, i3, -⟩ := Cond.instantiable_spec wi
  cases e2.symm.trans i1
  cases e3.symm.trans i2
  obtain ⟨kU, u1, u2⟩ := al.2.2 _ _ e3
  exact ⟨D, fV, fC, ⟨hD, ⟨knV, fun q hq => by rw [hq] at obV; cases obV⟩, by rw [al.findClass]; exact e2, kU, u1, by rw [u2]; exact i3, by rw [u2]; exact e5 i3⟩, ⟨SBG.found_only al ⟨cfV, kV, iV, gV⟩, stV⟩, ⟨SBG.found_only al ⟨cfC, kC, iC, gC⟩, stC⟩, slV, slC, by simp [RoadKit.slotOf, gV], by simp [RoadKit.slotOf, gC]⟩
theorem sta_is {Z U : State} (al : Z.vm.Alike U.vm) {C n d : String} {v : Value} (S : RoadKit.Sta Z U.heap C n d v) : StaticIs U C n d v := by
  obtain ⟨cfS, iS, kS, fS, st, cS, t1, t2, t3, t4, t5, t6, t7⟩ := S
  exact StaticIs.there (s := { Z with heap := U.heap }) ⟨cfS, iS, kS, fS, st, cS, t1, t2, t3, t4, t5, (fun q => by rw [q] at t6; cases t6), t7⟩ al rfl
/-- **length() OF SUCH A STRING** -/
theorem lenW {p : Program} {l : Launch} {e : Env} {R : Room} {s : State} {args : Array Value} {below : List Frame} {len W : Nat} {Z : State} {a0 : Array Value} {h : Heap} (hZ : Z.Warmed39 s.vm) (hw : ∀ d ∈ wordsLen, d.before a0 Z = true) {kI : Nat} (wi : (Jvm.Cond.instantiable ST kI).before a0 Z = true)
    {x t : Addr} {kb : ClassId} {cs : List Int32} {cd N2 z : Int32} {vs : List Value} (E : RoadKit.Exa Z h x ST) (V : RoadKit.Fld Z h x ST "value" "[B" (.ref t)) (C : RoadKit.Fld Z h x ST "coder" "B" (.int cd)) (K : RoadKit.Arv Z h t kb .byte N2 vs (.int 0)) (hc : CodA cs cd N2 vs) (hb : ∀ c ∈ cs, ¬ c < 0 ∧ ¬ (65535 : Int32) < c)
    (S : RoadKit.Sta Z h ST "COMPACT_STRINGS" "Z" (.int z)) (hz : ¬ z = 0) (l2 : cs.length ≤ 4000) (hfr : 2 ≤ R.frames) (hlo : W + 25 ≤ R.locals) :
    Back l R p e below s args (⟨"java/lang/String", "length", "()I"⟩ : MethodName) len W (fun P a => a = #[.ref x] ∧ P.U.heap = h ∧ P.cells + 0 ≤ R.cells ∧ P.slots + 0 ≤ R.slots)
      (fun P _ v B => ∃ L, (v = some (.int (Int32.ofNat cs.length)) ∧ L = [] ∧ B.U.heap = h) ∧ B.locs = P.locs ++ L ∧ B.cells = P.cells + 0 ∧ B.slots = P.slots + 0) := by
  obtain ⟨A, K1, K2, K3, K4, K5, K6⟩ := K
  have hcod := hc.cod (by omega) K3 K5
  intro m meth c P g ig mk a X hg hsize hdg hW hn hp'
  obtain ⟨rfl, rfl, r1, r2⟩ := hp'
  have al : Z.vm.Alike P.U.vm := hZ.alike.trans X.warmed.alike
  obtain ⟨D, fV, fC, hB, F1, F2, g1, g2, -, -⟩ := strObj wi al E V C
  have hx : Txt x t A cd cs.length (fun j => cs.getD j 0) P.U := ⟨⟨_, hB.2.2.1, D, hB.1, rfl, by cases q : D.vm <;> first | rfl | exact absurd q (hB.2.1.2 _)⟩, Has.of hB F1 g1, Has.of hB F2 g2, ⟨K1.1, State.isArrayOf_alike al K1.2.1, K1.2.2, by rcases hcod with ⟨-, q, -⟩ | ⟨-, q, -⟩ <;> omega⟩, hcod, fun j hj => by
    have e : cs.getD j 0 = cs[j] := by simp [List.getD_eq_getElem?_getD, hj]
    show ¬ cs.getD j 0 < 0 ∧ ¬ 65535 < cs.getD j 0
    rw [e]; exact hb _ (List.getElem_mem _)⟩
  obtain ⟨v, B, X', ⟨⟨hv, hh⟩, hl, hk, hs⟩, st⟩ := Len.pays x t A cd cs.length (fun j => cs.getD j 0) z (tabLen_of (movedLen hZ hw)) hfr hlo m meth c P g ig mk _ X hg hsize hdg hW hn ⟨r1, r2, rfl, hx, sta_is al S, hz⟩
  exact ⟨v, B, X', ⟨[], ⟨hv, rfl, hh⟩, hl, hk, hs⟩, st⟩
end StrChars.Road
namespace StrChars
open Jvm Sem ClassFile Op Lib Jvm.Stand Jvm.Free.XT Jvm.Free.ALB Jvm.Free.JM Jvm.Free
open Jvm.Lib.Cold (StaticIs)
namespace Emp
def yN : MethodName := ⟨"java/lang/String", "isEmpty", "()Z"⟩
abbrev yB : ByteArray := jdk_42_method_55_code
theorem d0 : decode yB 0 = .ok (.aload_n 0, 1) := by decide +kernel
theorem d1 : decode yB 1 = .ok (.getfield 9, 3) := by decide +kernel
theorem d4 : decode yB 4 = .ok (.arraylength, 1) := by decide +kernel
theorem d5 : decode yB 5 = .ok (.ifCond (.ne) 7, 3) := by decide +kernel
theorem d8 : decode yB 8 = .ok (.iconst 1, 1) := by decide +kernel
theorem d9 : decode yB 9 = .ok (.goto 4, 3) := by decide +kernel
theorem d12 : decode yB 12 = .ok (.iconst 0, 1) := by decide +kernel
theorem d13 : decode yB 13 = .ok (.ireturn, 1) := by decide +kernel
def site : List Cond := [.fieldLink "java/lang/String" 9 "java/lang/String" "value" "[B"]
def tab : Cond := tabOf yN yB 1 (some .boolean) site
def P (x t : Addr) (V : Cell) (cd : Int32) (n : Nat) (f : Nat → Int32) (args : Array Value) (s : State) : Prop := args = #[.ref x] ∧ Txt x t V cd n f s
def E (n : Nat) (r : Option Value) (s u : State) : Prop := XT.PureE (some (.int (if n = 0 then 1 else 0))) r s u
/-- isEmpty() of a String of n chars -/
theorem law (l : Launch) (x t : Addr) (V : Cell) (cd : Int32) (n : Nat) (f : Nat → Int32) : Law l yN 1 0 0 0 yB 1 (some .boolean) site (P x t V cd n f) (E n) [] 0 0 := by
  refine Law.of_walk (plainFor_of_name (by decide +kernel)) (by decide +kernel) (by decide +kernel) (by decide) (fun _ _ h => by rw [h.1]; rfl) (fun _ U U' hal hh h => ⟨h.1, h.2.mv hal hh⟩) (fun r U U' V V' h1 hal h2 h => XT.PureE.mv r U U' V V' h1 hal h2 h) ?_
  intro p e s m args below meth c s₁ X0 hexec hbytes hml hret hlk hnm hown hh0 W hP
  obtain ⟨rfl, hx⟩ := hP
  have v31 := hx.2.2.2.1.2.2.2
  have c1 : Steps p.tables e below (s₁.setTop (entryFrame m #[.ref x] 1)) (s₁.setTop (mkF m 1 #[.val (.ref x)] [.ref x])) := Steps.trans (entry rfl) (by
    show Steps p.tables e below (s₁.setTop (mkF m 0 #[.val (.ref x)] [])) _
    refine XS.aloadN X0.here hexec rfl (hb hbytes d0) rfl rfl ?_
    exact Steps.refl _)
  obtain ⟨T2, X2, q2, st2⟩ := X0.hget hexec hown (wk W (.fieldLink "java/lang/String" 9 "java/lang/String" "value" "[B")) (hx.mv X0.warmed.alike hh0).2.1 (g := (mkF m 1 #[.val (.ref x)] [.ref x])) rfl (rest := []) rfl (hb hbytes d1)
  have hh2 := q2.trans hh0
  have hx2 := hx.mv X2.warmed.alike hh2
  have c3 : Steps p.tables e below (s₁.setTop (entryFrame m #[.ref x] 1)) (T2.setTop (mkF m 5 #[.val (.ref x)] [.int (Int32.ofNat V.slots.size)])) := (c1.trans (st2 _ (Steps.refl _))).trans (by
    refine X2.alen hexec hx2.2.2.2.1 rfl rfl (hb hbytes d4) ?_
    exact Steps.refl _)
  have hz : V.slots.size = 0 ↔ n = 0 := by
    rcases hx.2.2.2.2.1 with ⟨-, q, -⟩ | ⟨-, q, -⟩ <;> omega
  by_cases h0 : n = 0
  · have c4 : Steps p.tables e below (s₁.setTop (entryFrame m #[.ref x] 1)) (T2.setTop (mkF m 13 #[.val (.ref x)] [.int 1])) := c3.trans (by
      refine XS.ifNo X2.here hexec rfl (hb hbytes d5) rfl (i0_ne_f (by rw [hz.mpr h0]; rfl)) ?_
      refine iconstV X2.here hexec rfl 1 (hb hbytes d8) (by decide) ?_
      refine XS.goto X2.here hexec rfl (pc0 := 9) rfl (hb hbytes d9) (by decide) rfl ?_
      exact Steps.refl _)
    exact ⟨T2, some (.int 1), _, _, _, X2, rfl, rfl, rfl, (fun h => by cases h), ⟨by rw [if_pos h0], hh2⟩, fun fs hl => c4.trans (X2.ireturnOut hexec hret rfl (Or.inr (Or.inl rfl)) (hb hbytes d13) hl)⟩
  · have c4 : Steps p.tables e below (s₁.setTop (entryFrame m #[.ref x] 1)) (T2.setTop (mkF m 13 #[.val (.ref x)] [.int 0])) := c3.trans (by
      refine XS.ifYes X2.here hexec rfl (pc0 := 5) rfl (hb hbytes d5) rfl (i0_ne_t (nz32 v31 (by omega))) (by decide) rfl ?_
      refine iconstV X2.here hexec rfl 0 (hb hbytes d12) (by decide) ?_
      exact Steps.refl _)
    exact ⟨T2, some (.int 0), _, _, _, X2, rfl, rfl, rfl, (fun h => by cases h), ⟨by rw [if_neg h0], hh2⟩, fun fs hl => c4.trans (X2.ireturnOut hexec hret rfl (Or.inr (Or.inl rfl)) (hb hbytes d13) hl)⟩
theorem pays {l : Launch} {R : Room} {p : Program} {e : Env} {below : List Frame} {s : State} {sargs : Array Value} {len W : Nat} (x t : Addr) (V : Cell) (cd : Int32) (n : Nat) (f : Nat → Int32) (htab : tab.before sargs s = true) (hfr : 1 ≤ R.frames) (hlo : W + 12 ≤ R.locals) :
    Back l R p e below s sargs yN len W (fun A₁ a₁ => A₁.cells + 0 ≤ R.cells ∧ A₁.slots + 0 ≤ R.slots ∧ P x t V cd n f a₁ A₁.U) (fun A₁ _ v₁ B₁ => E n v₁ A₁.U B₁.U ∧ B₁.locs = A₁.locs ++ [] ∧ B₁.cells = A₁.cells + 0 ∧ B₁.slots = A₁.slots + 0) :=
  (law l x t V cd n f).pays htab hfr (by omega)
end Emp
end StrChars
namespace StrChars.Road
open Jvm Sem ClassFile Op Lib Jvm.Stand Jvm.Free Jvm.Free.XT
open Jvm.Lib.Cold (StaticIs)
/-- the words of String.isEmpty() -/
abbrev wordsEmp : List Jvm.Cond := [.code Emp.yN Emp.yB 1 (some .boolean), .initialized ST, .fieldLink ST 9 ST "value" "[B"]
theorem tabEmp_of {a : Array Value} {s : State} (h : ∀ w ∈ wordsEmp, w.before a s = true) : Emp.tab.before a s = true := unparts (wk h (.code Emp.yN Emp.yB 1 (some .boolean))) (wks h (.initialized Emp.yN.cls :: Emp.site))
theorem movedEmp {Z s : State} {a0 args : Array Value} (hZ : Z.Warmed39 s.vm) (hw : ∀ d ∈ wordsEmp, d.before a0 Z = true) : ∀ d ∈ wordsEmp, d.before args s = true := fun d hd => by
  have t : ∀ d ∈ wordsEmp, (d.onTables && d.keepsFace) = true := by decide +kernel
  exact RoadKit.mv hZ (hw d hd) (t d hd)
/-- the road's facts of a String, as the laws ask it -/
theorem txt_of {Z U : State} {a0 : Array Value} {kI : Nat} (wi : (Jvm.Cond.instantiable ST kI).before a0 Z = true) (al : Z.vm.Alike U.vm) {x t : Addr} {kb : ClassId} {cs : List Int32} {cd N2 : Int32} {vs : List Value} (E : RoadKit.Exa Z U.heap x ST) (V : RoadKit.Fld Z U.heap x ST "value" "[B" (.ref t)) (C : RoadKit.Fld Z U.heap x ST "coder" "B" (.int cd)) (K : RoadKit.Arv Z U.heap t kb .byte N2 vs (.int 0)) (hc : CodA cs cd N2 vs) (hb : ∀ c ∈ cs, ¬ c < 0 ∧ ¬ (65535 : Int32) < c) (l2 : cs.length ≤ 4000) :
    ∃ A, Txt x t A cd cs.length (fun j => cs.getD j 0) U := by
  obtain ⟨A, K1, K2, K3, K4, K5, K6⟩ := K
  have hcod := hc.cod (by omega) K3 K5
  obtain ⟨D, fV, fC, hB, F1, F2, g1, g2, -, -⟩ := strObj wi al E V C
  exact ⟨A, ⟨_, hB.2.2.1, D, hB.1, rfl, by cases q : D.vm <;> first | rfl | exact absurd q (hB.2.1.2 _)⟩, Has.of hB F1 g1, Has.of hB F2 g2, ⟨K1.1, State.isArrayOf_alike al K1.2.1, K1.2.2, by rcases hcod with ⟨-, q, -⟩ | ⟨-, q, -⟩ <;> omega⟩, hcod, fun j hj => by
    have e : cs.getD j 0 = cs[j] := by simp [List.getD_eq_getElem?_getD, hj]
    show ¬ cs.getD j 0 < 0 ∧ ¬ 65535 < cs.getD j 0
    rw [e]; exact hb _ (List.getElem_mem _)⟩
/-- **isEmpty() OF SUCH A STRING** -/
theorem empW {p : Program} {l : Launch} {e : Env} {R : Room} {s : State} {args : Array Value} {below : List Frame} {len W : Nat} {Z : State} {a0 : Array Value} {h : Heap} (hZ : Z.Warmed39 s.vm) (hw : ∀ d ∈ wordsEmp, d.before a0 Z = true) {kI : Nat} (wi : (Jvm.Cond.instantiable ST kI).before a0 Z = true)
    {x t : Addr} {kb : ClassId} {cs : List Int32} {cd N2 : Int32} {vs : List Value} (E : RoadKit.Exa Z h x ST) (V : RoadKit.Fld Z h x ST "value" "[B" (.ref t)) (C : RoadKit.Fld Z h x ST "coder" "B" (.int cd)) (K : RoadKit.Arv Z h t kb .byte N2 vs (.int 0)) (hc : CodA cs cd N2 vs) (hb : ∀ c ∈ cs, ¬ c < 0 ∧ ¬ (65535 : Int32) < c) (l2 : cs.length ≤ 4000) (hfr : 1 ≤ R.frames) (hlo : W + 12 ≤ R.locals) :
    Back l R p e below s args (⟨"java/lang/String", "isEmpty", "()Z"⟩ : MethodName) len W (fun P a => a = #[.ref x] ∧ P.U.heap = h ∧ P.cells + 0 ≤ R.cells ∧ P.slots + 0 ≤ R.slots)
      (fun P _ v B => ∃ L, (v = some (.int (if cs.length = 0 then 1 else 0)) ∧ L = [] ∧ B.U.heap = h) ∧ B.locs = P.locs ++ L ∧ B.cells = P.cells + 0 ∧ B.slots = P.slots + 0) := by
  intro m meth c P g ig mk a X hg hsize hdg hW hn hp'
  obtain ⟨rfl, rfl, r1, r2⟩ := hp'
  have al : Z.vm.Alike P.U.vm := hZ.alike.trans X.warmed.alike
  obtain ⟨A, hx⟩ := txt_of wi al E V C K hc hb l2
  obtain ⟨v, B, X', ⟨⟨hv, hh⟩, hl, hk, hs⟩, st⟩ := Emp.pays x t A cd cs.length (fun j => cs.getD j 0) (tabEmp_of (movedEmp hZ hw)) hfr hlo m meth c P g ig mk _ X hg hsize hdg hW hn ⟨r1, r2, rfl, hx⟩
  exact ⟨v, B, X', ⟨[], ⟨hv, rfl, hh⟩, hl, hk, hs⟩, st⟩
end StrChars.Road
namespace StrChars
open Jvm Sem ClassFile Op Lib Jvm.Stand Jvm.Free.XT Jvm.Free.ALB Jvm.Free.JM Jvm.Free
open Jvm.Lib.Cold (StaticIs)
namespace ChN
def yN : MethodName := ⟨"java/lang/String", "charAt", "(I)C"⟩
abbrev yB : ByteArray := jdk_42_method_56_code
theorem d0 : decode yB 0 = .ok (.aload_n 0, 1) := by decide +kernel
theorem d1 : decode yB 1 = .ok (.invokevirtual 492, 3) := by decide +kernel
theorem d4 : decode yB 4 = .ok (.ifCond (.eq) 12, 3) := by decide +kernel
theorem d7 : decode yB 7 = .ok (.aload_n 0, 1) := by decide +kernel
theorem d8 : decode yB 8 = .ok (.getfield 9, 3) := by decide +kernel
theorem d11 : decode yB 11 = .ok (.iload_n 1, 1) := by decide +kernel
theorem d12 : decode yB 12 = .ok (.invokestatic 495, 3) := by decide +kernel
theorem d15 : decode yB 15 = .ok (.ireturn, 1) := by decide +kernel
def site : List Cond := [.fieldLink "java/lang/String" 9 "java/lang/String" "value" "[B", IsL.tab, LChA.tab] ++ virtW "java/lang/String" 492 "java/lang/String" IsL.yN IsL.yN ++ staticW "java/lang/String" 495 LChA.yN
def tab : Cond := tabOf yN yB 2 (some .char) site
def P (x t : Addr) (V : Cell) (n : Nat) (f : Nat → Int32) (z : Int32) (fm : Value) (i : Nat) (args : Array Value) (s : State) : Prop := args = #[.ref x, .int (Int32.ofNat i)] ∧ Txt x t V 0 n f s ∧ i < n ∧ StaticIs s "java/lang/String" "COMPACT_STRINGS" "Z" (.int z) ∧ ¬ z = 0 ∧ StaticIs s "jdk/internal/util/Preconditions" "SIOOBE_FORMATTER" "Ljava/util/function/BiFunction;" fm ∧ fm.isRef = true
def E (f : Nat → Int32) (i : Nat) (r : Option Value) (s u : State) : Prop := XT.PureE (some (.int (f i))) r s u
/-- charAt(i) of a Latin-1 String of n chars, i < n: f i -/
theorem law (l : Launch) (x t : Addr) (V : Cell) (n : Nat) (f : Nat → Int32) (z : Int32) (fm : Value) (i : Nat) : Law l yN 2 1 3 40 yB 2 (some .char) site (P x t V n f z fm i) (E f i) [] 0 0 := by
  refine Law.of_walk (plainFor_of_name (by decide +kernel)) (by decide +kernel) (by decide +kernel) (by decide) (fun _ _ h => by rw [h.1]; rfl) (fun _ U U' hal hh h => ⟨h.1, h.2.1.mv hal hh, h.2.2.1, h.2.2.2.1.there hal hh, h.2.2.2.2.1, h.2.2.2.2.2.1.there hal hh, h.2.2.2.2.2.2⟩) (fun r U U' V V' h1 hal h2 h => XT.PureE.mv r U U' V V' h1 hal h2 h) ?_
  intro p e s m args below meth c s₁ X0 hexec hbytes hml hret hlk hnm hown hh0 W hP
  obtain ⟨rfl, hx, hi, s1, hz, s3, rf⟩ := hP
  have v31 := hx.2.2.2.1.2.2.2
  have hr := hx.2.2.2.2.2 i hi
  have hx0 := hx.mv X0.warmed.alike hh0
  have c1 : Steps p.tables e below (s₁.setTop (entryFrame m #[.ref x, .int (Int32.ofNat i)] 2)) (s₁.setTop (mkF m 1 #[.val (.ref x), .val (.int (Int32.ofNat i))] [.ref x])) := Steps.trans (entry rfl) (by
    show Steps p.tables e below (s₁.setTop (mkF m 0 #[.val (.ref x), .val (.int (Int32.ofNat i))] [])) _
    refine XS.aloadN X0.here hexec rfl (hb hbytes d0) rfl rfl ?_
    exact Steps.refl _)
  obtain ⟨v2, T2, X2, E2, g2⟩ := X0.callV hexec (IsL.law l x 0 z) hown (wks W (virtW "java/lang/String" 492 "java/lang/String" IsL.yN IsL.yN)) rfl (by decide) (wk W IsL.tab) (W := 0) (Nat.le_of_ble_eq_true rfl) (Nat.le_of_ble_eq_true rfl) (Nat.le_refl _) (Nat.le_refl _) (hx0.1.fc X0.warmed.alike) hx0.1.is (g := (mkF m 1 #[.val (.ref x), .val (.int (Int32.ofNat i))] [.ref x])) rfl (by rw [hml]; rfl) c1 (argsL := []) (rest := []) rfl rfl (by show 2 * 0 + 0 ≤ _; decide) (hb hbytes d1) (⟨rfl, hx0.2.2.1, hx.2.2.2.2.1.cd, s1.there X0.warmed.alike hh0, hz⟩)
  obtain ⟨rfl, q2⟩ := E2
  have hh2 := q2.trans hh0
  have hx2 := hx.mv X2.warmed.alike hh2
  obtain ⟨-, k1, k2⟩ | ⟨k0, -⟩ := hx.2.2.2.2.1
  · have c3 : Steps p.tables e below (s₁.setTop (entryFrame m #[.ref x, .int (Int32.ofNat i)] 2)) (T2.setTop (mkF m 8 #[.val (.ref x), .val (.int (Int32.ofNat i))] [.ref x])) := Steps.trans g2 (by
      refine XS.ifNo X2.here hexec rfl (hb hbytes d4) rfl (i0_eq_f (by decide)) ?_
      refine XS.aloadN X2.here hexec rfl (hb hbytes d7) rfl rfl ?_
      exact Steps.refl _)
    obtain ⟨T4, X4, q4, st4⟩ := X2.hget hexec hown (wk W (.fieldLink "java/lang/String" 9 "java/lang/String" "value" "[B")) hx2.2.1 (g := (mkF m 8 #[.val (.ref x), .val (.int (Int32.ofNat i))] [.ref x])) rfl (rest := []) rfl (hb hbytes d8)
    have hh4 := q4.trans hh2
    have c5 : Steps p.tables e below (s₁.setTop (entryFrame m #[.ref x, .int (Int32.ofNat i)] 2)) (T4.setTop (mkF m 12 #[.val (.ref x), .val (.int (Int32.ofNat i))] [.int (Int32.ofNat i), .ref t])) := (c3.trans (st4 _ (Steps.refl _))).trans (by
      refine XS.iloadN X4.here hexec rfl (hb hbytes d11) rfl ?_
      exact Steps.refl _)
    obtain ⟨v6, T6, X6, E6, g6⟩ := X4.callS hexec (LChA.law l t V i (lo8 (f i)) fm) hown (wks W (staticW "java/lang/String" 495 LChA.yN)) (wk W LChA.tab) (W := 0) (Nat.le_of_ble_eq_true rfl) (Nat.le_of_ble_eq_true rfl) (Nat.le_refl _) (Nat.le_refl _) (g := (mkF m 12 #[.val (.ref x), .val (.int (Int32.ofNat i))] [.int (Int32.ofNat i), .ref t])) rfl (by rw [hml]; rfl) c5 (argsL := [.ref t, .int (Int32.ofNat i)]) (rest := []) rfl rfl (by show 2 * 0 + 0 ≤ _; decide) (hb hbytes d12) (⟨rfl, hx.2.2.2.1.mv X4.warmed.alike hh4, (k2 i hi).1, s3.there X4.warmed.alike hh4, rf⟩)
    obtain ⟨rfl, q6⟩ := E6
    rw [chr8_lo8 hr.1 (k2 i hi).2] at g6
    exact ⟨T6, some (.int (f i)), _, _, _, X6, rfl, rfl, rfl, (fun h => by cases h), ⟨rfl, q6.trans hh4⟩, fun fs hl => Steps.trans g6 (X6.ireturnOut hexec hret (narrow_ch hr.1 hr.2) (Or.inr (Or.inr (Or.inr (Or.inl rfl)))) (hb hbytes d15) hl)⟩
  · exact absurd k0 (by decide)
theorem pays {l : Launch} {R : Room} {p : Program} {e : Env} {below : List Frame} {s : State} {sargs : Array Value} {len W : Nat} (x t : Addr) (V : Cell) (n : Nat) (f : Nat → Int32) (z : Int32) (fm : Value) (i : Nat) (htab : tab.before sargs s = true) (hfr : 4 ≤ R.frames) (hlo : W + 53 ≤ R.locals) :
    Back l R p e below s sargs yN len W (fun A₁ a₁ => A₁.cells + 0 ≤ R.cells ∧ A₁.slots + 0 ≤ R.slots ∧ P x t V n f z fm i a₁ A₁.U) (fun A₁ _ v₁ B₁ => E f i v₁ A₁.U B₁.U ∧ B₁.locs = A₁.locs ++ [] ∧ B₁.cells = A₁.cells + 0 ∧ B₁.slots = A₁.slots + 0) :=
  (law l x t V n f z fm i).pays htab hfr (by omega)
end ChN
end StrChars
namespace StrChars.Road
open Jvm Sem ClassFile Op Lib Jvm.Stand Jvm.Free Jvm.Free.XT
open Jvm.Lib.Cold (StaticIs)
/-- the words of String.charAt(int), the Latin-1 road alone -/
abbrev wordsChN : List Jvm.Cond := [.code ChN.yN ChN.yB 2 (some .char), .initialized ST, .fieldLink ST 9 ST "value" "[B", .fieldLink ST 38 ST "COMPACT_STRINGS" "Z", .fieldLink ST 15 ST "coder" "B", .code IsL.yN IsL.yB 1 (some .boolean), .methodLink ST 492 IsL.yN, .declares IsL.yN, .selects ST IsL.yN IsL.yN, .instanceMethod IsL.yN,
  .methodLink ST 495 LChA.yN, .static LChA.yN, .code LChA.yN LChA.yB 2 (some .char), .initialized "java/lang/StringLatin1", .methodLink "java/lang/StringLatin1" 9 JO.Str_checkIndex.yN, .static JO.Str_checkIndex.yN, .code JO.Str_checkIndex.yN JO.Str_checkIndex.yB 2 none,
  .fieldLink ST 1053 "jdk/internal/util/Preconditions" "SIOOBE_FORMATTER" "Ljava/util/function/BiFunction;", .methodLink ST 1059 JC.PreCheck.yN, .static JC.PreCheck.yN, .code JC.PreCheck.yN JC.PreCheck.yB 3 (some .int), .initialized "jdk/internal/util/Preconditions"]
theorem tabChN_of {a : Array Value} {s : State} (h : ∀ w ∈ wordsChN, w.before a s = true) : ChN.tab.before a s = true := by
  have hp : JC.PreCheck.tab.before a s = true := unparts (wk h (.code JC.PreCheck.yN JC.PreCheck.yB 3 (some .int))) (wks h (.initialized JC.PreCheck.yN.cls :: JC.PreCheck.site))
  have qk := consq hp h
  have hk : JO.Str_checkIndex.tab.before a s = true := unparts (wk qk (.code JO.Str_checkIndex.yN JO.Str_checkIndex.yB 2 none)) (wks qk (.initialized JO.Str_checkIndex.yN.cls :: JO.Str_checkIndex.site))
  have ql := consq hk h
  have hl : LChA.tab.before a s = true := unparts (wk ql (.code LChA.yN LChA.yB 2 (some .char))) (wks ql (.initialized LChA.yN.cls :: LChA.site))
  have hi : IsL.tab.before a s = true := unparts (wk h (.code IsL.yN IsL.yB 1 (some .boolean))) (wks h (.initialized IsL.yN.cls :: IsL.site))
  have q := consq hi (consq hl h)
  exact unparts (wk q (.code ChN.yN ChN.yB 2 (some .char))) (wks q (.initialized ChN.yN.cls :: ChN.site))
theorem movedChN {Z s : State} {a0 args : Array Value} (hZ : Z.Warmed39 s.vm) (hw : ∀ d ∈ wordsChN, d.before a0 Z = true) : ∀ d ∈ wordsChN, d.before args s = true := fun d hd => by
  have t : ∀ d ∈ wordsChN, (d.onTables && d.keepsFace) = true := by decide +kernel
  exact RoadKit.mv hZ (hw d hd) (t d hd)
/-- **charAt(i) OF A LATIN-1 STRING**, i < n: the char -/
theorem chN {p : Program} {l : Launch} {e : Env} {R : Room} {s : State} {args : Array Value} {below : List Frame} {len W : Nat} {Z : State} {a0 : Array Value} {h : Heap} (hZ : Z.Warmed39 s.vm) (hw : ∀ d ∈ wordsChN, d.before a0 Z = true) {kI : Nat} (wi : (Jvm.Cond.instantiable ST kI).before a0 Z = true)
    {x t : Addr} {kb : ClassId} {cs : List Int32} {N2 z : Int32} {vs : List Value} {fm : Value} {i : Nat} {j : Int32} (E : RoadKit.Exa Z h x ST) (V : RoadKit.Fld Z h x ST "value" "[B" (.ref t)) (C : RoadKit.Fld Z h x ST "coder" "B" (.int 0)) (K : RoadKit.Arv Z h t kb .byte N2 vs (.int 0)) (hc : CodA cs 0 N2 vs) (hb : ∀ c ∈ cs, ¬ c < 0 ∧ ¬ (65535 : Int32) < c)
    (S : RoadKit.Sta Z h ST "COMPACT_STRINGS" "Z" (.int z)) (hz : ¬ z = 0) (F : RoadKit.Sta Z h "jdk/internal/util/Preconditions" "SIOOBE_FORMATTER" "Ljava/util/function/BiFunction;" fm) (rf : fm.isRef = true) (l2 : cs.length ≤ 4000) (hi : i < cs.length) (hj : j = Int32.ofNat i) (hfr : 4 ≤ R.frames) (hlo : W + 53 ≤ R.locals) :
    Back l R p e below s args (⟨"java/lang/String", "charAt", "(I)C"⟩ : MethodName) len W (fun P a => a = #[.ref x, .int j] ∧ P.U.heap = h ∧ P.cells + 0 ≤ R.cells ∧ P.slots + 0 ≤ R.slots)
      (fun P _ v B => ∃ L, (v = some (.int (cs.getD i 0)) ∧ L = [] ∧ B.U.heap = h) ∧ B.locs = P.locs ++ L ∧ B.cells = P.cells + 0 ∧ B.slots = P.slots + 0) := by
  subst hj
  intro m meth c P g ig mk a X hg hsize hdg hW hn hp'
  obtain ⟨rfl, rfl, r1, r2⟩ := hp'
  have al : Z.vm.Alike P.U.vm := hZ.alike.trans X.warmed.alike
  obtain ⟨A, hx⟩ := txt_of wi al E V C K hc hb l2
  obtain ⟨v, B, X', ⟨⟨hv, hh⟩, hl, hk, hs⟩, st⟩ := ChN.pays x t A cs.length (fun j => cs.getD j 0) z fm i (tabChN_of (movedChN hZ hw)) hfr hlo m meth c P g ig mk _ X hg hsize hdg hW hn ⟨r1, r2, rfl, hx, hi, sta_is al S, hz, sta_is al F, rf⟩
  exact ⟨v, B, X', ⟨[], ⟨hv, rfl, hh⟩, hl, hk, hs⟩, st⟩
/-- what backV says of its String, as the contracts of this text ask it: cs's low bytes, coder 0 -/
theorem codOf {cs : List Int32} {n : Nat} (hn : cs.length = n) (hb : ∀ c ∈ cs, ¬ 255 < c) : CodA cs 0 (Int32.ofNat n) ((cs.map lo8).map Value.int) := Or.inl ⟨rfl, by rw [hn], by simp [List.map_map, Function.comp_def], hb⟩
end StrChars.Road
end Jvm.Pilot.@@N@@
namespace Jvm.Pilot.@@N@@
open Jvm Jvm.ClassFile Sem Op Lib Jvm.Free Jvm.Stand Jvm.LawKit Jvm.RoadKit Jvm.OwnKit Bundle Jvm.Pilot.@@N@@.Jvm.D
theorem own_up (cs : List Int32) (h : ∀ c ∈ cs, ¬ c < 0 ∧ ¬ (255 : Int32) < c) : ∀ c ∈ cs, ¬ c < 0 ∧ ¬ (65535 : Int32) < c := fun c hc => ⟨(h c hc).1, fun q => (h c hc).2 (by rw [Int32.lt_iff_toInt_lt] at q ⊢; have e1 : (65535 : Int32).toInt = 65535 := rfl; have e2 : (255 : Int32).toInt = 255 := rfl; omega)⟩
theorem own_toInt16 (x : Int32) : x.toUInt32.toUInt16.toUInt32.toInt32.toInt = x.toInt % 65536 := by
  have h : (x.toUInt32.toUInt16.toUInt32.toInt32).toBitVec.toNat = x.toBitVec.toNat % 65536 := by simp
  have h2 : (x.toUInt32.toUInt16.toUInt32.toInt32).toBitVec.toNat < 65536 := by rw [h]; exact Nat.mod_lt _ (by decide)
  have e1 : (x.toUInt32.toUInt16.toUInt32.toInt32).toInt = ((x.toUInt32.toUInt16.toUInt32.toInt32).toBitVec.toNat : Int) := by
    rw [← Int32.toInt_toBitVec, BitVec.toInt_eq_toNat_of_lt (by omega)]
  rw [e1, h, ← Int32.toInt_toBitVec, BitVec.toInt_eq_toNat_bmod, Int.bmod_def]
  split <;> omega
theorem own_nar {c : Int32} (h0 : ¬ c < 0) (h1 : ¬ (65535 : Int32) < c) : nar .char c = c := by
  have e0 : c.toUInt32.toUInt16.toUInt32.toInt32 = c := by
    apply Int32.toInt_inj.mp
    rw [own_toInt16]
    rw [Int32.lt_iff_toInt_lt] at h0 h1
    have z : (0 : Int32).toInt = 0 := rfl
    have y : (65535 : Int32).toInt = 65535 := rfl
    omega
  exact e0
theorem eq_v {args : Array Value} {first s : State} {o : Option Outcome} {idx : List Nat} {t : Term} {k z : Int32} (q : t.eval args first o idx s = some (.int z)) : (Jvm.Cond.eq t (.int k)).value args first o s idx = some (decide (z = k)) := by simp [Cond.value, Term.eval, q]
theorem own_hws {a0 : Array Value} {Z : State} (hw : ∀ d ∈ tables_1, d.before a0 Z = true) : ∀ d ∈ StrChars.Road.words, d.before a0 Z = true := fun d hd => hw d ((by decide +kernel : ∀ d ∈ StrChars.Road.words, d ∈ tables_1) d hd)
theorem own_hem {a0 : Array Value} {Z : State} (hw : ∀ d ∈ tables_1, d.before a0 Z = true) : ∀ d ∈ StrChars.Road.wordsEmp, d.before a0 Z = true := fun d hd => hw d ((by decide +kernel : ∀ d ∈ StrChars.Road.wordsEmp, d ∈ tables_1) d hd)
theorem own_hln {a0 : Array Value} {Z : State} (hw : ∀ d ∈ tables_1, d.before a0 Z = true) : ∀ d ∈ StrChars.Road.wordsLen, d.before a0 Z = true := fun d hd => hw d ((by decide +kernel : ∀ d ∈ StrChars.Road.wordsLen, d ∈ tables_1) d hd)
theorem own_hch {a0 : Array Value} {Z : State} (hw : ∀ d ∈ tables_1, d.before a0 Z = true) : ∀ d ∈ StrChars.Road.wordsChN, d.before a0 Z = true := fun d hd => hw d ((by decide +kernel : ∀ d ∈ StrChars.Road.wordsChN, d ∈ tables_1) d hd)
theorem own_wS0 {a0 : Array Value} {Z : State} (hw : ∀ d ∈ tables_1, d.before a0 Z = true) : ∀ d ∈ Bundle.stringAtoms, d.before a0 Z = true := fun d hd => hw d ((by decide +kernel : ∀ d ∈ Bundle.stringAtoms, d ∈ tables_1) d hd)
def own_dg (n p : Int64) : Int32 := ((48 : Int32) + (((n / p) - ((n / p) / (10 : Int64)) * (10 : Int64)).toInt32)).toUInt32.toUInt16.toUInt32.toInt32
theorem own_narI (x : Int32) : nar .char (x.toUInt32.toUInt16.toUInt32.toInt32) = x.toUInt32.toUInt16.toUInt32.toInt32 := by
  have h := own_toInt16 x
  have z : (0 : Int32).toInt = 0 := rfl
  have y : (65535 : Int32).toInt = 65535 := rfl
  refine own_nar ?_ ?_ <;> rw [Int32.lt_iff_toInt_lt, h] <;> omega
theorem own_dgv {n p : Int64} (hn : 0 ≤ n.toInt) (hp : 0 < p.toInt) : (own_dg n p).toInt = 48 + n.toInt / p.toInt % 10 := by
  have e10 : (10 : Int64).toInt = 10 := rfl
  have e48 : (48 : Int32).toInt = 48 := rfl
  have d1 : (n / p).toInt = n.toInt / p.toInt := by
    rw [Jvm.Kit.i64_div (by omega), Int.tdiv_eq_ediv_of_nonneg hn]
  have h0 : 0 ≤ n.toInt / p.toInt := Int.ediv_nonneg hn (by omega)
  have d2 : ((n / p) - ((n / p) / (10 : Int64)) * (10 : Int64)).toInt = n.toInt / p.toInt % 10 := by
    rw [Jvm.Kit.i64_rem_nonneg (by rw [d1]; exact h0), d1, e10]
  generalize n.toInt / p.toInt = q at *
  have d3 : (((n / p) - ((n / p) / (10 : Int64)) * (10 : Int64)).toInt32).toInt = q % 10 := by
    rw [Jvm.Kit.i32_of_i64 (by rw [d2]; omega) (by rw [d2]; omega), d2]
  unfold own_dg
  rw [own_toInt16, Jvm.Kit.i32_add (by rw [d3, e48]; omega) (by rw [d3, e48]; omega), d3, e48]
  omega
def own_pv (cs : List Int32) : Nat → Int
  | 0 => 0
  | i + 1 => own_pv cs i * 10 + ((cs.getD i 0).toInt - 48)
def own_Dig (cs : List Int32) : Prop := ∀ i, i < cs.length → 48 ≤ (cs.getD i 0).toInt ∧ (cs.getD i 0).toInt ≤ 57
theorem own_pv0 {cs : List Int32} (h : own_Dig cs) : ∀ i, i ≤ cs.length → 0 ≤ own_pv cs i
  | 0, _ => Int.le_refl _
  | i + 1, q => by
    have h1 := own_pv0 h i (by omega)
    have h2 := h i (by omega)
    show 0 ≤ own_pv cs i * 10 + ((cs.getD i 0).toInt - 48)
    omega
theorem own_pvle {cs : List Int32} (h : own_Dig cs) (i : Nat) : ∀ k, i + k ≤ cs.length → own_pv cs i ≤ own_pv cs (i + k)
  | 0, _ => Int.le_refl _
  | k + 1, q => by
    have h1 := own_pvle h i k (by omega)
    have h2 := h (i + k) (by omega)
    have h3 := own_pv0 h (i + k) (by omega)
    show own_pv cs i ≤ own_pv cs (i + k) * 10 + ((cs.getD (i + k) 0).toInt - 48)
    omega
def own_max (a b : Int64) : Int64 := if a < b then b else a
def own_min (a b : Int64) : Int64 := if b < a then b else a
theorem own_succ (i : Nat) : Int32.ofNat i + (1 : Int32) = Int32.ofNat (i + 1) := by rw [Int32.ofNat_add]; rfl
theorem own_ofNat {i : Nat} (h : i ≤ 4000) : (Int32.ofNat i).toInt = i := Int32.toInt_ofNat_small (by omega)
theorem own_lt {i n : Nat} (h : i < n) (hn : n ≤ 4000) : Int32.ofNat i < Int32.ofNat n := by rw [Int32.lt_iff_toInt_lt, own_ofNat (by omega), own_ofNat hn]; omega
theorem own_nlt {i n : Nat} (h : i = n) : ¬ Int32.ofNat i < Int32.ofNat n := by subst h; exact Int32.lt_irrefl
section Turn
variable {cs : List Int32} {i : Nat} {max : Int64}
theorem own_dig (h : own_Dig cs) (hi : i < cs.length) : (cs.getD i 0 - (48 : Int32)).toInt = (cs.getD i 0).toInt - 48 := by
  have := h i hi
  have e48 : (48 : Int32).toInt = 48 := rfl
  rw [Jvm.Kit.i32_sub (by omega) (by omega), e48]
theorem own_t1 (h : own_Dig cs) (hi : i < cs.length) : ¬ (cs.getD i 0 - (48 : Int32)) < (0 : Int32) := by
  have := h i hi
  have z : (0 : Int32).toInt = 0 := rfl
  rw [Int32.lt_iff_toInt_lt, own_dig h hi]; omega
theorem own_num (h : own_Dig cs) (hi : i ≤ cs.length) (hm : own_pv cs cs.length ≤ max.toInt) : (Int64.ofInt (own_pv cs i)).toInt = own_pv cs i := by
  have h1 := own_pv0 h i hi
  have h2 := own_pvle h i (cs.length - i) (by omega)
  rw [show i + (cs.length - i) = cs.length by omega] at h2
  have h3 := max.toInt_lt
  exact Int64.toInt_ofInt_of_le (by omega) (by omega)
theorem own_step (h : own_Dig cs) (hi : i < cs.length) (hm : own_pv cs cs.length ≤ max.toInt) : own_pv cs i * 10 + ((cs.getD i 0).toInt - 48) ≤ max.toInt := by
  have h2 := own_pvle h (i + 1) (cs.length - (i + 1)) (by omega)
  rw [show i + 1 + (cs.length - (i + 1)) = cs.length by omega] at h2
  have h3 : own_pv cs (i + 1) = own_pv cs i * 10 + ((cs.getD i 0).toInt - 48) := rfl
  omega
theorem own_t2 (h : own_Dig cs) (hi : i < cs.length) (hm : own_pv cs cs.length ≤ max.toInt) : ¬ (own_min (9 : Int64) max) < ((cs.getD i 0 - (48 : Int32)).toInt64) := by
  have h1 := h i hi
  have h2 := own_step h hi hm
  have h3 := own_pv0 h i (by omega)
  have e9 : (9 : Int64).toInt = 9 := rfl
  rw [Int64.lt_iff_toInt_lt, Int32.toInt_toInt64, own_dig h hi]
  unfold own_min
  split
  · omega
  · rw [e9]; omega
theorem own_t3 (h : own_Dig cs) (hi : i < cs.length) (hm : own_pv cs cs.length ≤ max.toInt) : ¬ ((max - ((cs.getD i 0 - (48 : Int32)).toInt64)) / (10 : Int64)) < (Int64.ofInt (own_pv cs i)) := by
  have h1 := h i hi
  have h2 := own_step h hi hm
  have h3 := own_pv0 h i (by omega)
  have h4 := max.toInt_lt
  have e10 : (10 : Int64).toInt = 10 := rfl
  have e1 : (max - ((cs.getD i 0 - (48 : Int32)).toInt64)).toInt = max.toInt - ((cs.getD i 0).toInt - 48) := by
    rw [Jvm.Kit.i64_sub, Int32.toInt_toInt64, own_dig h hi] <;> rw [Int32.toInt_toInt64, own_dig h hi] <;> omega
  rw [Int64.lt_iff_toInt_lt, own_num h (by omega) hm, Jvm.Kit.i64_div (by rw [e1, e10]; omega), e1, e10, Int.tdiv_eq_ediv_of_nonneg (by omega)]
  omega
theorem own_t4 (h : own_Dig cs) (hi : i < cs.length) (hm : own_pv cs cs.length ≤ max.toInt) : ((Int64.ofInt (own_pv cs i)) * (10 : Int64)) + ((cs.getD i 0 - (48 : Int32)).toInt64) = Int64.ofInt (own_pv cs (i + 1)) := by
  have h1 := h i hi
  have h2 := own_step h hi hm
  have h3 := own_pv0 h i (by omega)
  have h4 := max.toInt_lt
  have e10 : (10 : Int64).toInt = 10 := rfl
  apply Int64.toInt_inj.mp
  have em : ((Int64.ofInt (own_pv cs i)) * (10 : Int64)).toInt = own_pv cs i * 10 := by
    rw [Jvm.Kit.i64_mul, own_num h (by omega) hm, e10] <;> rw [own_num h (by omega) hm, e10] <;> omega
  have ed : ((cs.getD i 0 - (48 : Int32)).toInt64).toInt = (cs.getD i 0).toInt - 48 := by rw [Int32.toInt_toInt64, own_dig h hi]
  rw [own_num h (by omega) hm, Jvm.Kit.i64_add (by rw [em, ed]; omega) (by rw [em, ed]; omega), em, ed]
  rfl
end Turn
theorem pn_com_example_requeue_requeue_srmp_DecimalParsePinLaw : plainName "com/example/requeue/requeue/srmp/DecimalParsePinLaw" = true := by first | (simp [plainName, overriddenIn]; done) | decide +kernel
theorem d1_0 : decode method_2_code 0 = .ok (.bipush 48, 2) := by decide +kernel
theorem d1_2 : decode method_2_code 2 = .ok (.lload_n 0, 1) := by decide +kernel
theorem d1_3 : decode method_2_code 3 = .ok (.lload_n 2, 1) := by decide +kernel
theorem d1_4 : decode method_2_code 4 = .ok (.ldiv, 1) := by decide +kernel
theorem d1_5 : decode method_2_code 5 = .ok (.ldc2_w 7, 3) := by decide +kernel
theorem d1_8 : decode method_2_code 8 = .ok (.lrem, 1) := by decide +kernel
theorem d1_9 : decode method_2_code 9 = .ok (.l2i, 1) := by decide +kernel
theorem d1_10 : decode method_2_code 10 = .ok (.iadd, 1) := by decide +kernel
theorem d1_11 : decode method_2_code 11 = .ok (.i2c, 1) := by decide +kernel
theorem d1_12 : decode method_2_code 12 = .ok (.ireturn, 1) := by decide +kernel
set_option maxRecDepth 65536 in
set_option maxHeartbeats 40000000 in
theorem rmd (l : Launch) (Z : State) (a0 : Array Value) (hw : ∀ d ∈ tables_1, d.before a0 Z = true) (ws : List Jvm.Cond) (n pw : Int64) (h0 : Heap) (n0 : Nat) (Z0 : n0 ≤ h0.size) (hp : pw ≠ 0) :
    Ctr FrameEnd l Z (⟨"com/example/requeue/requeue/srmp/DecimalParsePinLaw", "d", "(JJ)C"⟩ : MethodName) method_2_code 4 (some .char) ws ({ frames := 0, cells := 0, slots := 0, locals := 0 } : Room) #[(.long n), (.long pw)] h0 TrueV (PureQ (some (.int (own_dg n pw))) h0) := by
  refine Ctr.intro (plainFor_of_name pn_com_example_requeue_requeue_srmp_DecimalParsePinLaw) (Ls := #[.val (.long n), .second, .val (.long pw), .second]) (fun m => by first | (simp [entryFrame, mkF, argsToLocals, Value.category]; done) | rfl) ?_
  intro p e s m below meth c T0 hx hby hml hown hnm hret hlk hZ hV hsh e0 X0
  have N0 := Fr.nil n0
  show Done _ p e below s _ _ (T0.setTop (mkF m 0 #[.val (.long n), .second, .val (.long pw), .second] []))
  refine Done.step (fun _ => XT.bipushV X0.here hx rfl (48 : Int32) (hb hby d1_0) (by decide)) ?_
  show Done _ p e below s _ _ (T0.setTop (mkF m 2 #[.val (.long n), .second, .val (.long pw), .second] [(.int (48 : Int32))]))
  refine Done.step (fun _ => XT.lloadN X0.here hx rfl (hb hby d1_2) rfl) ?_
  show Done _ p e below s _ _ (T0.setTop (mkF m 3 #[.val (.long n), .second, .val (.long pw), .second] [(.long n), (.int (48 : Int32))]))
  refine Done.step (fun _ => XT.lloadN X0.here hx rfl (hb hby d1_3) rfl) ?_
  show Done _ p e below s _ _ (T0.setTop (mkF m 4 #[.val (.long n), .second, .val (.long pw), .second] [(.long pw), (.long n), (.int (48 : Int32))]))
  refine Done.step (fun _ => XT.ldiv X0.here hx rfl (hb hby d1_4) rfl hp) ?_
  show Done _ p e below s _ _ (T0.setTop (mkF m 5 #[.val (.long n), .second, .val (.long pw), .second] [(.long (n / pw)), (.int (48 : Int32))]))
  refine Done.step (fun _ => Stand.ldc2J X0 hx hown (mvT hZ (wAt hw 1 rfl)) (g := (mkF m 5 #[.val (.long n), .second, .val (.long pw), .second] [(.long (n / pw)), (.int (48 : Int32))])) rfl (hb hby d1_5)) ?_
  show Done _ p e below s _ _ (T0.setTop (mkF m 8 #[.val (.long n), .second, .val (.long pw), .second] [(.long (10 : Int64)), (.long (n / pw)), (.int (48 : Int32))]))
  refine Done.step (fun _ => XT.lrem X0.here hx rfl (hb hby d1_8) rfl (by decide)) ?_
  show Done _ p e below s _ _ (T0.setTop (mkF m 9 #[.val (.long n), .second, .val (.long pw), .second] [(.long ((n / pw) - ((n / pw) / (10 : Int64)) * (10 : Int64))), (.int (48 : Int32))]))
  refine Done.step (fun _ => XT.l2i X0.here hx rfl (hb hby d1_9) rfl) ?_
  show Done _ p e below s _ _ (T0.setTop (mkF m 10 #[.val (.long n), .second, .val (.long pw), .second] [(.int (((n / pw) - ((n / pw) / (10 : Int64)) * (10 : Int64)).toInt32)), (.int (48 : Int32))]))
  refine Done.step (fun _ => XS.iadd X0.here hx rfl (hb hby d1_10) rfl) ?_
  show Done _ p e below s _ _ (T0.setTop (mkF m 11 #[.val (.long n), .second, .val (.long pw), .second] [(.int ((48 : Int32) + (((n / pw) - ((n / pw) / (10 : Int64)) * (10 : Int64)).toInt32)))]))
  refine Done.step (fun _ => XT.i2c X0.here hx rfl (hb hby d1_11) rfl) ?_
  show Done _ p e below s _ _ (T0.setTop (mkF m 12 #[.val (.long n), .second, .val (.long pw), .second] [(.int (((48 : Int32) + (((n / pw) - ((n / pw) / (10 : Int64)) * (10 : Int64)).toInt32)).toUInt32.toUInt16.toUInt32.toInt32))]))
  exact Done.retN (leavesF X0 hlk (by decide) (by decide)) X0 hx (t := .char) hret (by simp) (hb hby d1_12) ⟨by rw [own_narI]; rfl, e0, rfl⟩
theorem d8_0 : decode jdk_29_method_66_code 0 = .ok (.lload_n 0, 1) := by decide +kernel
theorem d8_1 : decode jdk_29_method_66_code 1 = .ok (.lload_n 2, 1) := by decide +kernel
theorem d8_2 : decode jdk_29_method_66_code 2 = .ok (.lcmp, 1) := by decide +kernel
theorem d8_3 : decode jdk_29_method_66_code 3 = .ok (.ifCond .lt 7, 3) := by decide +kernel
theorem d8_10 : decode jdk_29_method_66_code 10 = .ok (.lload_n 2, 1) := by decide +kernel
theorem d8_11 : decode jdk_29_method_66_code 11 = .ok (.lreturn, 1) := by decide +kernel
theorem d8_6 : decode jdk_29_method_66_code 6 = .ok (.lload_n 0, 1) := by decide +kernel
theorem d8_7 : decode jdk_29_method_66_code 7 = .ok (.goto 4, 3) := by decide +kernel
set_option maxRecDepth 65536 in
set_option maxHeartbeats 40000000 in
theorem rmMx (l : Launch) (Z : State) (a0 : Array Value) (hw : ∀ d ∈ tables_1, d.before a0 Z = true) (ws : List Jvm.Cond) (a b : Int64) (h0 : Heap) (n0 : Nat) (Z0 : n0 ≤ h0.size)  :
    Ctr FrameEnd l Z (⟨"java/lang/Math", "max", "(JJ)J"⟩ : MethodName) jdk_29_method_66_code 4 (some .long) ws ({ frames := 0, cells := 0, slots := 0, locals := 0 } : Room) #[(.long a), (.long b)] h0 TrueV (PureQ (some (.long (own_max a b))) h0) := by
  refine Ctr.intro (Jvm.Free.JP.mathPlain rfl (by decide +kernel)) (Ls := #[.val (.long a), .second, .val (.long b), .second]) (fun m => by first | (simp [entryFrame, mkF, argsToLocals, Value.category]; done) | rfl) ?_
  intro p e s m below meth c T0 hx hby hml hown hnm hret hlk hZ hV hsh e0 X0
  have N0 := Fr.nil n0
  show Done _ p e below s _ _ (T0.setTop (mkF m 0 #[.val (.long a), .second, .val (.long b), .second] []))
  refine Done.step (fun _ => XT.lloadN X0.here hx rfl (hb hby d8_0) rfl) ?_
  show Done _ p e below s _ _ (T0.setTop (mkF m 1 #[.val (.long a), .second, .val (.long b), .second] [(.long a)]))
  refine Done.step (fun _ => XT.lloadN X0.here hx rfl (hb hby d8_1) rfl) ?_
  show Done _ p e below s _ _ (T0.setTop (mkF m 2 #[.val (.long a), .second, .val (.long b), .second] [(.long b), (.long a)]))
  refine Done.step (fun _ => XT.lcmp X0.here hx rfl (hb hby d8_2) rfl) ?_
  show Done _ p e below s _ _ (T0.setTop (mkF m 3 #[.val (.long a), .second, .val (.long b), .second] [(.int (XT.cmpL a b))]))
  by_cases hc1 : a < b
  · refine Done.step (fun _ => XS.ifYes X0.here hx rfl (pc0 := 3) (pc' := 10) rfl (hb hby d8_3) rfl (XT.ll_lt_t hc1) (by decide) (by decide)) ?_
    show Done _ p e below s _ _ (T0.setTop (mkF m 10 #[.val (.long a), .second, .val (.long b), .second] []))
    refine Done.step (fun _ => XT.lloadN X0.here hx rfl (hb hby d8_10) rfl) ?_
    show Done _ p e below s _ _ (T0.setTop (mkF m 11 #[.val (.long a), .second, .val (.long b), .second] [(.long b)]))
    exact Done.retJ (leavesF X0 hlk (by decide) (by decide)) X0 hx hret (hb hby d8_11) ⟨by unfold own_max; rw [if_pos hc1], e0, rfl⟩
  · refine Done.step (fun _ => XS.ifNo X0.here hx rfl (hb hby d8_3) rfl (XT.ll_lt_f hc1)) ?_
    show Done _ p e below s _ _ (T0.setTop (mkF m 6 #[.val (.long a), .second, .val (.long b), .second] []))
    refine Done.step (fun _ => XT.lloadN X0.here hx rfl (hb hby d8_6) rfl) ?_
    show Done _ p e below s _ _ (T0.setTop (mkF m 7 #[.val (.long a), .second, .val (.long b), .second] [(.long a)]))
    refine Done.step (fun _ => XS.goto X0.here hx rfl (pc0 := 7) (pc' := 11) rfl (hb hby d8_7) (by decide) (by decide)) ?_
    show Done _ p e below s _ _ (T0.setTop (mkF m 11 #[.val (.long a), .second, .val (.long b), .second] [(.long a)]))
    exact Done.retJ (leavesF X0 hlk (by decide) (by decide)) X0 hx hret (hb hby d8_11) ⟨by unfold own_max; rw [if_neg hc1], e0, rfl⟩
theorem d18_0 : decode jdk_29_method_70_code 0 = .ok (.lload_n 0, 1) := by decide +kernel
theorem d18_1 : decode jdk_29_method_70_code 1 = .ok (.lload_n 2, 1) := by decide +kernel
theorem d18_2 : decode jdk_29_method_70_code 2 = .ok (.lcmp, 1) := by decide +kernel
theorem d18_3 : decode jdk_29_method_70_code 3 = .ok (.ifCond .gt 7, 3) := by decide +kernel
theorem d18_10 : decode jdk_29_method_70_code 10 = .ok (.lload_n 2, 1) := by decide +kernel
theorem d18_11 : decode jdk_29_method_70_code 11 = .ok (.lreturn, 1) := by decide +kernel
theorem d18_6 : decode jdk_29_method_70_code 6 = .ok (.lload_n 0, 1) := by decide +kernel
theorem d18_7 : decode jdk_29_method_70_code 7 = .ok (.goto 4, 3) := by decide +kernel
set_option maxRecDepth 65536 in
set_option maxHeartbeats 40000000 in
theorem rmMi (l : Launch) (Z : State) (a0 : Array Value) (hw : ∀ d ∈ tables_1, d.before a0 Z = true) (ws : List Jvm.Cond) (a b : Int64) (h0 : Heap) (n0 : Nat) (Z0 : n0 ≤ h0.size)  :
    Ctr FrameEnd l Z (⟨"java/lang/Math", "min", "(JJ)J"⟩ : MethodName) jdk_29_method_70_code 4 (some .long) ws ({ frames := 0, cells := 0, slots := 0, locals := 0 } : Room) #[(.long a), (.long b)] h0 TrueV (PureQ (some (.long (own_min a b))) h0) := by
  refine Ctr.intro (Jvm.Free.JP.mathPlain rfl (by decide +kernel)) (Ls := #[.val (.long a), .second, .val (.long b), .second]) (fun m => by first | (simp [entryFrame, mkF, argsToLocals, Value.category]; done) | rfl) ?_
  intro p e s m below meth c T0 hx hby hml hown hnm hret hlk hZ hV hsh e0 X0
  have N0 := Fr.nil n0
  show Done _ p e below s _ _ (T0.setTop (mkF m 0 #[.val (.long a), .second, .val (.long b), .second] []))
  refine Done.step (fun _ => XT.lloadN X0.here hx rfl (hb hby d18_0) rfl) ?_
  show Done _ p e below s _ _ (T0.setTop (mkF m 1 #[.val (.long a), .second, .val (.long b), .second] [(.long a)]))
  refine Done.step (fun _ => XT.lloadN X0.here hx rfl (hb hby d18_1) rfl) ?_
  show Done _ p e below s _ _ (T0.setTop (mkF m 2 #[.val (.long a), .second, .val (.long b), .second] [(.long b), (.long a)]))
  refine Done.step (fun _ => XT.lcmp X0.here hx rfl (hb hby d18_2) rfl) ?_
  show Done _ p e below s _ _ (T0.setTop (mkF m 3 #[.val (.long a), .second, .val (.long b), .second] [(.int (XT.cmpL a b))]))
  by_cases hc1 : b < a
  · refine Done.step (fun _ => XS.ifYes X0.here hx rfl (pc0 := 3) (pc' := 10) rfl (hb hby d18_3) rfl (XT.ll_gt_t hc1) (by decide) (by decide)) ?_
    show Done _ p e below s _ _ (T0.setTop (mkF m 10 #[.val (.long a), .second, .val (.long b), .second] []))
    refine Done.step (fun _ => XT.lloadN X0.here hx rfl (hb hby d18_10) rfl) ?_
    show Done _ p e below s _ _ (T0.setTop (mkF m 11 #[.val (.long a), .second, .val (.long b), .second] [(.long b)]))
    exact Done.retJ (leavesF X0 hlk (by decide) (by decide)) X0 hx hret (hb hby d18_11) ⟨by unfold own_min; rw [if_pos hc1], e0, rfl⟩
  · refine Done.step (fun _ => XS.ifNo X0.here hx rfl (hb hby d18_3) rfl (XT.ll_gt_f hc1)) ?_
    show Done _ p e below s _ _ (T0.setTop (mkF m 6 #[.val (.long a), .second, .val (.long b), .second] []))
    refine Done.step (fun _ => XT.lloadN X0.here hx rfl (hb hby d18_6) rfl) ?_
    show Done _ p e below s _ _ (T0.setTop (mkF m 7 #[.val (.long a), .second, .val (.long b), .second] [(.long a)]))
    refine Done.step (fun _ => XS.goto X0.here hx rfl (pc0 := 7) (pc' := 11) rfl (hb hby d18_7) (by decide) (by decide)) ?_
    show Done _ p e below s _ _ (T0.setTop (mkF m 11 #[.val (.long a), .second, .val (.long b), .second] [(.long a)]))
    exact Done.retJ (leavesF X0 hlk (by decide) (by decide)) X0 hx hret (hb hby d18_11) ⟨by unfold own_min; rw [if_neg hc1], e0, rfl⟩
theorem pn_com_example_requeue_requeue_srmp_Decimal : plainName "com/example/requeue/requeue/srmp/Decimal" = true := by first | (simp [plainName, overriddenIn]; done) | decide +kernel
theorem d9_0 : decode prog_40_method_2_code 0 = .ok (.lconst 0, 1) := by decide +kernel
theorem d9_1 : decode prog_40_method_2_code 1 = .ok (.lstore 4, 2) := by decide +kernel
theorem d9_3 : decode prog_40_method_2_code 3 = .ok (.aload_n 1, 1) := by decide +kernel
theorem d9_4 : decode prog_40_method_2_code 4 = .ok (.invokevirtual 7, 3) := by decide +kernel
theorem pd_0 : parseMethodDescriptor "()Z" = some ⟨[], some .boolean⟩ := by decide +kernel
theorem d9_7 : decode prog_40_method_2_code 7 = .ok (.ifCond .ne 7, 3) := by decide +kernel
theorem d9_10 : decode prog_40_method_2_code 10 = .ok (.iconst 1, 1) := by decide +kernel
theorem d9_11 : decode prog_40_method_2_code 11 = .ok (.goto 4, 3) := by decide +kernel
theorem d9_15 : decode prog_40_method_2_code 15 = .ok (.istore 6, 2) := by decide +kernel
theorem d9_17 : decode prog_40_method_2_code 17 = .ok (.iconst 0, 1) := by decide +kernel
theorem d9_18 : decode prog_40_method_2_code 18 = .ok (.istore 7, 2) := by decide +kernel
theorem d9_20 : decode prog_40_method_2_code 20 = .ok (.iload 6, 2) := by decide +kernel
theorem d9_22 : decode prog_40_method_2_code 22 = .ok (.ifCond .eq 82, 3) := by decide +kernel
theorem d9_25 : decode prog_40_method_2_code 25 = .ok (.iload 7, 2) := by decide +kernel
theorem d9_27 : decode prog_40_method_2_code 27 = .ok (.aload_n 1, 1) := by decide +kernel
theorem d9_28 : decode prog_40_method_2_code 28 = .ok (.invokevirtual 13, 3) := by decide +kernel
theorem pd_1 : parseMethodDescriptor "()I" = some ⟨[], some .int⟩ := by decide +kernel
theorem d9_31 : decode prog_40_method_2_code 31 = .ok (.if_icmp .ge 73, 3) := by decide +kernel
theorem d9_104 : decode prog_40_method_2_code 104 = .ok (.iload 6, 2) := by decide +kernel
theorem d9_106 : decode prog_40_method_2_code 106 = .ok (.ifCond .ne 19, 3) := by decide +kernel
theorem d9_125 : decode prog_40_method_2_code 125 = .ok (.lload 4, 2) := by decide +kernel
theorem d9_127 : decode prog_40_method_2_code 127 = .ok (.lreturn, 1) := by decide +kernel
theorem d9_34 : decode prog_40_method_2_code 34 = .ok (.aload_n 1, 1) := by decide +kernel
theorem d9_35 : decode prog_40_method_2_code 35 = .ok (.iload 7, 2) := by decide +kernel
theorem d9_37 : decode prog_40_method_2_code 37 = .ok (.invokevirtual 17, 3) := by decide +kernel
theorem pd_2 : parseMethodDescriptor "(I)C" = some ⟨[.int], some .char⟩ := by decide +kernel
theorem d9_40 : decode prog_40_method_2_code 40 = .ok (.bipush 48, 2) := by decide +kernel
theorem d9_42 : decode prog_40_method_2_code 42 = .ok (.isub, 1) := by decide +kernel
theorem d9_43 : decode prog_40_method_2_code 43 = .ok (.istore 8, 2) := by decide +kernel
theorem d9_45 : decode prog_40_method_2_code 45 = .ok (.iload 8, 2) := by decide +kernel
theorem d9_47 : decode prog_40_method_2_code 47 = .ok (.ifCond .lt 36, 3) := by decide +kernel
theorem d9_50 : decode prog_40_method_2_code 50 = .ok (.iload 8, 2) := by decide +kernel
theorem d9_52 : decode prog_40_method_2_code 52 = .ok (.i2l, 1) := by decide +kernel
theorem d9_53 : decode prog_40_method_2_code 53 = .ok (.ldc2_w 21, 3) := by decide +kernel
theorem d9_56 : decode prog_40_method_2_code 56 = .ok (.lload_n 2, 1) := by decide +kernel
theorem d9_57 : decode prog_40_method_2_code 57 = .ok (.invokestatic 23, 3) := by decide +kernel
theorem pd_3 : parseMethodDescriptor "(JJ)J" = some ⟨[.long, .long], some .long⟩ := by decide +kernel
theorem d9_60 : decode prog_40_method_2_code 60 = .ok (.lcmp, 1) := by decide +kernel
theorem d9_61 : decode prog_40_method_2_code 61 = .ok (.ifCond .gt 22, 3) := by decide +kernel
theorem d9_64 : decode prog_40_method_2_code 64 = .ok (.lload 4, 2) := by decide +kernel
theorem d9_66 : decode prog_40_method_2_code 66 = .ok (.lload_n 2, 1) := by decide +kernel
theorem d9_67 : decode prog_40_method_2_code 67 = .ok (.iload 8, 2) := by decide +kernel
theorem d9_69 : decode prog_40_method_2_code 69 = .ok (.i2l, 1) := by decide +kernel
theorem d9_70 : decode prog_40_method_2_code 70 = .ok (.lsub, 1) := by decide +kernel
theorem d9_71 : decode prog_40_method_2_code 71 = .ok (.ldc2_w 29, 3) := by decide +kernel
theorem d9_74 : decode prog_40_method_2_code 74 = .ok (.ldiv, 1) := by decide +kernel
theorem d9_75 : decode prog_40_method_2_code 75 = .ok (.lcmp, 1) := by decide +kernel
theorem d9_76 : decode prog_40_method_2_code 76 = .ok (.ifCond .gt 7, 3) := by decide +kernel
theorem d9_79 : decode prog_40_method_2_code 79 = .ok (.iconst 1, 1) := by decide +kernel
theorem d9_80 : decode prog_40_method_2_code 80 = .ok (.goto 4, 3) := by decide +kernel
theorem d9_84 : decode prog_40_method_2_code 84 = .ok (.istore 6, 2) := by decide +kernel
theorem d9_86 : decode prog_40_method_2_code 86 = .ok (.lload 4, 2) := by decide +kernel
theorem d9_88 : decode prog_40_method_2_code 88 = .ok (.ldc2_w 29, 3) := by decide +kernel
theorem d9_91 : decode prog_40_method_2_code 91 = .ok (.lmul, 1) := by decide +kernel
theorem d9_92 : decode prog_40_method_2_code 92 = .ok (.iload 8, 2) := by decide +kernel
theorem d9_94 : decode prog_40_method_2_code 94 = .ok (.i2l, 1) := by decide +kernel
theorem d9_95 : decode prog_40_method_2_code 95 = .ok (.ladd, 1) := by decide +kernel
theorem d9_96 : decode prog_40_method_2_code 96 = .ok (.lstore 4, 2) := by decide +kernel
theorem d9_98 : decode prog_40_method_2_code 98 = .ok (.iinc 7 1, 3) := by decide +kernel
theorem d9_101 : decode prog_40_method_2_code 101 = .ok (.goto (-81), 3) := by decide +kernel
set_option maxRecDepth 65536 in
set_option maxHeartbeats 40000000 in
theorem rmP (l : Launch) (Z : State) (a0 : Array Value) (hw : ∀ d ∈ tables_1, d.before a0 Z = true) (ws : List Jvm.Cond) (wh : Addr) (x1 t1 : Addr) (kb1 : ClassId) (cs1 : List Int32) (N1 : Int32) (vs1 : List Value) (mxx : Int64) (z : Int32) (fm : Value) (h0 : Heap) (n0 : Nat) (Z0 : n0 ≤ h0.size) (E1 : Exa Z h0 x1 "java/lang/String") (V1 : Fld Z h0 x1 "java/lang/String" "value" "[B" (.ref t1)) (C1 : Fld Z h0 x1 "java/lang/String" "coder" "B" (.int 0)) (K1 : Arv Z h0 t1 kb1 .byte N1 vs1 (.int 0)) (hcd1 : StrChars.Road.CodA cs1 0 N1 vs1) (hbd1 : ∀ c ∈ cs1, ¬ c < 0 ∧ ¬ (65535 : Int32) < c) (l1 : cs1.length ≤ 4000) (O0 : Old Z n0 h0) (SC : Sta Z Z.heap "java/lang/String" "COMPACT_STRINGS" "Z" (.int z)) (hz : ¬ z = 0) (SF : Sta Z Z.heap "jdk/internal/util/Preconditions" "SIOOBE_FORMATTER" "Ljava/util/function/BiFunction;" fm) (rF : fm.isRef = true) (hd : own_Dig cs1) (hlen : 0 < cs1.length) (hne : ¬ cs1.length = 0) (hm : own_pv cs1 cs1.length ≤ mxx.toInt) :
    Ctr FrameEnd l Z (⟨"com/example/requeue/requeue/srmp/Decimal", "parse", "(Ljava/lang/String;Ljava/lang/String;J)J"⟩ : MethodName) prog_40_method_2_code 9 (some .long) ws ({ frames := 4, cells := 0, slots := 0, locals := 64 } : Room) #[(.ref wh), (.ref x1), (.long mxx)] h0 TrueV (PureQ (some (.long (Int64.ofInt (own_pv cs1 cs1.length)))) h0) := by
  refine Ctr.intro (plainFor_of_name pn_com_example_requeue_requeue_srmp_Decimal) (Ls := #[.val (.ref wh), .val (.ref x1), .val (.long mxx), .second, .unset, .unset, .unset, .unset, .unset]) (fun m => by first | (simp [entryFrame, mkF, argsToLocals, Value.category]; done) | rfl) ?_
  intro p e s m below meth c T0 hx hby hml hown hnm hret hlk hZ hV hsh e0 X0
  have N0 := Fr.nil n0
  show Done _ p e below s _ _ (T0.setTop (mkF m 0 #[.val (.ref wh), .val (.ref x1), .val (.long mxx), .second, .unset, .unset, .unset, .unset, .unset] []))
  refine Done.step (fun _ => XT.lconstV X0.here hx rfl (0 : Int64) (hb hby d9_0) (by decide)) ?_
  show Done _ p e below s _ _ (T0.setTop (mkF m 1 #[.val (.ref wh), .val (.ref x1), .val (.long mxx), .second, .unset, .unset, .unset, .unset, .unset] [(.long (0 : Int64))]))
  refine Done.step (fun _ => XT.lstore X0.here hx rfl (hb hby d9_1) rfl (l' := #[.val (.ref wh), .val (.ref x1), .val (.long mxx), .second, .val (.long (0 : Int64)), .second, .unset, .unset, .unset]) rfl) ?_
  show Done _ p e below s _ _ (T0.setTop (mkF m 3 #[.val (.ref wh), .val (.ref x1), .val (.long mxx), .second, .val (.long (0 : Int64)), .second, .unset, .unset, .unset] []))
  refine Done.step (fun _ => XS.aloadN X0.here hx rfl (hb hby d9_3) rfl rfl) ?_
  show Done _ p e below s _ _ (T0.setTop (mkF m 4 #[.val (.ref wh), .val (.ref x1), .val (.long mxx), .second, .val (.long (0 : Int64)), .second, .unset, .unset, .unset] [(.ref x1)]))
  refine Done.callVB (nc := 0) (ns := 0) (C := "java/lang/String") (z := (⟨"java/lang/String", "isEmpty", "()Z"⟩ : MethodName)) (Qh := (fun v h' L => v = some (.int (if (cs1).length = 0 then 1 else 0)) ∧ L = [] ∧ h' = h0)) X0 hx hZ hown (wAt hw 47 rfl) (wAt hw 48 rfl) (notFace_of_selects (args := #[]) (mvT hZ (wAt hw 50 rfl))) (wAt hw 50 rfl) (wAt hw 49 rfl) (by decide) (StrChars.Road.empW (W := 0) hZ (own_hem hw) (kI := 4) (wAt hw 8 rfl) E1 V1 C1 K1 hcd1 hbd1 l1 (by decide) (by decide)) e0 E1 (g := (mkF m 4 #[.val (.ref wh), .val (.ref x1), .val (.long mxx), .second, .val (.long (0 : Int64)), .second, .unset, .unset, .unset] [(.ref x1)])) rfl (by rw [hml]; rfl) [] [] (lenOf pd_0 rfl) rfl rfl (by show 2 * 0 + _ ≤ _; exact Nat.le_of_eq rfl) (hb hby d9_4) (by decide) (by decide) ?_
  intro T1 v1 L1 X1 q1
  obtain ⟨qv1, rfl, e1⟩ := q1
  rw [if_neg hne] at qv1
  subst qv1
  rw [List.append_nil] at X1
  show Done _ p e below s _ _ (T1.setTop (mkF m 7 #[.val (.ref wh), .val (.ref x1), .val (.long mxx), .second, .val (.long (0 : Int64)), .second, .unset, .unset, .unset] [(.int (0 : Int32))]))
  refine Done.step (fun _ => XS.ifNo X1.here hx rfl (hb hby d9_7) rfl (XT.i0_ne_f rfl)) ?_
  show Done _ p e below s _ _ (T1.setTop (mkF m 10 #[.val (.ref wh), .val (.ref x1), .val (.long mxx), .second, .val (.long (0 : Int64)), .second, .unset, .unset, .unset] []))
  refine Done.step (fun _ => XT.iconstV X1.here hx rfl (1 : Int32) (hb hby d9_10) (by decide)) ?_
  show Done _ p e below s _ _ (T1.setTop (mkF m 11 #[.val (.ref wh), .val (.ref x1), .val (.long mxx), .second, .val (.long (0 : Int64)), .second, .unset, .unset, .unset] [(.int (1 : Int32))]))
  refine Done.step (fun _ => XS.goto X1.here hx rfl (pc0 := 11) (pc' := 15) rfl (hb hby d9_11) (by decide) (by decide)) ?_
  show Done _ p e below s _ _ (T1.setTop (mkF m 15 #[.val (.ref wh), .val (.ref x1), .val (.long mxx), .second, .val (.long (0 : Int64)), .second, .unset, .unset, .unset] [(.int (1 : Int32))]))
  refine Done.step (fun _ => XS.istore X1.here hx rfl (hb hby d9_15) rfl (l' := #[.val (.ref wh), .val (.ref x1), .val (.long mxx), .second, .val (.long (0 : Int64)), .second, .val (.int (1 : Int32)), .unset, .unset]) rfl) ?_
  show Done _ p e below s _ _ (T1.setTop (mkF m 17 #[.val (.ref wh), .val (.ref x1), .val (.long mxx), .second, .val (.long (0 : Int64)), .second, .val (.int (1 : Int32)), .unset, .unset] []))
  refine Done.step (fun _ => XT.iconstV X1.here hx rfl (0 : Int32) (hb hby d9_17) (by decide)) ?_
  show Done _ p e below s _ _ (T1.setTop (mkF m 18 #[.val (.ref wh), .val (.ref x1), .val (.long mxx), .second, .val (.long (0 : Int64)), .second, .val (.int (1 : Int32)), .unset, .unset] [(.int (0 : Int32))]))
  refine Done.step (fun _ => XS.istore X1.here hx rfl (hb hby d9_18) rfl (l' := #[.val (.ref wh), .val (.ref x1), .val (.long mxx), .second, .val (.long (0 : Int64)), .second, .val (.int (1 : Int32)), .val (.int (0 : Int32)), .unset]) rfl) ?_
  show Done _ p e below s _ _ (T1.setTop (mkF m 20 #[.val (.ref wh), .val (.ref x1), .val (.long mxx), .second, .val (.long (0 : Int64)), .second, .val (.int (1 : Int32)), .val (.int (0 : Int32)), .unset] []))
  have LP : ∀ (k i : Nat) (dg : Int32) (TL : State), 0 < i → i + k = cs1.length → TL.heap = h0 → Stand p l e ({ frames := 4, cells := 0, slots := 0, locals := 64 } : Room) s m #[(.ref wh), (.ref x1), (.long mxx)] below meth c TL [] 0 0 → Done FrameEnd p e below s ({ frames := 4, cells := 0, slots := 0, locals := 64 } : Room) (PureQ (some (.long (Int64.ofInt (own_pv cs1 cs1.length)))) h0) (TL.setTop (mkF m 20 #[.val (.ref wh), .val (.ref x1), .val (.long mxx), .second, .val (.long (Int64.ofInt (own_pv cs1 i))), .second, .val (.int (1 : Int32)), .val (.int (Int32.ofNat i)), .val (.int dg)] [])) := by
    intro k
    induction k with
    | zero =>
      intro i dg TL hi hik eL XL
      show Done _ p e below s _ _ (TL.setTop (mkF m 20 #[.val (.ref wh), .val (.ref x1), .val (.long mxx), .second, .val (.long (Int64.ofInt (own_pv cs1 i))), .second, .val (.int (1 : Int32)), .val (.int (Int32.ofNat i)), .val (.int dg)] []))
      refine Done.step (fun _ => XS.iload XL.here hx rfl (hb hby d9_20) rfl) ?_
      show Done _ p e below s _ _ (TL.setTop (mkF m 22 #[.val (.ref wh), .val (.ref x1), .val (.long mxx), .second, .val (.long (Int64.ofInt (own_pv cs1 i))), .second, .val (.int (1 : Int32)), .val (.int (Int32.ofNat i)), .val (.int dg)] [(.int (1 : Int32))]))
      refine Done.step (fun _ => XS.ifNo XL.here hx rfl (hb hby d9_22) rfl (XT.i0_eq_f (by decide))) ?_
      show Done _ p e below s _ _ (TL.setTop (mkF m 25 #[.val (.ref wh), .val (.ref x1), .val (.long mxx), .second, .val (.long (Int64.ofInt (own_pv cs1 i))), .second, .val (.int (1 : Int32)), .val (.int (Int32.ofNat i)), .val (.int dg)] []))
      refine Done.step (fun _ => XS.iload XL.here hx rfl (hb hby d9_25) rfl) ?_
      show Done _ p e below s _ _ (TL.setTop (mkF m 27 #[.val (.ref wh), .val (.ref x1), .val (.long mxx), .second, .val (.long (Int64.ofInt (own_pv cs1 i))), .second, .val (.int (1 : Int32)), .val (.int (Int32.ofNat i)), .val (.int dg)] [(.int (Int32.ofNat i))]))
      refine Done.step (fun _ => XS.aloadN XL.here hx rfl (hb hby d9_27) rfl rfl) ?_
      show Done _ p e below s _ _ (TL.setTop (mkF m 28 #[.val (.ref wh), .val (.ref x1), .val (.long mxx), .second, .val (.long (Int64.ofInt (own_pv cs1 i))), .second, .val (.int (1 : Int32)), .val (.int (Int32.ofNat i)), .val (.int dg)] [(.ref x1), (.int (Int32.ofNat i))]))
      refine Done.callVB (nc := 0) (ns := 0) (C := "java/lang/String") (z := (⟨"java/lang/String", "length", "()I"⟩ : MethodName)) (Qh := (fun v h' L => v = some (.int (Int32.ofNat (cs1).length)) ∧ L = [] ∧ h' = h0)) XL hx hZ hown (wAt hw 52 rfl) (wAt hw 53 rfl) (notFace_of_selects (args := #[]) (mvT hZ (wAt hw 55 rfl))) (wAt hw 55 rfl) (wAt hw 54 rfl) (by decide) (StrChars.Road.lenW (W := 1) hZ (own_hln hw) (kI := 4) (wAt hw 8 rfl) E1 V1 C1 K1 hcd1 hbd1 (SC.ext O0.2) hz l1 (by decide) (by decide)) eL E1 (g := (mkF m 28 #[.val (.ref wh), .val (.ref x1), .val (.long mxx), .second, .val (.long (Int64.ofInt (own_pv cs1 i))), .second, .val (.int (1 : Int32)), .val (.int (Int32.ofNat i)), .val (.int dg)] [(.ref x1), (.int (Int32.ofNat i))])) rfl (by rw [hml]; rfl) [] [(.int (Int32.ofNat i))] (lenOf pd_1 rfl) rfl rfl (by show 2 * 0 + _ ≤ _; exact Nat.le_of_eq rfl) (hb hby d9_28) (by decide) (by decide) ?_
      intro T2 v2 L2 X2 q2
      obtain ⟨rfl, rfl, e2⟩ := q2
      rw [List.append_nil] at X2
      show Done _ p e below s _ _ (T2.setTop (mkF m 31 #[.val (.ref wh), .val (.ref x1), .val (.long mxx), .second, .val (.long (Int64.ofInt (own_pv cs1 i))), .second, .val (.int (1 : Int32)), .val (.int (Int32.ofNat i)), .val (.int dg)] [(.int (Int32.ofNat cs1.length)), (.int (Int32.ofNat i))]))
      refine Done.step (fun _ => XS.icmpYes X2.here hx rfl (pc0 := 31) (pc' := 104) rfl (hb hby d9_31) rfl (XT.ii_ge_t (own_nlt (by omega))) (by decide) (by decide)) ?_
      show Done _ p e below s _ _ (T2.setTop (mkF m 104 #[.val (.ref wh), .val (.ref x1), .val (.long mxx), .second, .val (.long (Int64.ofInt (own_pv cs1 i))), .second, .val (.int (1 : Int32)), .val (.int (Int32.ofNat i)), .val (.int dg)] []))
      refine Done.step (fun _ => XS.iload X2.here hx rfl (hb hby d9_104) rfl) ?_
      show Done _ p e below s _ _ (T2.setTop (mkF m 106 #[.val (.ref wh), .val (.ref x1), .val (.long mxx), .second, .val (.long (Int64.ofInt (own_pv cs1 i))), .second, .val (.int (1 : Int32)), .val (.int (Int32.ofNat i)), .val (.int dg)] [(.int (1 : Int32))]))
      refine Done.step (fun _ => XS.ifYes X2.here hx rfl (pc0 := 106) (pc' := 125) rfl (hb hby d9_106) rfl (XT.i0_ne_t (by decide)) (by decide) (by decide)) ?_
      show Done _ p e below s _ _ (T2.setTop (mkF m 125 #[.val (.ref wh), .val (.ref x1), .val (.long mxx), .second, .val (.long (Int64.ofInt (own_pv cs1 i))), .second, .val (.int (1 : Int32)), .val (.int (Int32.ofNat i)), .val (.int dg)] []))
      refine Done.step (fun _ => XT.lload X2.here hx rfl (hb hby d9_125) rfl) ?_
      show Done _ p e below s _ _ (T2.setTop (mkF m 127 #[.val (.ref wh), .val (.ref x1), .val (.long mxx), .second, .val (.long (Int64.ofInt (own_pv cs1 i))), .second, .val (.int (1 : Int32)), .val (.int (Int32.ofNat i)), .val (.int dg)] [(.long (Int64.ofInt (own_pv cs1 i)))]))
      exact Done.retJ (leavesF X2 hlk (by decide) (by decide)) X2 hx hret (hb hby d9_127) ⟨by rw [show i = cs1.length by omega], e2, rfl⟩
    | succ k ih =>
      intro i dg TL hi hik eL XL
      have hilt : i < cs1.length := by omega
      show Done _ p e below s _ _ (TL.setTop (mkF m 20 #[.val (.ref wh), .val (.ref x1), .val (.long mxx), .second, .val (.long (Int64.ofInt (own_pv cs1 i))), .second, .val (.int (1 : Int32)), .val (.int (Int32.ofNat i)), .val (.int dg)] []))
      refine Done.step (fun _ => XS.iload XL.here hx rfl (hb hby d9_20) rfl) ?_
      show Done _ p e below s _ _ (TL.setTop (mkF m 22 #[.val (.ref wh), .val (.ref x1), .val (.long mxx), .second, .val (.long (Int64.ofInt (own_pv cs1 i))), .second, .val (.int (1 : Int32)), .val (.int (Int32.ofNat i)), .val (.int dg)] [(.int (1 : Int32))]))
      refine Done.step (fun _ => XS.ifNo XL.here hx rfl (hb hby d9_22) rfl (XT.i0_eq_f (by decide))) ?_
      show Done _ p e below s _ _ (TL.setTop (mkF m 25 #[.val (.ref wh), .val (.ref x1), .val (.long mxx), .second, .val (.long (Int64.ofInt (own_pv cs1 i))), .second, .val (.int (1 : Int32)), .val (.int (Int32.ofNat i)), .val (.int dg)] []))
      refine Done.step (fun _ => XS.iload XL.here hx rfl (hb hby d9_25) rfl) ?_
      show Done _ p e below s _ _ (TL.setTop (mkF m 27 #[.val (.ref wh), .val (.ref x1), .val (.long mxx), .second, .val (.long (Int64.ofInt (own_pv cs1 i))), .second, .val (.int (1 : Int32)), .val (.int (Int32.ofNat i)), .val (.int dg)] [(.int (Int32.ofNat i))]))
      refine Done.step (fun _ => XS.aloadN XL.here hx rfl (hb hby d9_27) rfl rfl) ?_
      show Done _ p e below s _ _ (TL.setTop (mkF m 28 #[.val (.ref wh), .val (.ref x1), .val (.long mxx), .second, .val (.long (Int64.ofInt (own_pv cs1 i))), .second, .val (.int (1 : Int32)), .val (.int (Int32.ofNat i)), .val (.int dg)] [(.ref x1), (.int (Int32.ofNat i))]))
      refine Done.callVB (nc := 0) (ns := 0) (C := "java/lang/String") (z := (⟨"java/lang/String", "length", "()I"⟩ : MethodName)) (Qh := (fun v h' L => v = some (.int (Int32.ofNat (cs1).length)) ∧ L = [] ∧ h' = h0)) XL hx hZ hown (wAt hw 52 rfl) (wAt hw 53 rfl) (notFace_of_selects (args := #[]) (mvT hZ (wAt hw 55 rfl))) (wAt hw 55 rfl) (wAt hw 54 rfl) (by decide) (StrChars.Road.lenW (W := 1) hZ (own_hln hw) (kI := 4) (wAt hw 8 rfl) E1 V1 C1 K1 hcd1 hbd1 (SC.ext O0.2) hz l1 (by decide) (by decide)) eL E1 (g := (mkF m 28 #[.val (.ref wh), .val (.ref x1), .val (.long mxx), .second, .val (.long (Int64.ofInt (own_pv cs1 i))), .second, .val (.int (1 : Int32)), .val (.int (Int32.ofNat i)), .val (.int dg)] [(.ref x1), (.int (Int32.ofNat i))])) rfl (by rw [hml]; rfl) [] [(.int (Int32.ofNat i))] (lenOf pd_1 rfl) rfl rfl (by show 2 * 0 + _ ≤ _; exact Nat.le_of_eq rfl) (hb hby d9_28) (by decide) (by decide) ?_
      intro T3 v3 L3 X3 q3
      obtain ⟨rfl, rfl, e3⟩ := q3
      rw [List.append_nil] at X3
      show Done _ p e below s _ _ (T3.setTop (mkF m 31 #[.val (.ref wh), .val (.ref x1), .val (.long mxx), .second, .val (.long (Int64.ofInt (own_pv cs1 i))), .second, .val (.int (1 : Int32)), .val (.int (Int32.ofNat i)), .val (.int dg)] [(.int (Int32.ofNat cs1.length)), (.int (Int32.ofNat i))]))
      refine Done.step (fun _ => XS.icmpNo X3.here hx rfl (hb hby d9_31) rfl (XT.ii_ge_f (own_lt (i := i) hilt l1))) ?_
      show Done _ p e below s _ _ (T3.setTop (mkF m 34 #[.val (.ref wh), .val (.ref x1), .val (.long mxx), .second, .val (.long (Int64.ofInt (own_pv cs1 i))), .second, .val (.int (1 : Int32)), .val (.int (Int32.ofNat i)), .val (.int dg)] []))
      refine Done.step (fun _ => XS.aloadN X3.here hx rfl (hb hby d9_34) rfl rfl) ?_
      show Done _ p e below s _ _ (T3.setTop (mkF m 35 #[.val (.ref wh), .val (.ref x1), .val (.long mxx), .second, .val (.long (Int64.ofInt (own_pv cs1 i))), .second, .val (.int (1 : Int32)), .val (.int (Int32.ofNat i)), .val (.int dg)] [(.ref x1)]))
      refine Done.step (fun _ => XS.iload X3.here hx rfl (hb hby d9_35) rfl) ?_
      show Done _ p e below s _ _ (T3.setTop (mkF m 37 #[.val (.ref wh), .val (.ref x1), .val (.long mxx), .second, .val (.long (Int64.ofInt (own_pv cs1 i))), .second, .val (.int (1 : Int32)), .val (.int (Int32.ofNat i)), .val (.int dg)] [(.int (Int32.ofNat i)), (.ref x1)]))
      refine Done.callVB (nc := 0) (ns := 0) (C := "java/lang/String") (z := (⟨"java/lang/String", "charAt", "(I)C"⟩ : MethodName)) (Qh := (fun v h' L => v = some (.int ((cs1).getD i 0)) ∧ L = [] ∧ h' = h0)) X3 hx hZ hown (wAt hw 62 rfl) (wAt hw 63 rfl) (notFace_of_selects (args := #[]) (mvT hZ (wAt hw 65 rfl))) (wAt hw 65 rfl) (wAt hw 64 rfl) (by decide) (StrChars.Road.chN (W := 0) hZ (own_hch hw) (kI := 4) (wAt hw 8 rfl) E1 V1 C1 K1 hcd1 hbd1 (SC.ext O0.2) hz (SF.ext O0.2) rF l1 (i := i) hilt (j := (Int32.ofNat i)) rfl (by decide) (by decide)) e3 E1 (g := (mkF m 37 #[.val (.ref wh), .val (.ref x1), .val (.long mxx), .second, .val (.long (Int64.ofInt (own_pv cs1 i))), .second, .val (.int (1 : Int32)), .val (.int (Int32.ofNat i)), .val (.int dg)] [(.int (Int32.ofNat i)), (.ref x1)])) rfl (by rw [hml]; rfl) [(.int (Int32.ofNat i))] [] (lenOf pd_2 rfl) rfl rfl (by show 2 * 0 + _ ≤ _; exact Nat.le_of_eq rfl) (hb hby d9_37) (by decide) (by decide) ?_
      intro T4 v4 L4 X4 q4
      obtain ⟨rfl, rfl, e4⟩ := q4
      rw [List.append_nil] at X4
      show Done _ p e below s _ _ (T4.setTop (mkF m 40 #[.val (.ref wh), .val (.ref x1), .val (.long mxx), .second, .val (.long (Int64.ofInt (own_pv cs1 i))), .second, .val (.int (1 : Int32)), .val (.int (Int32.ofNat i)), .val (.int dg)] [(.int (cs1.getD i 0))]))
      refine Done.step (fun _ => XT.bipushV X4.here hx rfl (48 : Int32) (hb hby d9_40) (by decide)) ?_
      show Done _ p e below s _ _ (T4.setTop (mkF m 42 #[.val (.ref wh), .val (.ref x1), .val (.long mxx), .second, .val (.long (Int64.ofInt (own_pv cs1 i))), .second, .val (.int (1 : Int32)), .val (.int (Int32.ofNat i)), .val (.int dg)] [(.int (48 : Int32)), (.int (cs1.getD i 0))]))
      refine Done.step (fun _ => XS.isub X4.here hx rfl (hb hby d9_42) rfl) ?_
      show Done _ p e below s _ _ (T4.setTop (mkF m 43 #[.val (.ref wh), .val (.ref x1), .val (.long mxx), .second, .val (.long (Int64.ofInt (own_pv cs1 i))), .second, .val (.int (1 : Int32)), .val (.int (Int32.ofNat i)), .val (.int dg)] [(.int ((cs1.getD i 0) - (48 : Int32)))]))
      refine Done.step (fun _ => XS.istore X4.here hx rfl (hb hby d9_43) rfl (l' := #[.val (.ref wh), .val (.ref x1), .val (.long mxx), .second, .val (.long (Int64.ofInt (own_pv cs1 i))), .second, .val (.int (1 : Int32)), .val (.int (Int32.ofNat i)), .val (.int ((cs1.getD i 0) - (48 : Int32)))]) rfl) ?_
      show Done _ p e below s _ _ (T4.setTop (mkF m 45 #[.val (.ref wh), .val (.ref x1), .val (.long mxx), .second, .val (.long (Int64.ofInt (own_pv cs1 i))), .second, .val (.int (1 : Int32)), .val (.int (Int32.ofNat i)), .val (.int ((cs1.getD i 0) - (48 : Int32)))] []))
      refine Done.step (fun _ => XS.iload X4.here hx rfl (hb hby d9_45) rfl) ?_
      show Done _ p e below s _ _ (T4.setTop (mkF m 47 #[.val (.ref wh), .val (.ref x1), .val (.long mxx), .second, .val (.long (Int64.ofInt (own_pv cs1 i))), .second, .val (.int (1 : Int32)), .val (.int (Int32.ofNat i)), .val (.int ((cs1.getD i 0) - (48 : Int32)))] [(.int ((cs1.getD i 0) - (48 : Int32)))]))
      refine Done.step (fun _ => XS.ifNo X4.here hx rfl (hb hby d9_47) rfl (XT.i0_lt_f (own_t1 hd hilt))) ?_
      show Done _ p e below s _ _ (T4.setTop (mkF m 50 #[.val (.ref wh), .val (.ref x1), .val (.long mxx), .second, .val (.long (Int64.ofInt (own_pv cs1 i))), .second, .val (.int (1 : Int32)), .val (.int (Int32.ofNat i)), .val (.int ((cs1.getD i 0) - (48 : Int32)))] []))
      refine Done.step (fun _ => XS.iload X4.here hx rfl (hb hby d9_50) rfl) ?_
      show Done _ p e below s _ _ (T4.setTop (mkF m 52 #[.val (.ref wh), .val (.ref x1), .val (.long mxx), .second, .val (.long (Int64.ofInt (own_pv cs1 i))), .second, .val (.int (1 : Int32)), .val (.int (Int32.ofNat i)), .val (.int ((cs1.getD i 0) - (48 : Int32)))] [(.int ((cs1.getD i 0) - (48 : Int32)))]))
      refine Done.step (fun _ => XT.i2l X4.here hx rfl (hb hby d9_52) rfl) ?_
      show Done _ p e below s _ _ (T4.setTop (mkF m 53 #[.val (.ref wh), .val (.ref x1), .val (.long mxx), .second, .val (.long (Int64.ofInt (own_pv cs1 i))), .second, .val (.int (1 : Int32)), .val (.int (Int32.ofNat i)), .val (.int ((cs1.getD i 0) - (48 : Int32)))] [(.long (((cs1.getD i 0) - (48 : Int32)).toInt64))]))
      refine Done.step (fun _ => Stand.ldc2J X4 hx hown (mvT hZ (wAt hw 84 rfl)) (g := (mkF m 53 #[.val (.ref wh), .val (.ref x1), .val (.long mxx), .second, .val (.long (Int64.ofInt (own_pv cs1 i))), .second, .val (.int (1 : Int32)), .val (.int (Int32.ofNat i)), .val (.int ((cs1.getD i 0) - (48 : Int32)))] [(.long (((cs1.getD i 0) - (48 : Int32)).toInt64))])) rfl (hb hby d9_53)) ?_
      show Done _ p e below s _ _ (T4.setTop (mkF m 56 #[.val (.ref wh), .val (.ref x1), .val (.long mxx), .second, .val (.long (Int64.ofInt (own_pv cs1 i))), .second, .val (.int (1 : Int32)), .val (.int (Int32.ofNat i)), .val (.int ((cs1.getD i 0) - (48 : Int32)))] [(.long (9 : Int64)), (.long (((cs1.getD i 0) - (48 : Int32)).toInt64))]))
      refine Done.step (fun _ => XT.lloadN X4.here hx rfl (hb hby d9_56) rfl) ?_
      show Done _ p e below s _ _ (T4.setTop (mkF m 57 #[.val (.ref wh), .val (.ref x1), .val (.long mxx), .second, .val (.long (Int64.ofInt (own_pv cs1 i))), .second, .val (.int (1 : Int32)), .val (.int (Int32.ofNat i)), .val (.int ((cs1.getD i 0) - (48 : Int32)))] [(.long mxx), (.long (9 : Int64)), (.long (((cs1.getD i 0) - (48 : Int32)).toInt64))]))
      refine Done.callSP X4 hx hZ hown (wAt hw 85 rfl) (wAt hw 86 rfl) (wAt hw 38 rfl) (wAt hw 87 rfl) (by decide) (rmMi l Z a0 hw [] (9 : Int64) mxx h0 n0 Z0) e4 (g := (mkF m 57 #[.val (.ref wh), .val (.ref x1), .val (.long mxx), .second, .val (.long (Int64.ofInt (own_pv cs1 i))), .second, .val (.int (1 : Int32)), .val (.int (Int32.ofNat i)), .val (.int ((cs1.getD i 0) - (48 : Int32)))] [(.long mxx), (.long (9 : Int64)), (.long (((cs1.getD i 0) - (48 : Int32)).toInt64))])) rfl (by rw [hml]; rfl) [(.long (9 : Int64)), (.long mxx)] [(.long (((cs1.getD i 0) - (48 : Int32)).toInt64))] 2 (lenOf pd_3 rfl) rfl rfl (by show 2 * 0 + _ ≤ _; exact Nat.le_of_eq rfl) (hb hby d9_57) (by decide) (by decide) (by decide) (by decide) rfl rfl ?_
      intro T5 X5 e5
      show Done _ p e below s _ _ (T5.setTop (mkF m 60 #[.val (.ref wh), .val (.ref x1), .val (.long mxx), .second, .val (.long (Int64.ofInt (own_pv cs1 i))), .second, .val (.int (1 : Int32)), .val (.int (Int32.ofNat i)), .val (.int ((cs1.getD i 0) - (48 : Int32)))] [(.long (own_min (9 : Int64) mxx)), (.long (((cs1.getD i 0) - (48 : Int32)).toInt64))]))
      refine Done.step (fun _ => XT.lcmp X5.here hx rfl (hb hby d9_60) rfl) ?_
      show Done _ p e below s _ _ (T5.setTop (mkF m 61 #[.val (.ref wh), .val (.ref x1), .val (.long mxx), .second, .val (.long (Int64.ofInt (own_pv cs1 i))), .second, .val (.int (1 : Int32)), .val (.int (Int32.ofNat i)), .val (.int ((cs1.getD i 0) - (48 : Int32)))] [(.int (XT.cmpL (((cs1.getD i 0) - (48 : Int32)).toInt64) (own_min (9 : Int64) mxx)))]))
      refine Done.step (fun _ => XS.ifNo X5.here hx rfl (hb hby d9_61) rfl (XT.ll_gt_f (own_t2 hd hilt hm))) ?_
      show Done _ p e below s _ _ (T5.setTop (mkF m 64 #[.val (.ref wh), .val (.ref x1), .val (.long mxx), .second, .val (.long (Int64.ofInt (own_pv cs1 i))), .second, .val (.int (1 : Int32)), .val (.int (Int32.ofNat i)), .val (.int ((cs1.getD i 0) - (48 : Int32)))] []))
      refine Done.step (fun _ => XT.lload X5.here hx rfl (hb hby d9_64) rfl) ?_
      show Done _ p e below s _ _ (T5.setTop (mkF m 66 #[.val (.ref wh), .val (.ref x1), .val (.long mxx), .second, .val (.long (Int64.ofInt (own_pv cs1 i))), .second, .val (.int (1 : Int32)), .val (.int (Int32.ofNat i)), .val (.int ((cs1.getD i 0) - (48 : Int32)))] [(.long (Int64.ofInt (own_pv cs1 i)))]))
      refine Done.step (fun _ => XT.lloadN X5.here hx rfl (hb hby d9_66) rfl) ?_
      show Done _ p e below s _ _ (T5.setTop (mkF m 67 #[.val (.ref wh), .val (.ref x1), .val (.long mxx), .second, .val (.long (Int64.ofInt (own_pv cs1 i))), .second, .val (.int (1 : Int32)), .val (.int (Int32.ofNat i)), .val (.int ((cs1.getD i 0) - (48 : Int32)))] [(.long mxx), (.long (Int64.ofInt (own_pv cs1 i)))]))
      refine Done.step (fun _ => XS.iload X5.here hx rfl (hb hby d9_67) rfl) ?_
      show Done _ p e below s _ _ (T5.setTop (mkF m 69 #[.val (.ref wh), .val (.ref x1), .val (.long mxx), .second, .val (.long (Int64.ofInt (own_pv cs1 i))), .second, .val (.int (1 : Int32)), .val (.int (Int32.ofNat i)), .val (.int ((cs1.getD i 0) - (48 : Int32)))] [(.int ((cs1.getD i 0) - (48 : Int32))), (.long mxx), (.long (Int64.ofInt (own_pv cs1 i)))]))
      refine Done.step (fun _ => XT.i2l X5.here hx rfl (hb hby d9_69) rfl) ?_
      show Done _ p e below s _ _ (T5.setTop (mkF m 70 #[.val (.ref wh), .val (.ref x1), .val (.long mxx), .second, .val (.long (Int64.ofInt (own_pv cs1 i))), .second, .val (.int (1 : Int32)), .val (.int (Int32.ofNat i)), .val (.int ((cs1.getD i 0) - (48 : Int32)))] [(.long (((cs1.getD i 0) - (48 : Int32)).toInt64)), (.long mxx), (.long (Int64.ofInt (own_pv cs1 i)))]))
      refine Done.step (fun _ => XT.lsub X5.here hx rfl (hb hby d9_70) rfl) ?_
      show Done _ p e below s _ _ (T5.setTop (mkF m 71 #[.val (.ref wh), .val (.ref x1), .val (.long mxx), .second, .val (.long (Int64.ofInt (own_pv cs1 i))), .second, .val (.int (1 : Int32)), .val (.int (Int32.ofNat i)), .val (.int ((cs1.getD i 0) - (48 : Int32)))] [(.long (mxx - (((cs1.getD i 0) - (48 : Int32)).toInt64))), (.long (Int64.ofInt (own_pv cs1 i)))]))
      refine Done.step (fun _ => Stand.ldc2J X5 hx hown (mvT hZ (wAt hw 88 rfl)) (g := (mkF m 71 #[.val (.ref wh), .val (.ref x1), .val (.long mxx), .second, .val (.long (Int64.ofInt (own_pv cs1 i))), .second, .val (.int (1 : Int32)), .val (.int (Int32.ofNat i)), .val (.int ((cs1.getD i 0) - (48 : Int32)))] [(.long (mxx - (((cs1.getD i 0) - (48 : Int32)).toInt64))), (.long (Int64.ofInt (own_pv cs1 i)))])) rfl (hb hby d9_71)) ?_
      show Done _ p e below s _ _ (T5.setTop (mkF m 74 #[.val (.ref wh), .val (.ref x1), .val (.long mxx), .second, .val (.long (Int64.ofInt (own_pv cs1 i))), .second, .val (.int (1 : Int32)), .val (.int (Int32.ofNat i)), .val (.int ((cs1.getD i 0) - (48 : Int32)))] [(.long (10 : Int64)), (.long (mxx - (((cs1.getD i 0) - (48 : Int32)).toInt64))), (.long (Int64.ofInt (own_pv cs1 i)))]))
      refine Done.step (fun _ => XT.ldiv X5.here hx rfl (hb hby d9_74) rfl (by decide)) ?_
      show Done _ p e below s _ _ (T5.setTop (mkF m 75 #[.val (.ref wh), .val (.ref x1), .val (.long mxx), .second, .val (.long (Int64.ofInt (own_pv cs1 i))), .second, .val (.int (1 : Int32)), .val (.int (Int32.ofNat i)), .val (.int ((cs1.getD i 0) - (48 : Int32)))] [(.long ((mxx - (((cs1.getD i 0) - (48 : Int32)).toInt64)) / (10 : Int64))), (.long (Int64.ofInt (own_pv cs1 i)))]))
      refine Done.step (fun _ => XT.lcmp X5.here hx rfl (hb hby d9_75) rfl) ?_
      show Done _ p e below s _ _ (T5.setTop (mkF m 76 #[.val (.ref wh), .val (.ref x1), .val (.long mxx), .second, .val (.long (Int64.ofInt (own_pv cs1 i))), .second, .val (.int (1 : Int32)), .val (.int (Int32.ofNat i)), .val (.int ((cs1.getD i 0) - (48 : Int32)))] [(.int (XT.cmpL (Int64.ofInt (own_pv cs1 i)) ((mxx - (((cs1.getD i 0) - (48 : Int32)).toInt64)) / (10 : Int64))))]))
      refine Done.step (fun _ => XS.ifNo X5.here hx rfl (hb hby d9_76) rfl (XT.ll_gt_f (own_t3 (i := i) hd hilt hm))) ?_
      show Done _ p e below s _ _ (T5.setTop (mkF m 79 #[.val (.ref wh), .val (.ref x1), .val (.long mxx), .second, .val (.long (Int64.ofInt (own_pv cs1 i))), .second, .val (.int (1 : Int32)), .val (.int (Int32.ofNat i)), .val (.int ((cs1.getD i 0) - (48 : Int32)))] []))
      refine Done.step (fun _ => XT.iconstV X5.here hx rfl (1 : Int32) (hb hby d9_79) (by decide)) ?_
      show Done _ p e below s _ _ (T5.setTop (mkF m 80 #[.val (.ref wh), .val (.ref x1), .val (.long mxx), .second, .val (.long (Int64.ofInt (own_pv cs1 i))), .second, .val (.int (1 : Int32)), .val (.int (Int32.ofNat i)), .val (.int ((cs1.getD i 0) - (48 : Int32)))] [(.int (1 : Int32))]))
      refine Done.step (fun _ => XS.goto X5.here hx rfl (pc0 := 80) (pc' := 84) rfl (hb hby d9_80) (by decide) (by decide)) ?_
      show Done _ p e below s _ _ (T5.setTop (mkF m 84 #[.val (.ref wh), .val (.ref x1), .val (.long mxx), .second, .val (.long (Int64.ofInt (own_pv cs1 i))), .second, .val (.int (1 : Int32)), .val (.int (Int32.ofNat i)), .val (.int ((cs1.getD i 0) - (48 : Int32)))] [(.int (1 : Int32))]))
      refine Done.step (fun _ => XS.istore X5.here hx rfl (hb hby d9_84) rfl (l' := #[.val (.ref wh), .val (.ref x1), .val (.long mxx), .second, .val (.long (Int64.ofInt (own_pv cs1 i))), .second, .val (.int (1 : Int32)), .val (.int (Int32.ofNat i)), .val (.int ((cs1.getD i 0) - (48 : Int32)))]) rfl) ?_
      show Done _ p e below s _ _ (T5.setTop (mkF m 86 #[.val (.ref wh), .val (.ref x1), .val (.long mxx), .second, .val (.long (Int64.ofInt (own_pv cs1 i))), .second, .val (.int (1 : Int32)), .val (.int (Int32.ofNat i)), .val (.int ((cs1.getD i 0) - (48 : Int32)))] []))
      refine Done.step (fun _ => XT.lload X5.here hx rfl (hb hby d9_86) rfl) ?_
      show Done _ p e below s _ _ (T5.setTop (mkF m 88 #[.val (.ref wh), .val (.ref x1), .val (.long mxx), .second, .val (.long (Int64.ofInt (own_pv cs1 i))), .second, .val (.int (1 : Int32)), .val (.int (Int32.ofNat i)), .val (.int ((cs1.getD i 0) - (48 : Int32)))] [(.long (Int64.ofInt (own_pv cs1 i)))]))
      refine Done.step (fun _ => Stand.ldc2J X5 hx hown (mvT hZ (wAt hw 88 rfl)) (g := (mkF m 88 #[.val (.ref wh), .val (.ref x1), .val (.long mxx), .second, .val (.long (Int64.ofInt (own_pv cs1 i))), .second, .val (.int (1 : Int32)), .val (.int (Int32.ofNat i)), .val (.int ((cs1.getD i 0) - (48 : Int32)))] [(.long (Int64.ofInt (own_pv cs1 i)))])) rfl (hb hby d9_88)) ?_
      show Done _ p e below s _ _ (T5.setTop (mkF m 91 #[.val (.ref wh), .val (.ref x1), .val (.long mxx), .second, .val (.long (Int64.ofInt (own_pv cs1 i))), .second, .val (.int (1 : Int32)), .val (.int (Int32.ofNat i)), .val (.int ((cs1.getD i 0) - (48 : Int32)))] [(.long (10 : Int64)), (.long (Int64.ofInt (own_pv cs1 i)))]))
      refine Done.step (fun _ => XT.lmul X5.here hx rfl (hb hby d9_91) rfl) ?_
      show Done _ p e below s _ _ (T5.setTop (mkF m 92 #[.val (.ref wh), .val (.ref x1), .val (.long mxx), .second, .val (.long (Int64.ofInt (own_pv cs1 i))), .second, .val (.int (1 : Int32)), .val (.int (Int32.ofNat i)), .val (.int ((cs1.getD i 0) - (48 : Int32)))] [(.long ((Int64.ofInt (own_pv cs1 i)) * (10 : Int64)))]))
      refine Done.step (fun _ => XS.iload X5.here hx rfl (hb hby d9_92) rfl) ?_
      show Done _ p e below s _ _ (T5.setTop (mkF m 94 #[.val (.ref wh), .val (.ref x1), .val (.long mxx), .second, .val (.long (Int64.ofInt (own_pv cs1 i))), .second, .val (.int (1 : Int32)), .val (.int (Int32.ofNat i)), .val (.int ((cs1.getD i 0) - (48 : Int32)))] [(.int ((cs1.getD i 0) - (48 : Int32))), (.long ((Int64.ofInt (own_pv cs1 i)) * (10 : Int64)))]))
      refine Done.step (fun _ => XT.i2l X5.here hx rfl (hb hby d9_94) rfl) ?_
      show Done _ p e below s _ _ (T5.setTop (mkF m 95 #[.val (.ref wh), .val (.ref x1), .val (.long mxx), .second, .val (.long (Int64.ofInt (own_pv cs1 i))), .second, .val (.int (1 : Int32)), .val (.int (Int32.ofNat i)), .val (.int ((cs1.getD i 0) - (48 : Int32)))] [(.long (((cs1.getD i 0) - (48 : Int32)).toInt64)), (.long ((Int64.ofInt (own_pv cs1 i)) * (10 : Int64)))]))
      refine Done.step (fun _ => XT.ladd X5.here hx rfl (hb hby d9_95) rfl) ?_
      show Done _ p e below s _ _ (T5.setTop (mkF m 96 #[.val (.ref wh), .val (.ref x1), .val (.long mxx), .second, .val (.long (Int64.ofInt (own_pv cs1 i))), .second, .val (.int (1 : Int32)), .val (.int (Int32.ofNat i)), .val (.int ((cs1.getD i 0) - (48 : Int32)))] [(.long (((Int64.ofInt (own_pv cs1 i)) * (10 : Int64)) + (((cs1.getD i 0) - (48 : Int32)).toInt64)))]))
      refine Done.step (fun _ => XT.lstore X5.here hx rfl (hb hby d9_96) rfl (l' := #[.val (.ref wh), .val (.ref x1), .val (.long mxx), .second, .val (.long (((Int64.ofInt (own_pv cs1 i)) * (10 : Int64)) + (((cs1.getD i 0) - (48 : Int32)).toInt64))), .second, .val (.int (1 : Int32)), .val (.int (Int32.ofNat i)), .val (.int ((cs1.getD i 0) - (48 : Int32)))]) rfl) ?_
      show Done _ p e below s _ _ (T5.setTop (mkF m 98 #[.val (.ref wh), .val (.ref x1), .val (.long mxx), .second, .val (.long (((Int64.ofInt (own_pv cs1 i)) * (10 : Int64)) + (((cs1.getD i 0) - (48 : Int32)).toInt64))), .second, .val (.int (1 : Int32)), .val (.int (Int32.ofNat i)), .val (.int ((cs1.getD i 0) - (48 : Int32)))] []))
      refine Done.step (fun _ => XS.iinc X5.here hx rfl (hb hby d9_98) rfl (l' := #[.val (.ref wh), .val (.ref x1), .val (.long mxx), .second, .val (.long (((Int64.ofInt (own_pv cs1 i)) * (10 : Int64)) + (((cs1.getD i 0) - (48 : Int32)).toInt64))), .second, .val (.int (1 : Int32)), .val (.int ((Int32.ofNat i) + (1 : Int32))), .val (.int ((cs1.getD i 0) - (48 : Int32)))]) rfl) ?_
      show Done _ p e below s _ _ (T5.setTop (mkF m 101 #[.val (.ref wh), .val (.ref x1), .val (.long mxx), .second, .val (.long (((Int64.ofInt (own_pv cs1 i)) * (10 : Int64)) + (((cs1.getD i 0) - (48 : Int32)).toInt64))), .second, .val (.int (1 : Int32)), .val (.int ((Int32.ofNat i) + (1 : Int32))), .val (.int ((cs1.getD i 0) - (48 : Int32)))] []))
      refine Done.step (fun _ => XS.goto X5.here hx rfl (pc0 := 101) (pc' := 20) rfl (hb hby d9_101) (by decide) (by decide)) ?_
      show Done _ p e below s _ _ (T5.setTop (mkF m 20 #[.val (.ref wh), .val (.ref x1), .val (.long mxx), .second, .val (.long (((Int64.ofInt (own_pv cs1 i)) * (10 : Int64)) + (((cs1.getD i 0) - (48 : Int32)).toInt64))), .second, .val (.int (1 : Int32)), .val (.int ((Int32.ofNat i) + (1 : Int32))), .val (.int ((cs1.getD i 0) - (48 : Int32)))] []))
      rw [own_t4 (i := i) hd hilt hm, own_succ]
      exact ih (i + 1) _ T5 (by omega) (by omega) e5 X5
  show Done _ p e below s _ _ (T1.setTop (mkF m 20 #[.val (.ref wh), .val (.ref x1), .val (.long mxx), .second, .val (.long (0 : Int64)), .second, .val (.int (1 : Int32)), .val (.int (0 : Int32)), .unset] []))
  refine Done.step (fun _ => XS.iload X1.here hx rfl (hb hby d9_20) rfl) ?_
  show Done _ p e below s _ _ (T1.setTop (mkF m 22 #[.val (.ref wh), .val (.ref x1), .val (.long mxx), .second, .val (.long (0 : Int64)), .second, .val (.int (1 : Int32)), .val (.int (0 : Int32)), .unset] [(.int (1 : Int32))]))
  refine Done.step (fun _ => XS.ifNo X1.here hx rfl (hb hby d9_22) rfl (XT.i0_eq_f (by decide))) ?_
  show Done _ p e below s _ _ (T1.setTop (mkF m 25 #[.val (.ref wh), .val (.ref x1), .val (.long mxx), .second, .val (.long (0 : Int64)), .second, .val (.int (1 : Int32)), .val (.int (0 : Int32)), .unset] []))
  refine Done.step (fun _ => XS.iload X1.here hx rfl (hb hby d9_25) rfl) ?_
  show Done _ p e below s _ _ (T1.setTop (mkF m 27 #[.val (.ref wh), .val (.ref x1), .val (.long mxx), .second, .val (.long (0 : Int64)), .second, .val (.int (1 : Int32)), .val (.int (0 : Int32)), .unset] [(.int (0 : Int32))]))
  refine Done.step (fun _ => XS.aloadN X1.here hx rfl (hb hby d9_27) rfl rfl) ?_
  show Done _ p e below s _ _ (T1.setTop (mkF m 28 #[.val (.ref wh), .val (.ref x1), .val (.long mxx), .second, .val (.long (0 : Int64)), .second, .val (.int (1 : Int32)), .val (.int (0 : Int32)), .unset] [(.ref x1), (.int (0 : Int32))]))
  refine Done.callVB (nc := 0) (ns := 0) (C := "java/lang/String") (z := (⟨"java/lang/String", "length", "()I"⟩ : MethodName)) (Qh := (fun v h' L => v = some (.int (Int32.ofNat (cs1).length)) ∧ L = [] ∧ h' = h0)) X1 hx hZ hown (wAt hw 52 rfl) (wAt hw 53 rfl) (notFace_of_selects (args := #[]) (mvT hZ (wAt hw 55 rfl))) (wAt hw 55 rfl) (wAt hw 54 rfl) (by decide) (StrChars.Road.lenW (W := 1) hZ (own_hln hw) (kI := 4) (wAt hw 8 rfl) E1 V1 C1 K1 hcd1 hbd1 (SC.ext O0.2) hz l1 (by decide) (by decide)) e1 E1 (g := (mkF m 28 #[.val (.ref wh), .val (.ref x1), .val (.long mxx), .second, .val (.long (0 : Int64)), .second, .val (.int (1 : Int32)), .val (.int (0 : Int32)), .unset] [(.ref x1), (.int (0 : Int32))])) rfl (by rw [hml]; rfl) [] [(.int (0 : Int32))] (lenOf pd_1 rfl) rfl rfl (by show 2 * 0 + _ ≤ _; exact Nat.le_of_eq rfl) (hb hby d9_28) (by decide) (by decide) ?_
  intro T6 v6 L6 X6 q6
  obtain ⟨rfl, rfl, e6⟩ := q6
  rw [List.append_nil] at X6
  show Done _ p e below s _ _ (T6.setTop (mkF m 31 #[.val (.ref wh), .val (.ref x1), .val (.long mxx), .second, .val (.long (0 : Int64)), .second, .val (.int (1 : Int32)), .val (.int (0 : Int32)), .unset] [(.int (Int32.ofNat cs1.length)), (.int (0 : Int32))]))
  refine Done.step (fun _ => XS.icmpNo X6.here hx rfl (hb hby d9_31) rfl (XT.ii_ge_f (own_lt (i := 0) hlen l1))) ?_
  show Done _ p e below s _ _ (T6.setTop (mkF m 34 #[.val (.ref wh), .val (.ref x1), .val (.long mxx), .second, .val (.long (0 : Int64)), .second, .val (.int (1 : Int32)), .val (.int (0 : Int32)), .unset] []))
  refine Done.step (fun _ => XS.aloadN X6.here hx rfl (hb hby d9_34) rfl rfl) ?_
  show Done _ p e below s _ _ (T6.setTop (mkF m 35 #[.val (.ref wh), .val (.ref x1), .val (.long mxx), .second, .val (.long (0 : Int64)), .second, .val (.int (1 : Int32)), .val (.int (0 : Int32)), .unset] [(.ref x1)]))
  refine Done.step (fun _ => XS.iload X6.here hx rfl (hb hby d9_35) rfl) ?_
  show Done _ p e below s _ _ (T6.setTop (mkF m 37 #[.val (.ref wh), .val (.ref x1), .val (.long mxx), .second, .val (.long (0 : Int64)), .second, .val (.int (1 : Int32)), .val (.int (0 : Int32)), .unset] [(.int (0 : Int32)), (.ref x1)]))
  refine Done.callVB (nc := 0) (ns := 0) (C := "java/lang/String") (z := (⟨"java/lang/String", "charAt", "(I)C"⟩ : MethodName)) (Qh := (fun v h' L => v = some (.int ((cs1).getD 0 0)) ∧ L = [] ∧ h' = h0)) X6 hx hZ hown (wAt hw 62 rfl) (wAt hw 63 rfl) (notFace_of_selects (args := #[]) (mvT hZ (wAt hw 65 rfl))) (wAt hw 65 rfl) (wAt hw 64 rfl) (by decide) (StrChars.Road.chN (W := 0) hZ (own_hch hw) (kI := 4) (wAt hw 8 rfl) E1 V1 C1 K1 hcd1 hbd1 (SC.ext O0.2) hz (SF.ext O0.2) rF l1 (i := 0) hlen (j := (0 : Int32)) rfl (by decide) (by decide)) e6 E1 (g := (mkF m 37 #[.val (.ref wh), .val (.ref x1), .val (.long mxx), .second, .val (.long (0 : Int64)), .second, .val (.int (1 : Int32)), .val (.int (0 : Int32)), .unset] [(.int (0 : Int32)), (.ref x1)])) rfl (by rw [hml]; rfl) [(.int (0 : Int32))] [] (lenOf pd_2 rfl) rfl rfl (by show 2 * 0 + _ ≤ _; exact Nat.le_of_eq rfl) (hb hby d9_37) (by decide) (by decide) ?_
  intro T7 v7 L7 X7 q7
  obtain ⟨rfl, rfl, e7⟩ := q7
  rw [List.append_nil] at X7
  show Done _ p e below s _ _ (T7.setTop (mkF m 40 #[.val (.ref wh), .val (.ref x1), .val (.long mxx), .second, .val (.long (0 : Int64)), .second, .val (.int (1 : Int32)), .val (.int (0 : Int32)), .unset] [(.int (cs1.getD 0 0))]))
  refine Done.step (fun _ => XT.bipushV X7.here hx rfl (48 : Int32) (hb hby d9_40) (by decide)) ?_
  show Done _ p e below s _ _ (T7.setTop (mkF m 42 #[.val (.ref wh), .val (.ref x1), .val (.long mxx), .second, .val (.long (0 : Int64)), .second, .val (.int (1 : Int32)), .val (.int (0 : Int32)), .unset] [(.int (48 : Int32)), (.int (cs1.getD 0 0))]))
  refine Done.step (fun _ => XS.isub X7.here hx rfl (hb hby d9_42) rfl) ?_
  show Done _ p e below s _ _ (T7.setTop (mkF m 43 #[.val (.ref wh), .val (.ref x1), .val (.long mxx), .second, .val (.long (0 : Int64)), .second, .val (.int (1 : Int32)), .val (.int (0 : Int32)), .unset] [(.int ((cs1.getD 0 0) - (48 : Int32)))]))
  refine Done.step (fun _ => XS.istore X7.here hx rfl (hb hby d9_43) rfl (l' := #[.val (.ref wh), .val (.ref x1), .val (.long mxx), .second, .val (.long (0 : Int64)), .second, .val (.int (1 : Int32)), .val (.int (0 : Int32)), .val (.int ((cs1.getD 0 0) - (48 : Int32)))]) rfl) ?_
  show Done _ p e below s _ _ (T7.setTop (mkF m 45 #[.val (.ref wh), .val (.ref x1), .val (.long mxx), .second, .val (.long (0 : Int64)), .second, .val (.int (1 : Int32)), .val (.int (0 : Int32)), .val (.int ((cs1.getD 0 0) - (48 : Int32)))] []))
  refine Done.step (fun _ => XS.iload X7.here hx rfl (hb hby d9_45) rfl) ?_
  show Done _ p e below s _ _ (T7.setTop (mkF m 47 #[.val (.ref wh), .val (.ref x1), .val (.long mxx), .second, .val (.long (0 : Int64)), .second, .val (.int (1 : Int32)), .val (.int (0 : Int32)), .val (.int ((cs1.getD 0 0) - (48 : Int32)))] [(.int ((cs1.getD 0 0) - (48 : Int32)))]))
  refine Done.step (fun _ => XS.ifNo X7.here hx rfl (hb hby d9_47) rfl (XT.i0_lt_f (own_t1 hd hlen))) ?_
  show Done _ p e below s _ _ (T7.setTop (mkF m 50 #[.val (.ref wh), .val (.ref x1), .val (.long mxx), .second, .val (.long (0 : Int64)), .second, .val (.int (1 : Int32)), .val (.int (0 : Int32)), .val (.int ((cs1.getD 0 0) - (48 : Int32)))] []))
  refine Done.step (fun _ => XS.iload X7.here hx rfl (hb hby d9_50) rfl) ?_
  show Done _ p e below s _ _ (T7.setTop (mkF m 52 #[.val (.ref wh), .val (.ref x1), .val (.long mxx), .second, .val (.long (0 : Int64)), .second, .val (.int (1 : Int32)), .val (.int (0 : Int32)), .val (.int ((cs1.getD 0 0) - (48 : Int32)))] [(.int ((cs1.getD 0 0) - (48 : Int32)))]))
  refine Done.step (fun _ => XT.i2l X7.here hx rfl (hb hby d9_52) rfl) ?_
  show Done _ p e below s _ _ (T7.setTop (mkF m 53 #[.val (.ref wh), .val (.ref x1), .val (.long mxx), .second, .val (.long (0 : Int64)), .second, .val (.int (1 : Int32)), .val (.int (0 : Int32)), .val (.int ((cs1.getD 0 0) - (48 : Int32)))] [(.long (((cs1.getD 0 0) - (48 : Int32)).toInt64))]))
  refine Done.step (fun _ => Stand.ldc2J X7 hx hown (mvT hZ (wAt hw 84 rfl)) (g := (mkF m 53 #[.val (.ref wh), .val (.ref x1), .val (.long mxx), .second, .val (.long (0 : Int64)), .second, .val (.int (1 : Int32)), .val (.int (0 : Int32)), .val (.int ((cs1.getD 0 0) - (48 : Int32)))] [(.long (((cs1.getD 0 0) - (48 : Int32)).toInt64))])) rfl (hb hby d9_53)) ?_
  show Done _ p e below s _ _ (T7.setTop (mkF m 56 #[.val (.ref wh), .val (.ref x1), .val (.long mxx), .second, .val (.long (0 : Int64)), .second, .val (.int (1 : Int32)), .val (.int (0 : Int32)), .val (.int ((cs1.getD 0 0) - (48 : Int32)))] [(.long (9 : Int64)), (.long (((cs1.getD 0 0) - (48 : Int32)).toInt64))]))
  refine Done.step (fun _ => XT.lloadN X7.here hx rfl (hb hby d9_56) rfl) ?_
  show Done _ p e below s _ _ (T7.setTop (mkF m 57 #[.val (.ref wh), .val (.ref x1), .val (.long mxx), .second, .val (.long (0 : Int64)), .second, .val (.int (1 : Int32)), .val (.int (0 : Int32)), .val (.int ((cs1.getD 0 0) - (48 : Int32)))] [(.long mxx), (.long (9 : Int64)), (.long (((cs1.getD 0 0) - (48 : Int32)).toInt64))]))
  refine Done.callSP X7 hx hZ hown (wAt hw 85 rfl) (wAt hw 86 rfl) (wAt hw 38 rfl) (wAt hw 87 rfl) (by decide) (rmMi l Z a0 hw [] (9 : Int64) mxx h0 n0 Z0) e7 (g := (mkF m 57 #[.val (.ref wh), .val (.ref x1), .val (.long mxx), .second, .val (.long (0 : Int64)), .second, .val (.int (1 : Int32)), .val (.int (0 : Int32)), .val (.int ((cs1.getD 0 0) - (48 : Int32)))] [(.long mxx), (.long (9 : Int64)), (.long (((cs1.getD 0 0) - (48 : Int32)).toInt64))])) rfl (by rw [hml]; rfl) [(.long (9 : Int64)), (.long mxx)] [(.long (((cs1.getD 0 0) - (48 : Int32)).toInt64))] 2 (lenOf pd_3 rfl) rfl rfl (by show 2 * 0 + _ ≤ _; exact Nat.le_of_eq rfl) (hb hby d9_57) (by decide) (by decide) (by decide) (by decide) rfl rfl ?_
  intro T8 X8 e8
  show Done _ p e below s _ _ (T8.setTop (mkF m 60 #[.val (.ref wh), .val (.ref x1), .val (.long mxx), .second, .val (.long (0 : Int64)), .second, .val (.int (1 : Int32)), .val (.int (0 : Int32)), .val (.int ((cs1.getD 0 0) - (48 : Int32)))] [(.long (own_min (9 : Int64) mxx)), (.long (((cs1.getD 0 0) - (48 : Int32)).toInt64))]))
  refine Done.step (fun _ => XT.lcmp X8.here hx rfl (hb hby d9_60) rfl) ?_
  show Done _ p e below s _ _ (T8.setTop (mkF m 61 #[.val (.ref wh), .val (.ref x1), .val (.long mxx), .second, .val (.long (0 : Int64)), .second, .val (.int (1 : Int32)), .val (.int (0 : Int32)), .val (.int ((cs1.getD 0 0) - (48 : Int32)))] [(.int (XT.cmpL (((cs1.getD 0 0) - (48 : Int32)).toInt64) (own_min (9 : Int64) mxx)))]))
  refine Done.step (fun _ => XS.ifNo X8.here hx rfl (hb hby d9_61) rfl (XT.ll_gt_f (own_t2 hd hlen hm))) ?_
  show Done _ p e below s _ _ (T8.setTop (mkF m 64 #[.val (.ref wh), .val (.ref x1), .val (.long mxx), .second, .val (.long (0 : Int64)), .second, .val (.int (1 : Int32)), .val (.int (0 : Int32)), .val (.int ((cs1.getD 0 0) - (48 : Int32)))] []))
  refine Done.step (fun _ => XT.lload X8.here hx rfl (hb hby d9_64) rfl) ?_
  show Done _ p e below s _ _ (T8.setTop (mkF m 66 #[.val (.ref wh), .val (.ref x1), .val (.long mxx), .second, .val (.long (0 : Int64)), .second, .val (.int (1 : Int32)), .val (.int (0 : Int32)), .val (.int ((cs1.getD 0 0) - (48 : Int32)))] [(.long (0 : Int64))]))
  refine Done.step (fun _ => XT.lloadN X8.here hx rfl (hb hby d9_66) rfl) ?_
  show Done _ p e below s _ _ (T8.setTop (mkF m 67 #[.val (.ref wh), .val (.ref x1), .val (.long mxx), .second, .val (.long (0 : Int64)), .second, .val (.int (1 : Int32)), .val (.int (0 : Int32)), .val (.int ((cs1.getD 0 0) - (48 : Int32)))] [(.long mxx), (.long (0 : Int64))]))
  refine Done.step (fun _ => XS.iload X8.here hx rfl (hb hby d9_67) rfl) ?_
  show Done _ p e below s _ _ (T8.setTop (mkF m 69 #[.val (.ref wh), .val (.ref x1), .val (.long mxx), .second, .val (.long (0 : Int64)), .second, .val (.int (1 : Int32)), .val (.int (0 : Int32)), .val (.int ((cs1.getD 0 0) - (48 : Int32)))] [(.int ((cs1.getD 0 0) - (48 : Int32))), (.long mxx), (.long (0 : Int64))]))
  refine Done.step (fun _ => XT.i2l X8.here hx rfl (hb hby d9_69) rfl) ?_
  show Done _ p e below s _ _ (T8.setTop (mkF m 70 #[.val (.ref wh), .val (.ref x1), .val (.long mxx), .second, .val (.long (0 : Int64)), .second, .val (.int (1 : Int32)), .val (.int (0 : Int32)), .val (.int ((cs1.getD 0 0) - (48 : Int32)))] [(.long (((cs1.getD 0 0) - (48 : Int32)).toInt64)), (.long mxx), (.long (0 : Int64))]))
  refine Done.step (fun _ => XT.lsub X8.here hx rfl (hb hby d9_70) rfl) ?_
  show Done _ p e below s _ _ (T8.setTop (mkF m 71 #[.val (.ref wh), .val (.ref x1), .val (.long mxx), .second, .val (.long (0 : Int64)), .second, .val (.int (1 : Int32)), .val (.int (0 : Int32)), .val (.int ((cs1.getD 0 0) - (48 : Int32)))] [(.long (mxx - (((cs1.getD 0 0) - (48 : Int32)).toInt64))), (.long (0 : Int64))]))
  refine Done.step (fun _ => Stand.ldc2J X8 hx hown (mvT hZ (wAt hw 88 rfl)) (g := (mkF m 71 #[.val (.ref wh), .val (.ref x1), .val (.long mxx), .second, .val (.long (0 : Int64)), .second, .val (.int (1 : Int32)), .val (.int (0 : Int32)), .val (.int ((cs1.getD 0 0) - (48 : Int32)))] [(.long (mxx - (((cs1.getD 0 0) - (48 : Int32)).toInt64))), (.long (0 : Int64))])) rfl (hb hby d9_71)) ?_
  show Done _ p e below s _ _ (T8.setTop (mkF m 74 #[.val (.ref wh), .val (.ref x1), .val (.long mxx), .second, .val (.long (0 : Int64)), .second, .val (.int (1 : Int32)), .val (.int (0 : Int32)), .val (.int ((cs1.getD 0 0) - (48 : Int32)))] [(.long (10 : Int64)), (.long (mxx - (((cs1.getD 0 0) - (48 : Int32)).toInt64))), (.long (0 : Int64))]))
  refine Done.step (fun _ => XT.ldiv X8.here hx rfl (hb hby d9_74) rfl (by decide)) ?_
  show Done _ p e below s _ _ (T8.setTop (mkF m 75 #[.val (.ref wh), .val (.ref x1), .val (.long mxx), .second, .val (.long (0 : Int64)), .second, .val (.int (1 : Int32)), .val (.int (0 : Int32)), .val (.int ((cs1.getD 0 0) - (48 : Int32)))] [(.long ((mxx - (((cs1.getD 0 0) - (48 : Int32)).toInt64)) / (10 : Int64))), (.long (0 : Int64))]))
  refine Done.step (fun _ => XT.lcmp X8.here hx rfl (hb hby d9_75) rfl) ?_
  show Done _ p e below s _ _ (T8.setTop (mkF m 76 #[.val (.ref wh), .val (.ref x1), .val (.long mxx), .second, .val (.long (0 : Int64)), .second, .val (.int (1 : Int32)), .val (.int (0 : Int32)), .val (.int ((cs1.getD 0 0) - (48 : Int32)))] [(.int (XT.cmpL (0 : Int64) ((mxx - (((cs1.getD 0 0) - (48 : Int32)).toInt64)) / (10 : Int64))))]))
  refine Done.step (fun _ => XS.ifNo X8.here hx rfl (hb hby d9_76) rfl (XT.ll_gt_f (own_t3 (i := 0) hd hlen hm))) ?_
  show Done _ p e below s _ _ (T8.setTop (mkF m 79 #[.val (.ref wh), .val (.ref x1), .val (.long mxx), .second, .val (.long (0 : Int64)), .second, .val (.int (1 : Int32)), .val (.int (0 : Int32)), .val (.int ((cs1.getD 0 0) - (48 : Int32)))] []))
  refine Done.step (fun _ => XT.iconstV X8.here hx rfl (1 : Int32) (hb hby d9_79) (by decide)) ?_
  show Done _ p e below s _ _ (T8.setTop (mkF m 80 #[.val (.ref wh), .val (.ref x1), .val (.long mxx), .second, .val (.long (0 : Int64)), .second, .val (.int (1 : Int32)), .val (.int (0 : Int32)), .val (.int ((cs1.getD 0 0) - (48 : Int32)))] [(.int (1 : Int32))]))
  refine Done.step (fun _ => XS.goto X8.here hx rfl (pc0 := 80) (pc' := 84) rfl (hb hby d9_80) (by decide) (by decide)) ?_
  show Done _ p e below s _ _ (T8.setTop (mkF m 84 #[.val (.ref wh), .val (.ref x1), .val (.long mxx), .second, .val (.long (0 : Int64)), .second, .val (.int (1 : Int32)), .val (.int (0 : Int32)), .val (.int ((cs1.getD 0 0) - (48 : Int32)))] [(.int (1 : Int32))]))
  refine Done.step (fun _ => XS.istore X8.here hx rfl (hb hby d9_84) rfl (l' := #[.val (.ref wh), .val (.ref x1), .val (.long mxx), .second, .val (.long (0 : Int64)), .second, .val (.int (1 : Int32)), .val (.int (0 : Int32)), .val (.int ((cs1.getD 0 0) - (48 : Int32)))]) rfl) ?_
  show Done _ p e below s _ _ (T8.setTop (mkF m 86 #[.val (.ref wh), .val (.ref x1), .val (.long mxx), .second, .val (.long (0 : Int64)), .second, .val (.int (1 : Int32)), .val (.int (0 : Int32)), .val (.int ((cs1.getD 0 0) - (48 : Int32)))] []))
  refine Done.step (fun _ => XT.lload X8.here hx rfl (hb hby d9_86) rfl) ?_
  show Done _ p e below s _ _ (T8.setTop (mkF m 88 #[.val (.ref wh), .val (.ref x1), .val (.long mxx), .second, .val (.long (0 : Int64)), .second, .val (.int (1 : Int32)), .val (.int (0 : Int32)), .val (.int ((cs1.getD 0 0) - (48 : Int32)))] [(.long (0 : Int64))]))
  refine Done.step (fun _ => Stand.ldc2J X8 hx hown (mvT hZ (wAt hw 88 rfl)) (g := (mkF m 88 #[.val (.ref wh), .val (.ref x1), .val (.long mxx), .second, .val (.long (0 : Int64)), .second, .val (.int (1 : Int32)), .val (.int (0 : Int32)), .val (.int ((cs1.getD 0 0) - (48 : Int32)))] [(.long (0 : Int64))])) rfl (hb hby d9_88)) ?_
  show Done _ p e below s _ _ (T8.setTop (mkF m 91 #[.val (.ref wh), .val (.ref x1), .val (.long mxx), .second, .val (.long (0 : Int64)), .second, .val (.int (1 : Int32)), .val (.int (0 : Int32)), .val (.int ((cs1.getD 0 0) - (48 : Int32)))] [(.long (10 : Int64)), (.long (0 : Int64))]))
  refine Done.step (fun _ => XT.lmul X8.here hx rfl (hb hby d9_91) rfl) ?_
  show Done _ p e below s _ _ (T8.setTop (mkF m 92 #[.val (.ref wh), .val (.ref x1), .val (.long mxx), .second, .val (.long (0 : Int64)), .second, .val (.int (1 : Int32)), .val (.int (0 : Int32)), .val (.int ((cs1.getD 0 0) - (48 : Int32)))] [(.long (0 : Int64))]))
  refine Done.step (fun _ => XS.iload X8.here hx rfl (hb hby d9_92) rfl) ?_
  show Done _ p e below s _ _ (T8.setTop (mkF m 94 #[.val (.ref wh), .val (.ref x1), .val (.long mxx), .second, .val (.long (0 : Int64)), .second, .val (.int (1 : Int32)), .val (.int (0 : Int32)), .val (.int ((cs1.getD 0 0) - (48 : Int32)))] [(.int ((cs1.getD 0 0) - (48 : Int32))), (.long (0 : Int64))]))
  refine Done.step (fun _ => XT.i2l X8.here hx rfl (hb hby d9_94) rfl) ?_
  show Done _ p e below s _ _ (T8.setTop (mkF m 95 #[.val (.ref wh), .val (.ref x1), .val (.long mxx), .second, .val (.long (0 : Int64)), .second, .val (.int (1 : Int32)), .val (.int (0 : Int32)), .val (.int ((cs1.getD 0 0) - (48 : Int32)))] [(.long (((cs1.getD 0 0) - (48 : Int32)).toInt64)), (.long (0 : Int64))]))
  refine Done.step (fun _ => XT.ladd X8.here hx rfl (hb hby d9_95) rfl) ?_
  show Done _ p e below s _ _ (T8.setTop (mkF m 96 #[.val (.ref wh), .val (.ref x1), .val (.long mxx), .second, .val (.long (0 : Int64)), .second, .val (.int (1 : Int32)), .val (.int (0 : Int32)), .val (.int ((cs1.getD 0 0) - (48 : Int32)))] [(.long ((0 : Int64) + (((cs1.getD 0 0) - (48 : Int32)).toInt64)))]))
  refine Done.step (fun _ => XT.lstore X8.here hx rfl (hb hby d9_96) rfl (l' := #[.val (.ref wh), .val (.ref x1), .val (.long mxx), .second, .val (.long ((0 : Int64) + (((cs1.getD 0 0) - (48 : Int32)).toInt64))), .second, .val (.int (1 : Int32)), .val (.int (0 : Int32)), .val (.int ((cs1.getD 0 0) - (48 : Int32)))]) rfl) ?_
  show Done _ p e below s _ _ (T8.setTop (mkF m 98 #[.val (.ref wh), .val (.ref x1), .val (.long mxx), .second, .val (.long ((0 : Int64) + (((cs1.getD 0 0) - (48 : Int32)).toInt64))), .second, .val (.int (1 : Int32)), .val (.int (0 : Int32)), .val (.int ((cs1.getD 0 0) - (48 : Int32)))] []))
  refine Done.step (fun _ => XS.iinc X8.here hx rfl (hb hby d9_98) rfl (l' := #[.val (.ref wh), .val (.ref x1), .val (.long mxx), .second, .val (.long ((0 : Int64) + (((cs1.getD 0 0) - (48 : Int32)).toInt64))), .second, .val (.int (1 : Int32)), .val (.int (1 : Int32)), .val (.int ((cs1.getD 0 0) - (48 : Int32)))]) rfl) ?_
  show Done _ p e below s _ _ (T8.setTop (mkF m 101 #[.val (.ref wh), .val (.ref x1), .val (.long mxx), .second, .val (.long ((0 : Int64) + (((cs1.getD 0 0) - (48 : Int32)).toInt64))), .second, .val (.int (1 : Int32)), .val (.int (1 : Int32)), .val (.int ((cs1.getD 0 0) - (48 : Int32)))] []))
  refine Done.step (fun _ => XS.goto X8.here hx rfl (pc0 := 101) (pc' := 20) rfl (hb hby d9_101) (by decide) (by decide)) ?_
  show Done _ p e below s _ _ (T8.setTop (mkF m 20 #[.val (.ref wh), .val (.ref x1), .val (.long mxx), .second, .val (.long ((0 : Int64) + (((cs1.getD 0 0) - (48 : Int32)).toInt64))), .second, .val (.int (1 : Int32)), .val (.int (1 : Int32)), .val (.int ((cs1.getD 0 0) - (48 : Int32)))] []))
  have hn1 : ((0 : Int64) + (((cs1.getD 0 0) - (48 : Int32)).toInt64)) = Int64.ofInt (own_pv cs1 1) := own_t4 (i := 0) hd hlen hm
  rw [hn1]
  exact LP (cs1.length - 1) 1 _ T8 (by omega) (by omega) e8 X8
theorem own_dgr {n p : Int64} (hn : 0 ≤ n.toInt) (hp : 0 < p.toInt) : 48 ≤ (own_dg n p).toInt ∧ (own_dg n p).toInt ≤ 57 := by
  rw [own_dgv hn hp]; omega
theorem own_dgb {n p : Int64} (hn : 0 ≤ n.toInt) (hp : 0 < p.toInt) : ¬ own_dg n p < 0 ∧ ¬ (255 : Int32) < own_dg n p := by
  have := own_dgr hn hp
  have z : (0 : Int32).toInt = 0 := rfl
  have y : (255 : Int32).toInt = 255 := rfl
  rw [Int32.lt_iff_toInt_lt, Int32.lt_iff_toInt_lt, z, y]; omega
theorem own_dv {n p : Int64} {a : Int} (hn : 0 ≤ n.toInt) (hp : 0 < p.toInt) (ha : a = n.toInt / (p.toInt * 10)) : a * 10 + ((own_dg n p).toInt - 48) = n.toInt / p.toInt := by
  rw [own_dgv hn hp, ha, ← Int.ediv_ediv_of_nonneg (by omega)]; omega
set_option maxRecDepth 65536 in
theorem own_cs1 {n : Int64} (h0 : 0 ≤ n.toInt) (h1 : n.toInt < 10) : own_Dig ([own_dg n (1 : Int64)] : List Int32) ∧ own_pv ([own_dg n (1 : Int64)] : List Int32) 1 = n.toInt ∧ ∀ c ∈ ([own_dg n (1 : Int64)] : List Int32), ¬ c < 0 ∧ ¬ (255 : Int32) < c := by
  refine ⟨?_, ?_, ?_⟩
  · intro i hi
    match i, hi with
    | 0, _ => exact own_dgr (p := (1 : Int64)) h0 (by decide)
    | i + 1, hi => exact absurd hi (by simp)
  · have q0 : (0 : Int) = n.toInt / ((1 : Int64).toInt * 10) := (Int.ediv_eq_zero_of_lt h0 h1).symm
    have q1 := own_dv (p := (1 : Int64)) h0 (by decide) q0
    exact q1.trans (Int.ediv_one _)
  · intro c hc
    rcases List.mem_cons.mp hc with e | hc
    · rw [e]; exact own_dgb h0 (by decide)
    exact absurd hc List.not_mem_nil
set_option maxRecDepth 65536 in
theorem own_cs2 {n : Int64} (h0 : 0 ≤ n.toInt) (h1 : n.toInt < 100) : own_Dig ([own_dg n (10 : Int64), own_dg n (1 : Int64)] : List Int32) ∧ own_pv ([own_dg n (10 : Int64), own_dg n (1 : Int64)] : List Int32) 2 = n.toInt ∧ ∀ c ∈ ([own_dg n (10 : Int64), own_dg n (1 : Int64)] : List Int32), ¬ c < 0 ∧ ¬ (255 : Int32) < c := by
  refine ⟨?_, ?_, ?_⟩
  · intro i hi
    match i, hi with
    | 0, _ => exact own_dgr (p := (10 : Int64)) h0 (by decide)
    | 1, _ => exact own_dgr (p := (1 : Int64)) h0 (by decide)
    | i + 2, hi => exact absurd hi (by simp)
  · have q0 : (0 : Int) = n.toInt / ((10 : Int64).toInt * 10) := (Int.ediv_eq_zero_of_lt h0 h1).symm
    have q1 := own_dv (p := (10 : Int64)) h0 (by decide) q0
    replace q1 : _ = n.toInt / ((1 : Int64).toInt * 10) := q1
    have q2 := own_dv (p := (1 : Int64)) h0 (by decide) q1
    exact q2.trans (Int.ediv_one _)
  · intro c hc
    rcases List.mem_cons.mp hc with e | hc
    · rw [e]; exact own_dgb h0 (by decide)
    rcases List.mem_cons.mp hc with e | hc
    · rw [e]; exact own_dgb h0 (by decide)
    exact absurd hc List.not_mem_nil
set_option maxRecDepth 65536 in
theorem own_cs3 {n : Int64} (h0 : 0 ≤ n.toInt) (h1 : n.toInt < 1000) : own_Dig ([own_dg n (100 : Int64), own_dg n (10 : Int64), own_dg n (1 : Int64)] : List Int32) ∧ own_pv ([own_dg n (100 : Int64), own_dg n (10 : Int64), own_dg n (1 : Int64)] : List Int32) 3 = n.toInt ∧ ∀ c ∈ ([own_dg n (100 : Int64), own_dg n (10 : Int64), own_dg n (1 : Int64)] : List Int32), ¬ c < 0 ∧ ¬ (255 : Int32) < c := by
  refine ⟨?_, ?_, ?_⟩
  · intro i hi
    match i, hi with
    | 0, _ => exact own_dgr (p := (100 : Int64)) h0 (by decide)
    | 1, _ => exact own_dgr (p := (10 : Int64)) h0 (by decide)
    | 2, _ => exact own_dgr (p := (1 : Int64)) h0 (by decide)
    | i + 3, hi => exact absurd hi (by simp)
  · have q0 : (0 : Int) = n.toInt / ((100 : Int64).toInt * 10) := (Int.ediv_eq_zero_of_lt h0 h1).symm
    have q1 := own_dv (p := (100 : Int64)) h0 (by decide) q0
    replace q1 : _ = n.toInt / ((10 : Int64).toInt * 10) := q1
    have q2 := own_dv (p := (10 : Int64)) h0 (by decide) q1
    replace q2 : _ = n.toInt / ((1 : Int64).toInt * 10) := q2
    have q3 := own_dv (p := (1 : Int64)) h0 (by decide) q2
    exact q3.trans (Int.ediv_one _)
  · intro c hc
    rcases List.mem_cons.mp hc with e | hc
    · rw [e]; exact own_dgb h0 (by decide)
    rcases List.mem_cons.mp hc with e | hc
    · rw [e]; exact own_dgb h0 (by decide)
    rcases List.mem_cons.mp hc with e | hc
    · rw [e]; exact own_dgb h0 (by decide)
    exact absurd hc List.not_mem_nil
set_option maxRecDepth 65536 in
theorem own_cs19 {n : Int64} (h0 : 0 ≤ n.toInt) (h1 : n.toInt < 10000000000000000000) : own_Dig ([own_dg n (1000000000000000000 : Int64), own_dg n (100000000000000000 : Int64), own_dg n (10000000000000000 : Int64), own_dg n (1000000000000000 : Int64), own_dg n (100000000000000 : Int64), own_dg n (10000000000000 : Int64), own_dg n (1000000000000 : Int64), own_dg n (100000000000 : Int64), own_dg n (10000000000 : Int64), own_dg n (1000000000 : Int64), own_dg n (100000000 : Int64), own_dg n (10000000 : Int64), own_dg n (1000000 : Int64), own_dg n (100000 : Int64), own_dg n (10000 : Int64), own_dg n (1000 : Int64), own_dg n (100 : Int64), own_dg n (10 : Int64), own_dg n (1 : Int64)] : List Int32) ∧ own_pv ([own_dg n (1000000000000000000 : Int64), own_dg n (100000000000000000 : Int64), own_dg n (10000000000000000 : Int64), own_dg n (1000000000000000 : Int64), own_dg n (100000000000000 : Int64), own_dg n (10000000000000 : Int64), own_dg n (1000000000000 : Int64), own_dg n (100000000000 : Int64), own_dg n (10000000000 : Int64), own_dg n (1000000000 : Int64), own_dg n (100000000 : Int64), own_dg n (10000000 : Int64), own_dg n (1000000 : Int64), own_dg n (100000 : Int64), own_dg n (10000 : Int64), own_dg n (1000 : Int64), own_dg n (100 : Int64), own_dg n (10 : Int64), own_dg n (1 : Int64)] : List Int32) 19 = n.toInt ∧ ∀ c ∈ ([own_dg n (1000000000000000000 : Int64), own_dg n (100000000000000000 : Int64), own_dg n (10000000000000000 : Int64), own_dg n (1000000000000000 : Int64), own_dg n (100000000000000 : Int64), own_dg n (10000000000000 : Int64), own_dg n (1000000000000 : Int64), own_dg n (100000000000 : Int64), own_dg n (10000000000 : Int64), own_dg n (1000000000 : Int64), own_dg n (100000000 : Int64), own_dg n (10000000 : Int64), own_dg n (1000000 : Int64), own_dg n (100000 : Int64), own_dg n (10000 : Int64), own_dg n (1000 : Int64), own_dg n (100 : Int64), own_dg n (10 : Int64), own_dg n (1 : Int64)] : List Int32), ¬ c < 0 ∧ ¬ (255 : Int32) < c := by
  refine ⟨?_, ?_, ?_⟩
  · intro i hi
    match i, hi with
    | 0, _ => exact own_dgr (p := (1000000000000000000 : Int64)) h0 (by decide)
    | 1, _ => exact own_dgr (p := (100000000000000000 : Int64)) h0 (by decide)
    | 2, _ => exact own_dgr (p := (10000000000000000 : Int64)) h0 (by decide)
    | 3, _ => exact own_dgr (p := (1000000000000000 : Int64)) h0 (by decide)
    | 4, _ => exact own_dgr (p := (100000000000000 : Int64)) h0 (by decide)
    | 5, _ => exact own_dgr (p := (10000000000000 : Int64)) h0 (by decide)
    | 6, _ => exact own_dgr (p := (1000000000000 : Int64)) h0 (by decide)
    | 7, _ => exact own_dgr (p := (100000000000 : Int64)) h0 (by decide)
    | 8, _ => exact own_dgr (p := (10000000000 : Int64)) h0 (by decide)
    | 9, _ => exact own_dgr (p := (1000000000 : Int64)) h0 (by decide)
    | 10, _ => exact own_dgr (p := (100000000 : Int64)) h0 (by decide)
    | 11, _ => exact own_dgr (p := (10000000 : Int64)) h0 (by decide)
    | 12, _ => exact own_dgr (p := (1000000 : Int64)) h0 (by decide)
    | 13, _ => exact own_dgr (p := (100000 : Int64)) h0 (by decide)
    | 14, _ => exact own_dgr (p := (10000 : Int64)) h0 (by decide)
    | 15, _ => exact own_dgr (p := (1000 : Int64)) h0 (by decide)
    | 16, _ => exact own_dgr (p := (100 : Int64)) h0 (by decide)
    | 17, _ => exact own_dgr (p := (10 : Int64)) h0 (by decide)
    | 18, _ => exact own_dgr (p := (1 : Int64)) h0 (by decide)
    | i + 19, hi => exact absurd hi (by simp)
  · have q0 : (0 : Int) = n.toInt / ((1000000000000000000 : Int64).toInt * 10) := (Int.ediv_eq_zero_of_lt h0 h1).symm
    have q1 := own_dv (p := (1000000000000000000 : Int64)) h0 (by decide) q0
    replace q1 : _ = n.toInt / ((100000000000000000 : Int64).toInt * 10) := q1
    have q2 := own_dv (p := (100000000000000000 : Int64)) h0 (by decide) q1
    replace q2 : _ = n.toInt / ((10000000000000000 : Int64).toInt * 10) := q2
    have q3 := own_dv (p := (10000000000000000 : Int64)) h0 (by decide) q2
    replace q3 : _ = n.toInt / ((1000000000000000 : Int64).toInt * 10) := q3
    have q4 := own_dv (p := (1000000000000000 : Int64)) h0 (by decide) q3
    replace q4 : _ = n.toInt / ((100000000000000 : Int64).toInt * 10) := q4
    have q5 := own_dv (p := (100000000000000 : Int64)) h0 (by decide) q4
    replace q5 : _ = n.toInt / ((10000000000000 : Int64).toInt * 10) := q5
    have q6 := own_dv (p := (10000000000000 : Int64)) h0 (by decide) q5
    replace q6 : _ = n.toInt / ((1000000000000 : Int64).toInt * 10) := q6
    have q7 := own_dv (p := (1000000000000 : Int64)) h0 (by decide) q6
    replace q7 : _ = n.toInt / ((100000000000 : Int64).toInt * 10) := q7
    have q8 := own_dv (p := (100000000000 : Int64)) h0 (by decide) q7
    replace q8 : _ = n.toInt / ((10000000000 : Int64).toInt * 10) := q8
    have q9 := own_dv (p := (10000000000 : Int64)) h0 (by decide) q8
    replace q9 : _ = n.toInt / ((1000000000 : Int64).toInt * 10) := q9
    have q10 := own_dv (p := (1000000000 : Int64)) h0 (by decide) q9
    replace q10 : _ = n.toInt / ((100000000 : Int64).toInt * 10) := q10
    have q11 := own_dv (p := (100000000 : Int64)) h0 (by decide) q10
    replace q11 : _ = n.toInt / ((10000000 : Int64).toInt * 10) := q11
    have q12 := own_dv (p := (10000000 : Int64)) h0 (by decide) q11
    replace q12 : _ = n.toInt / ((1000000 : Int64).toInt * 10) := q12
    have q13 := own_dv (p := (1000000 : Int64)) h0 (by decide) q12
    replace q13 : _ = n.toInt / ((100000 : Int64).toInt * 10) := q13
    have q14 := own_dv (p := (100000 : Int64)) h0 (by decide) q13
    replace q14 : _ = n.toInt / ((10000 : Int64).toInt * 10) := q14
    have q15 := own_dv (p := (10000 : Int64)) h0 (by decide) q14
    replace q15 : _ = n.toInt / ((1000 : Int64).toInt * 10) := q15
    have q16 := own_dv (p := (1000 : Int64)) h0 (by decide) q15
    replace q16 : _ = n.toInt / ((100 : Int64).toInt * 10) := q16
    have q17 := own_dv (p := (100 : Int64)) h0 (by decide) q16
    replace q17 : _ = n.toInt / ((10 : Int64).toInt * 10) := q17
    have q18 := own_dv (p := (10 : Int64)) h0 (by decide) q17
    replace q18 : _ = n.toInt / ((1 : Int64).toInt * 10) := q18
    have q19 := own_dv (p := (1 : Int64)) h0 (by decide) q18
    exact q19.trans (Int.ediv_one _)
  · intro c hc
    rcases List.mem_cons.mp hc with e | hc
    · rw [e]; exact own_dgb h0 (by decide)
    rcases List.mem_cons.mp hc with e | hc
    · rw [e]; exact own_dgb h0 (by decide)
    rcases List.mem_cons.mp hc with e | hc
    · rw [e]; exact own_dgb h0 (by decide)
    rcases List.mem_cons.mp hc with e | hc
    · rw [e]; exact own_dgb h0 (by decide)
    rcases List.mem_cons.mp hc with e | hc
    · rw [e]; exact own_dgb h0 (by decide)
    rcases List.mem_cons.mp hc with e | hc
    · rw [e]; exact own_dgb h0 (by decide)
    rcases List.mem_cons.mp hc with e | hc
    · rw [e]; exact own_dgb h0 (by decide)
    rcases List.mem_cons.mp hc with e | hc
    · rw [e]; exact own_dgb h0 (by decide)
    rcases List.mem_cons.mp hc with e | hc
    · rw [e]; exact own_dgb h0 (by decide)
    rcases List.mem_cons.mp hc with e | hc
    · rw [e]; exact own_dgb h0 (by decide)
    rcases List.mem_cons.mp hc with e | hc
    · rw [e]; exact own_dgb h0 (by decide)
    rcases List.mem_cons.mp hc with e | hc
    · rw [e]; exact own_dgb h0 (by decide)
    rcases List.mem_cons.mp hc with e | hc
    · rw [e]; exact own_dgb h0 (by decide)
    rcases List.mem_cons.mp hc with e | hc
    · rw [e]; exact own_dgb h0 (by decide)
    rcases List.mem_cons.mp hc with e | hc
    · rw [e]; exact own_dgb h0 (by decide)
    rcases List.mem_cons.mp hc with e | hc
    · rw [e]; exact own_dgb h0 (by decide)
    rcases List.mem_cons.mp hc with e | hc
    · rw [e]; exact own_dgb h0 (by decide)
    rcases List.mem_cons.mp hc with e | hc
    · rw [e]; exact own_dgb h0 (by decide)
    rcases List.mem_cons.mp hc with e | hc
    · rw [e]; exact own_dgb h0 (by decide)
    exact absurd hc List.not_mem_nil
theorem own_pos (v : Int64) : 0 ≤ (v &&& (9223372036854775807 : Int64)).toInt := by
  have q : (v &&& (9223372036854775807 : Int64)).toInt = v.toInt % 2 ^ 63 := Jvm.Kit.i64_mask v _ (k := 63) (by decide) (by decide)
  rw [q]; omega
theorem own_rem {x y : Int64} (hx : 0 ≤ x.toInt) (hy : 0 < y.toInt) : 0 ≤ (x - (x / y) * y).toInt ∧ (x - (x / y) * y).toInt < y.toInt := by
  rw [Jvm.Kit.i64_rem_nonneg hx]
  exact ⟨Int.emod_nonneg _ (by omega), Int.emod_lt_of_pos _ hy⟩
theorem own_maxge (a b : Int64) : a.toInt ≤ (own_max a b).toInt := by
  unfold own_max
  split
  · rename_i h; rw [Int64.lt_iff_toInt_lt] at h; omega
  · exact Int.le_refl _
theorem pd_4 : parseMethodDescriptor "(JJ)C" = some ⟨[.long, .long], some .char⟩ := by decide +kernel
theorem pd_5 : parseMethodDescriptor "([C)V" = some ⟨[(.array .char)], none⟩ := by decide +kernel
theorem pd_6 : parseMethodDescriptor "(Ljava/lang/String;Ljava/lang/String;J)J" = some ⟨[(.object "java/lang/String"), (.object "java/lang/String"), .long], some .long⟩ := by decide +kernel
set_option maxRecDepth 65536 in
set_option maxHeartbeats 40000000 in
theorem rm0 (l : Launch) (Z : State) (a0 : Array Value) (hw : ∀ d ∈ tables_1, d.before a0 Z = true) (ws : List Jvm.Cond) (v mm : Int64) (sel : Int32) (z : Int32) (fm : Value) (h0 : Heap) (n0 : Nat) (Z0 : n0 ≤ h0.size) (O0 : Old Z n0 h0) (SC : Sta Z Z.heap "java/lang/String" "COMPACT_STRINGS" "Z" (.int z)) (hz : ¬ z = 0) (SF : Sta Z Z.heap "jdk/internal/util/Preconditions" "SIOOBE_FORMATTER" "Ljava/util/function/BiFunction;" fm) (rF : fm.isRef = true) :
    Ctr ReturnedEndW l Z x code maxLocals ret ws room_1 #[(.long v), (.long mm), (.int sel)] h0 TrueV (LawQ n0) := by
  refine Ctr.intro (plainFor_of_name pn_com_example_requeue_requeue_srmp_DecimalParsePinLaw) (Ls := #[.val (.long v), .second, .val (.long mm), .second, .val (.int sel), .unset, .unset, .unset, .unset, .unset, .unset, .unset, .unset]) (fun m => by first | (simp [entryFrame, mkF, argsToLocals, Value.category, maxLocals]; done) | rfl) ?_
  intro p e s m below meth c T0 hx hby hml hown hnm hret hlk hZ hV hsh e0 X0
  have N0 := Fr.nil n0
  have hown : s.vm.findClass "com/example/requeue/requeue/srmp/DecimalParsePinLaw" = some m.cls := hown
  have hret : meth.sig.returnType = (some .boolean) := hret
  have hml : c.maxLocals = 13 := hml
  have hS : s.Since s.vm 0 := (State.WarmedH.refl s).since 0
  have hk : 0 ≤ h0.size := Nat.zero_le _
  have X0 : Stand p l e room_1 (s.setVm s.vm) m #[(.long v), (.long mm), (.int sel)] below meth c T0 [] 0 0 := X0
  have hZ : Z.Warmed39 (s.setVm s.vm).vm := hZ
  have hown : (s.setVm s.vm).vm.findClass "com/example/requeue/requeue/srmp/DecimalParsePinLaw" = some m.cls := hown
  have own_wS := own_wS0 hw
  show Done _ p e below s _ _ (T0.setTop (mkF m 0 #[.val (.long v), .second, .val (.long mm), .second, .val (.int sel), .unset, .unset, .unset, .unset, .unset, .unset, .unset, .unset] []))
  refine Done.step (fun _ => XT.lloadN X0.here hx rfl (hb hby at_0) rfl) ?_
  show Done _ p e below s _ _ (T0.setTop (mkF m 1 #[.val (.long v), .second, .val (.long mm), .second, .val (.int sel), .unset, .unset, .unset, .unset, .unset, .unset, .unset, .unset] [(.long v)]))
  refine Done.step (fun _ => Stand.ldc2J X0 hx hown (mvT hZ (wAt hw 0 rfl)) (g := (mkF m 1 #[.val (.long v), .second, .val (.long mm), .second, .val (.int sel), .unset, .unset, .unset, .unset, .unset, .unset, .unset, .unset] [(.long v)])) rfl (hb hby at_1)) ?_
  show Done _ p e below s _ _ (T0.setTop (mkF m 4 #[.val (.long v), .second, .val (.long mm), .second, .val (.int sel), .unset, .unset, .unset, .unset, .unset, .unset, .unset, .unset] [(.long (9223372036854775807 : Int64)), (.long v)]))
  refine Done.step (fun _ => XT.land X0.here hx rfl (hb hby at_4) rfl) ?_
  show Done _ p e below s _ _ (T0.setTop (mkF m 5 #[.val (.long v), .second, .val (.long mm), .second, .val (.int sel), .unset, .unset, .unset, .unset, .unset, .unset, .unset, .unset] [(.long (v &&& (9223372036854775807 : Int64)))]))
  refine Done.step (fun _ => XT.lstore X0.here hx rfl (hb hby at_5) rfl (l' := #[.val (.long v), .second, .val (.long mm), .second, .val (.int sel), .val (.long (v &&& (9223372036854775807 : Int64))), .second, .unset, .unset, .unset, .unset, .unset, .unset]) rfl) ?_
  show Done _ p e below s _ _ (T0.setTop (mkF m 7 #[.val (.long v), .second, .val (.long mm), .second, .val (.int sel), .val (.long (v &&& (9223372036854775807 : Int64))), .second, .unset, .unset, .unset, .unset, .unset, .unset] []))
  refine Done.step (fun _ => XS.iload X0.here hx rfl (hb hby at_7) rfl) ?_
  show Done _ p e below s _ _ (T0.setTop (mkF m 9 #[.val (.long v), .second, .val (.long mm), .second, .val (.int sel), .val (.long (v &&& (9223372036854775807 : Int64))), .second, .unset, .unset, .unset, .unset, .unset, .unset] [(.int sel)]))
  refine Done.step (fun _ => XT.iconstV X0.here hx rfl (3 : Int32) (hb hby at_9) (by decide)) ?_
  show Done _ p e below s _ _ (T0.setTop (mkF m 10 #[.val (.long v), .second, .val (.long mm), .second, .val (.int sel), .val (.long (v &&& (9223372036854775807 : Int64))), .second, .unset, .unset, .unset, .unset, .unset, .unset] [(.int (3 : Int32)), (.int sel)]))
  refine Done.step (fun _ => XS.iand X0.here hx rfl (hb hby at_10) rfl) ?_
  show Done _ p e below s _ _ (T0.setTop (mkF m 11 #[.val (.long v), .second, .val (.long mm), .second, .val (.int sel), .val (.long (v &&& (9223372036854775807 : Int64))), .second, .unset, .unset, .unset, .unset, .unset, .unset] [(.int (sel &&& (3 : Int32)))]))
  refine Done.step (fun _ => XS.istore X0.here hx rfl (hb hby at_11) rfl (l' := #[.val (.long v), .second, .val (.long mm), .second, .val (.int sel), .val (.long (v &&& (9223372036854775807 : Int64))), .second, .val (.int (sel &&& (3 : Int32))), .unset, .unset, .unset, .unset, .unset]) rfl) ?_
  show Done _ p e below s _ _ (T0.setTop (mkF m 13 #[.val (.long v), .second, .val (.long mm), .second, .val (.int sel), .val (.long (v &&& (9223372036854775807 : Int64))), .second, .val (.int (sel &&& (3 : Int32))), .unset, .unset, .unset, .unset, .unset] []))
  refine Done.step (fun _ => XS.iload X0.here hx rfl (hb hby at_13) rfl) ?_
  show Done _ p e below s _ _ (T0.setTop (mkF m 15 #[.val (.long v), .second, .val (.long mm), .second, .val (.int sel), .val (.long (v &&& (9223372036854775807 : Int64))), .second, .val (.int (sel &&& (3 : Int32))), .unset, .unset, .unset, .unset, .unset] [(.int (sel &&& (3 : Int32)))]))
  by_cases hc1 : (sel &&& (3 : Int32)) = (0 : Int32)
  · refine Done.step (fun _ => XS.ifNo X0.here hx rfl (hb hby at_15) rfl (XT.i0_ne_f hc1)) ?_
    show Done _ p e below s _ _ (T0.setTop (mkF m 18 #[.val (.long v), .second, .val (.long mm), .second, .val (.int sel), .val (.long (v &&& (9223372036854775807 : Int64))), .second, .val (.int (sel &&& (3 : Int32))), .unset, .unset, .unset, .unset, .unset] []))
    refine Done.step (fun _ => XT.lload X0.here hx rfl (hb hby at_18) rfl) ?_
    show Done _ p e below s _ _ (T0.setTop (mkF m 20 #[.val (.long v), .second, .val (.long mm), .second, .val (.int sel), .val (.long (v &&& (9223372036854775807 : Int64))), .second, .val (.int (sel &&& (3 : Int32))), .unset, .unset, .unset, .unset, .unset] [(.long (v &&& (9223372036854775807 : Int64)))]))
    refine Done.step (fun _ => Stand.ldc2J X0 hx hown (mvT hZ (wAt hw 1 rfl)) (g := (mkF m 20 #[.val (.long v), .second, .val (.long mm), .second, .val (.int sel), .val (.long (v &&& (9223372036854775807 : Int64))), .second, .val (.int (sel &&& (3 : Int32))), .unset, .unset, .unset, .unset, .unset] [(.long (v &&& (9223372036854775807 : Int64)))])) rfl (hb hby at_20)) ?_
    show Done _ p e below s _ _ (T0.setTop (mkF m 23 #[.val (.long v), .second, .val (.long mm), .second, .val (.int sel), .val (.long (v &&& (9223372036854775807 : Int64))), .second, .val (.int (sel &&& (3 : Int32))), .unset, .unset, .unset, .unset, .unset] [(.long (10 : Int64)), (.long (v &&& (9223372036854775807 : Int64)))]))
    refine Done.step (fun _ => XT.lrem X0.here hx rfl (hb hby at_23) rfl (by decide)) ?_
    show Done _ p e below s _ _ (T0.setTop (mkF m 24 #[.val (.long v), .second, .val (.long mm), .second, .val (.int sel), .val (.long (v &&& (9223372036854775807 : Int64))), .second, .val (.int (sel &&& (3 : Int32))), .unset, .unset, .unset, .unset, .unset] [(.long ((v &&& (9223372036854775807 : Int64)) - ((v &&& (9223372036854775807 : Int64)) / (10 : Int64)) * (10 : Int64)))]))
    refine Done.step (fun _ => XT.lstore X0.here hx rfl (hb hby at_24) rfl (l' := #[.val (.long v), .second, .val (.long mm), .second, .val (.int sel), .val (.long (v &&& (9223372036854775807 : Int64))), .second, .val (.int (sel &&& (3 : Int32))), .val (.long ((v &&& (9223372036854775807 : Int64)) - ((v &&& (9223372036854775807 : Int64)) / (10 : Int64)) * (10 : Int64))), .second, .unset, .unset, .unset]) rfl) ?_
    show Done _ p e below s _ _ (T0.setTop (mkF m 26 #[.val (.long v), .second, .val (.long mm), .second, .val (.int sel), .val (.long (v &&& (9223372036854775807 : Int64))), .second, .val (.int (sel &&& (3 : Int32))), .val (.long ((v &&& (9223372036854775807 : Int64)) - ((v &&& (9223372036854775807 : Int64)) / (10 : Int64)) * (10 : Int64))), .second, .unset, .unset, .unset] []))
    have KN26 : ∀ (n : Int64) (hn0 : 0 ≤ n.toInt) (hn1 : n.toInt < 10), Done ReturnedEndW p e below s room_1 (LawQ n0) (T0.setTop (mkF m 26 #[.val (.long v), .second, .val (.long mm), .second, .val (.int sel), .val (.long (v &&& (9223372036854775807 : Int64))), .second, .val (.int (sel &&& (3 : Int32))), .val (.long n), .second, .unset, .unset, .unset] [])) := by
      intro n hn0 hn1
      show Done _ p e below s _ _ (T0.setTop (mkF m 26 #[.val (.long v), .second, .val (.long mm), .second, .val (.int sel), .val (.long (v &&& (9223372036854775807 : Int64))), .second, .val (.int (sel &&& (3 : Int32))), .val (.long n), .second, .unset, .unset, .unset] []))
      refine Done.step (fun _ => XT.iconstV X0.here hx rfl (1 : Int32) (hb hby at_26) (by decide)) ?_
      show Done _ p e below s _ _ (T0.setTop (mkF m 27 #[.val (.long v), .second, .val (.long mm), .second, .val (.int sel), .val (.long (v &&& (9223372036854775807 : Int64))), .second, .val (.int (sel &&& (3 : Int32))), .val (.long n), .second, .unset, .unset, .unset] [(.int (1 : Int32))]))
      obtain ⟨T2, h2, k2, X2, e2, E2, A2, st2⟩ := newP X0 hx hZ (wAt hw 2 rfl) e0 (g := (mkF m 27 #[.val (.long v), .second, .val (.long mm), .second, .val (.int sel), .val (.long (v &&& (9223372036854775807 : Int64))), .second, .val (.int (sel &&& (3 : Int32))), .val (.long n), .second, .unset, .unset, .unset] [(.int (1 : Int32))])) rfl (hb hby at_27) rfl (by decide) (cap := 1) (by decide) (by decide) (by decide) (by decide)
      obtain ⟨b2, g2⟩ : ∃ z, z = h0.size := ⟨_, rfl⟩
      rw [← g2] at A2 st2
      have n0_b2 : n0 ≤ b2 := by rw [g2]; exact Z0
      have Zs2 := Nat.le_trans Z0 E2.1
      have hk := Nat.le_trans hk E2.1
      have V_b2 : Arv Z h2 b2 k2 .char (1 : Int32) [(.int (0 : Int32))] (.int (0 : Int32)) := (Arv.new A2 (by decide)).pad (pad_rep [] (.int (0 : Int32)) 1)
      refine Done.step st2 ?_
      show Done _ p e below s _ _ (T2.setTop (mkF m 29 #[.val (.long v), .second, .val (.long mm), .second, .val (.int sel), .val (.long (v &&& (9223372036854775807 : Int64))), .second, .val (.int (sel &&& (3 : Int32))), .val (.long n), .second, .unset, .unset, .unset] [(.ref b2)]))
      refine Done.step (fun _ => XS.dup X2.here hx rfl (hb hby at_29) rfl rfl) ?_
      show Done _ p e below s _ _ (T2.setTop (mkF m 30 #[.val (.long v), .second, .val (.long mm), .second, .val (.int sel), .val (.long (v &&& (9223372036854775807 : Int64))), .second, .val (.int (sel &&& (3 : Int32))), .val (.long n), .second, .unset, .unset, .unset] [(.ref b2), (.ref b2)]))
      refine Done.step (fun _ => XT.iconstV X2.here hx rfl (0 : Int32) (hb hby at_30) (by decide)) ?_
      show Done _ p e below s _ _ (T2.setTop (mkF m 31 #[.val (.long v), .second, .val (.long mm), .second, .val (.int sel), .val (.long (v &&& (9223372036854775807 : Int64))), .second, .val (.int (sel &&& (3 : Int32))), .val (.long n), .second, .unset, .unset, .unset] [(.int (0 : Int32)), (.ref b2), (.ref b2)]))
      refine Done.step (fun _ => XT.lload X2.here hx rfl (hb hby at_31) rfl) ?_
      show Done _ p e below s _ _ (T2.setTop (mkF m 33 #[.val (.long v), .second, .val (.long mm), .second, .val (.int sel), .val (.long (v &&& (9223372036854775807 : Int64))), .second, .val (.int (sel &&& (3 : Int32))), .val (.long n), .second, .unset, .unset, .unset] [(.long n), (.int (0 : Int32)), (.ref b2), (.ref b2)]))
      refine Done.step (fun _ => XT.lconstV X2.here hx rfl (1 : Int64) (hb hby at_33) (by decide)) ?_
      show Done _ p e below s _ _ (T2.setTop (mkF m 34 #[.val (.long v), .second, .val (.long mm), .second, .val (.int sel), .val (.long (v &&& (9223372036854775807 : Int64))), .second, .val (.int (sel &&& (3 : Int32))), .val (.long n), .second, .unset, .unset, .unset] [(.long (1 : Int64)), (.long n), (.int (0 : Int32)), (.ref b2), (.ref b2)]))
      refine Done.callSP X2 hx hZ hown (wAt hw 3 rfl) (wAt hw 4 rfl) (wAt hw 5 rfl) (wAt hw 6 rfl) (by decide) (rmd l Z a0 hw [] n (1 : Int64) h2 n0 Zs2 (by decide)) e2 (g := (mkF m 34 #[.val (.long v), .second, .val (.long mm), .second, .val (.int sel), .val (.long (v &&& (9223372036854775807 : Int64))), .second, .val (.int (sel &&& (3 : Int32))), .val (.long n), .second, .unset, .unset, .unset] [(.long (1 : Int64)), (.long n), (.int (0 : Int32)), (.ref b2), (.ref b2)])) rfl (by rw [hml]; rfl) [(.long n), (.long (1 : Int64))] [(.int (0 : Int32)), (.ref b2), (.ref b2)] 3 (lenOf pd_4 rfl) rfl rfl (by show 2 * 0 + _ ≤ _; exact Nat.le_of_eq rfl) (hb hby at_34) (by decide) (by decide) (by decide) (by decide) rfl rfl ?_
      intro T3 X3 e3
      show Done _ p e below s _ _ (T3.setTop (mkF m 37 #[.val (.long v), .second, .val (.long mm), .second, .val (.int sel), .val (.long (v &&& (9223372036854775807 : Int64))), .second, .val (.int (sel &&& (3 : Int32))), .val (.long n), .second, .unset, .unset, .unset] [(.int (own_dg n (1 : Int64))), (.int (0 : Int32)), (.ref b2), (.ref b2)]))
      obtain ⟨cl4, Ar4, q4, S4, Nn4, H4, G4⟩ := V_b2
      have hin4 : ¬ ((0 : Int32) < 0 ∨ cl4.slots.size ≤ ((0 : Int32)).toNatClampNeg) := inb_of S4 ⟨by decide, by decide⟩
      obtain ⟨T4, h4, X4, e4, W4, st4⟩ := stC X3 hx hZ e3 Ar4 (j := (0 : Int32)) hin4 (g := (mkF m 37 #[.val (.long v), .second, .val (.long mm), .second, .val (.int sel), .val (.long (v &&& (9223372036854775807 : Int64))), .second, .val (.int (sel &&& (3 : Int32))), .val (.long n), .second, .unset, .unset, .unset] [(.int (own_dg n (1 : Int64))), (.int (0 : Int32)), (.ref b2), (.ref b2)])) rfl rfl (hb hby at_37)
      have V4 := Arv.set Ar4 q4 S4 Nn4 H4 G4 (fits_nar_char _) W4 0 rfl (Nat.le_of_ble_eq_true rfl)
      have N4 := Fr.snoc X4 N0 n0_b2
      have Zs4 := Nat.le_trans Zs2 (Keep.of_wr W4).1
      have hk := Nat.le_trans hk (Keep.of_wr W4).1
      refine Done.step st4 ?_
      show Done _ p e below s _ _ (T4.setTop (mkF m 38 #[.val (.long v), .second, .val (.long mm), .second, .val (.int sel), .val (.long (v &&& (9223372036854775807 : Int64))), .second, .val (.int (sel &&& (3 : Int32))), .val (.long n), .second, .unset, .unset, .unset] [(.ref b2)]))
      refine Done.step (fun _ => XS.astore X4.here hx rfl (hb hby at_38) rfl rfl (l' := #[.val (.long v), .second, .val (.long mm), .second, .val (.int sel), .val (.long (v &&& (9223372036854775807 : Int64))), .second, .val (.int (sel &&& (3 : Int32))), .val (.long n), .second, .unset, .val (.ref b2), .unset]) rfl) ?_
      show Done _ p e below s _ _ (T4.setTop (mkF m 40 #[.val (.long v), .second, .val (.long mm), .second, .val (.int sel), .val (.long (v &&& (9223372036854775807 : Int64))), .second, .val (.int (sel &&& (3 : Int32))), .val (.long n), .second, .unset, .val (.ref b2), .unset] []))
      obtain ⟨T5, h5, X5, e5, E5, A5, D5, -, st5⟩ := newO X4 hx hZ hown (wAt hw 7 rfl) (wAt hw 8 rfl) (wAt hw 9 rfl) e4 (g := (mkF m 40 #[.val (.long v), .second, .val (.long mm), .second, .val (.int sel), .val (.long (v &&& (9223372036854775807 : Int64))), .second, .val (.int (sel &&& (3 : Int32))), .val (.long n), .second, .unset, .val (.ref b2), .unset] [])) rfl (hb hby at_40) (by decide) (by decide)
      obtain ⟨b5, g5⟩ : ∃ z, z = h4.size := ⟨_, rfl⟩
      rw [← g5] at A5 D5 st5
      have ne_b2_b5 : b2 ≠ b5 := by rw [g5]; exact Nat.ne_of_lt V4.lt
      have n0_b5 : n0 ≤ b5 := by rw [g5]; exact Zs4
      have Zs5 := Nat.le_trans Zs4 E5.1
      have hk := Nat.le_trans hk E5.1
      have F_coder_b5 : Fld Z h5 b5 "java/lang/String" "coder" "B" (.int (0 : Int32)) := D5 (Or.inr (wAt hw 33 rfl)) (ty := .byte) (by decide)
      have F_value_b5 : Fld Z h5 b5 "java/lang/String" "value" "[B" .null := D5 (Or.inr (wAt hw 35 rfl)) (ty := (.array .byte)) (by decide)
      refine Done.step st5 ?_
      show Done _ p e below s _ _ (T5.setTop (mkF m 43 #[.val (.long v), .second, .val (.long mm), .second, .val (.int sel), .val (.long (v &&& (9223372036854775807 : Int64))), .second, .val (.int (sel &&& (3 : Int32))), .val (.long n), .second, .unset, .val (.ref b2), .unset] [(.ref b5)]))
      refine Done.step (fun _ => XS.dup X5.here hx rfl (hb hby at_43) rfl rfl) ?_
      show Done _ p e below s _ _ (T5.setTop (mkF m 44 #[.val (.long v), .second, .val (.long mm), .second, .val (.int sel), .val (.long (v &&& (9223372036854775807 : Int64))), .second, .val (.int (sel &&& (3 : Int32))), .val (.long n), .second, .unset, .val (.ref b2), .unset] [(.ref b5), (.ref b5)]))
      refine Done.step (fun _ => XS.aload X5.here hx rfl (hb hby at_44) rfl rfl) ?_
      show Done _ p e below s _ _ (T5.setTop (mkF m 46 #[.val (.long v), .second, .val (.long mm), .second, .val (.int sel), .val (.long (v &&& (9223372036854775807 : Int64))), .second, .val (.int (sel &&& (3 : Int32))), .val (.long n), .second, .unset, .val (.ref b2), .unset] [(.ref b2), (.ref b5), (.ref b5)]))
      have f7 := (V4.ext E5)
      have Vs6 : Arv Z h5 b2 k2 .char (1 : Int32) (([nar .char (own_dg n (1 : Int64))] : List Int32).map Value.int) (.int (0 : Int32)) := f7
      rw [show nar .char (own_dg n (1 : Int64)) = own_dg n (1 : Int64) from own_narI _] at Vs6
      have hp8 : ∀ c ∈ ([own_dg n (1 : Int64)] : List Int32), ¬ c < 0 ∧ ¬ (255 : Int32) < c := (own_cs1 hn0 hn1).2.2
      have hbd8 := own_up _ hp8
      have f9 := (((O0.ext E2).wr W4 n0_b2).ext E5)
      refine Done.callIB (nc := 1) (ns := 1) X5 hx hZ rfl hown (wAt hw 10 rfl) (wAt hw 11 rfl) (wAt hw 12 rfl) (by decide) (StrChars.Road.backV (W := 1) hZ (own_hws hw) (kI := 4) (wAt hw 8 rfl) (cs := ([own_dg n (1 : Int64)] : List Int32)) (bs := ((([own_dg n (1 : Int64)] : List Int32)).map (fun c => c.toInt8.toInt32))) (n := 1) n0_b5 Zs5 A5 F_value_b5 F_coder_b5 Vs6 (SC.ext f9.2) hz rfl rfl (by decide) (by decide) hp8 rfl (by decide) (by decide)) e5 (g := (mkF m 46 #[.val (.long v), .second, .val (.long mm), .second, .val (.int sel), .val (.long (v &&& (9223372036854775807 : Int64))), .second, .val (.int (sel &&& (3 : Int32))), .val (.long n), .second, .unset, .val (.ref b2), .unset] [(.ref b2), (.ref b5), (.ref b5)])) rfl (by rw [hml]; rfl) b5 [(.ref b2)] [(.ref b5)] (lenOf pd_5 rfl) rfl rfl (by show 2 * 0 + _ ≤ _; exact Nat.le_of_eq rfl) (hb hby at_46) (by decide) (by decide) ?_
      intro T8 v8 L8 X8 q8
      obtain ⟨rfl, Nq8, K8q, Eq8, Cq8, t8, kb8, n0_t8, szt8, net8, Vq8, Aq8⟩ := q8
      have ne_b2_t8 : b2 ≠ t8 := Nat.ne_of_lt (Nat.lt_of_lt_of_le f7.lt szt8)
      have ne_b5_t8 : b5 ≠ t8 := Ne.symm net8
      have N8 := Fr.app N4 Nq8
      have Zs8 := Nat.le_trans Zs5 K8q.1
      have hk := Nat.le_trans hk K8q.1
      have hcd8 : StrChars.Road.CodA ([own_dg n (1 : Int64)] : List Int32) 0 (1 : Int32) ((((([own_dg n (1 : Int64)] : List Int32)).map (fun c => c.toInt8.toInt32))).map Value.int) := StrChars.Road.codOf (n := 1) rfl (fun c hc => (hp8 c hc).2)
      show Done _ p e below s _ _ (T8.setTop (mkF m 49 #[.val (.long v), .second, .val (.long mm), .second, .val (.int sel), .val (.long (v &&& (9223372036854775807 : Int64))), .second, .val (.int (sel &&& (3 : Int32))), .val (.long n), .second, .unset, .val (.ref b2), .unset] [(.ref b5)]))
      refine Done.step (fun _ => XS.astore X8.here hx rfl (hb hby at_49) rfl rfl (l' := #[.val (.long v), .second, .val (.long mm), .second, .val (.int sel), .val (.long (v &&& (9223372036854775807 : Int64))), .second, .val (.int (sel &&& (3 : Int32))), .val (.long n), .second, .val (.ref b5), .val (.ref b2), .unset]) rfl) ?_
      show Done _ p e below s _ _ (T8.setTop (mkF m 51 #[.val (.long v), .second, .val (.long mm), .second, .val (.int sel), .val (.long (v &&& (9223372036854775807 : Int64))), .second, .val (.int (sel &&& (3 : Int32))), .val (.long n), .second, .val (.ref b5), .val (.ref b2), .unset] []))
      refine Done.step (fun _ => XS.goto X8.here hx rfl (pc0 := 51) (pc' := 412) rfl (hb hby at_51) (by decide) (by decide)) ?_
      show Done _ p e below s _ _ (T8.setTop (mkF m 412 #[.val (.long v), .second, .val (.long mm), .second, .val (.int sel), .val (.long (v &&& (9223372036854775807 : Int64))), .second, .val (.int (sel &&& (3 : Int32))), .val (.long n), .second, .val (.ref b5), .val (.ref b2), .unset] []))
      refine Done.step (fun _ => XS.iload X8.here hx rfl (hb hby at_412) rfl) ?_
      show Done _ p e below s _ _ (T8.setTop (mkF m 414 #[.val (.long v), .second, .val (.long mm), .second, .val (.int sel), .val (.long (v &&& (9223372036854775807 : Int64))), .second, .val (.int (sel &&& (3 : Int32))), .val (.long n), .second, .val (.ref b5), .val (.ref b2), .unset] [(.int sel)]))
      refine Done.step (fun _ => XT.iconstV X8.here hx rfl (2 : Int32) (hb hby at_414) (by decide)) ?_
      show Done _ p e below s _ _ (T8.setTop (mkF m 415 #[.val (.long v), .second, .val (.long mm), .second, .val (.int sel), .val (.long (v &&& (9223372036854775807 : Int64))), .second, .val (.int (sel &&& (3 : Int32))), .val (.long n), .second, .val (.ref b5), .val (.ref b2), .unset] [(.int (2 : Int32)), (.int sel)]))
      refine Done.step (fun _ => XT.ishr X8.here hx rfl (hb hby at_415) rfl) ?_
      show Done _ p e below s _ _ (T8.setTop (mkF m 416 #[.val (.long v), .second, .val (.long mm), .second, .val (.int sel), .val (.long (v &&& (9223372036854775807 : Int64))), .second, .val (.int (sel &&& (3 : Int32))), .val (.long n), .second, .val (.ref b5), .val (.ref b2), .unset] [(.int (sel >>> ((2 : Int32) &&& 31)))]))
      refine Done.step (fun _ => XT.iconstV X8.here hx rfl (1 : Int32) (hb hby at_416) (by decide)) ?_
      show Done _ p e below s _ _ (T8.setTop (mkF m 417 #[.val (.long v), .second, .val (.long mm), .second, .val (.int sel), .val (.long (v &&& (9223372036854775807 : Int64))), .second, .val (.int (sel &&& (3 : Int32))), .val (.long n), .second, .val (.ref b5), .val (.ref b2), .unset] [(.int (1 : Int32)), (.int (sel >>> ((2 : Int32) &&& 31)))]))
      refine Done.step (fun _ => XS.iand X8.here hx rfl (hb hby at_417) rfl) ?_
      show Done _ p e below s _ _ (T8.setTop (mkF m 418 #[.val (.long v), .second, .val (.long mm), .second, .val (.int sel), .val (.long (v &&& (9223372036854775807 : Int64))), .second, .val (.int (sel &&& (3 : Int32))), .val (.long n), .second, .val (.ref b5), .val (.ref b2), .unset] [(.int ((sel >>> ((2 : Int32) &&& 31)) &&& (1 : Int32)))]))
      by_cases hc10 : ((sel >>> ((2 : Int32) &&& 31)) &&& (1 : Int32)) = (0 : Int32)
      · refine Done.step (fun _ => XS.ifYes X8.here hx rfl (pc0 := 418) (pc' := 426) rfl (hb hby at_418) rfl (XT.i0_eq_t hc10) (by decide) (by decide)) ?_
        show Done _ p e below s _ _ (T8.setTop (mkF m 426 #[.val (.long v), .second, .val (.long mm), .second, .val (.int sel), .val (.long (v &&& (9223372036854775807 : Int64))), .second, .val (.int (sel &&& (3 : Int32))), .val (.long n), .second, .val (.ref b5), .val (.ref b2), .unset] []))
        refine Done.step (fun _ => XT.lload X8.here hx rfl (hb hby at_426) rfl) ?_
        show Done _ p e below s _ _ (T8.setTop (mkF m 428 #[.val (.long v), .second, .val (.long mm), .second, .val (.int sel), .val (.long (v &&& (9223372036854775807 : Int64))), .second, .val (.int (sel &&& (3 : Int32))), .val (.long n), .second, .val (.ref b5), .val (.ref b2), .unset] [(.long n)]))
        refine Done.step (fun _ => XT.lloadN X8.here hx rfl (hb hby at_428) rfl) ?_
        show Done _ p e below s _ _ (T8.setTop (mkF m 429 #[.val (.long v), .second, .val (.long mm), .second, .val (.int sel), .val (.long (v &&& (9223372036854775807 : Int64))), .second, .val (.int (sel &&& (3 : Int32))), .val (.long n), .second, .val (.ref b5), .val (.ref b2), .unset] [(.long mm), (.long n)]))
        refine Done.step (fun _ => Stand.ldc2J X8 hx hown (mvT hZ (wAt hw 0 rfl)) (g := (mkF m 429 #[.val (.long v), .second, .val (.long mm), .second, .val (.int sel), .val (.long (v &&& (9223372036854775807 : Int64))), .second, .val (.int (sel &&& (3 : Int32))), .val (.long n), .second, .val (.ref b5), .val (.ref b2), .unset] [(.long mm), (.long n)])) rfl (hb hby at_429)) ?_
        show Done _ p e below s _ _ (T8.setTop (mkF m 432 #[.val (.long v), .second, .val (.long mm), .second, .val (.int sel), .val (.long (v &&& (9223372036854775807 : Int64))), .second, .val (.int (sel &&& (3 : Int32))), .val (.long n), .second, .val (.ref b5), .val (.ref b2), .unset] [(.long (9223372036854775807 : Int64)), (.long mm), (.long n)]))
        refine Done.step (fun _ => XT.land X8.here hx rfl (hb hby at_432) rfl) ?_
        show Done _ p e below s _ _ (T8.setTop (mkF m 433 #[.val (.long v), .second, .val (.long mm), .second, .val (.int sel), .val (.long (v &&& (9223372036854775807 : Int64))), .second, .val (.int (sel &&& (3 : Int32))), .val (.long n), .second, .val (.ref b5), .val (.ref b2), .unset] [(.long (mm &&& (9223372036854775807 : Int64))), (.long n)]))
        refine Done.callSP X8 hx hZ hown (wAt hw 36 rfl) (wAt hw 37 rfl) (wAt hw 38 rfl) (wAt hw 39 rfl) (by decide) (rmMx l Z a0 hw [] n (mm &&& (9223372036854775807 : Int64)) T8.heap n0 Zs8) rfl (g := (mkF m 433 #[.val (.long v), .second, .val (.long mm), .second, .val (.int sel), .val (.long (v &&& (9223372036854775807 : Int64))), .second, .val (.int (sel &&& (3 : Int32))), .val (.long n), .second, .val (.ref b5), .val (.ref b2), .unset] [(.long (mm &&& (9223372036854775807 : Int64))), (.long n)])) rfl (by rw [hml]; rfl) [(.long n), (.long (mm &&& (9223372036854775807 : Int64)))] [] 0 (lenOf pd_3 rfl) rfl rfl (by show 2 * 0 + _ ≤ _; exact Nat.le_of_eq rfl) (hb hby at_433) (by decide) (by decide) (by decide) (by decide) rfl rfl ?_
        intro T11 X11 e11
        show Done _ p e below s _ _ (T11.setTop (mkF m 436 #[.val (.long v), .second, .val (.long mm), .second, .val (.int sel), .val (.long (v &&& (9223372036854775807 : Int64))), .second, .val (.int (sel &&& (3 : Int32))), .val (.long n), .second, .val (.ref b5), .val (.ref b2), .unset] [(.long (own_max n (mm &&& (9223372036854775807 : Int64))))]))
        refine Done.step (fun _ => XT.lstore X11.here hx rfl (hb hby at_436) rfl (l' := #[.val (.long v), .second, .val (.long mm), .second, .val (.int sel), .val (.long (v &&& (9223372036854775807 : Int64))), .second, .val (.int (sel &&& (3 : Int32))), .val (.long n), .second, .val (.ref b5), .val (.long (own_max n (mm &&& (9223372036854775807 : Int64)))), .second]) rfl) ?_
        show Done _ p e below s _ _ (T11.setTop (mkF m 438 #[.val (.long v), .second, .val (.long mm), .second, .val (.int sel), .val (.long (v &&& (9223372036854775807 : Int64))), .second, .val (.int (sel &&& (3 : Int32))), .val (.long n), .second, .val (.ref b5), .val (.long (own_max n (mm &&& (9223372036854775807 : Int64)))), .second] []))
        obtain ⟨a12, T12, h12, k12, X12, e12, E12, hS, hk, hZ, hown, st12⟩ := ldcS X11 hx hZ hown (wAt hw 40 rfl) own_wS e11 hS hk (g := (mkF m 438 #[.val (.long v), .second, .val (.long mm), .second, .val (.int sel), .val (.long (v &&& (9223372036854775807 : Int64))), .second, .val (.int (sel &&& (3 : Int32))), .val (.long n), .second, .val (.ref b5), .val (.long (own_max n (mm &&& (9223372036854775807 : Int64)))), .second] [])) rfl (hb hby at_438) (n := 4) (by decide) (by decide) (by decide) (by decide)
        have Zs12 := Nat.le_trans Zs8 E12.1
        refine Done.step st12 ?_
        show Done _ p e below s _ _ (T12.setTop (mkF m 440 #[.val (.long v), .second, .val (.long mm), .second, .val (.int sel), .val (.long (v &&& (9223372036854775807 : Int64))), .second, .val (.int (sel &&& (3 : Int32))), .val (.long n), .second, .val (.ref b5), .val (.long (own_max n (mm &&& (9223372036854775807 : Int64)))), .second] [(.ref a12)]))
        refine Done.step (fun _ => XS.aload X12.here hx rfl (hb hby at_440) rfl rfl) ?_
        show Done _ p e below s _ _ (T12.setTop (mkF m 442 #[.val (.long v), .second, .val (.long mm), .second, .val (.int sel), .val (.long (v &&& (9223372036854775807 : Int64))), .second, .val (.int (sel &&& (3 : Int32))), .val (.long n), .second, .val (.ref b5), .val (.long (own_max n (mm &&& (9223372036854775807 : Int64)))), .second] [(.ref b5), (.ref a12)]))
        refine Done.step (fun _ => XT.lload X12.here hx rfl (hb hby at_442) rfl) ?_
        show Done _ p e below s _ _ (T12.setTop (mkF m 444 #[.val (.long v), .second, .val (.long mm), .second, .val (.int sel), .val (.long (v &&& (9223372036854775807 : Int64))), .second, .val (.int (sel &&& (3 : Int32))), .val (.long n), .second, .val (.ref b5), .val (.long (own_max n (mm &&& (9223372036854775807 : Int64)))), .second] [(.long (own_max n (mm &&& (9223372036854775807 : Int64)))), (.ref b5), (.ref a12)]))
        have f13 := (Eq8.ext E12)
        have f14 := (Vq8.ext E12)
        have f15 := (Cq8.ext E12)
        have f16 := (Aq8.ext E12)
        have f17 := ((f9.keep K8q (allS n0_b5 all0)).ext E12)
        have hpv : Int64.ofInt (own_pv ([own_dg n (1 : Int64)] : List Int32) (([own_dg n (1 : Int64)] : List Int32)).length) = n := by
          rw [show own_pv ([own_dg n (1 : Int64)] : List Int32) (([own_dg n (1 : Int64)] : List Int32)).length = _ from (own_cs1 hn0 hn1).2.1]
          exact Int64.ofInt_toInt n
        refine Done.callSP X12 hx hZ hown (wAt hw 43 rfl) (wAt hw 44 rfl) (wAt hw 45 rfl) (wAt hw 46 rfl) (by decide) (rmP l Z a0 hw [] a12 b5 t8 kb8 ([own_dg n (1 : Int64)] : List Int32) (1 : Int32) ((((([own_dg n (1 : Int64)] : List Int32)).map (fun c => c.toInt8.toInt32))).map Value.int) (own_max n (mm &&& (9223372036854775807 : Int64))) z fm h12 n0 Zs12 f13 f14 f15 f16 hcd8 hbd8 (Nat.le_of_ble_eq_true rfl) f17 SC hz SF rF (own_cs1 hn0 hn1).1 (Nat.succ_pos _) (Nat.succ_ne_zero _) (by rw [show own_pv ([own_dg n (1 : Int64)] : List Int32) (([own_dg n (1 : Int64)] : List Int32)).length = _ from (own_cs1 hn0 hn1).2.1]; exact own_maxge _ _)) e12 (g := (mkF m 444 #[.val (.long v), .second, .val (.long mm), .second, .val (.int sel), .val (.long (v &&& (9223372036854775807 : Int64))), .second, .val (.int (sel &&& (3 : Int32))), .val (.long n), .second, .val (.ref b5), .val (.long (own_max n (mm &&& (9223372036854775807 : Int64)))), .second] [(.long (own_max n (mm &&& (9223372036854775807 : Int64)))), (.ref b5), (.ref a12)])) rfl (by rw [hml]; rfl) [(.ref a12), (.ref b5), (.long (own_max n (mm &&& (9223372036854775807 : Int64))))] [] 0 (lenOf pd_6 rfl) rfl rfl (by show 2 * 0 + _ ≤ _; exact Nat.le_of_eq rfl) (hb hby at_444) (by decide) (by decide) (by decide) (by decide) rfl rfl ?_
        intro T18 X18 e18
        show Done _ p e below s _ _ (T18.setTop (mkF m 447 #[.val (.long v), .second, .val (.long mm), .second, .val (.int sel), .val (.long (v &&& (9223372036854775807 : Int64))), .second, .val (.int (sel &&& (3 : Int32))), .val (.long n), .second, .val (.ref b5), .val (.long (own_max n (mm &&& (9223372036854775807 : Int64)))), .second] [(.long (Int64.ofInt (own_pv ([own_dg n (1 : Int64)] : List Int32) (([own_dg n (1 : Int64)] : List Int32)).length)))]))
        rw [hpv]
        show Done _ p e below s _ _ (T18.setTop (mkF m 447 #[.val (.long v), .second, .val (.long mm), .second, .val (.int sel), .val (.long (v &&& (9223372036854775807 : Int64))), .second, .val (.int (sel &&& (3 : Int32))), .val (.long n), .second, .val (.ref b5), .val (.long (own_max n (mm &&& (9223372036854775807 : Int64)))), .second] [(.long n)]))
        refine Done.step (fun _ => XT.lload X18.here hx rfl (hb hby at_447) rfl) ?_
        show Done _ p e below s _ _ (T18.setTop (mkF m 449 #[.val (.long v), .second, .val (.long mm), .second, .val (.int sel), .val (.long (v &&& (9223372036854775807 : Int64))), .second, .val (.int (sel &&& (3 : Int32))), .val (.long n), .second, .val (.ref b5), .val (.long (own_max n (mm &&& (9223372036854775807 : Int64)))), .second] [(.long n), (.long n)]))
        refine Done.step (fun _ => XT.lcmp X18.here hx rfl (hb hby at_449) rfl) ?_
        show Done _ p e below s _ _ (T18.setTop (mkF m 450 #[.val (.long v), .second, .val (.long mm), .second, .val (.int sel), .val (.long (v &&& (9223372036854775807 : Int64))), .second, .val (.int (sel &&& (3 : Int32))), .val (.long n), .second, .val (.ref b5), .val (.long (own_max n (mm &&& (9223372036854775807 : Int64)))), .second] [(.int (XT.cmpL n n))]))
        refine Done.step (fun _ => XS.ifNo X18.here hx rfl (hb hby at_450) rfl (XT.ll_ne_f rfl)) ?_
        show Done _ p e below s _ _ (T18.setTop (mkF m 453 #[.val (.long v), .second, .val (.long mm), .second, .val (.int sel), .val (.long (v &&& (9223372036854775807 : Int64))), .second, .val (.int (sel &&& (3 : Int32))), .val (.long n), .second, .val (.ref b5), .val (.long (own_max n (mm &&& (9223372036854775807 : Int64)))), .second] []))
        refine Done.step (fun _ => XT.iconstV X18.here hx rfl (1 : Int32) (hb hby at_453) (by decide)) ?_
        show Done _ p e below s _ _ (T18.setTop (mkF m 454 #[.val (.long v), .second, .val (.long mm), .second, .val (.int sel), .val (.long (v &&& (9223372036854775807 : Int64))), .second, .val (.int (sel &&& (3 : Int32))), .val (.long n), .second, .val (.ref b5), .val (.long (own_max n (mm &&& (9223372036854775807 : Int64)))), .second] [(.int (1 : Int32))]))
        refine Done.step (fun _ => XS.goto X18.here hx rfl (pc0 := 454) (pc' := 458) rfl (hb hby at_454) (by decide) (by decide)) ?_
        show Done _ p e below s _ _ (T18.setTop (mkF m 458 #[.val (.long v), .second, .val (.long mm), .second, .val (.int sel), .val (.long (v &&& (9223372036854775807 : Int64))), .second, .val (.int (sel &&& (3 : Int32))), .val (.long n), .second, .val (.ref b5), .val (.long (own_max n (mm &&& (9223372036854775807 : Int64)))), .second] [(.int (1 : Int32))]))
        exact Done.retN (leavesW X18 hS (by first | exact hk | (rw [e18]; exact hk)) hlk (by decide) (by decide)) X18 hx (t := .boolean) hret (by simp) (hb hby at_458) ⟨rfl, N8⟩
      · refine Done.step (fun _ => XS.ifNo X8.here hx rfl (hb hby at_418) rfl (XT.i0_eq_f hc10)) ?_
        show Done _ p e below s _ _ (T8.setTop (mkF m 421 #[.val (.long v), .second, .val (.long mm), .second, .val (.int sel), .val (.long (v &&& (9223372036854775807 : Int64))), .second, .val (.int (sel &&& (3 : Int32))), .val (.long n), .second, .val (.ref b5), .val (.ref b2), .unset] []))
        refine Done.step (fun _ => XT.lload X8.here hx rfl (hb hby at_421) rfl) ?_
        show Done _ p e below s _ _ (T8.setTop (mkF m 423 #[.val (.long v), .second, .val (.long mm), .second, .val (.int sel), .val (.long (v &&& (9223372036854775807 : Int64))), .second, .val (.int (sel &&& (3 : Int32))), .val (.long n), .second, .val (.ref b5), .val (.ref b2), .unset] [(.long n)]))
        refine Done.step (fun _ => XS.goto X8.here hx rfl (pc0 := 423) (pc' := 436) rfl (hb hby at_423) (by decide) (by decide)) ?_
        show Done _ p e below s _ _ (T8.setTop (mkF m 436 #[.val (.long v), .second, .val (.long mm), .second, .val (.int sel), .val (.long (v &&& (9223372036854775807 : Int64))), .second, .val (.int (sel &&& (3 : Int32))), .val (.long n), .second, .val (.ref b5), .val (.ref b2), .unset] [(.long n)]))
        refine Done.step (fun _ => XT.lstore X8.here hx rfl (hb hby at_436) rfl (l' := #[.val (.long v), .second, .val (.long mm), .second, .val (.int sel), .val (.long (v &&& (9223372036854775807 : Int64))), .second, .val (.int (sel &&& (3 : Int32))), .val (.long n), .second, .val (.ref b5), .val (.long n), .second]) rfl) ?_
        show Done _ p e below s _ _ (T8.setTop (mkF m 438 #[.val (.long v), .second, .val (.long mm), .second, .val (.int sel), .val (.long (v &&& (9223372036854775807 : Int64))), .second, .val (.int (sel &&& (3 : Int32))), .val (.long n), .second, .val (.ref b5), .val (.long n), .second] []))
        obtain ⟨a19, T19, h19, k19, X19, e19, E19, hS, hk, hZ, hown, st19⟩ := ldcS X8 hx hZ hown (wAt hw 40 rfl) own_wS rfl hS hk (g := (mkF m 438 #[.val (.long v), .second, .val (.long mm), .second, .val (.int sel), .val (.long (v &&& (9223372036854775807 : Int64))), .second, .val (.int (sel &&& (3 : Int32))), .val (.long n), .second, .val (.ref b5), .val (.long n), .second] [])) rfl (hb hby at_438) (n := 4) (by decide) (by decide) (by decide) (by decide)
        have Zs19 := Nat.le_trans Zs8 E19.1
        refine Done.step st19 ?_
        show Done _ p e below s _ _ (T19.setTop (mkF m 440 #[.val (.long v), .second, .val (.long mm), .second, .val (.int sel), .val (.long (v &&& (9223372036854775807 : Int64))), .second, .val (.int (sel &&& (3 : Int32))), .val (.long n), .second, .val (.ref b5), .val (.long n), .second] [(.ref a19)]))
        refine Done.step (fun _ => XS.aload X19.here hx rfl (hb hby at_440) rfl rfl) ?_
        show Done _ p e below s _ _ (T19.setTop (mkF m 442 #[.val (.long v), .second, .val (.long mm), .second, .val (.int sel), .val (.long (v &&& (9223372036854775807 : Int64))), .second, .val (.int (sel &&& (3 : Int32))), .val (.long n), .second, .val (.ref b5), .val (.long n), .second] [(.ref b5), (.ref a19)]))
        refine Done.step (fun _ => XT.lload X19.here hx rfl (hb hby at_442) rfl) ?_
        show Done _ p e below s _ _ (T19.setTop (mkF m 444 #[.val (.long v), .second, .val (.long mm), .second, .val (.int sel), .val (.long (v &&& (9223372036854775807 : Int64))), .second, .val (.int (sel &&& (3 : Int32))), .val (.long n), .second, .val (.ref b5), .val (.long n), .second] [(.long n), (.ref b5), (.ref a19)]))
        have f20 := (Eq8.ext E19)
        have f21 := (Vq8.ext E19)
        have f22 := (Cq8.ext E19)
        have f23 := (Aq8.ext E19)
        have f24 := ((f9.keep K8q (allS n0_b5 all0)).ext E19)
        have hpv : Int64.ofInt (own_pv ([own_dg n (1 : Int64)] : List Int32) (([own_dg n (1 : Int64)] : List Int32)).length) = n := by
          rw [show own_pv ([own_dg n (1 : Int64)] : List Int32) (([own_dg n (1 : Int64)] : List Int32)).length = _ from (own_cs1 hn0 hn1).2.1]
          exact Int64.ofInt_toInt n
        refine Done.callSP X19 hx hZ hown (wAt hw 43 rfl) (wAt hw 44 rfl) (wAt hw 45 rfl) (wAt hw 46 rfl) (by decide) (rmP l Z a0 hw [] a19 b5 t8 kb8 ([own_dg n (1 : Int64)] : List Int32) (1 : Int32) ((((([own_dg n (1 : Int64)] : List Int32)).map (fun c => c.toInt8.toInt32))).map Value.int) n z fm h19 n0 Zs19 f20 f21 f22 f23 hcd8 hbd8 (Nat.le_of_ble_eq_true rfl) f24 SC hz SF rF (own_cs1 hn0 hn1).1 (Nat.succ_pos _) (Nat.succ_ne_zero _) (by rw [show own_pv ([own_dg n (1 : Int64)] : List Int32) (([own_dg n (1 : Int64)] : List Int32)).length = _ from (own_cs1 hn0 hn1).2.1]; exact Int.le_refl _)) e19 (g := (mkF m 444 #[.val (.long v), .second, .val (.long mm), .second, .val (.int sel), .val (.long (v &&& (9223372036854775807 : Int64))), .second, .val (.int (sel &&& (3 : Int32))), .val (.long n), .second, .val (.ref b5), .val (.long n), .second] [(.long n), (.ref b5), (.ref a19)])) rfl (by rw [hml]; rfl) [(.ref a19), (.ref b5), (.long n)] [] 0 (lenOf pd_6 rfl) rfl rfl (by show 2 * 0 + _ ≤ _; exact Nat.le_of_eq rfl) (hb hby at_444) (by decide) (by decide) (by decide) (by decide) rfl rfl ?_
        intro T25 X25 e25
        show Done _ p e below s _ _ (T25.setTop (mkF m 447 #[.val (.long v), .second, .val (.long mm), .second, .val (.int sel), .val (.long (v &&& (9223372036854775807 : Int64))), .second, .val (.int (sel &&& (3 : Int32))), .val (.long n), .second, .val (.ref b5), .val (.long n), .second] [(.long (Int64.ofInt (own_pv ([own_dg n (1 : Int64)] : List Int32) (([own_dg n (1 : Int64)] : List Int32)).length)))]))
        rw [hpv]
        show Done _ p e below s _ _ (T25.setTop (mkF m 447 #[.val (.long v), .second, .val (.long mm), .second, .val (.int sel), .val (.long (v &&& (9223372036854775807 : Int64))), .second, .val (.int (sel &&& (3 : Int32))), .val (.long n), .second, .val (.ref b5), .val (.long n), .second] [(.long n)]))
        refine Done.step (fun _ => XT.lload X25.here hx rfl (hb hby at_447) rfl) ?_
        show Done _ p e below s _ _ (T25.setTop (mkF m 449 #[.val (.long v), .second, .val (.long mm), .second, .val (.int sel), .val (.long (v &&& (9223372036854775807 : Int64))), .second, .val (.int (sel &&& (3 : Int32))), .val (.long n), .second, .val (.ref b5), .val (.long n), .second] [(.long n), (.long n)]))
        refine Done.step (fun _ => XT.lcmp X25.here hx rfl (hb hby at_449) rfl) ?_
        show Done _ p e below s _ _ (T25.setTop (mkF m 450 #[.val (.long v), .second, .val (.long mm), .second, .val (.int sel), .val (.long (v &&& (9223372036854775807 : Int64))), .second, .val (.int (sel &&& (3 : Int32))), .val (.long n), .second, .val (.ref b5), .val (.long n), .second] [(.int (XT.cmpL n n))]))
        refine Done.step (fun _ => XS.ifNo X25.here hx rfl (hb hby at_450) rfl (XT.ll_ne_f rfl)) ?_
        show Done _ p e below s _ _ (T25.setTop (mkF m 453 #[.val (.long v), .second, .val (.long mm), .second, .val (.int sel), .val (.long (v &&& (9223372036854775807 : Int64))), .second, .val (.int (sel &&& (3 : Int32))), .val (.long n), .second, .val (.ref b5), .val (.long n), .second] []))
        refine Done.step (fun _ => XT.iconstV X25.here hx rfl (1 : Int32) (hb hby at_453) (by decide)) ?_
        show Done _ p e below s _ _ (T25.setTop (mkF m 454 #[.val (.long v), .second, .val (.long mm), .second, .val (.int sel), .val (.long (v &&& (9223372036854775807 : Int64))), .second, .val (.int (sel &&& (3 : Int32))), .val (.long n), .second, .val (.ref b5), .val (.long n), .second] [(.int (1 : Int32))]))
        refine Done.step (fun _ => XS.goto X25.here hx rfl (pc0 := 454) (pc' := 458) rfl (hb hby at_454) (by decide) (by decide)) ?_
        show Done _ p e below s _ _ (T25.setTop (mkF m 458 #[.val (.long v), .second, .val (.long mm), .second, .val (.int sel), .val (.long (v &&& (9223372036854775807 : Int64))), .second, .val (.int (sel &&& (3 : Int32))), .val (.long n), .second, .val (.ref b5), .val (.long n), .second] [(.int (1 : Int32))]))
        exact Done.retN (leavesW X25 hS (by first | exact hk | (rw [e25]; exact hk)) hlk (by decide) (by decide)) X25 hx (t := .boolean) hret (by simp) (hb hby at_458) ⟨rfl, N8⟩
    exact KN26 ((v &&& (9223372036854775807 : Int64)) - ((v &&& (9223372036854775807 : Int64)) / (10 : Int64)) * (10 : Int64)) (own_rem (own_pos v) (by decide)).1 (own_rem (own_pos v) (by decide)).2
  · refine Done.step (fun _ => XS.ifYes X0.here hx rfl (pc0 := 15) (pc' := 54) rfl (hb hby at_15) rfl (XT.i0_ne_t hc1) (by decide) (by decide)) ?_
    show Done _ p e below s _ _ (T0.setTop (mkF m 54 #[.val (.long v), .second, .val (.long mm), .second, .val (.int sel), .val (.long (v &&& (9223372036854775807 : Int64))), .second, .val (.int (sel &&& (3 : Int32))), .unset, .unset, .unset, .unset, .unset] []))
    refine Done.step (fun _ => XS.iload X0.here hx rfl (hb hby at_54) rfl) ?_
    show Done _ p e below s _ _ (T0.setTop (mkF m 56 #[.val (.long v), .second, .val (.long mm), .second, .val (.int sel), .val (.long (v &&& (9223372036854775807 : Int64))), .second, .val (.int (sel &&& (3 : Int32))), .unset, .unset, .unset, .unset, .unset] [(.int (sel &&& (3 : Int32)))]))
    refine Done.step (fun _ => XT.iconstV X0.here hx rfl (1 : Int32) (hb hby at_56) (by decide)) ?_
    show Done _ p e below s _ _ (T0.setTop (mkF m 57 #[.val (.long v), .second, .val (.long mm), .second, .val (.int sel), .val (.long (v &&& (9223372036854775807 : Int64))), .second, .val (.int (sel &&& (3 : Int32))), .unset, .unset, .unset, .unset, .unset] [(.int (1 : Int32)), (.int (sel &&& (3 : Int32)))]))
    by_cases hc26 : (sel &&& (3 : Int32)) = (1 : Int32)
    · refine Done.step (fun _ => XS.icmpNo X0.here hx rfl (hb hby at_57) rfl (XT.ii_ne_f hc26)) ?_
      show Done _ p e below s _ _ (T0.setTop (mkF m 60 #[.val (.long v), .second, .val (.long mm), .second, .val (.int sel), .val (.long (v &&& (9223372036854775807 : Int64))), .second, .val (.int (sel &&& (3 : Int32))), .unset, .unset, .unset, .unset, .unset] []))
      refine Done.step (fun _ => XT.lload X0.here hx rfl (hb hby at_60) rfl) ?_
      show Done _ p e below s _ _ (T0.setTop (mkF m 62 #[.val (.long v), .second, .val (.long mm), .second, .val (.int sel), .val (.long (v &&& (9223372036854775807 : Int64))), .second, .val (.int (sel &&& (3 : Int32))), .unset, .unset, .unset, .unset, .unset] [(.long (v &&& (9223372036854775807 : Int64)))]))
      refine Done.step (fun _ => Stand.ldc2J X0 hx hown (mvT hZ (wAt hw 105 rfl)) (g := (mkF m 62 #[.val (.long v), .second, .val (.long mm), .second, .val (.int sel), .val (.long (v &&& (9223372036854775807 : Int64))), .second, .val (.int (sel &&& (3 : Int32))), .unset, .unset, .unset, .unset, .unset] [(.long (v &&& (9223372036854775807 : Int64)))])) rfl (hb hby at_62)) ?_
      show Done _ p e below s _ _ (T0.setTop (mkF m 65 #[.val (.long v), .second, .val (.long mm), .second, .val (.int sel), .val (.long (v &&& (9223372036854775807 : Int64))), .second, .val (.int (sel &&& (3 : Int32))), .unset, .unset, .unset, .unset, .unset] [(.long (100 : Int64)), (.long (v &&& (9223372036854775807 : Int64)))]))
      refine Done.step (fun _ => XT.lrem X0.here hx rfl (hb hby at_65) rfl (by decide)) ?_
      show Done _ p e below s _ _ (T0.setTop (mkF m 66 #[.val (.long v), .second, .val (.long mm), .second, .val (.int sel), .val (.long (v &&& (9223372036854775807 : Int64))), .second, .val (.int (sel &&& (3 : Int32))), .unset, .unset, .unset, .unset, .unset] [(.long ((v &&& (9223372036854775807 : Int64)) - ((v &&& (9223372036854775807 : Int64)) / (100 : Int64)) * (100 : Int64)))]))
      refine Done.step (fun _ => XT.lstore X0.here hx rfl (hb hby at_66) rfl (l' := #[.val (.long v), .second, .val (.long mm), .second, .val (.int sel), .val (.long (v &&& (9223372036854775807 : Int64))), .second, .val (.int (sel &&& (3 : Int32))), .val (.long ((v &&& (9223372036854775807 : Int64)) - ((v &&& (9223372036854775807 : Int64)) / (100 : Int64)) * (100 : Int64))), .second, .unset, .unset, .unset]) rfl) ?_
      show Done _ p e below s _ _ (T0.setTop (mkF m 68 #[.val (.long v), .second, .val (.long mm), .second, .val (.int sel), .val (.long (v &&& (9223372036854775807 : Int64))), .second, .val (.int (sel &&& (3 : Int32))), .val (.long ((v &&& (9223372036854775807 : Int64)) - ((v &&& (9223372036854775807 : Int64)) / (100 : Int64)) * (100 : Int64))), .second, .unset, .unset, .unset] []))
      have KN68 : ∀ (n : Int64) (hn0 : 0 ≤ n.toInt) (hn1 : n.toInt < 100), Done ReturnedEndW p e below s room_1 (LawQ n0) (T0.setTop (mkF m 68 #[.val (.long v), .second, .val (.long mm), .second, .val (.int sel), .val (.long (v &&& (9223372036854775807 : Int64))), .second, .val (.int (sel &&& (3 : Int32))), .val (.long n), .second, .unset, .unset, .unset] [])) := by
        intro n hn0 hn1
        show Done _ p e below s _ _ (T0.setTop (mkF m 68 #[.val (.long v), .second, .val (.long mm), .second, .val (.int sel), .val (.long (v &&& (9223372036854775807 : Int64))), .second, .val (.int (sel &&& (3 : Int32))), .val (.long n), .second, .unset, .unset, .unset] []))
        refine Done.step (fun _ => XT.iconstV X0.here hx rfl (2 : Int32) (hb hby at_68) (by decide)) ?_
        show Done _ p e below s _ _ (T0.setTop (mkF m 69 #[.val (.long v), .second, .val (.long mm), .second, .val (.int sel), .val (.long (v &&& (9223372036854775807 : Int64))), .second, .val (.int (sel &&& (3 : Int32))), .val (.long n), .second, .unset, .unset, .unset] [(.int (2 : Int32))]))
        obtain ⟨T27, h27, k27, X27, e27, E27, A27, st27⟩ := newP X0 hx hZ (wAt hw 2 rfl) e0 (g := (mkF m 69 #[.val (.long v), .second, .val (.long mm), .second, .val (.int sel), .val (.long (v &&& (9223372036854775807 : Int64))), .second, .val (.int (sel &&& (3 : Int32))), .val (.long n), .second, .unset, .unset, .unset] [(.int (2 : Int32))])) rfl (hb hby at_69) rfl (by decide) (cap := 2) (by decide) (by decide) (by decide) (by decide)
        obtain ⟨b27, g27⟩ : ∃ z, z = h0.size := ⟨_, rfl⟩
        rw [← g27] at A27 st27
        have n0_b27 : n0 ≤ b27 := by rw [g27]; exact Z0
        have Zs27 := Nat.le_trans Z0 E27.1
        have hk := Nat.le_trans hk E27.1
        have V_b27 : Arv Z h27 b27 k27 .char (2 : Int32) [(.int (0 : Int32)), (.int (0 : Int32))] (.int (0 : Int32)) := (Arv.new A27 (by decide)).pad (pad_rep [] (.int (0 : Int32)) 2)
        refine Done.step st27 ?_
        show Done _ p e below s _ _ (T27.setTop (mkF m 71 #[.val (.long v), .second, .val (.long mm), .second, .val (.int sel), .val (.long (v &&& (9223372036854775807 : Int64))), .second, .val (.int (sel &&& (3 : Int32))), .val (.long n), .second, .unset, .unset, .unset] [(.ref b27)]))
        refine Done.step (fun _ => XS.dup X27.here hx rfl (hb hby at_71) rfl rfl) ?_
        show Done _ p e below s _ _ (T27.setTop (mkF m 72 #[.val (.long v), .second, .val (.long mm), .second, .val (.int sel), .val (.long (v &&& (9223372036854775807 : Int64))), .second, .val (.int (sel &&& (3 : Int32))), .val (.long n), .second, .unset, .unset, .unset] [(.ref b27), (.ref b27)]))
        refine Done.step (fun _ => XT.iconstV X27.here hx rfl (0 : Int32) (hb hby at_72) (by decide)) ?_
        show Done _ p e below s _ _ (T27.setTop (mkF m 73 #[.val (.long v), .second, .val (.long mm), .second, .val (.int sel), .val (.long (v &&& (9223372036854775807 : Int64))), .second, .val (.int (sel &&& (3 : Int32))), .val (.long n), .second, .unset, .unset, .unset] [(.int (0 : Int32)), (.ref b27), (.ref b27)]))
        refine Done.step (fun _ => XT.lload X27.here hx rfl (hb hby at_73) rfl) ?_
        show Done _ p e below s _ _ (T27.setTop (mkF m 75 #[.val (.long v), .second, .val (.long mm), .second, .val (.int sel), .val (.long (v &&& (9223372036854775807 : Int64))), .second, .val (.int (sel &&& (3 : Int32))), .val (.long n), .second, .unset, .unset, .unset] [(.long n), (.int (0 : Int32)), (.ref b27), (.ref b27)]))
        refine Done.step (fun _ => Stand.ldc2J X27 hx hown (mvT hZ (wAt hw 1 rfl)) (g := (mkF m 75 #[.val (.long v), .second, .val (.long mm), .second, .val (.int sel), .val (.long (v &&& (9223372036854775807 : Int64))), .second, .val (.int (sel &&& (3 : Int32))), .val (.long n), .second, .unset, .unset, .unset] [(.long n), (.int (0 : Int32)), (.ref b27), (.ref b27)])) rfl (hb hby at_75)) ?_
        show Done _ p e below s _ _ (T27.setTop (mkF m 78 #[.val (.long v), .second, .val (.long mm), .second, .val (.int sel), .val (.long (v &&& (9223372036854775807 : Int64))), .second, .val (.int (sel &&& (3 : Int32))), .val (.long n), .second, .unset, .unset, .unset] [(.long (10 : Int64)), (.long n), (.int (0 : Int32)), (.ref b27), (.ref b27)]))
        refine Done.callSP X27 hx hZ hown (wAt hw 3 rfl) (wAt hw 4 rfl) (wAt hw 5 rfl) (wAt hw 6 rfl) (by decide) (rmd l Z a0 hw [] n (10 : Int64) h27 n0 Zs27 (by decide)) e27 (g := (mkF m 78 #[.val (.long v), .second, .val (.long mm), .second, .val (.int sel), .val (.long (v &&& (9223372036854775807 : Int64))), .second, .val (.int (sel &&& (3 : Int32))), .val (.long n), .second, .unset, .unset, .unset] [(.long (10 : Int64)), (.long n), (.int (0 : Int32)), (.ref b27), (.ref b27)])) rfl (by rw [hml]; rfl) [(.long n), (.long (10 : Int64))] [(.int (0 : Int32)), (.ref b27), (.ref b27)] 3 (lenOf pd_4 rfl) rfl rfl (by show 2 * 0 + _ ≤ _; exact Nat.le_of_eq rfl) (hb hby at_78) (by decide) (by decide) (by decide) (by decide) rfl rfl ?_
        intro T28 X28 e28
        show Done _ p e below s _ _ (T28.setTop (mkF m 81 #[.val (.long v), .second, .val (.long mm), .second, .val (.int sel), .val (.long (v &&& (9223372036854775807 : Int64))), .second, .val (.int (sel &&& (3 : Int32))), .val (.long n), .second, .unset, .unset, .unset] [(.int (own_dg n (10 : Int64))), (.int (0 : Int32)), (.ref b27), (.ref b27)]))
        obtain ⟨cl29, Ar29, q29, S29, Nn29, H29, G29⟩ := V_b27
        have hin29 : ¬ ((0 : Int32) < 0 ∨ cl29.slots.size ≤ ((0 : Int32)).toNatClampNeg) := inb_of S29 ⟨by decide, by decide⟩
        obtain ⟨T29, h29, X29, e29, W29, st29⟩ := stC X28 hx hZ e28 Ar29 (j := (0 : Int32)) hin29 (g := (mkF m 81 #[.val (.long v), .second, .val (.long mm), .second, .val (.int sel), .val (.long (v &&& (9223372036854775807 : Int64))), .second, .val (.int (sel &&& (3 : Int32))), .val (.long n), .second, .unset, .unset, .unset] [(.int (own_dg n (10 : Int64))), (.int (0 : Int32)), (.ref b27), (.ref b27)])) rfl rfl (hb hby at_81)
        have V29 := Arv.set Ar29 q29 S29 Nn29 H29 G29 (fits_nar_char _) W29 0 rfl (Nat.le_of_ble_eq_true rfl)
        have N29 := Fr.snoc X29 N0 n0_b27
        have Zs29 := Nat.le_trans Zs27 (Keep.of_wr W29).1
        have hk := Nat.le_trans hk (Keep.of_wr W29).1
        refine Done.step st29 ?_
        show Done _ p e below s _ _ (T29.setTop (mkF m 82 #[.val (.long v), .second, .val (.long mm), .second, .val (.int sel), .val (.long (v &&& (9223372036854775807 : Int64))), .second, .val (.int (sel &&& (3 : Int32))), .val (.long n), .second, .unset, .unset, .unset] [(.ref b27)]))
        refine Done.step (fun _ => XS.dup X29.here hx rfl (hb hby at_82) rfl rfl) ?_
        show Done _ p e below s _ _ (T29.setTop (mkF m 83 #[.val (.long v), .second, .val (.long mm), .second, .val (.int sel), .val (.long (v &&& (9223372036854775807 : Int64))), .second, .val (.int (sel &&& (3 : Int32))), .val (.long n), .second, .unset, .unset, .unset] [(.ref b27), (.ref b27)]))
        refine Done.step (fun _ => XT.iconstV X29.here hx rfl (1 : Int32) (hb hby at_83) (by decide)) ?_
        show Done _ p e below s _ _ (T29.setTop (mkF m 84 #[.val (.long v), .second, .val (.long mm), .second, .val (.int sel), .val (.long (v &&& (9223372036854775807 : Int64))), .second, .val (.int (sel &&& (3 : Int32))), .val (.long n), .second, .unset, .unset, .unset] [(.int (1 : Int32)), (.ref b27), (.ref b27)]))
        refine Done.step (fun _ => XT.lload X29.here hx rfl (hb hby at_84) rfl) ?_
        show Done _ p e below s _ _ (T29.setTop (mkF m 86 #[.val (.long v), .second, .val (.long mm), .second, .val (.int sel), .val (.long (v &&& (9223372036854775807 : Int64))), .second, .val (.int (sel &&& (3 : Int32))), .val (.long n), .second, .unset, .unset, .unset] [(.long n), (.int (1 : Int32)), (.ref b27), (.ref b27)]))
        refine Done.step (fun _ => XT.lconstV X29.here hx rfl (1 : Int64) (hb hby at_86) (by decide)) ?_
        show Done _ p e below s _ _ (T29.setTop (mkF m 87 #[.val (.long v), .second, .val (.long mm), .second, .val (.int sel), .val (.long (v &&& (9223372036854775807 : Int64))), .second, .val (.int (sel &&& (3 : Int32))), .val (.long n), .second, .unset, .unset, .unset] [(.long (1 : Int64)), (.long n), (.int (1 : Int32)), (.ref b27), (.ref b27)]))
        refine Done.callSP X29 hx hZ hown (wAt hw 3 rfl) (wAt hw 4 rfl) (wAt hw 5 rfl) (wAt hw 6 rfl) (by decide) (rmd l Z a0 hw [] n (1 : Int64) h29 n0 Zs29 (by decide)) e29 (g := (mkF m 87 #[.val (.long v), .second, .val (.long mm), .second, .val (.int sel), .val (.long (v &&& (9223372036854775807 : Int64))), .second, .val (.int (sel &&& (3 : Int32))), .val (.long n), .second, .unset, .unset, .unset] [(.long (1 : Int64)), (.long n), (.int (1 : Int32)), (.ref b27), (.ref b27)])) rfl (by rw [hml]; rfl) [(.long n), (.long (1 : Int64))] [(.int (1 : Int32)), (.ref b27), (.ref b27)] 3 (lenOf pd_4 rfl) rfl rfl (by show 2 * 0 + _ ≤ _; exact Nat.le_of_eq rfl) (hb hby at_87) (by decide) (by decide) (by decide) (by decide) rfl rfl ?_
        intro T30 X30 e30
        show Done _ p e below s _ _ (T30.setTop (mkF m 90 #[.val (.long v), .second, .val (.long mm), .second, .val (.int sel), .val (.long (v &&& (9223372036854775807 : Int64))), .second, .val (.int (sel &&& (3 : Int32))), .val (.long n), .second, .unset, .unset, .unset] [(.int (own_dg n (1 : Int64))), (.int (1 : Int32)), (.ref b27), (.ref b27)]))
        obtain ⟨cl31, Ar31, q31, S31, Nn31, H31, G31⟩ := V29
        have hin31 : ¬ ((1 : Int32) < 0 ∨ cl31.slots.size ≤ ((1 : Int32)).toNatClampNeg) := inb_of S31 ⟨by decide, by decide⟩
        obtain ⟨T31, h31, X31, e31, W31, st31⟩ := stC X30 hx hZ e30 Ar31 (j := (1 : Int32)) hin31 (g := (mkF m 90 #[.val (.long v), .second, .val (.long mm), .second, .val (.int sel), .val (.long (v &&& (9223372036854775807 : Int64))), .second, .val (.int (sel &&& (3 : Int32))), .val (.long n), .second, .unset, .unset, .unset] [(.int (own_dg n (1 : Int64))), (.int (1 : Int32)), (.ref b27), (.ref b27)])) rfl rfl (hb hby at_90)
        have V31 := Arv.set Ar31 q31 S31 Nn31 H31 G31 (fits_nar_char _) W31 1 rfl (Nat.le_of_ble_eq_true rfl)
        have N31 := Fr.snoc X31 N29 n0_b27
        have Zs31 := Nat.le_trans Zs29 (Keep.of_wr W31).1
        have hk := Nat.le_trans hk (Keep.of_wr W31).1
        refine Done.step st31 ?_
        show Done _ p e below s _ _ (T31.setTop (mkF m 91 #[.val (.long v), .second, .val (.long mm), .second, .val (.int sel), .val (.long (v &&& (9223372036854775807 : Int64))), .second, .val (.int (sel &&& (3 : Int32))), .val (.long n), .second, .unset, .unset, .unset] [(.ref b27)]))
        refine Done.step (fun _ => XS.astore X31.here hx rfl (hb hby at_91) rfl rfl (l' := #[.val (.long v), .second, .val (.long mm), .second, .val (.int sel), .val (.long (v &&& (9223372036854775807 : Int64))), .second, .val (.int (sel &&& (3 : Int32))), .val (.long n), .second, .unset, .val (.ref b27), .unset]) rfl) ?_
        show Done _ p e below s _ _ (T31.setTop (mkF m 93 #[.val (.long v), .second, .val (.long mm), .second, .val (.int sel), .val (.long (v &&& (9223372036854775807 : Int64))), .second, .val (.int (sel &&& (3 : Int32))), .val (.long n), .second, .unset, .val (.ref b27), .unset] []))
        obtain ⟨T32, h32, X32, e32, E32, A32, D32, -, st32⟩ := newO X31 hx hZ hown (wAt hw 7 rfl) (wAt hw 8 rfl) (wAt hw 9 rfl) e31 (g := (mkF m 93 #[.val (.long v), .second, .val (.long mm), .second, .val (.int sel), .val (.long (v &&& (9223372036854775807 : Int64))), .second, .val (.int (sel &&& (3 : Int32))), .val (.long n), .second, .unset, .val (.ref b27), .unset] [])) rfl (hb hby at_93) (by decide) (by decide)
        obtain ⟨b32, g32⟩ : ∃ z, z = h31.size := ⟨_, rfl⟩
        rw [← g32] at A32 D32 st32
        have ne_b27_b32 : b27 ≠ b32 := by rw [g32]; exact Nat.ne_of_lt V31.lt
        have n0_b32 : n0 ≤ b32 := by rw [g32]; exact Zs31
        have Zs32 := Nat.le_trans Zs31 E32.1
        have hk := Nat.le_trans hk E32.1
        have F_coder_b32 : Fld Z h32 b32 "java/lang/String" "coder" "B" (.int (0 : Int32)) := D32 (Or.inr (wAt hw 33 rfl)) (ty := .byte) (by decide)
        have F_value_b32 : Fld Z h32 b32 "java/lang/String" "value" "[B" .null := D32 (Or.inr (wAt hw 35 rfl)) (ty := (.array .byte)) (by decide)
        refine Done.step st32 ?_
        show Done _ p e below s _ _ (T32.setTop (mkF m 96 #[.val (.long v), .second, .val (.long mm), .second, .val (.int sel), .val (.long (v &&& (9223372036854775807 : Int64))), .second, .val (.int (sel &&& (3 : Int32))), .val (.long n), .second, .unset, .val (.ref b27), .unset] [(.ref b32)]))
        refine Done.step (fun _ => XS.dup X32.here hx rfl (hb hby at_96) rfl rfl) ?_
        show Done _ p e below s _ _ (T32.setTop (mkF m 97 #[.val (.long v), .second, .val (.long mm), .second, .val (.int sel), .val (.long (v &&& (9223372036854775807 : Int64))), .second, .val (.int (sel &&& (3 : Int32))), .val (.long n), .second, .unset, .val (.ref b27), .unset] [(.ref b32), (.ref b32)]))
        refine Done.step (fun _ => XS.aload X32.here hx rfl (hb hby at_97) rfl rfl) ?_
        show Done _ p e below s _ _ (T32.setTop (mkF m 99 #[.val (.long v), .second, .val (.long mm), .second, .val (.int sel), .val (.long (v &&& (9223372036854775807 : Int64))), .second, .val (.int (sel &&& (3 : Int32))), .val (.long n), .second, .unset, .val (.ref b27), .unset] [(.ref b27), (.ref b32), (.ref b32)]))
        have f34 := (V31.ext E32)
        have Vs33 : Arv Z h32 b27 k27 .char (2 : Int32) (([nar .char (own_dg n (10 : Int64)), nar .char (own_dg n (1 : Int64))] : List Int32).map Value.int) (.int (0 : Int32)) := f34
        rw [show nar .char (own_dg n (10 : Int64)) = own_dg n (10 : Int64) from own_narI _, show nar .char (own_dg n (1 : Int64)) = own_dg n (1 : Int64) from own_narI _] at Vs33
        have hp35 : ∀ c ∈ ([own_dg n (10 : Int64), own_dg n (1 : Int64)] : List Int32), ¬ c < 0 ∧ ¬ (255 : Int32) < c := (own_cs2 hn0 hn1).2.2
        have hbd35 := own_up _ hp35
        have f36 := ((((O0.ext E27).wr W29 n0_b27).wr W31 n0_b27).ext E32)
        refine Done.callIB (nc := 1) (ns := 2) X32 hx hZ rfl hown (wAt hw 10 rfl) (wAt hw 11 rfl) (wAt hw 12 rfl) (by decide) (StrChars.Road.backV (W := 1) hZ (own_hws hw) (kI := 4) (wAt hw 8 rfl) (cs := ([own_dg n (10 : Int64), own_dg n (1 : Int64)] : List Int32)) (bs := ((([own_dg n (10 : Int64), own_dg n (1 : Int64)] : List Int32)).map (fun c => c.toInt8.toInt32))) (n := 2) n0_b32 Zs32 A32 F_value_b32 F_coder_b32 Vs33 (SC.ext f36.2) hz rfl rfl (by decide) (by decide) hp35 rfl (by decide) (by decide)) e32 (g := (mkF m 99 #[.val (.long v), .second, .val (.long mm), .second, .val (.int sel), .val (.long (v &&& (9223372036854775807 : Int64))), .second, .val (.int (sel &&& (3 : Int32))), .val (.long n), .second, .unset, .val (.ref b27), .unset] [(.ref b27), (.ref b32), (.ref b32)])) rfl (by rw [hml]; rfl) b32 [(.ref b27)] [(.ref b32)] (lenOf pd_5 rfl) rfl rfl (by show 2 * 0 + _ ≤ _; exact Nat.le_of_eq rfl) (hb hby at_99) (by decide) (by decide) ?_
        intro T35 v35 L35 X35 q35
        obtain ⟨rfl, Nq35, K35q, Eq35, Cq35, t35, kb35, n0_t35, szt35, net35, Vq35, Aq35⟩ := q35
        have ne_b27_t35 : b27 ≠ t35 := Nat.ne_of_lt (Nat.lt_of_lt_of_le f34.lt szt35)
        have ne_b32_t35 : b32 ≠ t35 := Ne.symm net35
        have N35 := Fr.app N31 Nq35
        have Zs35 := Nat.le_trans Zs32 K35q.1
        have hk := Nat.le_trans hk K35q.1
        have hcd35 : StrChars.Road.CodA ([own_dg n (10 : Int64), own_dg n (1 : Int64)] : List Int32) 0 (2 : Int32) ((((([own_dg n (10 : Int64), own_dg n (1 : Int64)] : List Int32)).map (fun c => c.toInt8.toInt32))).map Value.int) := StrChars.Road.codOf (n := 2) rfl (fun c hc => (hp35 c hc).2)
        show Done _ p e below s _ _ (T35.setTop (mkF m 102 #[.val (.long v), .second, .val (.long mm), .second, .val (.int sel), .val (.long (v &&& (9223372036854775807 : Int64))), .second, .val (.int (sel &&& (3 : Int32))), .val (.long n), .second, .unset, .val (.ref b27), .unset] [(.ref b32)]))
        refine Done.step (fun _ => XS.astore X35.here hx rfl (hb hby at_102) rfl rfl (l' := #[.val (.long v), .second, .val (.long mm), .second, .val (.int sel), .val (.long (v &&& (9223372036854775807 : Int64))), .second, .val (.int (sel &&& (3 : Int32))), .val (.long n), .second, .val (.ref b32), .val (.ref b27), .unset]) rfl) ?_
        show Done _ p e below s _ _ (T35.setTop (mkF m 104 #[.val (.long v), .second, .val (.long mm), .second, .val (.int sel), .val (.long (v &&& (9223372036854775807 : Int64))), .second, .val (.int (sel &&& (3 : Int32))), .val (.long n), .second, .val (.ref b32), .val (.ref b27), .unset] []))
        refine Done.step (fun _ => XS.goto X35.here hx rfl (pc0 := 104) (pc' := 412) rfl (hb hby at_104) (by decide) (by decide)) ?_
        show Done _ p e below s _ _ (T35.setTop (mkF m 412 #[.val (.long v), .second, .val (.long mm), .second, .val (.int sel), .val (.long (v &&& (9223372036854775807 : Int64))), .second, .val (.int (sel &&& (3 : Int32))), .val (.long n), .second, .val (.ref b32), .val (.ref b27), .unset] []))
        refine Done.step (fun _ => XS.iload X35.here hx rfl (hb hby at_412) rfl) ?_
        show Done _ p e below s _ _ (T35.setTop (mkF m 414 #[.val (.long v), .second, .val (.long mm), .second, .val (.int sel), .val (.long (v &&& (9223372036854775807 : Int64))), .second, .val (.int (sel &&& (3 : Int32))), .val (.long n), .second, .val (.ref b32), .val (.ref b27), .unset] [(.int sel)]))
        refine Done.step (fun _ => XT.iconstV X35.here hx rfl (2 : Int32) (hb hby at_414) (by decide)) ?_
        show Done _ p e below s _ _ (T35.setTop (mkF m 415 #[.val (.long v), .second, .val (.long mm), .second, .val (.int sel), .val (.long (v &&& (9223372036854775807 : Int64))), .second, .val (.int (sel &&& (3 : Int32))), .val (.long n), .second, .val (.ref b32), .val (.ref b27), .unset] [(.int (2 : Int32)), (.int sel)]))
        refine Done.step (fun _ => XT.ishr X35.here hx rfl (hb hby at_415) rfl) ?_
        show Done _ p e below s _ _ (T35.setTop (mkF m 416 #[.val (.long v), .second, .val (.long mm), .second, .val (.int sel), .val (.long (v &&& (9223372036854775807 : Int64))), .second, .val (.int (sel &&& (3 : Int32))), .val (.long n), .second, .val (.ref b32), .val (.ref b27), .unset] [(.int (sel >>> ((2 : Int32) &&& 31)))]))
        refine Done.step (fun _ => XT.iconstV X35.here hx rfl (1 : Int32) (hb hby at_416) (by decide)) ?_
        show Done _ p e below s _ _ (T35.setTop (mkF m 417 #[.val (.long v), .second, .val (.long mm), .second, .val (.int sel), .val (.long (v &&& (9223372036854775807 : Int64))), .second, .val (.int (sel &&& (3 : Int32))), .val (.long n), .second, .val (.ref b32), .val (.ref b27), .unset] [(.int (1 : Int32)), (.int (sel >>> ((2 : Int32) &&& 31)))]))
        refine Done.step (fun _ => XS.iand X35.here hx rfl (hb hby at_417) rfl) ?_
        show Done _ p e below s _ _ (T35.setTop (mkF m 418 #[.val (.long v), .second, .val (.long mm), .second, .val (.int sel), .val (.long (v &&& (9223372036854775807 : Int64))), .second, .val (.int (sel &&& (3 : Int32))), .val (.long n), .second, .val (.ref b32), .val (.ref b27), .unset] [(.int ((sel >>> ((2 : Int32) &&& 31)) &&& (1 : Int32)))]))
        by_cases hc37 : ((sel >>> ((2 : Int32) &&& 31)) &&& (1 : Int32)) = (0 : Int32)
        · refine Done.step (fun _ => XS.ifYes X35.here hx rfl (pc0 := 418) (pc' := 426) rfl (hb hby at_418) rfl (XT.i0_eq_t hc37) (by decide) (by decide)) ?_
          show Done _ p e below s _ _ (T35.setTop (mkF m 426 #[.val (.long v), .second, .val (.long mm), .second, .val (.int sel), .val (.long (v &&& (9223372036854775807 : Int64))), .second, .val (.int (sel &&& (3 : Int32))), .val (.long n), .second, .val (.ref b32), .val (.ref b27), .unset] []))
          refine Done.step (fun _ => XT.lload X35.here hx rfl (hb hby at_426) rfl) ?_
          show Done _ p e below s _ _ (T35.setTop (mkF m 428 #[.val (.long v), .second, .val (.long mm), .second, .val (.int sel), .val (.long (v &&& (9223372036854775807 : Int64))), .second, .val (.int (sel &&& (3 : Int32))), .val (.long n), .second, .val (.ref b32), .val (.ref b27), .unset] [(.long n)]))
          refine Done.step (fun _ => XT.lloadN X35.here hx rfl (hb hby at_428) rfl) ?_
          show Done _ p e below s _ _ (T35.setTop (mkF m 429 #[.val (.long v), .second, .val (.long mm), .second, .val (.int sel), .val (.long (v &&& (9223372036854775807 : Int64))), .second, .val (.int (sel &&& (3 : Int32))), .val (.long n), .second, .val (.ref b32), .val (.ref b27), .unset] [(.long mm), (.long n)]))
          refine Done.step (fun _ => Stand.ldc2J X35 hx hown (mvT hZ (wAt hw 0 rfl)) (g := (mkF m 429 #[.val (.long v), .second, .val (.long mm), .second, .val (.int sel), .val (.long (v &&& (9223372036854775807 : Int64))), .second, .val (.int (sel &&& (3 : Int32))), .val (.long n), .second, .val (.ref b32), .val (.ref b27), .unset] [(.long mm), (.long n)])) rfl (hb hby at_429)) ?_
          show Done _ p e below s _ _ (T35.setTop (mkF m 432 #[.val (.long v), .second, .val (.long mm), .second, .val (.int sel), .val (.long (v &&& (9223372036854775807 : Int64))), .second, .val (.int (sel &&& (3 : Int32))), .val (.long n), .second, .val (.ref b32), .val (.ref b27), .unset] [(.long (9223372036854775807 : Int64)), (.long mm), (.long n)]))
          refine Done.step (fun _ => XT.land X35.here hx rfl (hb hby at_432) rfl) ?_
          show Done _ p e below s _ _ (T35.setTop (mkF m 433 #[.val (.long v), .second, .val (.long mm), .second, .val (.int sel), .val (.long (v &&& (9223372036854775807 : Int64))), .second, .val (.int (sel &&& (3 : Int32))), .val (.long n), .second, .val (.ref b32), .val (.ref b27), .unset] [(.long (mm &&& (9223372036854775807 : Int64))), (.long n)]))
          refine Done.callSP X35 hx hZ hown (wAt hw 36 rfl) (wAt hw 37 rfl) (wAt hw 38 rfl) (wAt hw 39 rfl) (by decide) (rmMx l Z a0 hw [] n (mm &&& (9223372036854775807 : Int64)) T35.heap n0 Zs35) rfl (g := (mkF m 433 #[.val (.long v), .second, .val (.long mm), .second, .val (.int sel), .val (.long (v &&& (9223372036854775807 : Int64))), .second, .val (.int (sel &&& (3 : Int32))), .val (.long n), .second, .val (.ref b32), .val (.ref b27), .unset] [(.long (mm &&& (9223372036854775807 : Int64))), (.long n)])) rfl (by rw [hml]; rfl) [(.long n), (.long (mm &&& (9223372036854775807 : Int64)))] [] 0 (lenOf pd_3 rfl) rfl rfl (by show 2 * 0 + _ ≤ _; exact Nat.le_of_eq rfl) (hb hby at_433) (by decide) (by decide) (by decide) (by decide) rfl rfl ?_
          intro T38 X38 e38
          show Done _ p e below s _ _ (T38.setTop (mkF m 436 #[.val (.long v), .second, .val (.long mm), .second, .val (.int sel), .val (.long (v &&& (9223372036854775807 : Int64))), .second, .val (.int (sel &&& (3 : Int32))), .val (.long n), .second, .val (.ref b32), .val (.ref b27), .unset] [(.long (own_max n (mm &&& (9223372036854775807 : Int64))))]))
          refine Done.step (fun _ => XT.lstore X38.here hx rfl (hb hby at_436) rfl (l' := #[.val (.long v), .second, .val (.long mm), .second, .val (.int sel), .val (.long (v &&& (9223372036854775807 : Int64))), .second, .val (.int (sel &&& (3 : Int32))), .val (.long n), .second, .val (.ref b32), .val (.long (own_max n (mm &&& (9223372036854775807 : Int64)))), .second]) rfl) ?_
          show Done _ p e below s _ _ (T38.setTop (mkF m 438 #[.val (.long v), .second, .val (.long mm), .second, .val (.int sel), .val (.long (v &&& (9223372036854775807 : Int64))), .second, .val (.int (sel &&& (3 : Int32))), .val (.long n), .second, .val (.ref b32), .val (.long (own_max n (mm &&& (9223372036854775807 : Int64)))), .second] []))
          obtain ⟨a39, T39, h39, k39, X39, e39, E39, hS, hk, hZ, hown, st39⟩ := ldcS X38 hx hZ hown (wAt hw 40 rfl) own_wS e38 hS hk (g := (mkF m 438 #[.val (.long v), .second, .val (.long mm), .second, .val (.int sel), .val (.long (v &&& (9223372036854775807 : Int64))), .second, .val (.int (sel &&& (3 : Int32))), .val (.long n), .second, .val (.ref b32), .val (.long (own_max n (mm &&& (9223372036854775807 : Int64)))), .second] [])) rfl (hb hby at_438) (n := 4) (by decide) (by decide) (by decide) (by decide)
          have Zs39 := Nat.le_trans Zs35 E39.1
          refine Done.step st39 ?_
          show Done _ p e below s _ _ (T39.setTop (mkF m 440 #[.val (.long v), .second, .val (.long mm), .second, .val (.int sel), .val (.long (v &&& (9223372036854775807 : Int64))), .second, .val (.int (sel &&& (3 : Int32))), .val (.long n), .second, .val (.ref b32), .val (.long (own_max n (mm &&& (9223372036854775807 : Int64)))), .second] [(.ref a39)]))
          refine Done.step (fun _ => XS.aload X39.here hx rfl (hb hby at_440) rfl rfl) ?_
          show Done _ p e below s _ _ (T39.setTop (mkF m 442 #[.val (.long v), .second, .val (.long mm), .second, .val (.int sel), .val (.long (v &&& (9223372036854775807 : Int64))), .second, .val (.int (sel &&& (3 : Int32))), .val (.long n), .second, .val (.ref b32), .val (.long (own_max n (mm &&& (9223372036854775807 : Int64)))), .second] [(.ref b32), (.ref a39)]))
          refine Done.step (fun _ => XT.lload X39.here hx rfl (hb hby at_442) rfl) ?_
          show Done _ p e below s _ _ (T39.setTop (mkF m 444 #[.val (.long v), .second, .val (.long mm), .second, .val (.int sel), .val (.long (v &&& (9223372036854775807 : Int64))), .second, .val (.int (sel &&& (3 : Int32))), .val (.long n), .second, .val (.ref b32), .val (.long (own_max n (mm &&& (9223372036854775807 : Int64)))), .second] [(.long (own_max n (mm &&& (9223372036854775807 : Int64)))), (.ref b32), (.ref a39)]))
          have f40 := (Eq35.ext E39)
          have f41 := (Vq35.ext E39)
          have f42 := (Cq35.ext E39)
          have f43 := (Aq35.ext E39)
          have f44 := ((f36.keep K35q (allS n0_b32 all0)).ext E39)
          have hpv : Int64.ofInt (own_pv ([own_dg n (10 : Int64), own_dg n (1 : Int64)] : List Int32) (([own_dg n (10 : Int64), own_dg n (1 : Int64)] : List Int32)).length) = n := by
            rw [show own_pv ([own_dg n (10 : Int64), own_dg n (1 : Int64)] : List Int32) (([own_dg n (10 : Int64), own_dg n (1 : Int64)] : List Int32)).length = _ from (own_cs2 hn0 hn1).2.1]
            exact Int64.ofInt_toInt n
          refine Done.callSP X39 hx hZ hown (wAt hw 43 rfl) (wAt hw 44 rfl) (wAt hw 45 rfl) (wAt hw 46 rfl) (by decide) (rmP l Z a0 hw [] a39 b32 t35 kb35 ([own_dg n (10 : Int64), own_dg n (1 : Int64)] : List Int32) (2 : Int32) ((((([own_dg n (10 : Int64), own_dg n (1 : Int64)] : List Int32)).map (fun c => c.toInt8.toInt32))).map Value.int) (own_max n (mm &&& (9223372036854775807 : Int64))) z fm h39 n0 Zs39 f40 f41 f42 f43 hcd35 hbd35 (Nat.le_of_ble_eq_true rfl) f44 SC hz SF rF (own_cs2 hn0 hn1).1 (Nat.succ_pos _) (Nat.succ_ne_zero _) (by rw [show own_pv ([own_dg n (10 : Int64), own_dg n (1 : Int64)] : List Int32) (([own_dg n (10 : Int64), own_dg n (1 : Int64)] : List Int32)).length = _ from (own_cs2 hn0 hn1).2.1]; exact own_maxge _ _)) e39 (g := (mkF m 444 #[.val (.long v), .second, .val (.long mm), .second, .val (.int sel), .val (.long (v &&& (9223372036854775807 : Int64))), .second, .val (.int (sel &&& (3 : Int32))), .val (.long n), .second, .val (.ref b32), .val (.long (own_max n (mm &&& (9223372036854775807 : Int64)))), .second] [(.long (own_max n (mm &&& (9223372036854775807 : Int64)))), (.ref b32), (.ref a39)])) rfl (by rw [hml]; rfl) [(.ref a39), (.ref b32), (.long (own_max n (mm &&& (9223372036854775807 : Int64))))] [] 0 (lenOf pd_6 rfl) rfl rfl (by show 2 * 0 + _ ≤ _; exact Nat.le_of_eq rfl) (hb hby at_444) (by decide) (by decide) (by decide) (by decide) rfl rfl ?_
          intro T45 X45 e45
          show Done _ p e below s _ _ (T45.setTop (mkF m 447 #[.val (.long v), .second, .val (.long mm), .second, .val (.int sel), .val (.long (v &&& (9223372036854775807 : Int64))), .second, .val (.int (sel &&& (3 : Int32))), .val (.long n), .second, .val (.ref b32), .val (.long (own_max n (mm &&& (9223372036854775807 : Int64)))), .second] [(.long (Int64.ofInt (own_pv ([own_dg n (10 : Int64), own_dg n (1 : Int64)] : List Int32) (([own_dg n (10 : Int64), own_dg n (1 : Int64)] : List Int32)).length)))]))
          rw [hpv]
          show Done _ p e below s _ _ (T45.setTop (mkF m 447 #[.val (.long v), .second, .val (.long mm), .second, .val (.int sel), .val (.long (v &&& (9223372036854775807 : Int64))), .second, .val (.int (sel &&& (3 : Int32))), .val (.long n), .second, .val (.ref b32), .val (.long (own_max n (mm &&& (9223372036854775807 : Int64)))), .second] [(.long n)]))
          refine Done.step (fun _ => XT.lload X45.here hx rfl (hb hby at_447) rfl) ?_
          show Done _ p e below s _ _ (T45.setTop (mkF m 449 #[.val (.long v), .second, .val (.long mm), .second, .val (.int sel), .val (.long (v &&& (9223372036854775807 : Int64))), .second, .val (.int (sel &&& (3 : Int32))), .val (.long n), .second, .val (.ref b32), .val (.long (own_max n (mm &&& (9223372036854775807 : Int64)))), .second] [(.long n), (.long n)]))
          refine Done.step (fun _ => XT.lcmp X45.here hx rfl (hb hby at_449) rfl) ?_
          show Done _ p e below s _ _ (T45.setTop (mkF m 450 #[.val (.long v), .second, .val (.long mm), .second, .val (.int sel), .val (.long (v &&& (9223372036854775807 : Int64))), .second, .val (.int (sel &&& (3 : Int32))), .val (.long n), .second, .val (.ref b32), .val (.long (own_max n (mm &&& (9223372036854775807 : Int64)))), .second] [(.int (XT.cmpL n n))]))
          refine Done.step (fun _ => XS.ifNo X45.here hx rfl (hb hby at_450) rfl (XT.ll_ne_f rfl)) ?_
          show Done _ p e below s _ _ (T45.setTop (mkF m 453 #[.val (.long v), .second, .val (.long mm), .second, .val (.int sel), .val (.long (v &&& (9223372036854775807 : Int64))), .second, .val (.int (sel &&& (3 : Int32))), .val (.long n), .second, .val (.ref b32), .val (.long (own_max n (mm &&& (9223372036854775807 : Int64)))), .second] []))
          refine Done.step (fun _ => XT.iconstV X45.here hx rfl (1 : Int32) (hb hby at_453) (by decide)) ?_
          show Done _ p e below s _ _ (T45.setTop (mkF m 454 #[.val (.long v), .second, .val (.long mm), .second, .val (.int sel), .val (.long (v &&& (9223372036854775807 : Int64))), .second, .val (.int (sel &&& (3 : Int32))), .val (.long n), .second, .val (.ref b32), .val (.long (own_max n (mm &&& (9223372036854775807 : Int64)))), .second] [(.int (1 : Int32))]))
          refine Done.step (fun _ => XS.goto X45.here hx rfl (pc0 := 454) (pc' := 458) rfl (hb hby at_454) (by decide) (by decide)) ?_
          show Done _ p e below s _ _ (T45.setTop (mkF m 458 #[.val (.long v), .second, .val (.long mm), .second, .val (.int sel), .val (.long (v &&& (9223372036854775807 : Int64))), .second, .val (.int (sel &&& (3 : Int32))), .val (.long n), .second, .val (.ref b32), .val (.long (own_max n (mm &&& (9223372036854775807 : Int64)))), .second] [(.int (1 : Int32))]))
          exact Done.retN (leavesW X45 hS (by first | exact hk | (rw [e45]; exact hk)) hlk (by decide) (by decide)) X45 hx (t := .boolean) hret (by simp) (hb hby at_458) ⟨rfl, N35⟩
        · refine Done.step (fun _ => XS.ifNo X35.here hx rfl (hb hby at_418) rfl (XT.i0_eq_f hc37)) ?_
          show Done _ p e below s _ _ (T35.setTop (mkF m 421 #[.val (.long v), .second, .val (.long mm), .second, .val (.int sel), .val (.long (v &&& (9223372036854775807 : Int64))), .second, .val (.int (sel &&& (3 : Int32))), .val (.long n), .second, .val (.ref b32), .val (.ref b27), .unset] []))
          refine Done.step (fun _ => XT.lload X35.here hx rfl (hb hby at_421) rfl) ?_
          show Done _ p e below s _ _ (T35.setTop (mkF m 423 #[.val (.long v), .second, .val (.long mm), .second, .val (.int sel), .val (.long (v &&& (9223372036854775807 : Int64))), .second, .val (.int (sel &&& (3 : Int32))), .val (.long n), .second, .val (.ref b32), .val (.ref b27), .unset] [(.long n)]))
          refine Done.step (fun _ => XS.goto X35.here hx rfl (pc0 := 423) (pc' := 436) rfl (hb hby at_423) (by decide) (by decide)) ?_
          show Done _ p e below s _ _ (T35.setTop (mkF m 436 #[.val (.long v), .second, .val (.long mm), .second, .val (.int sel), .val (.long (v &&& (9223372036854775807 : Int64))), .second, .val (.int (sel &&& (3 : Int32))), .val (.long n), .second, .val (.ref b32), .val (.ref b27), .unset] [(.long n)]))
          refine Done.step (fun _ => XT.lstore X35.here hx rfl (hb hby at_436) rfl (l' := #[.val (.long v), .second, .val (.long mm), .second, .val (.int sel), .val (.long (v &&& (9223372036854775807 : Int64))), .second, .val (.int (sel &&& (3 : Int32))), .val (.long n), .second, .val (.ref b32), .val (.long n), .second]) rfl) ?_
          show Done _ p e below s _ _ (T35.setTop (mkF m 438 #[.val (.long v), .second, .val (.long mm), .second, .val (.int sel), .val (.long (v &&& (9223372036854775807 : Int64))), .second, .val (.int (sel &&& (3 : Int32))), .val (.long n), .second, .val (.ref b32), .val (.long n), .second] []))
          obtain ⟨a46, T46, h46, k46, X46, e46, E46, hS, hk, hZ, hown, st46⟩ := ldcS X35 hx hZ hown (wAt hw 40 rfl) own_wS rfl hS hk (g := (mkF m 438 #[.val (.long v), .second, .val (.long mm), .second, .val (.int sel), .val (.long (v &&& (9223372036854775807 : Int64))), .second, .val (.int (sel &&& (3 : Int32))), .val (.long n), .second, .val (.ref b32), .val (.long n), .second] [])) rfl (hb hby at_438) (n := 4) (by decide) (by decide) (by decide) (by decide)
          have Zs46 := Nat.le_trans Zs35 E46.1
          refine Done.step st46 ?_
          show Done _ p e below s _ _ (T46.setTop (mkF m 440 #[.val (.long v), .second, .val (.long mm), .second, .val (.int sel), .val (.long (v &&& (9223372036854775807 : Int64))), .second, .val (.int (sel &&& (3 : Int32))), .val (.long n), .second, .val (.ref b32), .val (.long n), .second] [(.ref a46)]))
          refine Done.step (fun _ => XS.aload X46.here hx rfl (hb hby at_440) rfl rfl) ?_
          show Done _ p e below s _ _ (T46.setTop (mkF m 442 #[.val (.long v), .second, .val (.long mm), .second, .val (.int sel), .val (.long (v &&& (9223372036854775807 : Int64))), .second, .val (.int (sel &&& (3 : Int32))), .val (.long n), .second, .val (.ref b32), .val (.long n), .second] [(.ref b32), (.ref a46)]))
          refine Done.step (fun _ => XT.lload X46.here hx rfl (hb hby at_442) rfl) ?_
          show Done _ p e below s _ _ (T46.setTop (mkF m 444 #[.val (.long v), .second, .val (.long mm), .second, .val (.int sel), .val (.long (v &&& (9223372036854775807 : Int64))), .second, .val (.int (sel &&& (3 : Int32))), .val (.long n), .second, .val (.ref b32), .val (.long n), .second] [(.long n), (.ref b32), (.ref a46)]))
          have f47 := (Eq35.ext E46)
          have f48 := (Vq35.ext E46)
          have f49 := (Cq35.ext E46)
          have f50 := (Aq35.ext E46)
          have f51 := ((f36.keep K35q (allS n0_b32 all0)).ext E46)
          have hpv : Int64.ofInt (own_pv ([own_dg n (10 : Int64), own_dg n (1 : Int64)] : List Int32) (([own_dg n (10 : Int64), own_dg n (1 : Int64)] : List Int32)).length) = n := by
            rw [show own_pv ([own_dg n (10 : Int64), own_dg n (1 : Int64)] : List Int32) (([own_dg n (10 : Int64), own_dg n (1 : Int64)] : List Int32)).length = _ from (own_cs2 hn0 hn1).2.1]
            exact Int64.ofInt_toInt n
          refine Done.callSP X46 hx hZ hown (wAt hw 43 rfl) (wAt hw 44 rfl) (wAt hw 45 rfl) (wAt hw 46 rfl) (by decide) (rmP l Z a0 hw [] a46 b32 t35 kb35 ([own_dg n (10 : Int64), own_dg n (1 : Int64)] : List Int32) (2 : Int32) ((((([own_dg n (10 : Int64), own_dg n (1 : Int64)] : List Int32)).map (fun c => c.toInt8.toInt32))).map Value.int) n z fm h46 n0 Zs46 f47 f48 f49 f50 hcd35 hbd35 (Nat.le_of_ble_eq_true rfl) f51 SC hz SF rF (own_cs2 hn0 hn1).1 (Nat.succ_pos _) (Nat.succ_ne_zero _) (by rw [show own_pv ([own_dg n (10 : Int64), own_dg n (1 : Int64)] : List Int32) (([own_dg n (10 : Int64), own_dg n (1 : Int64)] : List Int32)).length = _ from (own_cs2 hn0 hn1).2.1]; exact Int.le_refl _)) e46 (g := (mkF m 444 #[.val (.long v), .second, .val (.long mm), .second, .val (.int sel), .val (.long (v &&& (9223372036854775807 : Int64))), .second, .val (.int (sel &&& (3 : Int32))), .val (.long n), .second, .val (.ref b32), .val (.long n), .second] [(.long n), (.ref b32), (.ref a46)])) rfl (by rw [hml]; rfl) [(.ref a46), (.ref b32), (.long n)] [] 0 (lenOf pd_6 rfl) rfl rfl (by show 2 * 0 + _ ≤ _; exact Nat.le_of_eq rfl) (hb hby at_444) (by decide) (by decide) (by decide) (by decide) rfl rfl ?_
          intro T52 X52 e52
          show Done _ p e below s _ _ (T52.setTop (mkF m 447 #[.val (.long v), .second, .val (.long mm), .second, .val (.int sel), .val (.long (v &&& (9223372036854775807 : Int64))), .second, .val (.int (sel &&& (3 : Int32))), .val (.long n), .second, .val (.ref b32), .val (.long n), .second] [(.long (Int64.ofInt (own_pv ([own_dg n (10 : Int64), own_dg n (1 : Int64)] : List Int32) (([own_dg n (10 : Int64), own_dg n (1 : Int64)] : List Int32)).length)))]))
          rw [hpv]
          show Done _ p e below s _ _ (T52.setTop (mkF m 447 #[.val (.long v), .second, .val (.long mm), .second, .val (.int sel), .val (.long (v &&& (9223372036854775807 : Int64))), .second, .val (.int (sel &&& (3 : Int32))), .val (.long n), .second, .val (.ref b32), .val (.long n), .second] [(.long n)]))
          refine Done.step (fun _ => XT.lload X52.here hx rfl (hb hby at_447) rfl) ?_
          show Done _ p e below s _ _ (T52.setTop (mkF m 449 #[.val (.long v), .second, .val (.long mm), .second, .val (.int sel), .val (.long (v &&& (9223372036854775807 : Int64))), .second, .val (.int (sel &&& (3 : Int32))), .val (.long n), .second, .val (.ref b32), .val (.long n), .second] [(.long n), (.long n)]))
          refine Done.step (fun _ => XT.lcmp X52.here hx rfl (hb hby at_449) rfl) ?_
          show Done _ p e below s _ _ (T52.setTop (mkF m 450 #[.val (.long v), .second, .val (.long mm), .second, .val (.int sel), .val (.long (v &&& (9223372036854775807 : Int64))), .second, .val (.int (sel &&& (3 : Int32))), .val (.long n), .second, .val (.ref b32), .val (.long n), .second] [(.int (XT.cmpL n n))]))
          refine Done.step (fun _ => XS.ifNo X52.here hx rfl (hb hby at_450) rfl (XT.ll_ne_f rfl)) ?_
          show Done _ p e below s _ _ (T52.setTop (mkF m 453 #[.val (.long v), .second, .val (.long mm), .second, .val (.int sel), .val (.long (v &&& (9223372036854775807 : Int64))), .second, .val (.int (sel &&& (3 : Int32))), .val (.long n), .second, .val (.ref b32), .val (.long n), .second] []))
          refine Done.step (fun _ => XT.iconstV X52.here hx rfl (1 : Int32) (hb hby at_453) (by decide)) ?_
          show Done _ p e below s _ _ (T52.setTop (mkF m 454 #[.val (.long v), .second, .val (.long mm), .second, .val (.int sel), .val (.long (v &&& (9223372036854775807 : Int64))), .second, .val (.int (sel &&& (3 : Int32))), .val (.long n), .second, .val (.ref b32), .val (.long n), .second] [(.int (1 : Int32))]))
          refine Done.step (fun _ => XS.goto X52.here hx rfl (pc0 := 454) (pc' := 458) rfl (hb hby at_454) (by decide) (by decide)) ?_
          show Done _ p e below s _ _ (T52.setTop (mkF m 458 #[.val (.long v), .second, .val (.long mm), .second, .val (.int sel), .val (.long (v &&& (9223372036854775807 : Int64))), .second, .val (.int (sel &&& (3 : Int32))), .val (.long n), .second, .val (.ref b32), .val (.long n), .second] [(.int (1 : Int32))]))
          exact Done.retN (leavesW X52 hS (by first | exact hk | (rw [e52]; exact hk)) hlk (by decide) (by decide)) X52 hx (t := .boolean) hret (by simp) (hb hby at_458) ⟨rfl, N35⟩
      exact KN68 ((v &&& (9223372036854775807 : Int64)) - ((v &&& (9223372036854775807 : Int64)) / (100 : Int64)) * (100 : Int64)) (own_rem (own_pos v) (by decide)).1 (own_rem (own_pos v) (by decide)).2
    · refine Done.step (fun _ => XS.icmpYes X0.here hx rfl (pc0 := 57) (pc' := 107) rfl (hb hby at_57) rfl (XT.ii_ne_t hc26) (by decide) (by decide)) ?_
      show Done _ p e below s _ _ (T0.setTop (mkF m 107 #[.val (.long v), .second, .val (.long mm), .second, .val (.int sel), .val (.long (v &&& (9223372036854775807 : Int64))), .second, .val (.int (sel &&& (3 : Int32))), .unset, .unset, .unset, .unset, .unset] []))
      refine Done.step (fun _ => XS.iload X0.here hx rfl (hb hby at_107) rfl) ?_
      show Done _ p e below s _ _ (T0.setTop (mkF m 109 #[.val (.long v), .second, .val (.long mm), .second, .val (.int sel), .val (.long (v &&& (9223372036854775807 : Int64))), .second, .val (.int (sel &&& (3 : Int32))), .unset, .unset, .unset, .unset, .unset] [(.int (sel &&& (3 : Int32)))]))
      refine Done.step (fun _ => XT.iconstV X0.here hx rfl (2 : Int32) (hb hby at_109) (by decide)) ?_
      show Done _ p e below s _ _ (T0.setTop (mkF m 110 #[.val (.long v), .second, .val (.long mm), .second, .val (.int sel), .val (.long (v &&& (9223372036854775807 : Int64))), .second, .val (.int (sel &&& (3 : Int32))), .unset, .unset, .unset, .unset, .unset] [(.int (2 : Int32)), (.int (sel &&& (3 : Int32)))]))
      by_cases hc53 : (sel &&& (3 : Int32)) = (2 : Int32)
      · refine Done.step (fun _ => XS.icmpNo X0.here hx rfl (hb hby at_110) rfl (XT.ii_ne_f hc53)) ?_
        show Done _ p e below s _ _ (T0.setTop (mkF m 113 #[.val (.long v), .second, .val (.long mm), .second, .val (.int sel), .val (.long (v &&& (9223372036854775807 : Int64))), .second, .val (.int (sel &&& (3 : Int32))), .unset, .unset, .unset, .unset, .unset] []))
        refine Done.step (fun _ => XT.lload X0.here hx rfl (hb hby at_113) rfl) ?_
        show Done _ p e below s _ _ (T0.setTop (mkF m 115 #[.val (.long v), .second, .val (.long mm), .second, .val (.int sel), .val (.long (v &&& (9223372036854775807 : Int64))), .second, .val (.int (sel &&& (3 : Int32))), .unset, .unset, .unset, .unset, .unset] [(.long (v &&& (9223372036854775807 : Int64)))]))
        refine Done.step (fun _ => Stand.ldc2J X0 hx hown (mvT hZ (wAt hw 104 rfl)) (g := (mkF m 115 #[.val (.long v), .second, .val (.long mm), .second, .val (.int sel), .val (.long (v &&& (9223372036854775807 : Int64))), .second, .val (.int (sel &&& (3 : Int32))), .unset, .unset, .unset, .unset, .unset] [(.long (v &&& (9223372036854775807 : Int64)))])) rfl (hb hby at_115)) ?_
        show Done _ p e below s _ _ (T0.setTop (mkF m 118 #[.val (.long v), .second, .val (.long mm), .second, .val (.int sel), .val (.long (v &&& (9223372036854775807 : Int64))), .second, .val (.int (sel &&& (3 : Int32))), .unset, .unset, .unset, .unset, .unset] [(.long (1000 : Int64)), (.long (v &&& (9223372036854775807 : Int64)))]))
        refine Done.step (fun _ => XT.lrem X0.here hx rfl (hb hby at_118) rfl (by decide)) ?_
        show Done _ p e below s _ _ (T0.setTop (mkF m 119 #[.val (.long v), .second, .val (.long mm), .second, .val (.int sel), .val (.long (v &&& (9223372036854775807 : Int64))), .second, .val (.int (sel &&& (3 : Int32))), .unset, .unset, .unset, .unset, .unset] [(.long ((v &&& (9223372036854775807 : Int64)) - ((v &&& (9223372036854775807 : Int64)) / (1000 : Int64)) * (1000 : Int64)))]))
        refine Done.step (fun _ => XT.lstore X0.here hx rfl (hb hby at_119) rfl (l' := #[.val (.long v), .second, .val (.long mm), .second, .val (.int sel), .val (.long (v &&& (9223372036854775807 : Int64))), .second, .val (.int (sel &&& (3 : Int32))), .val (.long ((v &&& (9223372036854775807 : Int64)) - ((v &&& (9223372036854775807 : Int64)) / (1000 : Int64)) * (1000 : Int64))), .second, .unset, .unset, .unset]) rfl) ?_
        show Done _ p e below s _ _ (T0.setTop (mkF m 121 #[.val (.long v), .second, .val (.long mm), .second, .val (.int sel), .val (.long (v &&& (9223372036854775807 : Int64))), .second, .val (.int (sel &&& (3 : Int32))), .val (.long ((v &&& (9223372036854775807 : Int64)) - ((v &&& (9223372036854775807 : Int64)) / (1000 : Int64)) * (1000 : Int64))), .second, .unset, .unset, .unset] []))
        have KN121 : ∀ (n : Int64) (hn0 : 0 ≤ n.toInt) (hn1 : n.toInt < 1000), Done ReturnedEndW p e below s room_1 (LawQ n0) (T0.setTop (mkF m 121 #[.val (.long v), .second, .val (.long mm), .second, .val (.int sel), .val (.long (v &&& (9223372036854775807 : Int64))), .second, .val (.int (sel &&& (3 : Int32))), .val (.long n), .second, .unset, .unset, .unset] [])) := by
          intro n hn0 hn1
          show Done _ p e below s _ _ (T0.setTop (mkF m 121 #[.val (.long v), .second, .val (.long mm), .second, .val (.int sel), .val (.long (v &&& (9223372036854775807 : Int64))), .second, .val (.int (sel &&& (3 : Int32))), .val (.long n), .second, .unset, .unset, .unset] []))
          refine Done.step (fun _ => XT.iconstV X0.here hx rfl (3 : Int32) (hb hby at_121) (by decide)) ?_
          show Done _ p e below s _ _ (T0.setTop (mkF m 122 #[.val (.long v), .second, .val (.long mm), .second, .val (.int sel), .val (.long (v &&& (9223372036854775807 : Int64))), .second, .val (.int (sel &&& (3 : Int32))), .val (.long n), .second, .unset, .unset, .unset] [(.int (3 : Int32))]))
          obtain ⟨T54, h54, k54, X54, e54, E54, A54, st54⟩ := newP X0 hx hZ (wAt hw 2 rfl) e0 (g := (mkF m 122 #[.val (.long v), .second, .val (.long mm), .second, .val (.int sel), .val (.long (v &&& (9223372036854775807 : Int64))), .second, .val (.int (sel &&& (3 : Int32))), .val (.long n), .second, .unset, .unset, .unset] [(.int (3 : Int32))])) rfl (hb hby at_122) rfl (by decide) (cap := 3) (by decide) (by decide) (by decide) (by decide)
          obtain ⟨b54, g54⟩ : ∃ z, z = h0.size := ⟨_, rfl⟩
          rw [← g54] at A54 st54
          have n0_b54 : n0 ≤ b54 := by rw [g54]; exact Z0
          have Zs54 := Nat.le_trans Z0 E54.1
          have hk := Nat.le_trans hk E54.1
          have V_b54 : Arv Z h54 b54 k54 .char (3 : Int32) [(.int (0 : Int32)), (.int (0 : Int32)), (.int (0 : Int32))] (.int (0 : Int32)) := (Arv.new A54 (by decide)).pad (pad_rep [] (.int (0 : Int32)) 3)
          refine Done.step st54 ?_
          show Done _ p e below s _ _ (T54.setTop (mkF m 124 #[.val (.long v), .second, .val (.long mm), .second, .val (.int sel), .val (.long (v &&& (9223372036854775807 : Int64))), .second, .val (.int (sel &&& (3 : Int32))), .val (.long n), .second, .unset, .unset, .unset] [(.ref b54)]))
          refine Done.step (fun _ => XS.dup X54.here hx rfl (hb hby at_124) rfl rfl) ?_
          show Done _ p e below s _ _ (T54.setTop (mkF m 125 #[.val (.long v), .second, .val (.long mm), .second, .val (.int sel), .val (.long (v &&& (9223372036854775807 : Int64))), .second, .val (.int (sel &&& (3 : Int32))), .val (.long n), .second, .unset, .unset, .unset] [(.ref b54), (.ref b54)]))
          refine Done.step (fun _ => XT.iconstV X54.here hx rfl (0 : Int32) (hb hby at_125) (by decide)) ?_
          show Done _ p e below s _ _ (T54.setTop (mkF m 126 #[.val (.long v), .second, .val (.long mm), .second, .val (.int sel), .val (.long (v &&& (9223372036854775807 : Int64))), .second, .val (.int (sel &&& (3 : Int32))), .val (.long n), .second, .unset, .unset, .unset] [(.int (0 : Int32)), (.ref b54), (.ref b54)]))
          refine Done.step (fun _ => XT.lload X54.here hx rfl (hb hby at_126) rfl) ?_
          show Done _ p e below s _ _ (T54.setTop (mkF m 128 #[.val (.long v), .second, .val (.long mm), .second, .val (.int sel), .val (.long (v &&& (9223372036854775807 : Int64))), .second, .val (.int (sel &&& (3 : Int32))), .val (.long n), .second, .unset, .unset, .unset] [(.long n), (.int (0 : Int32)), (.ref b54), (.ref b54)]))
          refine Done.step (fun _ => Stand.ldc2J X54 hx hown (mvT hZ (wAt hw 105 rfl)) (g := (mkF m 128 #[.val (.long v), .second, .val (.long mm), .second, .val (.int sel), .val (.long (v &&& (9223372036854775807 : Int64))), .second, .val (.int (sel &&& (3 : Int32))), .val (.long n), .second, .unset, .unset, .unset] [(.long n), (.int (0 : Int32)), (.ref b54), (.ref b54)])) rfl (hb hby at_128)) ?_
          show Done _ p e below s _ _ (T54.setTop (mkF m 131 #[.val (.long v), .second, .val (.long mm), .second, .val (.int sel), .val (.long (v &&& (9223372036854775807 : Int64))), .second, .val (.int (sel &&& (3 : Int32))), .val (.long n), .second, .unset, .unset, .unset] [(.long (100 : Int64)), (.long n), (.int (0 : Int32)), (.ref b54), (.ref b54)]))
          refine Done.callSP X54 hx hZ hown (wAt hw 3 rfl) (wAt hw 4 rfl) (wAt hw 5 rfl) (wAt hw 6 rfl) (by decide) (rmd l Z a0 hw [] n (100 : Int64) h54 n0 Zs54 (by decide)) e54 (g := (mkF m 131 #[.val (.long v), .second, .val (.long mm), .second, .val (.int sel), .val (.long (v &&& (9223372036854775807 : Int64))), .second, .val (.int (sel &&& (3 : Int32))), .val (.long n), .second, .unset, .unset, .unset] [(.long (100 : Int64)), (.long n), (.int (0 : Int32)), (.ref b54), (.ref b54)])) rfl (by rw [hml]; rfl) [(.long n), (.long (100 : Int64))] [(.int (0 : Int32)), (.ref b54), (.ref b54)] 3 (lenOf pd_4 rfl) rfl rfl (by show 2 * 0 + _ ≤ _; exact Nat.le_of_eq rfl) (hb hby at_131) (by decide) (by decide) (by decide) (by decide) rfl rfl ?_
          intro T55 X55 e55
          show Done _ p e below s _ _ (T55.setTop (mkF m 134 #[.val (.long v), .second, .val (.long mm), .second, .val (.int sel), .val (.long (v &&& (9223372036854775807 : Int64))), .second, .val (.int (sel &&& (3 : Int32))), .val (.long n), .second, .unset, .unset, .unset] [(.int (own_dg n (100 : Int64))), (.int (0 : Int32)), (.ref b54), (.ref b54)]))
          obtain ⟨cl56, Ar56, q56, S56, Nn56, H56, G56⟩ := V_b54
          have hin56 : ¬ ((0 : Int32) < 0 ∨ cl56.slots.size ≤ ((0 : Int32)).toNatClampNeg) := inb_of S56 ⟨by decide, by decide⟩
          obtain ⟨T56, h56, X56, e56, W56, st56⟩ := stC X55 hx hZ e55 Ar56 (j := (0 : Int32)) hin56 (g := (mkF m 134 #[.val (.long v), .second, .val (.long mm), .second, .val (.int sel), .val (.long (v &&& (9223372036854775807 : Int64))), .second, .val (.int (sel &&& (3 : Int32))), .val (.long n), .second, .unset, .unset, .unset] [(.int (own_dg n (100 : Int64))), (.int (0 : Int32)), (.ref b54), (.ref b54)])) rfl rfl (hb hby at_134)
          have V56 := Arv.set Ar56 q56 S56 Nn56 H56 G56 (fits_nar_char _) W56 0 rfl (Nat.le_of_ble_eq_true rfl)
          have N56 := Fr.snoc X56 N0 n0_b54
          have Zs56 := Nat.le_trans Zs54 (Keep.of_wr W56).1
          have hk := Nat.le_trans hk (Keep.of_wr W56).1
          refine Done.step st56 ?_
          show Done _ p e below s _ _ (T56.setTop (mkF m 135 #[.val (.long v), .second, .val (.long mm), .second, .val (.int sel), .val (.long (v &&& (9223372036854775807 : Int64))), .second, .val (.int (sel &&& (3 : Int32))), .val (.long n), .second, .unset, .unset, .unset] [(.ref b54)]))
          refine Done.step (fun _ => XS.dup X56.here hx rfl (hb hby at_135) rfl rfl) ?_
          show Done _ p e below s _ _ (T56.setTop (mkF m 136 #[.val (.long v), .second, .val (.long mm), .second, .val (.int sel), .val (.long (v &&& (9223372036854775807 : Int64))), .second, .val (.int (sel &&& (3 : Int32))), .val (.long n), .second, .unset, .unset, .unset] [(.ref b54), (.ref b54)]))
          refine Done.step (fun _ => XT.iconstV X56.here hx rfl (1 : Int32) (hb hby at_136) (by decide)) ?_
          show Done _ p e below s _ _ (T56.setTop (mkF m 137 #[.val (.long v), .second, .val (.long mm), .second, .val (.int sel), .val (.long (v &&& (9223372036854775807 : Int64))), .second, .val (.int (sel &&& (3 : Int32))), .val (.long n), .second, .unset, .unset, .unset] [(.int (1 : Int32)), (.ref b54), (.ref b54)]))
          refine Done.step (fun _ => XT.lload X56.here hx rfl (hb hby at_137) rfl) ?_
          show Done _ p e below s _ _ (T56.setTop (mkF m 139 #[.val (.long v), .second, .val (.long mm), .second, .val (.int sel), .val (.long (v &&& (9223372036854775807 : Int64))), .second, .val (.int (sel &&& (3 : Int32))), .val (.long n), .second, .unset, .unset, .unset] [(.long n), (.int (1 : Int32)), (.ref b54), (.ref b54)]))
          refine Done.step (fun _ => Stand.ldc2J X56 hx hown (mvT hZ (wAt hw 1 rfl)) (g := (mkF m 139 #[.val (.long v), .second, .val (.long mm), .second, .val (.int sel), .val (.long (v &&& (9223372036854775807 : Int64))), .second, .val (.int (sel &&& (3 : Int32))), .val (.long n), .second, .unset, .unset, .unset] [(.long n), (.int (1 : Int32)), (.ref b54), (.ref b54)])) rfl (hb hby at_139)) ?_
          show Done _ p e below s _ _ (T56.setTop (mkF m 142 #[.val (.long v), .second, .val (.long mm), .second, .val (.int sel), .val (.long (v &&& (9223372036854775807 : Int64))), .second, .val (.int (sel &&& (3 : Int32))), .val (.long n), .second, .unset, .unset, .unset] [(.long (10 : Int64)), (.long n), (.int (1 : Int32)), (.ref b54), (.ref b54)]))
          refine Done.callSP X56 hx hZ hown (wAt hw 3 rfl) (wAt hw 4 rfl) (wAt hw 5 rfl) (wAt hw 6 rfl) (by decide) (rmd l Z a0 hw [] n (10 : Int64) h56 n0 Zs56 (by decide)) e56 (g := (mkF m 142 #[.val (.long v), .second, .val (.long mm), .second, .val (.int sel), .val (.long (v &&& (9223372036854775807 : Int64))), .second, .val (.int (sel &&& (3 : Int32))), .val (.long n), .second, .unset, .unset, .unset] [(.long (10 : Int64)), (.long n), (.int (1 : Int32)), (.ref b54), (.ref b54)])) rfl (by rw [hml]; rfl) [(.long n), (.long (10 : Int64))] [(.int (1 : Int32)), (.ref b54), (.ref b54)] 3 (lenOf pd_4 rfl) rfl rfl (by show 2 * 0 + _ ≤ _; exact Nat.le_of_eq rfl) (hb hby at_142) (by decide) (by decide) (by decide) (by decide) rfl rfl ?_
          intro T57 X57 e57
          show Done _ p e below s _ _ (T57.setTop (mkF m 145 #[.val (.long v), .second, .val (.long mm), .second, .val (.int sel), .val (.long (v &&& (9223372036854775807 : Int64))), .second, .val (.int (sel &&& (3 : Int32))), .val (.long n), .second, .unset, .unset, .unset] [(.int (own_dg n (10 : Int64))), (.int (1 : Int32)), (.ref b54), (.ref b54)]))
          obtain ⟨cl58, Ar58, q58, S58, Nn58, H58, G58⟩ := V56
          have hin58 : ¬ ((1 : Int32) < 0 ∨ cl58.slots.size ≤ ((1 : Int32)).toNatClampNeg) := inb_of S58 ⟨by decide, by decide⟩
          obtain ⟨T58, h58, X58, e58, W58, st58⟩ := stC X57 hx hZ e57 Ar58 (j := (1 : Int32)) hin58 (g := (mkF m 145 #[.val (.long v), .second, .val (.long mm), .second, .val (.int sel), .val (.long (v &&& (9223372036854775807 : Int64))), .second, .val (.int (sel &&& (3 : Int32))), .val (.long n), .second, .unset, .unset, .unset] [(.int (own_dg n (10 : Int64))), (.int (1 : Int32)), (.ref b54), (.ref b54)])) rfl rfl (hb hby at_145)
          have V58 := Arv.set Ar58 q58 S58 Nn58 H58 G58 (fits_nar_char _) W58 1 rfl (Nat.le_of_ble_eq_true rfl)
          have N58 := Fr.snoc X58 N56 n0_b54
          have Zs58 := Nat.le_trans Zs56 (Keep.of_wr W58).1
          have hk := Nat.le_trans hk (Keep.of_wr W58).1
          refine Done.step st58 ?_
          show Done _ p e below s _ _ (T58.setTop (mkF m 146 #[.val (.long v), .second, .val (.long mm), .second, .val (.int sel), .val (.long (v &&& (9223372036854775807 : Int64))), .second, .val (.int (sel &&& (3 : Int32))), .val (.long n), .second, .unset, .unset, .unset] [(.ref b54)]))
          refine Done.step (fun _ => XS.dup X58.here hx rfl (hb hby at_146) rfl rfl) ?_
          show Done _ p e below s _ _ (T58.setTop (mkF m 147 #[.val (.long v), .second, .val (.long mm), .second, .val (.int sel), .val (.long (v &&& (9223372036854775807 : Int64))), .second, .val (.int (sel &&& (3 : Int32))), .val (.long n), .second, .unset, .unset, .unset] [(.ref b54), (.ref b54)]))
          refine Done.step (fun _ => XT.iconstV X58.here hx rfl (2 : Int32) (hb hby at_147) (by decide)) ?_
          show Done _ p e below s _ _ (T58.setTop (mkF m 148 #[.val (.long v), .second, .val (.long mm), .second, .val (.int sel), .val (.long (v &&& (9223372036854775807 : Int64))), .second, .val (.int (sel &&& (3 : Int32))), .val (.long n), .second, .unset, .unset, .unset] [(.int (2 : Int32)), (.ref b54), (.ref b54)]))
          refine Done.step (fun _ => XT.lload X58.here hx rfl (hb hby at_148) rfl) ?_
          show Done _ p e below s _ _ (T58.setTop (mkF m 150 #[.val (.long v), .second, .val (.long mm), .second, .val (.int sel), .val (.long (v &&& (9223372036854775807 : Int64))), .second, .val (.int (sel &&& (3 : Int32))), .val (.long n), .second, .unset, .unset, .unset] [(.long n), (.int (2 : Int32)), (.ref b54), (.ref b54)]))
          refine Done.step (fun _ => XT.lconstV X58.here hx rfl (1 : Int64) (hb hby at_150) (by decide)) ?_
          show Done _ p e below s _ _ (T58.setTop (mkF m 151 #[.val (.long v), .second, .val (.long mm), .second, .val (.int sel), .val (.long (v &&& (9223372036854775807 : Int64))), .second, .val (.int (sel &&& (3 : Int32))), .val (.long n), .second, .unset, .unset, .unset] [(.long (1 : Int64)), (.long n), (.int (2 : Int32)), (.ref b54), (.ref b54)]))
          refine Done.callSP X58 hx hZ hown (wAt hw 3 rfl) (wAt hw 4 rfl) (wAt hw 5 rfl) (wAt hw 6 rfl) (by decide) (rmd l Z a0 hw [] n (1 : Int64) h58 n0 Zs58 (by decide)) e58 (g := (mkF m 151 #[.val (.long v), .second, .val (.long mm), .second, .val (.int sel), .val (.long (v &&& (9223372036854775807 : Int64))), .second, .val (.int (sel &&& (3 : Int32))), .val (.long n), .second, .unset, .unset, .unset] [(.long (1 : Int64)), (.long n), (.int (2 : Int32)), (.ref b54), (.ref b54)])) rfl (by rw [hml]; rfl) [(.long n), (.long (1 : Int64))] [(.int (2 : Int32)), (.ref b54), (.ref b54)] 3 (lenOf pd_4 rfl) rfl rfl (by show 2 * 0 + _ ≤ _; exact Nat.le_of_eq rfl) (hb hby at_151) (by decide) (by decide) (by decide) (by decide) rfl rfl ?_
          intro T59 X59 e59
          show Done _ p e below s _ _ (T59.setTop (mkF m 154 #[.val (.long v), .second, .val (.long mm), .second, .val (.int sel), .val (.long (v &&& (9223372036854775807 : Int64))), .second, .val (.int (sel &&& (3 : Int32))), .val (.long n), .second, .unset, .unset, .unset] [(.int (own_dg n (1 : Int64))), (.int (2 : Int32)), (.ref b54), (.ref b54)]))
          obtain ⟨cl60, Ar60, q60, S60, Nn60, H60, G60⟩ := V58
          have hin60 : ¬ ((2 : Int32) < 0 ∨ cl60.slots.size ≤ ((2 : Int32)).toNatClampNeg) := inb_of S60 ⟨by decide, by decide⟩
          obtain ⟨T60, h60, X60, e60, W60, st60⟩ := stC X59 hx hZ e59 Ar60 (j := (2 : Int32)) hin60 (g := (mkF m 154 #[.val (.long v), .second, .val (.long mm), .second, .val (.int sel), .val (.long (v &&& (9223372036854775807 : Int64))), .second, .val (.int (sel &&& (3 : Int32))), .val (.long n), .second, .unset, .unset, .unset] [(.int (own_dg n (1 : Int64))), (.int (2 : Int32)), (.ref b54), (.ref b54)])) rfl rfl (hb hby at_154)
          have V60 := Arv.set Ar60 q60 S60 Nn60 H60 G60 (fits_nar_char _) W60 2 rfl (Nat.le_of_ble_eq_true rfl)
          have N60 := Fr.snoc X60 N58 n0_b54
          have Zs60 := Nat.le_trans Zs58 (Keep.of_wr W60).1
          have hk := Nat.le_trans hk (Keep.of_wr W60).1
          refine Done.step st60 ?_
          show Done _ p e below s _ _ (T60.setTop (mkF m 155 #[.val (.long v), .second, .val (.long mm), .second, .val (.int sel), .val (.long (v &&& (9223372036854775807 : Int64))), .second, .val (.int (sel &&& (3 : Int32))), .val (.long n), .second, .unset, .unset, .unset] [(.ref b54)]))
          refine Done.step (fun _ => XS.astore X60.here hx rfl (hb hby at_155) rfl rfl (l' := #[.val (.long v), .second, .val (.long mm), .second, .val (.int sel), .val (.long (v &&& (9223372036854775807 : Int64))), .second, .val (.int (sel &&& (3 : Int32))), .val (.long n), .second, .unset, .val (.ref b54), .unset]) rfl) ?_
          show Done _ p e below s _ _ (T60.setTop (mkF m 157 #[.val (.long v), .second, .val (.long mm), .second, .val (.int sel), .val (.long (v &&& (9223372036854775807 : Int64))), .second, .val (.int (sel &&& (3 : Int32))), .val (.long n), .second, .unset, .val (.ref b54), .unset] []))
          obtain ⟨T61, h61, X61, e61, E61, A61, D61, -, st61⟩ := newO X60 hx hZ hown (wAt hw 7 rfl) (wAt hw 8 rfl) (wAt hw 9 rfl) e60 (g := (mkF m 157 #[.val (.long v), .second, .val (.long mm), .second, .val (.int sel), .val (.long (v &&& (9223372036854775807 : Int64))), .second, .val (.int (sel &&& (3 : Int32))), .val (.long n), .second, .unset, .val (.ref b54), .unset] [])) rfl (hb hby at_157) (by decide) (by decide)
          obtain ⟨b61, g61⟩ : ∃ z, z = h60.size := ⟨_, rfl⟩
          rw [← g61] at A61 D61 st61
          have ne_b54_b61 : b54 ≠ b61 := by rw [g61]; exact Nat.ne_of_lt V60.lt
          have n0_b61 : n0 ≤ b61 := by rw [g61]; exact Zs60
          have Zs61 := Nat.le_trans Zs60 E61.1
          have hk := Nat.le_trans hk E61.1
          have F_coder_b61 : Fld Z h61 b61 "java/lang/String" "coder" "B" (.int (0 : Int32)) := D61 (Or.inr (wAt hw 33 rfl)) (ty := .byte) (by decide)
          have F_value_b61 : Fld Z h61 b61 "java/lang/String" "value" "[B" .null := D61 (Or.inr (wAt hw 35 rfl)) (ty := (.array .byte)) (by decide)
          refine Done.step st61 ?_
          show Done _ p e below s _ _ (T61.setTop (mkF m 160 #[.val (.long v), .second, .val (.long mm), .second, .val (.int sel), .val (.long (v &&& (9223372036854775807 : Int64))), .second, .val (.int (sel &&& (3 : Int32))), .val (.long n), .second, .unset, .val (.ref b54), .unset] [(.ref b61)]))
          refine Done.step (fun _ => XS.dup X61.here hx rfl (hb hby at_160) rfl rfl) ?_
          show Done _ p e below s _ _ (T61.setTop (mkF m 161 #[.val (.long v), .second, .val (.long mm), .second, .val (.int sel), .val (.long (v &&& (9223372036854775807 : Int64))), .second, .val (.int (sel &&& (3 : Int32))), .val (.long n), .second, .unset, .val (.ref b54), .unset] [(.ref b61), (.ref b61)]))
          refine Done.step (fun _ => XS.aload X61.here hx rfl (hb hby at_161) rfl rfl) ?_
          show Done _ p e below s _ _ (T61.setTop (mkF m 163 #[.val (.long v), .second, .val (.long mm), .second, .val (.int sel), .val (.long (v &&& (9223372036854775807 : Int64))), .second, .val (.int (sel &&& (3 : Int32))), .val (.long n), .second, .unset, .val (.ref b54), .unset] [(.ref b54), (.ref b61), (.ref b61)]))
          have f63 := (V60.ext E61)
          have Vs62 : Arv Z h61 b54 k54 .char (3 : Int32) (([nar .char (own_dg n (100 : Int64)), nar .char (own_dg n (10 : Int64)), nar .char (own_dg n (1 : Int64))] : List Int32).map Value.int) (.int (0 : Int32)) := f63
          rw [show nar .char (own_dg n (100 : Int64)) = own_dg n (100 : Int64) from own_narI _, show nar .char (own_dg n (10 : Int64)) = own_dg n (10 : Int64) from own_narI _, show nar .char (own_dg n (1 : Int64)) = own_dg n (1 : Int64) from own_narI _] at Vs62
          have hp64 : ∀ c ∈ ([own_dg n (100 : Int64), own_dg n (10 : Int64), own_dg n (1 : Int64)] : List Int32), ¬ c < 0 ∧ ¬ (255 : Int32) < c := (own_cs3 hn0 hn1).2.2
          have hbd64 := own_up _ hp64
          have f65 := (((((O0.ext E54).wr W56 n0_b54).wr W58 n0_b54).wr W60 n0_b54).ext E61)
          refine Done.callIB (nc := 1) (ns := 3) X61 hx hZ rfl hown (wAt hw 10 rfl) (wAt hw 11 rfl) (wAt hw 12 rfl) (by decide) (StrChars.Road.backV (W := 1) hZ (own_hws hw) (kI := 4) (wAt hw 8 rfl) (cs := ([own_dg n (100 : Int64), own_dg n (10 : Int64), own_dg n (1 : Int64)] : List Int32)) (bs := ((([own_dg n (100 : Int64), own_dg n (10 : Int64), own_dg n (1 : Int64)] : List Int32)).map (fun c => c.toInt8.toInt32))) (n := 3) n0_b61 Zs61 A61 F_value_b61 F_coder_b61 Vs62 (SC.ext f65.2) hz rfl rfl (by decide) (by decide) hp64 rfl (by decide) (by decide)) e61 (g := (mkF m 163 #[.val (.long v), .second, .val (.long mm), .second, .val (.int sel), .val (.long (v &&& (9223372036854775807 : Int64))), .second, .val (.int (sel &&& (3 : Int32))), .val (.long n), .second, .unset, .val (.ref b54), .unset] [(.ref b54), (.ref b61), (.ref b61)])) rfl (by rw [hml]; rfl) b61 [(.ref b54)] [(.ref b61)] (lenOf pd_5 rfl) rfl rfl (by show 2 * 0 + _ ≤ _; exact Nat.le_of_eq rfl) (hb hby at_163) (by decide) (by decide) ?_
          intro T64 v64 L64 X64 q64
          obtain ⟨rfl, Nq64, K64q, Eq64, Cq64, t64, kb64, n0_t64, szt64, net64, Vq64, Aq64⟩ := q64
          have ne_b54_t64 : b54 ≠ t64 := Nat.ne_of_lt (Nat.lt_of_lt_of_le f63.lt szt64)
          have ne_b61_t64 : b61 ≠ t64 := Ne.symm net64
          have N64 := Fr.app N60 Nq64
          have Zs64 := Nat.le_trans Zs61 K64q.1
          have hk := Nat.le_trans hk K64q.1
          have hcd64 : StrChars.Road.CodA ([own_dg n (100 : Int64), own_dg n (10 : Int64), own_dg n (1 : Int64)] : List Int32) 0 (3 : Int32) ((((([own_dg n (100 : Int64), own_dg n (10 : Int64), own_dg n (1 : Int64)] : List Int32)).map (fun c => c.toInt8.toInt32))).map Value.int) := StrChars.Road.codOf (n := 3) rfl (fun c hc => (hp64 c hc).2)
          show Done _ p e below s _ _ (T64.setTop (mkF m 166 #[.val (.long v), .second, .val (.long mm), .second, .val (.int sel), .val (.long (v &&& (9223372036854775807 : Int64))), .second, .val (.int (sel &&& (3 : Int32))), .val (.long n), .second, .unset, .val (.ref b54), .unset] [(.ref b61)]))
          refine Done.step (fun _ => XS.astore X64.here hx rfl (hb hby at_166) rfl rfl (l' := #[.val (.long v), .second, .val (.long mm), .second, .val (.int sel), .val (.long (v &&& (9223372036854775807 : Int64))), .second, .val (.int (sel &&& (3 : Int32))), .val (.long n), .second, .val (.ref b61), .val (.ref b54), .unset]) rfl) ?_
          show Done _ p e below s _ _ (T64.setTop (mkF m 168 #[.val (.long v), .second, .val (.long mm), .second, .val (.int sel), .val (.long (v &&& (9223372036854775807 : Int64))), .second, .val (.int (sel &&& (3 : Int32))), .val (.long n), .second, .val (.ref b61), .val (.ref b54), .unset] []))
          refine Done.step (fun _ => XS.goto X64.here hx rfl (pc0 := 168) (pc' := 412) rfl (hb hby at_168) (by decide) (by decide)) ?_
          show Done _ p e below s _ _ (T64.setTop (mkF m 412 #[.val (.long v), .second, .val (.long mm), .second, .val (.int sel), .val (.long (v &&& (9223372036854775807 : Int64))), .second, .val (.int (sel &&& (3 : Int32))), .val (.long n), .second, .val (.ref b61), .val (.ref b54), .unset] []))
          refine Done.step (fun _ => XS.iload X64.here hx rfl (hb hby at_412) rfl) ?_
          show Done _ p e below s _ _ (T64.setTop (mkF m 414 #[.val (.long v), .second, .val (.long mm), .second, .val (.int sel), .val (.long (v &&& (9223372036854775807 : Int64))), .second, .val (.int (sel &&& (3 : Int32))), .val (.long n), .second, .val (.ref b61), .val (.ref b54), .unset] [(.int sel)]))
          refine Done.step (fun _ => XT.iconstV X64.here hx rfl (2 : Int32) (hb hby at_414) (by decide)) ?_
          show Done _ p e below s _ _ (T64.setTop (mkF m 415 #[.val (.long v), .second, .val (.long mm), .second, .val (.int sel), .val (.long (v &&& (9223372036854775807 : Int64))), .second, .val (.int (sel &&& (3 : Int32))), .val (.long n), .second, .val (.ref b61), .val (.ref b54), .unset] [(.int (2 : Int32)), (.int sel)]))
          refine Done.step (fun _ => XT.ishr X64.here hx rfl (hb hby at_415) rfl) ?_
          show Done _ p e below s _ _ (T64.setTop (mkF m 416 #[.val (.long v), .second, .val (.long mm), .second, .val (.int sel), .val (.long (v &&& (9223372036854775807 : Int64))), .second, .val (.int (sel &&& (3 : Int32))), .val (.long n), .second, .val (.ref b61), .val (.ref b54), .unset] [(.int (sel >>> ((2 : Int32) &&& 31)))]))
          refine Done.step (fun _ => XT.iconstV X64.here hx rfl (1 : Int32) (hb hby at_416) (by decide)) ?_
          show Done _ p e below s _ _ (T64.setTop (mkF m 417 #[.val (.long v), .second, .val (.long mm), .second, .val (.int sel), .val (.long (v &&& (9223372036854775807 : Int64))), .second, .val (.int (sel &&& (3 : Int32))), .val (.long n), .second, .val (.ref b61), .val (.ref b54), .unset] [(.int (1 : Int32)), (.int (sel >>> ((2 : Int32) &&& 31)))]))
          refine Done.step (fun _ => XS.iand X64.here hx rfl (hb hby at_417) rfl) ?_
          show Done _ p e below s _ _ (T64.setTop (mkF m 418 #[.val (.long v), .second, .val (.long mm), .second, .val (.int sel), .val (.long (v &&& (9223372036854775807 : Int64))), .second, .val (.int (sel &&& (3 : Int32))), .val (.long n), .second, .val (.ref b61), .val (.ref b54), .unset] [(.int ((sel >>> ((2 : Int32) &&& 31)) &&& (1 : Int32)))]))
          by_cases hc66 : ((sel >>> ((2 : Int32) &&& 31)) &&& (1 : Int32)) = (0 : Int32)
          · refine Done.step (fun _ => XS.ifYes X64.here hx rfl (pc0 := 418) (pc' := 426) rfl (hb hby at_418) rfl (XT.i0_eq_t hc66) (by decide) (by decide)) ?_
            show Done _ p e below s _ _ (T64.setTop (mkF m 426 #[.val (.long v), .second, .val (.long mm), .second, .val (.int sel), .val (.long (v &&& (9223372036854775807 : Int64))), .second, .val (.int (sel &&& (3 : Int32))), .val (.long n), .second, .val (.ref b61), .val (.ref b54), .unset] []))
            refine Done.step (fun _ => XT.lload X64.here hx rfl (hb hby at_426) rfl) ?_
            show Done _ p e below s _ _ (T64.setTop (mkF m 428 #[.val (.long v), .second, .val (.long mm), .second, .val (.int sel), .val (.long (v &&& (9223372036854775807 : Int64))), .second, .val (.int (sel &&& (3 : Int32))), .val (.long n), .second, .val (.ref b61), .val (.ref b54), .unset] [(.long n)]))
            refine Done.step (fun _ => XT.lloadN X64.here hx rfl (hb hby at_428) rfl) ?_
            show Done _ p e below s _ _ (T64.setTop (mkF m 429 #[.val (.long v), .second, .val (.long mm), .second, .val (.int sel), .val (.long (v &&& (9223372036854775807 : Int64))), .second, .val (.int (sel &&& (3 : Int32))), .val (.long n), .second, .val (.ref b61), .val (.ref b54), .unset] [(.long mm), (.long n)]))
            refine Done.step (fun _ => Stand.ldc2J X64 hx hown (mvT hZ (wAt hw 0 rfl)) (g := (mkF m 429 #[.val (.long v), .second, .val (.long mm), .second, .val (.int sel), .val (.long (v &&& (9223372036854775807 : Int64))), .second, .val (.int (sel &&& (3 : Int32))), .val (.long n), .second, .val (.ref b61), .val (.ref b54), .unset] [(.long mm), (.long n)])) rfl (hb hby at_429)) ?_
            show Done _ p e below s _ _ (T64.setTop (mkF m 432 #[.val (.long v), .second, .val (.long mm), .second, .val (.int sel), .val (.long (v &&& (9223372036854775807 : Int64))), .second, .val (.int (sel &&& (3 : Int32))), .val (.long n), .second, .val (.ref b61), .val (.ref b54), .unset] [(.long (9223372036854775807 : Int64)), (.long mm), (.long n)]))
            refine Done.step (fun _ => XT.land X64.here hx rfl (hb hby at_432) rfl) ?_
            show Done _ p e below s _ _ (T64.setTop (mkF m 433 #[.val (.long v), .second, .val (.long mm), .second, .val (.int sel), .val (.long (v &&& (9223372036854775807 : Int64))), .second, .val (.int (sel &&& (3 : Int32))), .val (.long n), .second, .val (.ref b61), .val (.ref b54), .unset] [(.long (mm &&& (9223372036854775807 : Int64))), (.long n)]))
            refine Done.callSP X64 hx hZ hown (wAt hw 36 rfl) (wAt hw 37 rfl) (wAt hw 38 rfl) (wAt hw 39 rfl) (by decide) (rmMx l Z a0 hw [] n (mm &&& (9223372036854775807 : Int64)) T64.heap n0 Zs64) rfl (g := (mkF m 433 #[.val (.long v), .second, .val (.long mm), .second, .val (.int sel), .val (.long (v &&& (9223372036854775807 : Int64))), .second, .val (.int (sel &&& (3 : Int32))), .val (.long n), .second, .val (.ref b61), .val (.ref b54), .unset] [(.long (mm &&& (9223372036854775807 : Int64))), (.long n)])) rfl (by rw [hml]; rfl) [(.long n), (.long (mm &&& (9223372036854775807 : Int64)))] [] 0 (lenOf pd_3 rfl) rfl rfl (by show 2 * 0 + _ ≤ _; exact Nat.le_of_eq rfl) (hb hby at_433) (by decide) (by decide) (by decide) (by decide) rfl rfl ?_
            intro T67 X67 e67
            show Done _ p e below s _ _ (T67.setTop (mkF m 436 #[.val (.long v), .second, .val (.long mm), .second, .val (.int sel), .val (.long (v &&& (9223372036854775807 : Int64))), .second, .val (.int (sel &&& (3 : Int32))), .val (.long n), .second, .val (.ref b61), .val (.ref b54), .unset] [(.long (own_max n (mm &&& (9223372036854775807 : Int64))))]))
            refine Done.step (fun _ => XT.lstore X67.here hx rfl (hb hby at_436) rfl (l' := #[.val (.long v), .second, .val (.long mm), .second, .val (.int sel), .val (.long (v &&& (9223372036854775807 : Int64))), .second, .val (.int (sel &&& (3 : Int32))), .val (.long n), .second, .val (.ref b61), .val (.long (own_max n (mm &&& (9223372036854775807 : Int64)))), .second]) rfl) ?_
            show Done _ p e below s _ _ (T67.setTop (mkF m 438 #[.val (.long v), .second, .val (.long mm), .second, .val (.int sel), .val (.long (v &&& (9223372036854775807 : Int64))), .second, .val (.int (sel &&& (3 : Int32))), .val (.long n), .second, .val (.ref b61), .val (.long (own_max n (mm &&& (9223372036854775807 : Int64)))), .second] []))
            obtain ⟨a68, T68, h68, k68, X68, e68, E68, hS, hk, hZ, hown, st68⟩ := ldcS X67 hx hZ hown (wAt hw 40 rfl) own_wS e67 hS hk (g := (mkF m 438 #[.val (.long v), .second, .val (.long mm), .second, .val (.int sel), .val (.long (v &&& (9223372036854775807 : Int64))), .second, .val (.int (sel &&& (3 : Int32))), .val (.long n), .second, .val (.ref b61), .val (.long (own_max n (mm &&& (9223372036854775807 : Int64)))), .second] [])) rfl (hb hby at_438) (n := 4) (by decide) (by decide) (by decide) (by decide)
            have Zs68 := Nat.le_trans Zs64 E68.1
            refine Done.step st68 ?_
            show Done _ p e below s _ _ (T68.setTop (mkF m 440 #[.val (.long v), .second, .val (.long mm), .second, .val (.int sel), .val (.long (v &&& (9223372036854775807 : Int64))), .second, .val (.int (sel &&& (3 : Int32))), .val (.long n), .second, .val (.ref b61), .val (.long (own_max n (mm &&& (9223372036854775807 : Int64)))), .second] [(.ref a68)]))
            refine Done.step (fun _ => XS.aload X68.here hx rfl (hb hby at_440) rfl rfl) ?_
            show Done _ p e below s _ _ (T68.setTop (mkF m 442 #[.val (.long v), .second, .val (.long mm), .second, .val (.int sel), .val (.long (v &&& (9223372036854775807 : Int64))), .second, .val (.int (sel &&& (3 : Int32))), .val (.long n), .second, .val (.ref b61), .val (.long (own_max n (mm &&& (9223372036854775807 : Int64)))), .second] [(.ref b61), (.ref a68)]))
            refine Done.step (fun _ => XT.lload X68.here hx rfl (hb hby at_442) rfl) ?_
            show Done _ p e below s _ _ (T68.setTop (mkF m 444 #[.val (.long v), .second, .val (.long mm), .second, .val (.int sel), .val (.long (v &&& (9223372036854775807 : Int64))), .second, .val (.int (sel &&& (3 : Int32))), .val (.long n), .second, .val (.ref b61), .val (.long (own_max n (mm &&& (9223372036854775807 : Int64)))), .second] [(.long (own_max n (mm &&& (9223372036854775807 : Int64)))), (.ref b61), (.ref a68)]))
            have f69 := (Eq64.ext E68)
            have f70 := (Vq64.ext E68)
            have f71 := (Cq64.ext E68)
            have f72 := (Aq64.ext E68)
            have f73 := ((f65.keep K64q (allS n0_b61 all0)).ext E68)
            have hpv : Int64.ofInt (own_pv ([own_dg n (100 : Int64), own_dg n (10 : Int64), own_dg n (1 : Int64)] : List Int32) (([own_dg n (100 : Int64), own_dg n (10 : Int64), own_dg n (1 : Int64)] : List Int32)).length) = n := by
              rw [show own_pv ([own_dg n (100 : Int64), own_dg n (10 : Int64), own_dg n (1 : Int64)] : List Int32) (([own_dg n (100 : Int64), own_dg n (10 : Int64), own_dg n (1 : Int64)] : List Int32)).length = _ from (own_cs3 hn0 hn1).2.1]
              exact Int64.ofInt_toInt n
            refine Done.callSP X68 hx hZ hown (wAt hw 43 rfl) (wAt hw 44 rfl) (wAt hw 45 rfl) (wAt hw 46 rfl) (by decide) (rmP l Z a0 hw [] a68 b61 t64 kb64 ([own_dg n (100 : Int64), own_dg n (10 : Int64), own_dg n (1 : Int64)] : List Int32) (3 : Int32) ((((([own_dg n (100 : Int64), own_dg n (10 : Int64), own_dg n (1 : Int64)] : List Int32)).map (fun c => c.toInt8.toInt32))).map Value.int) (own_max n (mm &&& (9223372036854775807 : Int64))) z fm h68 n0 Zs68 f69 f70 f71 f72 hcd64 hbd64 (Nat.le_of_ble_eq_true rfl) f73 SC hz SF rF (own_cs3 hn0 hn1).1 (Nat.succ_pos _) (Nat.succ_ne_zero _) (by rw [show own_pv ([own_dg n (100 : Int64), own_dg n (10 : Int64), own_dg n (1 : Int64)] : List Int32) (([own_dg n (100 : Int64), own_dg n (10 : Int64), own_dg n (1 : Int64)] : List Int32)).length = _ from (own_cs3 hn0 hn1).2.1]; exact own_maxge _ _)) e68 (g := (mkF m 444 #[.val (.long v), .second, .val (.long mm), .second, .val (.int sel), .val (.long (v &&& (9223372036854775807 : Int64))), .second, .val (.int (sel &&& (3 : Int32))), .val (.long n), .second, .val (.ref b61), .val (.long (own_max n (mm &&& (9223372036854775807 : Int64)))), .second] [(.long (own_max n (mm &&& (9223372036854775807 : Int64)))), (.ref b61), (.ref a68)])) rfl (by rw [hml]; rfl) [(.ref a68), (.ref b61), (.long (own_max n (mm &&& (9223372036854775807 : Int64))))] [] 0 (lenOf pd_6 rfl) rfl rfl (by show 2 * 0 + _ ≤ _; exact Nat.le_of_eq rfl) (hb hby at_444) (by decide) (by decide) (by decide) (by decide) rfl rfl ?_
            intro T74 X74 e74
            show Done _ p e below s _ _ (T74.setTop (mkF m 447 #[.val (.long v), .second, .val (.long mm), .second, .val (.int sel), .val (.long (v &&& (9223372036854775807 : Int64))), .second, .val (.int (sel &&& (3 : Int32))), .val (.long n), .second, .val (.ref b61), .val (.long (own_max n (mm &&& (9223372036854775807 : Int64)))), .second] [(.long (Int64.ofInt (own_pv ([own_dg n (100 : Int64), own_dg n (10 : Int64), own_dg n (1 : Int64)] : List Int32) (([own_dg n (100 : Int64), own_dg n (10 : Int64), own_dg n (1 : Int64)] : List Int32)).length)))]))
            rw [hpv]
            show Done _ p e below s _ _ (T74.setTop (mkF m 447 #[.val (.long v), .second, .val (.long mm), .second, .val (.int sel), .val (.long (v &&& (9223372036854775807 : Int64))), .second, .val (.int (sel &&& (3 : Int32))), .val (.long n), .second, .val (.ref b61), .val (.long (own_max n (mm &&& (9223372036854775807 : Int64)))), .second] [(.long n)]))
            refine Done.step (fun _ => XT.lload X74.here hx rfl (hb hby at_447) rfl) ?_
            show Done _ p e below s _ _ (T74.setTop (mkF m 449 #[.val (.long v), .second, .val (.long mm), .second, .val (.int sel), .val (.long (v &&& (9223372036854775807 : Int64))), .second, .val (.int (sel &&& (3 : Int32))), .val (.long n), .second, .val (.ref b61), .val (.long (own_max n (mm &&& (9223372036854775807 : Int64)))), .second] [(.long n), (.long n)]))
            refine Done.step (fun _ => XT.lcmp X74.here hx rfl (hb hby at_449) rfl) ?_
            show Done _ p e below s _ _ (T74.setTop (mkF m 450 #[.val (.long v), .second, .val (.long mm), .second, .val (.int sel), .val (.long (v &&& (9223372036854775807 : Int64))), .second, .val (.int (sel &&& (3 : Int32))), .val (.long n), .second, .val (.ref b61), .val (.long (own_max n (mm &&& (9223372036854775807 : Int64)))), .second] [(.int (XT.cmpL n n))]))
            refine Done.step (fun _ => XS.ifNo X74.here hx rfl (hb hby at_450) rfl (XT.ll_ne_f rfl)) ?_
            show Done _ p e below s _ _ (T74.setTop (mkF m 453 #[.val (.long v), .second, .val (.long mm), .second, .val (.int sel), .val (.long (v &&& (9223372036854775807 : Int64))), .second, .val (.int (sel &&& (3 : Int32))), .val (.long n), .second, .val (.ref b61), .val (.long (own_max n (mm &&& (9223372036854775807 : Int64)))), .second] []))
            refine Done.step (fun _ => XT.iconstV X74.here hx rfl (1 : Int32) (hb hby at_453) (by decide)) ?_
            show Done _ p e below s _ _ (T74.setTop (mkF m 454 #[.val (.long v), .second, .val (.long mm), .second, .val (.int sel), .val (.long (v &&& (9223372036854775807 : Int64))), .second, .val (.int (sel &&& (3 : Int32))), .val (.long n), .second, .val (.ref b61), .val (.long (own_max n (mm &&& (9223372036854775807 : Int64)))), .second] [(.int (1 : Int32))]))
            refine Done.step (fun _ => XS.goto X74.here hx rfl (pc0 := 454) (pc' := 458) rfl (hb hby at_454) (by decide) (by decide)) ?_
            show Done _ p e below s _ _ (T74.setTop (mkF m 458 #[.val (.long v), .second, .val (.long mm), .second, .val (.int sel), .val (.long (v &&& (9223372036854775807 : Int64))), .second, .val (.int (sel &&& (3 : Int32))), .val (.long n), .second, .val (.ref b61), .val (.long (own_max n (mm &&& (9223372036854775807 : Int64)))), .second] [(.int (1 : Int32))]))
            exact Done.retN (leavesW X74 hS (by first | exact hk | (rw [e74]; exact hk)) hlk (by decide) (by decide)) X74 hx (t := .boolean) hret (by simp) (hb hby at_458) ⟨rfl, N64⟩
          · refine Done.step (fun _ => XS.ifNo X64.here hx rfl (hb hby at_418) rfl (XT.i0_eq_f hc66)) ?_
            show Done _ p e below s _ _ (T64.setTop (mkF m 421 #[.val (.long v), .second, .val (.long mm), .second, .val (.int sel), .val (.long (v &&& (9223372036854775807 : Int64))), .second, .val (.int (sel &&& (3 : Int32))), .val (.long n), .second, .val (.ref b61), .val (.ref b54), .unset] []))
            refine Done.step (fun _ => XT.lload X64.here hx rfl (hb hby at_421) rfl) ?_
            show Done _ p e below s _ _ (T64.setTop (mkF m 423 #[.val (.long v), .second, .val (.long mm), .second, .val (.int sel), .val (.long (v &&& (9223372036854775807 : Int64))), .second, .val (.int (sel &&& (3 : Int32))), .val (.long n), .second, .val (.ref b61), .val (.ref b54), .unset] [(.long n)]))
            refine Done.step (fun _ => XS.goto X64.here hx rfl (pc0 := 423) (pc' := 436) rfl (hb hby at_423) (by decide) (by decide)) ?_
            show Done _ p e below s _ _ (T64.setTop (mkF m 436 #[.val (.long v), .second, .val (.long mm), .second, .val (.int sel), .val (.long (v &&& (9223372036854775807 : Int64))), .second, .val (.int (sel &&& (3 : Int32))), .val (.long n), .second, .val (.ref b61), .val (.ref b54), .unset] [(.long n)]))
            refine Done.step (fun _ => XT.lstore X64.here hx rfl (hb hby at_436) rfl (l' := #[.val (.long v), .second, .val (.long mm), .second, .val (.int sel), .val (.long (v &&& (9223372036854775807 : Int64))), .second, .val (.int (sel &&& (3 : Int32))), .val (.long n), .second, .val (.ref b61), .val (.long n), .second]) rfl) ?_
            show Done _ p e below s _ _ (T64.setTop (mkF m 438 #[.val (.long v), .second, .val (.long mm), .second, .val (.int sel), .val (.long (v &&& (9223372036854775807 : Int64))), .second, .val (.int (sel &&& (3 : Int32))), .val (.long n), .second, .val (.ref b61), .val (.long n), .second] []))
            obtain ⟨a75, T75, h75, k75, X75, e75, E75, hS, hk, hZ, hown, st75⟩ := ldcS X64 hx hZ hown (wAt hw 40 rfl) own_wS rfl hS hk (g := (mkF m 438 #[.val (.long v), .second, .val (.long mm), .second, .val (.int sel), .val (.long (v &&& (9223372036854775807 : Int64))), .second, .val (.int (sel &&& (3 : Int32))), .val (.long n), .second, .val (.ref b61), .val (.long n), .second] [])) rfl (hb hby at_438) (n := 4) (by decide) (by decide) (by decide) (by decide)
            have Zs75 := Nat.le_trans Zs64 E75.1
            refine Done.step st75 ?_
            show Done _ p e below s _ _ (T75.setTop (mkF m 440 #[.val (.long v), .second, .val (.long mm), .second, .val (.int sel), .val (.long (v &&& (9223372036854775807 : Int64))), .second, .val (.int (sel &&& (3 : Int32))), .val (.long n), .second, .val (.ref b61), .val (.long n), .second] [(.ref a75)]))
            refine Done.step (fun _ => XS.aload X75.here hx rfl (hb hby at_440) rfl rfl) ?_
            show Done _ p e below s _ _ (T75.setTop (mkF m 442 #[.val (.long v), .second, .val (.long mm), .second, .val (.int sel), .val (.long (v &&& (9223372036854775807 : Int64))), .second, .val (.int (sel &&& (3 : Int32))), .val (.long n), .second, .val (.ref b61), .val (.long n), .second] [(.ref b61), (.ref a75)]))
            refine Done.step (fun _ => XT.lload X75.here hx rfl (hb hby at_442) rfl) ?_
            show Done _ p e below s _ _ (T75.setTop (mkF m 444 #[.val (.long v), .second, .val (.long mm), .second, .val (.int sel), .val (.long (v &&& (9223372036854775807 : Int64))), .second, .val (.int (sel &&& (3 : Int32))), .val (.long n), .second, .val (.ref b61), .val (.long n), .second] [(.long n), (.ref b61), (.ref a75)]))
            have f76 := (Eq64.ext E75)
            have f77 := (Vq64.ext E75)
            have f78 := (Cq64.ext E75)
            have f79 := (Aq64.ext E75)
            have f80 := ((f65.keep K64q (allS n0_b61 all0)).ext E75)
            have hpv : Int64.ofInt (own_pv ([own_dg n (100 : Int64), own_dg n (10 : Int64), own_dg n (1 : Int64)] : List Int32) (([own_dg n (100 : Int64), own_dg n (10 : Int64), own_dg n (1 : Int64)] : List Int32)).length) = n := by
              rw [show own_pv ([own_dg n (100 : Int64), own_dg n (10 : Int64), own_dg n (1 : Int64)] : List Int32) (([own_dg n (100 : Int64), own_dg n (10 : Int64), own_dg n (1 : Int64)] : List Int32)).length = _ from (own_cs3 hn0 hn1).2.1]
              exact Int64.ofInt_toInt n
            refine Done.callSP X75 hx hZ hown (wAt hw 43 rfl) (wAt hw 44 rfl) (wAt hw 45 rfl) (wAt hw 46 rfl) (by decide) (rmP l Z a0 hw [] a75 b61 t64 kb64 ([own_dg n (100 : Int64), own_dg n (10 : Int64), own_dg n (1 : Int64)] : List Int32) (3 : Int32) ((((([own_dg n (100 : Int64), own_dg n (10 : Int64), own_dg n (1 : Int64)] : List Int32)).map (fun c => c.toInt8.toInt32))).map Value.int) n z fm h75 n0 Zs75 f76 f77 f78 f79 hcd64 hbd64 (Nat.le_of_ble_eq_true rfl) f80 SC hz SF rF (own_cs3 hn0 hn1).1 (Nat.succ_pos _) (Nat.succ_ne_zero _) (by rw [show own_pv ([own_dg n (100 : Int64), own_dg n (10 : Int64), own_dg n (1 : Int64)] : List Int32) (([own_dg n (100 : Int64), own_dg n (10 : Int64), own_dg n (1 : Int64)] : List Int32)).length = _ from (own_cs3 hn0 hn1).2.1]; exact Int.le_refl _)) e75 (g := (mkF m 444 #[.val (.long v), .second, .val (.long mm), .second, .val (.int sel), .val (.long (v &&& (9223372036854775807 : Int64))), .second, .val (.int (sel &&& (3 : Int32))), .val (.long n), .second, .val (.ref b61), .val (.long n), .second] [(.long n), (.ref b61), (.ref a75)])) rfl (by rw [hml]; rfl) [(.ref a75), (.ref b61), (.long n)] [] 0 (lenOf pd_6 rfl) rfl rfl (by show 2 * 0 + _ ≤ _; exact Nat.le_of_eq rfl) (hb hby at_444) (by decide) (by decide) (by decide) (by decide) rfl rfl ?_
            intro T81 X81 e81
            show Done _ p e below s _ _ (T81.setTop (mkF m 447 #[.val (.long v), .second, .val (.long mm), .second, .val (.int sel), .val (.long (v &&& (9223372036854775807 : Int64))), .second, .val (.int (sel &&& (3 : Int32))), .val (.long n), .second, .val (.ref b61), .val (.long n), .second] [(.long (Int64.ofInt (own_pv ([own_dg n (100 : Int64), own_dg n (10 : Int64), own_dg n (1 : Int64)] : List Int32) (([own_dg n (100 : Int64), own_dg n (10 : Int64), own_dg n (1 : Int64)] : List Int32)).length)))]))
            rw [hpv]
            show Done _ p e below s _ _ (T81.setTop (mkF m 447 #[.val (.long v), .second, .val (.long mm), .second, .val (.int sel), .val (.long (v &&& (9223372036854775807 : Int64))), .second, .val (.int (sel &&& (3 : Int32))), .val (.long n), .second, .val (.ref b61), .val (.long n), .second] [(.long n)]))
            refine Done.step (fun _ => XT.lload X81.here hx rfl (hb hby at_447) rfl) ?_
            show Done _ p e below s _ _ (T81.setTop (mkF m 449 #[.val (.long v), .second, .val (.long mm), .second, .val (.int sel), .val (.long (v &&& (9223372036854775807 : Int64))), .second, .val (.int (sel &&& (3 : Int32))), .val (.long n), .second, .val (.ref b61), .val (.long n), .second] [(.long n), (.long n)]))
            refine Done.step (fun _ => XT.lcmp X81.here hx rfl (hb hby at_449) rfl) ?_
            show Done _ p e below s _ _ (T81.setTop (mkF m 450 #[.val (.long v), .second, .val (.long mm), .second, .val (.int sel), .val (.long (v &&& (9223372036854775807 : Int64))), .second, .val (.int (sel &&& (3 : Int32))), .val (.long n), .second, .val (.ref b61), .val (.long n), .second] [(.int (XT.cmpL n n))]))
            refine Done.step (fun _ => XS.ifNo X81.here hx rfl (hb hby at_450) rfl (XT.ll_ne_f rfl)) ?_
            show Done _ p e below s _ _ (T81.setTop (mkF m 453 #[.val (.long v), .second, .val (.long mm), .second, .val (.int sel), .val (.long (v &&& (9223372036854775807 : Int64))), .second, .val (.int (sel &&& (3 : Int32))), .val (.long n), .second, .val (.ref b61), .val (.long n), .second] []))
            refine Done.step (fun _ => XT.iconstV X81.here hx rfl (1 : Int32) (hb hby at_453) (by decide)) ?_
            show Done _ p e below s _ _ (T81.setTop (mkF m 454 #[.val (.long v), .second, .val (.long mm), .second, .val (.int sel), .val (.long (v &&& (9223372036854775807 : Int64))), .second, .val (.int (sel &&& (3 : Int32))), .val (.long n), .second, .val (.ref b61), .val (.long n), .second] [(.int (1 : Int32))]))
            refine Done.step (fun _ => XS.goto X81.here hx rfl (pc0 := 454) (pc' := 458) rfl (hb hby at_454) (by decide) (by decide)) ?_
            show Done _ p e below s _ _ (T81.setTop (mkF m 458 #[.val (.long v), .second, .val (.long mm), .second, .val (.int sel), .val (.long (v &&& (9223372036854775807 : Int64))), .second, .val (.int (sel &&& (3 : Int32))), .val (.long n), .second, .val (.ref b61), .val (.long n), .second] [(.int (1 : Int32))]))
            exact Done.retN (leavesW X81 hS (by first | exact hk | (rw [e81]; exact hk)) hlk (by decide) (by decide)) X81 hx (t := .boolean) hret (by simp) (hb hby at_458) ⟨rfl, N64⟩
        exact KN121 ((v &&& (9223372036854775807 : Int64)) - ((v &&& (9223372036854775807 : Int64)) / (1000 : Int64)) * (1000 : Int64)) (own_rem (own_pos v) (by decide)).1 (own_rem (own_pos v) (by decide)).2
      · refine Done.step (fun _ => XS.icmpYes X0.here hx rfl (pc0 := 110) (pc' := 171) rfl (hb hby at_110) rfl (XT.ii_ne_t hc53) (by decide) (by decide)) ?_
        show Done _ p e below s _ _ (T0.setTop (mkF m 171 #[.val (.long v), .second, .val (.long mm), .second, .val (.int sel), .val (.long (v &&& (9223372036854775807 : Int64))), .second, .val (.int (sel &&& (3 : Int32))), .unset, .unset, .unset, .unset, .unset] []))
        refine Done.step (fun _ => XT.lload X0.here hx rfl (hb hby at_171) rfl) ?_
        show Done _ p e below s _ _ (T0.setTop (mkF m 173 #[.val (.long v), .second, .val (.long mm), .second, .val (.int sel), .val (.long (v &&& (9223372036854775807 : Int64))), .second, .val (.int (sel &&& (3 : Int32))), .unset, .unset, .unset, .unset, .unset] [(.long (v &&& (9223372036854775807 : Int64)))]))
        refine Done.step (fun _ => XT.lstore X0.here hx rfl (hb hby at_173) rfl (l' := #[.val (.long v), .second, .val (.long mm), .second, .val (.int sel), .val (.long (v &&& (9223372036854775807 : Int64))), .second, .val (.int (sel &&& (3 : Int32))), .val (.long (v &&& (9223372036854775807 : Int64))), .second, .unset, .unset, .unset]) rfl) ?_
        show Done _ p e below s _ _ (T0.setTop (mkF m 175 #[.val (.long v), .second, .val (.long mm), .second, .val (.int sel), .val (.long (v &&& (9223372036854775807 : Int64))), .second, .val (.int (sel &&& (3 : Int32))), .val (.long (v &&& (9223372036854775807 : Int64))), .second, .unset, .unset, .unset] []))
        have KN175 : ∀ (n : Int64) (hn0 : 0 ≤ n.toInt) (hn1 : n.toInt < 10000000000000000000), Done ReturnedEndW p e below s room_1 (LawQ n0) (T0.setTop (mkF m 175 #[.val (.long v), .second, .val (.long mm), .second, .val (.int sel), .val (.long (v &&& (9223372036854775807 : Int64))), .second, .val (.int (sel &&& (3 : Int32))), .val (.long n), .second, .unset, .unset, .unset] [])) := by
          intro n hn0 hn1
          show Done _ p e below s _ _ (T0.setTop (mkF m 175 #[.val (.long v), .second, .val (.long mm), .second, .val (.int sel), .val (.long (v &&& (9223372036854775807 : Int64))), .second, .val (.int (sel &&& (3 : Int32))), .val (.long n), .second, .unset, .unset, .unset] []))
          refine Done.step (fun _ => XT.bipushV X0.here hx rfl (19 : Int32) (hb hby at_175) (by decide)) ?_
          show Done _ p e below s _ _ (T0.setTop (mkF m 177 #[.val (.long v), .second, .val (.long mm), .second, .val (.int sel), .val (.long (v &&& (9223372036854775807 : Int64))), .second, .val (.int (sel &&& (3 : Int32))), .val (.long n), .second, .unset, .unset, .unset] [(.int (19 : Int32))]))
          obtain ⟨T82, h82, k82, X82, e82, E82, A82, st82⟩ := newP X0 hx hZ (wAt hw 2 rfl) e0 (g := (mkF m 177 #[.val (.long v), .second, .val (.long mm), .second, .val (.int sel), .val (.long (v &&& (9223372036854775807 : Int64))), .second, .val (.int (sel &&& (3 : Int32))), .val (.long n), .second, .unset, .unset, .unset] [(.int (19 : Int32))])) rfl (hb hby at_177) rfl (by decide) (cap := 19) (by decide) (by decide) (by decide) (by decide)
          obtain ⟨b82, g82⟩ : ∃ z, z = h0.size := ⟨_, rfl⟩
          rw [← g82] at A82 st82
          have n0_b82 : n0 ≤ b82 := by rw [g82]; exact Z0
          have Zs82 := Nat.le_trans Z0 E82.1
          have hk := Nat.le_trans hk E82.1
          have V_b82 : Arv Z h82 b82 k82 .char (19 : Int32) [(.int (0 : Int32)), (.int (0 : Int32)), (.int (0 : Int32)), (.int (0 : Int32)), (.int (0 : Int32)), (.int (0 : Int32)), (.int (0 : Int32)), (.int (0 : Int32)), (.int (0 : Int32)), (.int (0 : Int32)), (.int (0 : Int32)), (.int (0 : Int32)), (.int (0 : Int32)), (.int (0 : Int32)), (.int (0 : Int32)), (.int (0 : Int32)), (.int (0 : Int32)), (.int (0 : Int32)), (.int (0 : Int32))] (.int (0 : Int32)) := (Arv.new A82 (by decide)).pad (pad_rep [] (.int (0 : Int32)) 19)
          refine Done.step st82 ?_
          show Done _ p e below s _ _ (T82.setTop (mkF m 179 #[.val (.long v), .second, .val (.long mm), .second, .val (.int sel), .val (.long (v &&& (9223372036854775807 : Int64))), .second, .val (.int (sel &&& (3 : Int32))), .val (.long n), .second, .unset, .unset, .unset] [(.ref b82)]))
          refine Done.step (fun _ => XS.dup X82.here hx rfl (hb hby at_179) rfl rfl) ?_
          show Done _ p e below s _ _ (T82.setTop (mkF m 180 #[.val (.long v), .second, .val (.long mm), .second, .val (.int sel), .val (.long (v &&& (9223372036854775807 : Int64))), .second, .val (.int (sel &&& (3 : Int32))), .val (.long n), .second, .unset, .unset, .unset] [(.ref b82), (.ref b82)]))
          refine Done.step (fun _ => XT.iconstV X82.here hx rfl (0 : Int32) (hb hby at_180) (by decide)) ?_
          show Done _ p e below s _ _ (T82.setTop (mkF m 181 #[.val (.long v), .second, .val (.long mm), .second, .val (.int sel), .val (.long (v &&& (9223372036854775807 : Int64))), .second, .val (.int (sel &&& (3 : Int32))), .val (.long n), .second, .unset, .unset, .unset] [(.int (0 : Int32)), (.ref b82), (.ref b82)]))
          refine Done.step (fun _ => XT.lload X82.here hx rfl (hb hby at_181) rfl) ?_
          show Done _ p e below s _ _ (T82.setTop (mkF m 183 #[.val (.long v), .second, .val (.long mm), .second, .val (.int sel), .val (.long (v &&& (9223372036854775807 : Int64))), .second, .val (.int (sel &&& (3 : Int32))), .val (.long n), .second, .unset, .unset, .unset] [(.long n), (.int (0 : Int32)), (.ref b82), (.ref b82)]))
          refine Done.step (fun _ => Stand.ldc2J X82 hx hown (mvT hZ (wAt hw 89 rfl)) (g := (mkF m 183 #[.val (.long v), .second, .val (.long mm), .second, .val (.int sel), .val (.long (v &&& (9223372036854775807 : Int64))), .second, .val (.int (sel &&& (3 : Int32))), .val (.long n), .second, .unset, .unset, .unset] [(.long n), (.int (0 : Int32)), (.ref b82), (.ref b82)])) rfl (hb hby at_183)) ?_
          show Done _ p e below s _ _ (T82.setTop (mkF m 186 #[.val (.long v), .second, .val (.long mm), .second, .val (.int sel), .val (.long (v &&& (9223372036854775807 : Int64))), .second, .val (.int (sel &&& (3 : Int32))), .val (.long n), .second, .unset, .unset, .unset] [(.long (1000000000000000000 : Int64)), (.long n), (.int (0 : Int32)), (.ref b82), (.ref b82)]))
          refine Done.callSP X82 hx hZ hown (wAt hw 3 rfl) (wAt hw 4 rfl) (wAt hw 5 rfl) (wAt hw 6 rfl) (by decide) (rmd l Z a0 hw [] n (1000000000000000000 : Int64) h82 n0 Zs82 (by decide)) e82 (g := (mkF m 186 #[.val (.long v), .second, .val (.long mm), .second, .val (.int sel), .val (.long (v &&& (9223372036854775807 : Int64))), .second, .val (.int (sel &&& (3 : Int32))), .val (.long n), .second, .unset, .unset, .unset] [(.long (1000000000000000000 : Int64)), (.long n), (.int (0 : Int32)), (.ref b82), (.ref b82)])) rfl (by rw [hml]; rfl) [(.long n), (.long (1000000000000000000 : Int64))] [(.int (0 : Int32)), (.ref b82), (.ref b82)] 3 (lenOf pd_4 rfl) rfl rfl (by show 2 * 0 + _ ≤ _; exact Nat.le_of_eq rfl) (hb hby at_186) (by decide) (by decide) (by decide) (by decide) rfl rfl ?_
          intro T83 X83 e83
          show Done _ p e below s _ _ (T83.setTop (mkF m 189 #[.val (.long v), .second, .val (.long mm), .second, .val (.int sel), .val (.long (v &&& (9223372036854775807 : Int64))), .second, .val (.int (sel &&& (3 : Int32))), .val (.long n), .second, .unset, .unset, .unset] [(.int (own_dg n (1000000000000000000 : Int64))), (.int (0 : Int32)), (.ref b82), (.ref b82)]))
          obtain ⟨cl84, Ar84, q84, S84, Nn84, H84, G84⟩ := V_b82
          have hin84 : ¬ ((0 : Int32) < 0 ∨ cl84.slots.size ≤ ((0 : Int32)).toNatClampNeg) := inb_of S84 ⟨by decide, by decide⟩
          obtain ⟨T84, h84, X84, e84, W84, st84⟩ := stC X83 hx hZ e83 Ar84 (j := (0 : Int32)) hin84 (g := (mkF m 189 #[.val (.long v), .second, .val (.long mm), .second, .val (.int sel), .val (.long (v &&& (9223372036854775807 : Int64))), .second, .val (.int (sel &&& (3 : Int32))), .val (.long n), .second, .unset, .unset, .unset] [(.int (own_dg n (1000000000000000000 : Int64))), (.int (0 : Int32)), (.ref b82), (.ref b82)])) rfl rfl (hb hby at_189)
          have V84 := Arv.set Ar84 q84 S84 Nn84 H84 G84 (fits_nar_char _) W84 0 rfl (Nat.le_of_ble_eq_true rfl)
          have N84 := Fr.snoc X84 N0 n0_b82
          have Zs84 := Nat.le_trans Zs82 (Keep.of_wr W84).1
          have hk := Nat.le_trans hk (Keep.of_wr W84).1
          refine Done.step st84 ?_
          show Done _ p e below s _ _ (T84.setTop (mkF m 190 #[.val (.long v), .second, .val (.long mm), .second, .val (.int sel), .val (.long (v &&& (9223372036854775807 : Int64))), .second, .val (.int (sel &&& (3 : Int32))), .val (.long n), .second, .unset, .unset, .unset] [(.ref b82)]))
          refine Done.step (fun _ => XS.dup X84.here hx rfl (hb hby at_190) rfl rfl) ?_
          show Done _ p e below s _ _ (T84.setTop (mkF m 191 #[.val (.long v), .second, .val (.long mm), .second, .val (.int sel), .val (.long (v &&& (9223372036854775807 : Int64))), .second, .val (.int (sel &&& (3 : Int32))), .val (.long n), .second, .unset, .unset, .unset] [(.ref b82), (.ref b82)]))
          refine Done.step (fun _ => XT.iconstV X84.here hx rfl (1 : Int32) (hb hby at_191) (by decide)) ?_
          show Done _ p e below s _ _ (T84.setTop (mkF m 192 #[.val (.long v), .second, .val (.long mm), .second, .val (.int sel), .val (.long (v &&& (9223372036854775807 : Int64))), .second, .val (.int (sel &&& (3 : Int32))), .val (.long n), .second, .unset, .unset, .unset] [(.int (1 : Int32)), (.ref b82), (.ref b82)]))
          refine Done.step (fun _ => XT.lload X84.here hx rfl (hb hby at_192) rfl) ?_
          show Done _ p e below s _ _ (T84.setTop (mkF m 194 #[.val (.long v), .second, .val (.long mm), .second, .val (.int sel), .val (.long (v &&& (9223372036854775807 : Int64))), .second, .val (.int (sel &&& (3 : Int32))), .val (.long n), .second, .unset, .unset, .unset] [(.long n), (.int (1 : Int32)), (.ref b82), (.ref b82)]))
          refine Done.step (fun _ => Stand.ldc2J X84 hx hown (mvT hZ (wAt hw 90 rfl)) (g := (mkF m 194 #[.val (.long v), .second, .val (.long mm), .second, .val (.int sel), .val (.long (v &&& (9223372036854775807 : Int64))), .second, .val (.int (sel &&& (3 : Int32))), .val (.long n), .second, .unset, .unset, .unset] [(.long n), (.int (1 : Int32)), (.ref b82), (.ref b82)])) rfl (hb hby at_194)) ?_
          show Done _ p e below s _ _ (T84.setTop (mkF m 197 #[.val (.long v), .second, .val (.long mm), .second, .val (.int sel), .val (.long (v &&& (9223372036854775807 : Int64))), .second, .val (.int (sel &&& (3 : Int32))), .val (.long n), .second, .unset, .unset, .unset] [(.long (100000000000000000 : Int64)), (.long n), (.int (1 : Int32)), (.ref b82), (.ref b82)]))
          refine Done.callSP X84 hx hZ hown (wAt hw 3 rfl) (wAt hw 4 rfl) (wAt hw 5 rfl) (wAt hw 6 rfl) (by decide) (rmd l Z a0 hw [] n (100000000000000000 : Int64) h84 n0 Zs84 (by decide)) e84 (g := (mkF m 197 #[.val (.long v), .second, .val (.long mm), .second, .val (.int sel), .val (.long (v &&& (9223372036854775807 : Int64))), .second, .val (.int (sel &&& (3 : Int32))), .val (.long n), .second, .unset, .unset, .unset] [(.long (100000000000000000 : Int64)), (.long n), (.int (1 : Int32)), (.ref b82), (.ref b82)])) rfl (by rw [hml]; rfl) [(.long n), (.long (100000000000000000 : Int64))] [(.int (1 : Int32)), (.ref b82), (.ref b82)] 3 (lenOf pd_4 rfl) rfl rfl (by show 2 * 0 + _ ≤ _; exact Nat.le_of_eq rfl) (hb hby at_197) (by decide) (by decide) (by decide) (by decide) rfl rfl ?_
          intro T85 X85 e85
          show Done _ p e below s _ _ (T85.setTop (mkF m 200 #[.val (.long v), .second, .val (.long mm), .second, .val (.int sel), .val (.long (v &&& (9223372036854775807 : Int64))), .second, .val (.int (sel &&& (3 : Int32))), .val (.long n), .second, .unset, .unset, .unset] [(.int (own_dg n (100000000000000000 : Int64))), (.int (1 : Int32)), (.ref b82), (.ref b82)]))
          obtain ⟨cl86, Ar86, q86, S86, Nn86, H86, G86⟩ := V84
          have hin86 : ¬ ((1 : Int32) < 0 ∨ cl86.slots.size ≤ ((1 : Int32)).toNatClampNeg) := inb_of S86 ⟨by decide, by decide⟩
          obtain ⟨T86, h86, X86, e86, W86, st86⟩ := stC X85 hx hZ e85 Ar86 (j := (1 : Int32)) hin86 (g := (mkF m 200 #[.val (.long v), .second, .val (.long mm), .second, .val (.int sel), .val (.long (v &&& (9223372036854775807 : Int64))), .second, .val (.int (sel &&& (3 : Int32))), .val (.long n), .second, .unset, .unset, .unset] [(.int (own_dg n (100000000000000000 : Int64))), (.int (1 : Int32)), (.ref b82), (.ref b82)])) rfl rfl (hb hby at_200)
          have V86 := Arv.set Ar86 q86 S86 Nn86 H86 G86 (fits_nar_char _) W86 1 rfl (Nat.le_of_ble_eq_true rfl)
          have N86 := Fr.snoc X86 N84 n0_b82
          have Zs86 := Nat.le_trans Zs84 (Keep.of_wr W86).1
          have hk := Nat.le_trans hk (Keep.of_wr W86).1
          refine Done.step st86 ?_
          show Done _ p e below s _ _ (T86.setTop (mkF m 201 #[.val (.long v), .second, .val (.long mm), .second, .val (.int sel), .val (.long (v &&& (9223372036854775807 : Int64))), .second, .val (.int (sel &&& (3 : Int32))), .val (.long n), .second, .unset, .unset, .unset] [(.ref b82)]))
          refine Done.step (fun _ => XS.dup X86.here hx rfl (hb hby at_201) rfl rfl) ?_
          show Done _ p e below s _ _ (T86.setTop (mkF m 202 #[.val (.long v), .second, .val (.long mm), .second, .val (.int sel), .val (.long (v &&& (9223372036854775807 : Int64))), .second, .val (.int (sel &&& (3 : Int32))), .val (.long n), .second, .unset, .unset, .unset] [(.ref b82), (.ref b82)]))
          refine Done.step (fun _ => XT.iconstV X86.here hx rfl (2 : Int32) (hb hby at_202) (by decide)) ?_
          show Done _ p e below s _ _ (T86.setTop (mkF m 203 #[.val (.long v), .second, .val (.long mm), .second, .val (.int sel), .val (.long (v &&& (9223372036854775807 : Int64))), .second, .val (.int (sel &&& (3 : Int32))), .val (.long n), .second, .unset, .unset, .unset] [(.int (2 : Int32)), (.ref b82), (.ref b82)]))
          refine Done.step (fun _ => XT.lload X86.here hx rfl (hb hby at_203) rfl) ?_
          show Done _ p e below s _ _ (T86.setTop (mkF m 205 #[.val (.long v), .second, .val (.long mm), .second, .val (.int sel), .val (.long (v &&& (9223372036854775807 : Int64))), .second, .val (.int (sel &&& (3 : Int32))), .val (.long n), .second, .unset, .unset, .unset] [(.long n), (.int (2 : Int32)), (.ref b82), (.ref b82)]))
          refine Done.step (fun _ => Stand.ldc2J X86 hx hown (mvT hZ (wAt hw 91 rfl)) (g := (mkF m 205 #[.val (.long v), .second, .val (.long mm), .second, .val (.int sel), .val (.long (v &&& (9223372036854775807 : Int64))), .second, .val (.int (sel &&& (3 : Int32))), .val (.long n), .second, .unset, .unset, .unset] [(.long n), (.int (2 : Int32)), (.ref b82), (.ref b82)])) rfl (hb hby at_205)) ?_
          show Done _ p e below s _ _ (T86.setTop (mkF m 208 #[.val (.long v), .second, .val (.long mm), .second, .val (.int sel), .val (.long (v &&& (9223372036854775807 : Int64))), .second, .val (.int (sel &&& (3 : Int32))), .val (.long n), .second, .unset, .unset, .unset] [(.long (10000000000000000 : Int64)), (.long n), (.int (2 : Int32)), (.ref b82), (.ref b82)]))
          refine Done.callSP X86 hx hZ hown (wAt hw 3 rfl) (wAt hw 4 rfl) (wAt hw 5 rfl) (wAt hw 6 rfl) (by decide) (rmd l Z a0 hw [] n (10000000000000000 : Int64) h86 n0 Zs86 (by decide)) e86 (g := (mkF m 208 #[.val (.long v), .second, .val (.long mm), .second, .val (.int sel), .val (.long (v &&& (9223372036854775807 : Int64))), .second, .val (.int (sel &&& (3 : Int32))), .val (.long n), .second, .unset, .unset, .unset] [(.long (10000000000000000 : Int64)), (.long n), (.int (2 : Int32)), (.ref b82), (.ref b82)])) rfl (by rw [hml]; rfl) [(.long n), (.long (10000000000000000 : Int64))] [(.int (2 : Int32)), (.ref b82), (.ref b82)] 3 (lenOf pd_4 rfl) rfl rfl (by show 2 * 0 + _ ≤ _; exact Nat.le_of_eq rfl) (hb hby at_208) (by decide) (by decide) (by decide) (by decide) rfl rfl ?_
          intro T87 X87 e87
          show Done _ p e below s _ _ (T87.setTop (mkF m 211 #[.val (.long v), .second, .val (.long mm), .second, .val (.int sel), .val (.long (v &&& (9223372036854775807 : Int64))), .second, .val (.int (sel &&& (3 : Int32))), .val (.long n), .second, .unset, .unset, .unset] [(.int (own_dg n (10000000000000000 : Int64))), (.int (2 : Int32)), (.ref b82), (.ref b82)]))
          obtain ⟨cl88, Ar88, q88, S88, Nn88, H88, G88⟩ := V86
          have hin88 : ¬ ((2 : Int32) < 0 ∨ cl88.slots.size ≤ ((2 : Int32)).toNatClampNeg) := inb_of S88 ⟨by decide, by decide⟩
          obtain ⟨T88, h88, X88, e88, W88, st88⟩ := stC X87 hx hZ e87 Ar88 (j := (2 : Int32)) hin88 (g := (mkF m 211 #[.val (.long v), .second, .val (.long mm), .second, .val (.int sel), .val (.long (v &&& (9223372036854775807 : Int64))), .second, .val (.int (sel &&& (3 : Int32))), .val (.long n), .second, .unset, .unset, .unset] [(.int (own_dg n (10000000000000000 : Int64))), (.int (2 : Int32)), (.ref b82), (.ref b82)])) rfl rfl (hb hby at_211)
          have V88 := Arv.set Ar88 q88 S88 Nn88 H88 G88 (fits_nar_char _) W88 2 rfl (Nat.le_of_ble_eq_true rfl)
          have N88 := Fr.snoc X88 N86 n0_b82
          have Zs88 := Nat.le_trans Zs86 (Keep.of_wr W88).1
          have hk := Nat.le_trans hk (Keep.of_wr W88).1
          refine Done.step st88 ?_
          show Done _ p e below s _ _ (T88.setTop (mkF m 212 #[.val (.long v), .second, .val (.long mm), .second, .val (.int sel), .val (.long (v &&& (9223372036854775807 : Int64))), .second, .val (.int (sel &&& (3 : Int32))), .val (.long n), .second, .unset, .unset, .unset] [(.ref b82)]))
          refine Done.step (fun _ => XS.dup X88.here hx rfl (hb hby at_212) rfl rfl) ?_
          show Done _ p e below s _ _ (T88.setTop (mkF m 213 #[.val (.long v), .second, .val (.long mm), .second, .val (.int sel), .val (.long (v &&& (9223372036854775807 : Int64))), .second, .val (.int (sel &&& (3 : Int32))), .val (.long n), .second, .unset, .unset, .unset] [(.ref b82), (.ref b82)]))
          refine Done.step (fun _ => XT.iconstV X88.here hx rfl (3 : Int32) (hb hby at_213) (by decide)) ?_
          show Done _ p e below s _ _ (T88.setTop (mkF m 214 #[.val (.long v), .second, .val (.long mm), .second, .val (.int sel), .val (.long (v &&& (9223372036854775807 : Int64))), .second, .val (.int (sel &&& (3 : Int32))), .val (.long n), .second, .unset, .unset, .unset] [(.int (3 : Int32)), (.ref b82), (.ref b82)]))
          refine Done.step (fun _ => XT.lload X88.here hx rfl (hb hby at_214) rfl) ?_
          show Done _ p e below s _ _ (T88.setTop (mkF m 216 #[.val (.long v), .second, .val (.long mm), .second, .val (.int sel), .val (.long (v &&& (9223372036854775807 : Int64))), .second, .val (.int (sel &&& (3 : Int32))), .val (.long n), .second, .unset, .unset, .unset] [(.long n), (.int (3 : Int32)), (.ref b82), (.ref b82)]))
          refine Done.step (fun _ => Stand.ldc2J X88 hx hown (mvT hZ (wAt hw 92 rfl)) (g := (mkF m 216 #[.val (.long v), .second, .val (.long mm), .second, .val (.int sel), .val (.long (v &&& (9223372036854775807 : Int64))), .second, .val (.int (sel &&& (3 : Int32))), .val (.long n), .second, .unset, .unset, .unset] [(.long n), (.int (3 : Int32)), (.ref b82), (.ref b82)])) rfl (hb hby at_216)) ?_
          show Done _ p e below s _ _ (T88.setTop (mkF m 219 #[.val (.long v), .second, .val (.long mm), .second, .val (.int sel), .val (.long (v &&& (9223372036854775807 : Int64))), .second, .val (.int (sel &&& (3 : Int32))), .val (.long n), .second, .unset, .unset, .unset] [(.long (1000000000000000 : Int64)), (.long n), (.int (3 : Int32)), (.ref b82), (.ref b82)]))
          refine Done.callSP X88 hx hZ hown (wAt hw 3 rfl) (wAt hw 4 rfl) (wAt hw 5 rfl) (wAt hw 6 rfl) (by decide) (rmd l Z a0 hw [] n (1000000000000000 : Int64) h88 n0 Zs88 (by decide)) e88 (g := (mkF m 219 #[.val (.long v), .second, .val (.long mm), .second, .val (.int sel), .val (.long (v &&& (9223372036854775807 : Int64))), .second, .val (.int (sel &&& (3 : Int32))), .val (.long n), .second, .unset, .unset, .unset] [(.long (1000000000000000 : Int64)), (.long n), (.int (3 : Int32)), (.ref b82), (.ref b82)])) rfl (by rw [hml]; rfl) [(.long n), (.long (1000000000000000 : Int64))] [(.int (3 : Int32)), (.ref b82), (.ref b82)] 3 (lenOf pd_4 rfl) rfl rfl (by show 2 * 0 + _ ≤ _; exact Nat.le_of_eq rfl) (hb hby at_219) (by decide) (by decide) (by decide) (by decide) rfl rfl ?_
          intro T89 X89 e89
          show Done _ p e below s _ _ (T89.setTop (mkF m 222 #[.val (.long v), .second, .val (.long mm), .second, .val (.int sel), .val (.long (v &&& (9223372036854775807 : Int64))), .second, .val (.int (sel &&& (3 : Int32))), .val (.long n), .second, .unset, .unset, .unset] [(.int (own_dg n (1000000000000000 : Int64))), (.int (3 : Int32)), (.ref b82), (.ref b82)]))
          obtain ⟨cl90, Ar90, q90, S90, Nn90, H90, G90⟩ := V88
          have hin90 : ¬ ((3 : Int32) < 0 ∨ cl90.slots.size ≤ ((3 : Int32)).toNatClampNeg) := inb_of S90 ⟨by decide, by decide⟩
          obtain ⟨T90, h90, X90, e90, W90, st90⟩ := stC X89 hx hZ e89 Ar90 (j := (3 : Int32)) hin90 (g := (mkF m 222 #[.val (.long v), .second, .val (.long mm), .second, .val (.int sel), .val (.long (v &&& (9223372036854775807 : Int64))), .second, .val (.int (sel &&& (3 : Int32))), .val (.long n), .second, .unset, .unset, .unset] [(.int (own_dg n (1000000000000000 : Int64))), (.int (3 : Int32)), (.ref b82), (.ref b82)])) rfl rfl (hb hby at_222)
          have V90 := Arv.set Ar90 q90 S90 Nn90 H90 G90 (fits_nar_char _) W90 3 rfl (Nat.le_of_ble_eq_true rfl)
          have N90 := Fr.snoc X90 N88 n0_b82
          have Zs90 := Nat.le_trans Zs88 (Keep.of_wr W90).1
          have hk := Nat.le_trans hk (Keep.of_wr W90).1
          refine Done.step st90 ?_
          show Done _ p e below s _ _ (T90.setTop (mkF m 223 #[.val (.long v), .second, .val (.long mm), .second, .val (.int sel), .val (.long (v &&& (9223372036854775807 : Int64))), .second, .val (.int (sel &&& (3 : Int32))), .val (.long n), .second, .unset, .unset, .unset] [(.ref b82)]))
          refine Done.step (fun _ => XS.dup X90.here hx rfl (hb hby at_223) rfl rfl) ?_
          show Done _ p e below s _ _ (T90.setTop (mkF m 224 #[.val (.long v), .second, .val (.long mm), .second, .val (.int sel), .val (.long (v &&& (9223372036854775807 : Int64))), .second, .val (.int (sel &&& (3 : Int32))), .val (.long n), .second, .unset, .unset, .unset] [(.ref b82), (.ref b82)]))
          refine Done.step (fun _ => XT.iconstV X90.here hx rfl (4 : Int32) (hb hby at_224) (by decide)) ?_
          show Done _ p e below s _ _ (T90.setTop (mkF m 225 #[.val (.long v), .second, .val (.long mm), .second, .val (.int sel), .val (.long (v &&& (9223372036854775807 : Int64))), .second, .val (.int (sel &&& (3 : Int32))), .val (.long n), .second, .unset, .unset, .unset] [(.int (4 : Int32)), (.ref b82), (.ref b82)]))
          refine Done.step (fun _ => XT.lload X90.here hx rfl (hb hby at_225) rfl) ?_
          show Done _ p e below s _ _ (T90.setTop (mkF m 227 #[.val (.long v), .second, .val (.long mm), .second, .val (.int sel), .val (.long (v &&& (9223372036854775807 : Int64))), .second, .val (.int (sel &&& (3 : Int32))), .val (.long n), .second, .unset, .unset, .unset] [(.long n), (.int (4 : Int32)), (.ref b82), (.ref b82)]))
          refine Done.step (fun _ => Stand.ldc2J X90 hx hown (mvT hZ (wAt hw 93 rfl)) (g := (mkF m 227 #[.val (.long v), .second, .val (.long mm), .second, .val (.int sel), .val (.long (v &&& (9223372036854775807 : Int64))), .second, .val (.int (sel &&& (3 : Int32))), .val (.long n), .second, .unset, .unset, .unset] [(.long n), (.int (4 : Int32)), (.ref b82), (.ref b82)])) rfl (hb hby at_227)) ?_
          show Done _ p e below s _ _ (T90.setTop (mkF m 230 #[.val (.long v), .second, .val (.long mm), .second, .val (.int sel), .val (.long (v &&& (9223372036854775807 : Int64))), .second, .val (.int (sel &&& (3 : Int32))), .val (.long n), .second, .unset, .unset, .unset] [(.long (100000000000000 : Int64)), (.long n), (.int (4 : Int32)), (.ref b82), (.ref b82)]))
          refine Done.callSP X90 hx hZ hown (wAt hw 3 rfl) (wAt hw 4 rfl) (wAt hw 5 rfl) (wAt hw 6 rfl) (by decide) (rmd l Z a0 hw [] n (100000000000000 : Int64) h90 n0 Zs90 (by decide)) e90 (g := (mkF m 230 #[.val (.long v), .second, .val (.long mm), .second, .val (.int sel), .val (.long (v &&& (9223372036854775807 : Int64))), .second, .val (.int (sel &&& (3 : Int32))), .val (.long n), .second, .unset, .unset, .unset] [(.long (100000000000000 : Int64)), (.long n), (.int (4 : Int32)), (.ref b82), (.ref b82)])) rfl (by rw [hml]; rfl) [(.long n), (.long (100000000000000 : Int64))] [(.int (4 : Int32)), (.ref b82), (.ref b82)] 3 (lenOf pd_4 rfl) rfl rfl (by show 2 * 0 + _ ≤ _; exact Nat.le_of_eq rfl) (hb hby at_230) (by decide) (by decide) (by decide) (by decide) rfl rfl ?_
          intro T91 X91 e91
          show Done _ p e below s _ _ (T91.setTop (mkF m 233 #[.val (.long v), .second, .val (.long mm), .second, .val (.int sel), .val (.long (v &&& (9223372036854775807 : Int64))), .second, .val (.int (sel &&& (3 : Int32))), .val (.long n), .second, .unset, .unset, .unset] [(.int (own_dg n (100000000000000 : Int64))), (.int (4 : Int32)), (.ref b82), (.ref b82)]))
          obtain ⟨cl92, Ar92, q92, S92, Nn92, H92, G92⟩ := V90
          have hin92 : ¬ ((4 : Int32) < 0 ∨ cl92.slots.size ≤ ((4 : Int32)).toNatClampNeg) := inb_of S92 ⟨by decide, by decide⟩
          obtain ⟨T92, h92, X92, e92, W92, st92⟩ := stC X91 hx hZ e91 Ar92 (j := (4 : Int32)) hin92 (g := (mkF m 233 #[.val (.long v), .second, .val (.long mm), .second, .val (.int sel), .val (.long (v &&& (9223372036854775807 : Int64))), .second, .val (.int (sel &&& (3 : Int32))), .val (.long n), .second, .unset, .unset, .unset] [(.int (own_dg n (100000000000000 : Int64))), (.int (4 : Int32)), (.ref b82), (.ref b82)])) rfl rfl (hb hby at_233)
          have V92 := Arv.set Ar92 q92 S92 Nn92 H92 G92 (fits_nar_char _) W92 4 rfl (Nat.le_of_ble_eq_true rfl)
          have N92 := Fr.snoc X92 N90 n0_b82
          have Zs92 := Nat.le_trans Zs90 (Keep.of_wr W92).1
          have hk := Nat.le_trans hk (Keep.of_wr W92).1
          refine Done.step st92 ?_
          show Done _ p e below s _ _ (T92.setTop (mkF m 234 #[.val (.long v), .second, .val (.long mm), .second, .val (.int sel), .val (.long (v &&& (9223372036854775807 : Int64))), .second, .val (.int (sel &&& (3 : Int32))), .val (.long n), .second, .unset, .unset, .unset] [(.ref b82)]))
          refine Done.step (fun _ => XS.dup X92.here hx rfl (hb hby at_234) rfl rfl) ?_
          show Done _ p e below s _ _ (T92.setTop (mkF m 235 #[.val (.long v), .second, .val (.long mm), .second, .val (.int sel), .val (.long (v &&& (9223372036854775807 : Int64))), .second, .val (.int (sel &&& (3 : Int32))), .val (.long n), .second, .unset, .unset, .unset] [(.ref b82), (.ref b82)]))
          refine Done.step (fun _ => XT.iconstV X92.here hx rfl (5 : Int32) (hb hby at_235) (by decide)) ?_
          show Done _ p e below s _ _ (T92.setTop (mkF m 236 #[.val (.long v), .second, .val (.long mm), .second, .val (.int sel), .val (.long (v &&& (9223372036854775807 : Int64))), .second, .val (.int (sel &&& (3 : Int32))), .val (.long n), .second, .unset, .unset, .unset] [(.int (5 : Int32)), (.ref b82), (.ref b82)]))
          refine Done.step (fun _ => XT.lload X92.here hx rfl (hb hby at_236) rfl) ?_
          show Done _ p e below s _ _ (T92.setTop (mkF m 238 #[.val (.long v), .second, .val (.long mm), .second, .val (.int sel), .val (.long (v &&& (9223372036854775807 : Int64))), .second, .val (.int (sel &&& (3 : Int32))), .val (.long n), .second, .unset, .unset, .unset] [(.long n), (.int (5 : Int32)), (.ref b82), (.ref b82)]))
          refine Done.step (fun _ => Stand.ldc2J X92 hx hown (mvT hZ (wAt hw 94 rfl)) (g := (mkF m 238 #[.val (.long v), .second, .val (.long mm), .second, .val (.int sel), .val (.long (v &&& (9223372036854775807 : Int64))), .second, .val (.int (sel &&& (3 : Int32))), .val (.long n), .second, .unset, .unset, .unset] [(.long n), (.int (5 : Int32)), (.ref b82), (.ref b82)])) rfl (hb hby at_238)) ?_
          show Done _ p e below s _ _ (T92.setTop (mkF m 241 #[.val (.long v), .second, .val (.long mm), .second, .val (.int sel), .val (.long (v &&& (9223372036854775807 : Int64))), .second, .val (.int (sel &&& (3 : Int32))), .val (.long n), .second, .unset, .unset, .unset] [(.long (10000000000000 : Int64)), (.long n), (.int (5 : Int32)), (.ref b82), (.ref b82)]))
          refine Done.callSP X92 hx hZ hown (wAt hw 3 rfl) (wAt hw 4 rfl) (wAt hw 5 rfl) (wAt hw 6 rfl) (by decide) (rmd l Z a0 hw [] n (10000000000000 : Int64) h92 n0 Zs92 (by decide)) e92 (g := (mkF m 241 #[.val (.long v), .second, .val (.long mm), .second, .val (.int sel), .val (.long (v &&& (9223372036854775807 : Int64))), .second, .val (.int (sel &&& (3 : Int32))), .val (.long n), .second, .unset, .unset, .unset] [(.long (10000000000000 : Int64)), (.long n), (.int (5 : Int32)), (.ref b82), (.ref b82)])) rfl (by rw [hml]; rfl) [(.long n), (.long (10000000000000 : Int64))] [(.int (5 : Int32)), (.ref b82), (.ref b82)] 3 (lenOf pd_4 rfl) rfl rfl (by show 2 * 0 + _ ≤ _; exact Nat.le_of_eq rfl) (hb hby at_241) (by decide) (by decide) (by decide) (by decide) rfl rfl ?_
          intro T93 X93 e93
          show Done _ p e below s _ _ (T93.setTop (mkF m 244 #[.val (.long v), .second, .val (.long mm), .second, .val (.int sel), .val (.long (v &&& (9223372036854775807 : Int64))), .second, .val (.int (sel &&& (3 : Int32))), .val (.long n), .second, .unset, .unset, .unset] [(.int (own_dg n (10000000000000 : Int64))), (.int (5 : Int32)), (.ref b82), (.ref b82)]))
          obtain ⟨cl94, Ar94, q94, S94, Nn94, H94, G94⟩ := V92
          have hin94 : ¬ ((5 : Int32) < 0 ∨ cl94.slots.size ≤ ((5 : Int32)).toNatClampNeg) := inb_of S94 ⟨by decide, by decide⟩
          obtain ⟨T94, h94, X94, e94, W94, st94⟩ := stC X93 hx hZ e93 Ar94 (j := (5 : Int32)) hin94 (g := (mkF m 244 #[.val (.long v), .second, .val (.long mm), .second, .val (.int sel), .val (.long (v &&& (9223372036854775807 : Int64))), .second, .val (.int (sel &&& (3 : Int32))), .val (.long n), .second, .unset, .unset, .unset] [(.int (own_dg n (10000000000000 : Int64))), (.int (5 : Int32)), (.ref b82), (.ref b82)])) rfl rfl (hb hby at_244)
          have V94 := Arv.set Ar94 q94 S94 Nn94 H94 G94 (fits_nar_char _) W94 5 rfl (Nat.le_of_ble_eq_true rfl)
          have N94 := Fr.snoc X94 N92 n0_b82
          have Zs94 := Nat.le_trans Zs92 (Keep.of_wr W94).1
          have hk := Nat.le_trans hk (Keep.of_wr W94).1
          refine Done.step st94 ?_
          show Done _ p e below s _ _ (T94.setTop (mkF m 245 #[.val (.long v), .second, .val (.long mm), .second, .val (.int sel), .val (.long (v &&& (9223372036854775807 : Int64))), .second, .val (.int (sel &&& (3 : Int32))), .val (.long n), .second, .unset, .unset, .unset] [(.ref b82)]))
          refine Done.step (fun _ => XS.dup X94.here hx rfl (hb hby at_245) rfl rfl) ?_
          show Done _ p e below s _ _ (T94.setTop (mkF m 246 #[.val (.long v), .second, .val (.long mm), .second, .val (.int sel), .val (.long (v &&& (9223372036854775807 : Int64))), .second, .val (.int (sel &&& (3 : Int32))), .val (.long n), .second, .unset, .unset, .unset] [(.ref b82), (.ref b82)]))
          refine Done.step (fun _ => XT.bipushV X94.here hx rfl (6 : Int32) (hb hby at_246) (by decide)) ?_
          show Done _ p e below s _ _ (T94.setTop (mkF m 248 #[.val (.long v), .second, .val (.long mm), .second, .val (.int sel), .val (.long (v &&& (9223372036854775807 : Int64))), .second, .val (.int (sel &&& (3 : Int32))), .val (.long n), .second, .unset, .unset, .unset] [(.int (6 : Int32)), (.ref b82), (.ref b82)]))
          refine Done.step (fun _ => XT.lload X94.here hx rfl (hb hby at_248) rfl) ?_
          show Done _ p e below s _ _ (T94.setTop (mkF m 250 #[.val (.long v), .second, .val (.long mm), .second, .val (.int sel), .val (.long (v &&& (9223372036854775807 : Int64))), .second, .val (.int (sel &&& (3 : Int32))), .val (.long n), .second, .unset, .unset, .unset] [(.long n), (.int (6 : Int32)), (.ref b82), (.ref b82)]))
          refine Done.step (fun _ => Stand.ldc2J X94 hx hown (mvT hZ (wAt hw 95 rfl)) (g := (mkF m 250 #[.val (.long v), .second, .val (.long mm), .second, .val (.int sel), .val (.long (v &&& (9223372036854775807 : Int64))), .second, .val (.int (sel &&& (3 : Int32))), .val (.long n), .second, .unset, .unset, .unset] [(.long n), (.int (6 : Int32)), (.ref b82), (.ref b82)])) rfl (hb hby at_250)) ?_
          show Done _ p e below s _ _ (T94.setTop (mkF m 253 #[.val (.long v), .second, .val (.long mm), .second, .val (.int sel), .val (.long (v &&& (9223372036854775807 : Int64))), .second, .val (.int (sel &&& (3 : Int32))), .val (.long n), .second, .unset, .unset, .unset] [(.long (1000000000000 : Int64)), (.long n), (.int (6 : Int32)), (.ref b82), (.ref b82)]))
          refine Done.callSP X94 hx hZ hown (wAt hw 3 rfl) (wAt hw 4 rfl) (wAt hw 5 rfl) (wAt hw 6 rfl) (by decide) (rmd l Z a0 hw [] n (1000000000000 : Int64) h94 n0 Zs94 (by decide)) e94 (g := (mkF m 253 #[.val (.long v), .second, .val (.long mm), .second, .val (.int sel), .val (.long (v &&& (9223372036854775807 : Int64))), .second, .val (.int (sel &&& (3 : Int32))), .val (.long n), .second, .unset, .unset, .unset] [(.long (1000000000000 : Int64)), (.long n), (.int (6 : Int32)), (.ref b82), (.ref b82)])) rfl (by rw [hml]; rfl) [(.long n), (.long (1000000000000 : Int64))] [(.int (6 : Int32)), (.ref b82), (.ref b82)] 3 (lenOf pd_4 rfl) rfl rfl (by show 2 * 0 + _ ≤ _; exact Nat.le_of_eq rfl) (hb hby at_253) (by decide) (by decide) (by decide) (by decide) rfl rfl ?_
          intro T95 X95 e95
          show Done _ p e below s _ _ (T95.setTop (mkF m 256 #[.val (.long v), .second, .val (.long mm), .second, .val (.int sel), .val (.long (v &&& (9223372036854775807 : Int64))), .second, .val (.int (sel &&& (3 : Int32))), .val (.long n), .second, .unset, .unset, .unset] [(.int (own_dg n (1000000000000 : Int64))), (.int (6 : Int32)), (.ref b82), (.ref b82)]))
          obtain ⟨cl96, Ar96, q96, S96, Nn96, H96, G96⟩ := V94
          have hin96 : ¬ ((6 : Int32) < 0 ∨ cl96.slots.size ≤ ((6 : Int32)).toNatClampNeg) := inb_of S96 ⟨by decide, by decide⟩
          obtain ⟨T96, h96, X96, e96, W96, st96⟩ := stC X95 hx hZ e95 Ar96 (j := (6 : Int32)) hin96 (g := (mkF m 256 #[.val (.long v), .second, .val (.long mm), .second, .val (.int sel), .val (.long (v &&& (9223372036854775807 : Int64))), .second, .val (.int (sel &&& (3 : Int32))), .val (.long n), .second, .unset, .unset, .unset] [(.int (own_dg n (1000000000000 : Int64))), (.int (6 : Int32)), (.ref b82), (.ref b82)])) rfl rfl (hb hby at_256)
          have V96 := Arv.set Ar96 q96 S96 Nn96 H96 G96 (fits_nar_char _) W96 6 rfl (Nat.le_of_ble_eq_true rfl)
          have N96 := Fr.snoc X96 N94 n0_b82
          have Zs96 := Nat.le_trans Zs94 (Keep.of_wr W96).1
          have hk := Nat.le_trans hk (Keep.of_wr W96).1
          refine Done.step st96 ?_
          show Done _ p e below s _ _ (T96.setTop (mkF m 257 #[.val (.long v), .second, .val (.long mm), .second, .val (.int sel), .val (.long (v &&& (9223372036854775807 : Int64))), .second, .val (.int (sel &&& (3 : Int32))), .val (.long n), .second, .unset, .unset, .unset] [(.ref b82)]))
          refine Done.step (fun _ => XS.dup X96.here hx rfl (hb hby at_257) rfl rfl) ?_
          show Done _ p e below s _ _ (T96.setTop (mkF m 258 #[.val (.long v), .second, .val (.long mm), .second, .val (.int sel), .val (.long (v &&& (9223372036854775807 : Int64))), .second, .val (.int (sel &&& (3 : Int32))), .val (.long n), .second, .unset, .unset, .unset] [(.ref b82), (.ref b82)]))
          refine Done.step (fun _ => XT.bipushV X96.here hx rfl (7 : Int32) (hb hby at_258) (by decide)) ?_
          show Done _ p e below s _ _ (T96.setTop (mkF m 260 #[.val (.long v), .second, .val (.long mm), .second, .val (.int sel), .val (.long (v &&& (9223372036854775807 : Int64))), .second, .val (.int (sel &&& (3 : Int32))), .val (.long n), .second, .unset, .unset, .unset] [(.int (7 : Int32)), (.ref b82), (.ref b82)]))
          refine Done.step (fun _ => XT.lload X96.here hx rfl (hb hby at_260) rfl) ?_
          show Done _ p e below s _ _ (T96.setTop (mkF m 262 #[.val (.long v), .second, .val (.long mm), .second, .val (.int sel), .val (.long (v &&& (9223372036854775807 : Int64))), .second, .val (.int (sel &&& (3 : Int32))), .val (.long n), .second, .unset, .unset, .unset] [(.long n), (.int (7 : Int32)), (.ref b82), (.ref b82)]))
          refine Done.step (fun _ => Stand.ldc2J X96 hx hown (mvT hZ (wAt hw 96 rfl)) (g := (mkF m 262 #[.val (.long v), .second, .val (.long mm), .second, .val (.int sel), .val (.long (v &&& (9223372036854775807 : Int64))), .second, .val (.int (sel &&& (3 : Int32))), .val (.long n), .second, .unset, .unset, .unset] [(.long n), (.int (7 : Int32)), (.ref b82), (.ref b82)])) rfl (hb hby at_262)) ?_
          show Done _ p e below s _ _ (T96.setTop (mkF m 265 #[.val (.long v), .second, .val (.long mm), .second, .val (.int sel), .val (.long (v &&& (9223372036854775807 : Int64))), .second, .val (.int (sel &&& (3 : Int32))), .val (.long n), .second, .unset, .unset, .unset] [(.long (100000000000 : Int64)), (.long n), (.int (7 : Int32)), (.ref b82), (.ref b82)]))
          refine Done.callSP X96 hx hZ hown (wAt hw 3 rfl) (wAt hw 4 rfl) (wAt hw 5 rfl) (wAt hw 6 rfl) (by decide) (rmd l Z a0 hw [] n (100000000000 : Int64) h96 n0 Zs96 (by decide)) e96 (g := (mkF m 265 #[.val (.long v), .second, .val (.long mm), .second, .val (.int sel), .val (.long (v &&& (9223372036854775807 : Int64))), .second, .val (.int (sel &&& (3 : Int32))), .val (.long n), .second, .unset, .unset, .unset] [(.long (100000000000 : Int64)), (.long n), (.int (7 : Int32)), (.ref b82), (.ref b82)])) rfl (by rw [hml]; rfl) [(.long n), (.long (100000000000 : Int64))] [(.int (7 : Int32)), (.ref b82), (.ref b82)] 3 (lenOf pd_4 rfl) rfl rfl (by show 2 * 0 + _ ≤ _; exact Nat.le_of_eq rfl) (hb hby at_265) (by decide) (by decide) (by decide) (by decide) rfl rfl ?_
          intro T97 X97 e97
          show Done _ p e below s _ _ (T97.setTop (mkF m 268 #[.val (.long v), .second, .val (.long mm), .second, .val (.int sel), .val (.long (v &&& (9223372036854775807 : Int64))), .second, .val (.int (sel &&& (3 : Int32))), .val (.long n), .second, .unset, .unset, .unset] [(.int (own_dg n (100000000000 : Int64))), (.int (7 : Int32)), (.ref b82), (.ref b82)]))
          obtain ⟨cl98, Ar98, q98, S98, Nn98, H98, G98⟩ := V96
          have hin98 : ¬ ((7 : Int32) < 0 ∨ cl98.slots.size ≤ ((7 : Int32)).toNatClampNeg) := inb_of S98 ⟨by decide, by decide⟩
          obtain ⟨T98, h98, X98, e98, W98, st98⟩ := stC X97 hx hZ e97 Ar98 (j := (7 : Int32)) hin98 (g := (mkF m 268 #[.val (.long v), .second, .val (.long mm), .second, .val (.int sel), .val (.long (v &&& (9223372036854775807 : Int64))), .second, .val (.int (sel &&& (3 : Int32))), .val (.long n), .second, .unset, .unset, .unset] [(.int (own_dg n (100000000000 : Int64))), (.int (7 : Int32)), (.ref b82), (.ref b82)])) rfl rfl (hb hby at_268)
          have V98 := Arv.set Ar98 q98 S98 Nn98 H98 G98 (fits_nar_char _) W98 7 rfl (Nat.le_of_ble_eq_true rfl)
          have N98 := Fr.snoc X98 N96 n0_b82
          have Zs98 := Nat.le_trans Zs96 (Keep.of_wr W98).1
          have hk := Nat.le_trans hk (Keep.of_wr W98).1
          refine Done.step st98 ?_
          show Done _ p e below s _ _ (T98.setTop (mkF m 269 #[.val (.long v), .second, .val (.long mm), .second, .val (.int sel), .val (.long (v &&& (9223372036854775807 : Int64))), .second, .val (.int (sel &&& (3 : Int32))), .val (.long n), .second, .unset, .unset, .unset] [(.ref b82)]))
          refine Done.step (fun _ => XS.dup X98.here hx rfl (hb hby at_269) rfl rfl) ?_
          show Done _ p e below s _ _ (T98.setTop (mkF m 270 #[.val (.long v), .second, .val (.long mm), .second, .val (.int sel), .val (.long (v &&& (9223372036854775807 : Int64))), .second, .val (.int (sel &&& (3 : Int32))), .val (.long n), .second, .unset, .unset, .unset] [(.ref b82), (.ref b82)]))
          refine Done.step (fun _ => XT.bipushV X98.here hx rfl (8 : Int32) (hb hby at_270) (by decide)) ?_
          show Done _ p e below s _ _ (T98.setTop (mkF m 272 #[.val (.long v), .second, .val (.long mm), .second, .val (.int sel), .val (.long (v &&& (9223372036854775807 : Int64))), .second, .val (.int (sel &&& (3 : Int32))), .val (.long n), .second, .unset, .unset, .unset] [(.int (8 : Int32)), (.ref b82), (.ref b82)]))
          refine Done.step (fun _ => XT.lload X98.here hx rfl (hb hby at_272) rfl) ?_
          show Done _ p e below s _ _ (T98.setTop (mkF m 274 #[.val (.long v), .second, .val (.long mm), .second, .val (.int sel), .val (.long (v &&& (9223372036854775807 : Int64))), .second, .val (.int (sel &&& (3 : Int32))), .val (.long n), .second, .unset, .unset, .unset] [(.long n), (.int (8 : Int32)), (.ref b82), (.ref b82)]))
          refine Done.step (fun _ => Stand.ldc2J X98 hx hown (mvT hZ (wAt hw 97 rfl)) (g := (mkF m 274 #[.val (.long v), .second, .val (.long mm), .second, .val (.int sel), .val (.long (v &&& (9223372036854775807 : Int64))), .second, .val (.int (sel &&& (3 : Int32))), .val (.long n), .second, .unset, .unset, .unset] [(.long n), (.int (8 : Int32)), (.ref b82), (.ref b82)])) rfl (hb hby at_274)) ?_
          show Done _ p e below s _ _ (T98.setTop (mkF m 277 #[.val (.long v), .second, .val (.long mm), .second, .val (.int sel), .val (.long (v &&& (9223372036854775807 : Int64))), .second, .val (.int (sel &&& (3 : Int32))), .val (.long n), .second, .unset, .unset, .unset] [(.long (10000000000 : Int64)), (.long n), (.int (8 : Int32)), (.ref b82), (.ref b82)]))
          refine Done.callSP X98 hx hZ hown (wAt hw 3 rfl) (wAt hw 4 rfl) (wAt hw 5 rfl) (wAt hw 6 rfl) (by decide) (rmd l Z a0 hw [] n (10000000000 : Int64) h98 n0 Zs98 (by decide)) e98 (g := (mkF m 277 #[.val (.long v), .second, .val (.long mm), .second, .val (.int sel), .val (.long (v &&& (9223372036854775807 : Int64))), .second, .val (.int (sel &&& (3 : Int32))), .val (.long n), .second, .unset, .unset, .unset] [(.long (10000000000 : Int64)), (.long n), (.int (8 : Int32)), (.ref b82), (.ref b82)])) rfl (by rw [hml]; rfl) [(.long n), (.long (10000000000 : Int64))] [(.int (8 : Int32)), (.ref b82), (.ref b82)] 3 (lenOf pd_4 rfl) rfl rfl (by show 2 * 0 + _ ≤ _; exact Nat.le_of_eq rfl) (hb hby at_277) (by decide) (by decide) (by decide) (by decide) rfl rfl ?_
          intro T99 X99 e99
          show Done _ p e below s _ _ (T99.setTop (mkF m 280 #[.val (.long v), .second, .val (.long mm), .second, .val (.int sel), .val (.long (v &&& (9223372036854775807 : Int64))), .second, .val (.int (sel &&& (3 : Int32))), .val (.long n), .second, .unset, .unset, .unset] [(.int (own_dg n (10000000000 : Int64))), (.int (8 : Int32)), (.ref b82), (.ref b82)]))
          obtain ⟨cl100, Ar100, q100, S100, Nn100, H100, G100⟩ := V98
          have hin100 : ¬ ((8 : Int32) < 0 ∨ cl100.slots.size ≤ ((8 : Int32)).toNatClampNeg) := inb_of S100 ⟨by decide, by decide⟩
          obtain ⟨T100, h100, X100, e100, W100, st100⟩ := stC X99 hx hZ e99 Ar100 (j := (8 : Int32)) hin100 (g := (mkF m 280 #[.val (.long v), .second, .val (.long mm), .second, .val (.int sel), .val (.long (v &&& (9223372036854775807 : Int64))), .second, .val (.int (sel &&& (3 : Int32))), .val (.long n), .second, .unset, .unset, .unset] [(.int (own_dg n (10000000000 : Int64))), (.int (8 : Int32)), (.ref b82), (.ref b82)])) rfl rfl (hb hby at_280)
          have V100 := Arv.set Ar100 q100 S100 Nn100 H100 G100 (fits_nar_char _) W100 8 rfl (Nat.le_of_ble_eq_true rfl)
          have N100 := Fr.snoc X100 N98 n0_b82
          have Zs100 := Nat.le_trans Zs98 (Keep.of_wr W100).1
          have hk := Nat.le_trans hk (Keep.of_wr W100).1
          refine Done.step st100 ?_
          show Done _ p e below s _ _ (T100.setTop (mkF m 281 #[.val (.long v), .second, .val (.long mm), .second, .val (.int sel), .val (.long (v &&& (9223372036854775807 : Int64))), .second, .val (.int (sel &&& (3 : Int32))), .val (.long n), .second, .unset, .unset, .unset] [(.ref b82)]))
          refine Done.step (fun _ => XS.dup X100.here hx rfl (hb hby at_281) rfl rfl) ?_
          show Done _ p e below s _ _ (T100.setTop (mkF m 282 #[.val (.long v), .second, .val (.long mm), .second, .val (.int sel), .val (.long (v &&& (9223372036854775807 : Int64))), .second, .val (.int (sel &&& (3 : Int32))), .val (.long n), .second, .unset, .unset, .unset] [(.ref b82), (.ref b82)]))
          refine Done.step (fun _ => XT.bipushV X100.here hx rfl (9 : Int32) (hb hby at_282) (by decide)) ?_
          show Done _ p e below s _ _ (T100.setTop (mkF m 284 #[.val (.long v), .second, .val (.long mm), .second, .val (.int sel), .val (.long (v &&& (9223372036854775807 : Int64))), .second, .val (.int (sel &&& (3 : Int32))), .val (.long n), .second, .unset, .unset, .unset] [(.int (9 : Int32)), (.ref b82), (.ref b82)]))
          refine Done.step (fun _ => XT.lload X100.here hx rfl (hb hby at_284) rfl) ?_
          show Done _ p e below s _ _ (T100.setTop (mkF m 286 #[.val (.long v), .second, .val (.long mm), .second, .val (.int sel), .val (.long (v &&& (9223372036854775807 : Int64))), .second, .val (.int (sel &&& (3 : Int32))), .val (.long n), .second, .unset, .unset, .unset] [(.long n), (.int (9 : Int32)), (.ref b82), (.ref b82)]))
          refine Done.step (fun _ => Stand.ldc2J X100 hx hown (mvT hZ (wAt hw 98 rfl)) (g := (mkF m 286 #[.val (.long v), .second, .val (.long mm), .second, .val (.int sel), .val (.long (v &&& (9223372036854775807 : Int64))), .second, .val (.int (sel &&& (3 : Int32))), .val (.long n), .second, .unset, .unset, .unset] [(.long n), (.int (9 : Int32)), (.ref b82), (.ref b82)])) rfl (hb hby at_286)) ?_
          show Done _ p e below s _ _ (T100.setTop (mkF m 289 #[.val (.long v), .second, .val (.long mm), .second, .val (.int sel), .val (.long (v &&& (9223372036854775807 : Int64))), .second, .val (.int (sel &&& (3 : Int32))), .val (.long n), .second, .unset, .unset, .unset] [(.long (1000000000 : Int64)), (.long n), (.int (9 : Int32)), (.ref b82), (.ref b82)]))
          refine Done.callSP X100 hx hZ hown (wAt hw 3 rfl) (wAt hw 4 rfl) (wAt hw 5 rfl) (wAt hw 6 rfl) (by decide) (rmd l Z a0 hw [] n (1000000000 : Int64) h100 n0 Zs100 (by decide)) e100 (g := (mkF m 289 #[.val (.long v), .second, .val (.long mm), .second, .val (.int sel), .val (.long (v &&& (9223372036854775807 : Int64))), .second, .val (.int (sel &&& (3 : Int32))), .val (.long n), .second, .unset, .unset, .unset] [(.long (1000000000 : Int64)), (.long n), (.int (9 : Int32)), (.ref b82), (.ref b82)])) rfl (by rw [hml]; rfl) [(.long n), (.long (1000000000 : Int64))] [(.int (9 : Int32)), (.ref b82), (.ref b82)] 3 (lenOf pd_4 rfl) rfl rfl (by show 2 * 0 + _ ≤ _; exact Nat.le_of_eq rfl) (hb hby at_289) (by decide) (by decide) (by decide) (by decide) rfl rfl ?_
          intro T101 X101 e101
          show Done _ p e below s _ _ (T101.setTop (mkF m 292 #[.val (.long v), .second, .val (.long mm), .second, .val (.int sel), .val (.long (v &&& (9223372036854775807 : Int64))), .second, .val (.int (sel &&& (3 : Int32))), .val (.long n), .second, .unset, .unset, .unset] [(.int (own_dg n (1000000000 : Int64))), (.int (9 : Int32)), (.ref b82), (.ref b82)]))
          obtain ⟨cl102, Ar102, q102, S102, Nn102, H102, G102⟩ := V100
          have hin102 : ¬ ((9 : Int32) < 0 ∨ cl102.slots.size ≤ ((9 : Int32)).toNatClampNeg) := inb_of S102 ⟨by decide, by decide⟩
          obtain ⟨T102, h102, X102, e102, W102, st102⟩ := stC X101 hx hZ e101 Ar102 (j := (9 : Int32)) hin102 (g := (mkF m 292 #[.val (.long v), .second, .val (.long mm), .second, .val (.int sel), .val (.long (v &&& (9223372036854775807 : Int64))), .second, .val (.int (sel &&& (3 : Int32))), .val (.long n), .second, .unset, .unset, .unset] [(.int (own_dg n (1000000000 : Int64))), (.int (9 : Int32)), (.ref b82), (.ref b82)])) rfl rfl (hb hby at_292)
          have V102 := Arv.set Ar102 q102 S102 Nn102 H102 G102 (fits_nar_char _) W102 9 rfl (Nat.le_of_ble_eq_true rfl)
          have N102 := Fr.snoc X102 N100 n0_b82
          have Zs102 := Nat.le_trans Zs100 (Keep.of_wr W102).1
          have hk := Nat.le_trans hk (Keep.of_wr W102).1
          refine Done.step st102 ?_
          show Done _ p e below s _ _ (T102.setTop (mkF m 293 #[.val (.long v), .second, .val (.long mm), .second, .val (.int sel), .val (.long (v &&& (9223372036854775807 : Int64))), .second, .val (.int (sel &&& (3 : Int32))), .val (.long n), .second, .unset, .unset, .unset] [(.ref b82)]))
          refine Done.step (fun _ => XS.dup X102.here hx rfl (hb hby at_293) rfl rfl) ?_
          show Done _ p e below s _ _ (T102.setTop (mkF m 294 #[.val (.long v), .second, .val (.long mm), .second, .val (.int sel), .val (.long (v &&& (9223372036854775807 : Int64))), .second, .val (.int (sel &&& (3 : Int32))), .val (.long n), .second, .unset, .unset, .unset] [(.ref b82), (.ref b82)]))
          refine Done.step (fun _ => XT.bipushV X102.here hx rfl (10 : Int32) (hb hby at_294) (by decide)) ?_
          show Done _ p e below s _ _ (T102.setTop (mkF m 296 #[.val (.long v), .second, .val (.long mm), .second, .val (.int sel), .val (.long (v &&& (9223372036854775807 : Int64))), .second, .val (.int (sel &&& (3 : Int32))), .val (.long n), .second, .unset, .unset, .unset] [(.int (10 : Int32)), (.ref b82), (.ref b82)]))
          refine Done.step (fun _ => XT.lload X102.here hx rfl (hb hby at_296) rfl) ?_
          show Done _ p e below s _ _ (T102.setTop (mkF m 298 #[.val (.long v), .second, .val (.long mm), .second, .val (.int sel), .val (.long (v &&& (9223372036854775807 : Int64))), .second, .val (.int (sel &&& (3 : Int32))), .val (.long n), .second, .unset, .unset, .unset] [(.long n), (.int (10 : Int32)), (.ref b82), (.ref b82)]))
          refine Done.step (fun _ => Stand.ldc2J X102 hx hown (mvT hZ (wAt hw 99 rfl)) (g := (mkF m 298 #[.val (.long v), .second, .val (.long mm), .second, .val (.int sel), .val (.long (v &&& (9223372036854775807 : Int64))), .second, .val (.int (sel &&& (3 : Int32))), .val (.long n), .second, .unset, .unset, .unset] [(.long n), (.int (10 : Int32)), (.ref b82), (.ref b82)])) rfl (hb hby at_298)) ?_
          show Done _ p e below s _ _ (T102.setTop (mkF m 301 #[.val (.long v), .second, .val (.long mm), .second, .val (.int sel), .val (.long (v &&& (9223372036854775807 : Int64))), .second, .val (.int (sel &&& (3 : Int32))), .val (.long n), .second, .unset, .unset, .unset] [(.long (100000000 : Int64)), (.long n), (.int (10 : Int32)), (.ref b82), (.ref b82)]))
          refine Done.callSP X102 hx hZ hown (wAt hw 3 rfl) (wAt hw 4 rfl) (wAt hw 5 rfl) (wAt hw 6 rfl) (by decide) (rmd l Z a0 hw [] n (100000000 : Int64) h102 n0 Zs102 (by decide)) e102 (g := (mkF m 301 #[.val (.long v), .second, .val (.long mm), .second, .val (.int sel), .val (.long (v &&& (9223372036854775807 : Int64))), .second, .val (.int (sel &&& (3 : Int32))), .val (.long n), .second, .unset, .unset, .unset] [(.long (100000000 : Int64)), (.long n), (.int (10 : Int32)), (.ref b82), (.ref b82)])) rfl (by rw [hml]; rfl) [(.long n), (.long (100000000 : Int64))] [(.int (10 : Int32)), (.ref b82), (.ref b82)] 3 (lenOf pd_4 rfl) rfl rfl (by show 2 * 0 + _ ≤ _; exact Nat.le_of_eq rfl) (hb hby at_301) (by decide) (by decide) (by decide) (by decide) rfl rfl ?_
          intro T103 X103 e103
          show Done _ p e below s _ _ (T103.setTop (mkF m 304 #[.val (.long v), .second, .val (.long mm), .second, .val (.int sel), .val (.long (v &&& (9223372036854775807 : Int64))), .second, .val (.int (sel &&& (3 : Int32))), .val (.long n), .second, .unset, .unset, .unset] [(.int (own_dg n (100000000 : Int64))), (.int (10 : Int32)), (.ref b82), (.ref b82)]))
          obtain ⟨cl104, Ar104, q104, S104, Nn104, H104, G104⟩ := V102
          have hin104 : ¬ ((10 : Int32) < 0 ∨ cl104.slots.size ≤ ((10 : Int32)).toNatClampNeg) := inb_of S104 ⟨by decide, by decide⟩
          obtain ⟨T104, h104, X104, e104, W104, st104⟩ := stC X103 hx hZ e103 Ar104 (j := (10 : Int32)) hin104 (g := (mkF m 304 #[.val (.long v), .second, .val (.long mm), .second, .val (.int sel), .val (.long (v &&& (9223372036854775807 : Int64))), .second, .val (.int (sel &&& (3 : Int32))), .val (.long n), .second, .unset, .unset, .unset] [(.int (own_dg n (100000000 : Int64))), (.int (10 : Int32)), (.ref b82), (.ref b82)])) rfl rfl (hb hby at_304)
          have V104 := Arv.set Ar104 q104 S104 Nn104 H104 G104 (fits_nar_char _) W104 10 rfl (Nat.le_of_ble_eq_true rfl)
          have N104 := Fr.snoc X104 N102 n0_b82
          have Zs104 := Nat.le_trans Zs102 (Keep.of_wr W104).1
          have hk := Nat.le_trans hk (Keep.of_wr W104).1
          refine Done.step st104 ?_
          show Done _ p e below s _ _ (T104.setTop (mkF m 305 #[.val (.long v), .second, .val (.long mm), .second, .val (.int sel), .val (.long (v &&& (9223372036854775807 : Int64))), .second, .val (.int (sel &&& (3 : Int32))), .val (.long n), .second, .unset, .unset, .unset] [(.ref b82)]))
          refine Done.step (fun _ => XS.dup X104.here hx rfl (hb hby at_305) rfl rfl) ?_
          show Done _ p e below s _ _ (T104.setTop (mkF m 306 #[.val (.long v), .second, .val (.long mm), .second, .val (.int sel), .val (.long (v &&& (9223372036854775807 : Int64))), .second, .val (.int (sel &&& (3 : Int32))), .val (.long n), .second, .unset, .unset, .unset] [(.ref b82), (.ref b82)]))
          refine Done.step (fun _ => XT.bipushV X104.here hx rfl (11 : Int32) (hb hby at_306) (by decide)) ?_
          show Done _ p e below s _ _ (T104.setTop (mkF m 308 #[.val (.long v), .second, .val (.long mm), .second, .val (.int sel), .val (.long (v &&& (9223372036854775807 : Int64))), .second, .val (.int (sel &&& (3 : Int32))), .val (.long n), .second, .unset, .unset, .unset] [(.int (11 : Int32)), (.ref b82), (.ref b82)]))
          refine Done.step (fun _ => XT.lload X104.here hx rfl (hb hby at_308) rfl) ?_
          show Done _ p e below s _ _ (T104.setTop (mkF m 310 #[.val (.long v), .second, .val (.long mm), .second, .val (.int sel), .val (.long (v &&& (9223372036854775807 : Int64))), .second, .val (.int (sel &&& (3 : Int32))), .val (.long n), .second, .unset, .unset, .unset] [(.long n), (.int (11 : Int32)), (.ref b82), (.ref b82)]))
          refine Done.step (fun _ => Stand.ldc2J X104 hx hown (mvT hZ (wAt hw 100 rfl)) (g := (mkF m 310 #[.val (.long v), .second, .val (.long mm), .second, .val (.int sel), .val (.long (v &&& (9223372036854775807 : Int64))), .second, .val (.int (sel &&& (3 : Int32))), .val (.long n), .second, .unset, .unset, .unset] [(.long n), (.int (11 : Int32)), (.ref b82), (.ref b82)])) rfl (hb hby at_310)) ?_
          show Done _ p e below s _ _ (T104.setTop (mkF m 313 #[.val (.long v), .second, .val (.long mm), .second, .val (.int sel), .val (.long (v &&& (9223372036854775807 : Int64))), .second, .val (.int (sel &&& (3 : Int32))), .val (.long n), .second, .unset, .unset, .unset] [(.long (10000000 : Int64)), (.long n), (.int (11 : Int32)), (.ref b82), (.ref b82)]))
          refine Done.callSP X104 hx hZ hown (wAt hw 3 rfl) (wAt hw 4 rfl) (wAt hw 5 rfl) (wAt hw 6 rfl) (by decide) (rmd l Z a0 hw [] n (10000000 : Int64) h104 n0 Zs104 (by decide)) e104 (g := (mkF m 313 #[.val (.long v), .second, .val (.long mm), .second, .val (.int sel), .val (.long (v &&& (9223372036854775807 : Int64))), .second, .val (.int (sel &&& (3 : Int32))), .val (.long n), .second, .unset, .unset, .unset] [(.long (10000000 : Int64)), (.long n), (.int (11 : Int32)), (.ref b82), (.ref b82)])) rfl (by rw [hml]; rfl) [(.long n), (.long (10000000 : Int64))] [(.int (11 : Int32)), (.ref b82), (.ref b82)] 3 (lenOf pd_4 rfl) rfl rfl (by show 2 * 0 + _ ≤ _; exact Nat.le_of_eq rfl) (hb hby at_313) (by decide) (by decide) (by decide) (by decide) rfl rfl ?_
          intro T105 X105 e105
          show Done _ p e below s _ _ (T105.setTop (mkF m 316 #[.val (.long v), .second, .val (.long mm), .second, .val (.int sel), .val (.long (v &&& (9223372036854775807 : Int64))), .second, .val (.int (sel &&& (3 : Int32))), .val (.long n), .second, .unset, .unset, .unset] [(.int (own_dg n (10000000 : Int64))), (.int (11 : Int32)), (.ref b82), (.ref b82)]))
          obtain ⟨cl106, Ar106, q106, S106, Nn106, H106, G106⟩ := V104
          have hin106 : ¬ ((11 : Int32) < 0 ∨ cl106.slots.size ≤ ((11 : Int32)).toNatClampNeg) := inb_of S106 ⟨by decide, by decide⟩
          obtain ⟨T106, h106, X106, e106, W106, st106⟩ := stC X105 hx hZ e105 Ar106 (j := (11 : Int32)) hin106 (g := (mkF m 316 #[.val (.long v), .second, .val (.long mm), .second, .val (.int sel), .val (.long (v &&& (9223372036854775807 : Int64))), .second, .val (.int (sel &&& (3 : Int32))), .val (.long n), .second, .unset, .unset, .unset] [(.int (own_dg n (10000000 : Int64))), (.int (11 : Int32)), (.ref b82), (.ref b82)])) rfl rfl (hb hby at_316)
          have V106 := Arv.set Ar106 q106 S106 Nn106 H106 G106 (fits_nar_char _) W106 11 rfl (Nat.le_of_ble_eq_true rfl)
          have N106 := Fr.snoc X106 N104 n0_b82
          have Zs106 := Nat.le_trans Zs104 (Keep.of_wr W106).1
          have hk := Nat.le_trans hk (Keep.of_wr W106).1
          refine Done.step st106 ?_
          show Done _ p e below s _ _ (T106.setTop (mkF m 317 #[.val (.long v), .second, .val (.long mm), .second, .val (.int sel), .val (.long (v &&& (9223372036854775807 : Int64))), .second, .val (.int (sel &&& (3 : Int32))), .val (.long n), .second, .unset, .unset, .unset] [(.ref b82)]))
          refine Done.step (fun _ => XS.dup X106.here hx rfl (hb hby at_317) rfl rfl) ?_
          show Done _ p e below s _ _ (T106.setTop (mkF m 318 #[.val (.long v), .second, .val (.long mm), .second, .val (.int sel), .val (.long (v &&& (9223372036854775807 : Int64))), .second, .val (.int (sel &&& (3 : Int32))), .val (.long n), .second, .unset, .unset, .unset] [(.ref b82), (.ref b82)]))
          refine Done.step (fun _ => XT.bipushV X106.here hx rfl (12 : Int32) (hb hby at_318) (by decide)) ?_
          show Done _ p e below s _ _ (T106.setTop (mkF m 320 #[.val (.long v), .second, .val (.long mm), .second, .val (.int sel), .val (.long (v &&& (9223372036854775807 : Int64))), .second, .val (.int (sel &&& (3 : Int32))), .val (.long n), .second, .unset, .unset, .unset] [(.int (12 : Int32)), (.ref b82), (.ref b82)]))
          refine Done.step (fun _ => XT.lload X106.here hx rfl (hb hby at_320) rfl) ?_
          show Done _ p e below s _ _ (T106.setTop (mkF m 322 #[.val (.long v), .second, .val (.long mm), .second, .val (.int sel), .val (.long (v &&& (9223372036854775807 : Int64))), .second, .val (.int (sel &&& (3 : Int32))), .val (.long n), .second, .unset, .unset, .unset] [(.long n), (.int (12 : Int32)), (.ref b82), (.ref b82)]))
          refine Done.step (fun _ => Stand.ldc2J X106 hx hown (mvT hZ (wAt hw 101 rfl)) (g := (mkF m 322 #[.val (.long v), .second, .val (.long mm), .second, .val (.int sel), .val (.long (v &&& (9223372036854775807 : Int64))), .second, .val (.int (sel &&& (3 : Int32))), .val (.long n), .second, .unset, .unset, .unset] [(.long n), (.int (12 : Int32)), (.ref b82), (.ref b82)])) rfl (hb hby at_322)) ?_
          show Done _ p e below s _ _ (T106.setTop (mkF m 325 #[.val (.long v), .second, .val (.long mm), .second, .val (.int sel), .val (.long (v &&& (9223372036854775807 : Int64))), .second, .val (.int (sel &&& (3 : Int32))), .val (.long n), .second, .unset, .unset, .unset] [(.long (1000000 : Int64)), (.long n), (.int (12 : Int32)), (.ref b82), (.ref b82)]))
          refine Done.callSP X106 hx hZ hown (wAt hw 3 rfl) (wAt hw 4 rfl) (wAt hw 5 rfl) (wAt hw 6 rfl) (by decide) (rmd l Z a0 hw [] n (1000000 : Int64) h106 n0 Zs106 (by decide)) e106 (g := (mkF m 325 #[.val (.long v), .second, .val (.long mm), .second, .val (.int sel), .val (.long (v &&& (9223372036854775807 : Int64))), .second, .val (.int (sel &&& (3 : Int32))), .val (.long n), .second, .unset, .unset, .unset] [(.long (1000000 : Int64)), (.long n), (.int (12 : Int32)), (.ref b82), (.ref b82)])) rfl (by rw [hml]; rfl) [(.long n), (.long (1000000 : Int64))] [(.int (12 : Int32)), (.ref b82), (.ref b82)] 3 (lenOf pd_4 rfl) rfl rfl (by show 2 * 0 + _ ≤ _; exact Nat.le_of_eq rfl) (hb hby at_325) (by decide) (by decide) (by decide) (by decide) rfl rfl ?_
          intro T107 X107 e107
          show Done _ p e below s _ _ (T107.setTop (mkF m 328 #[.val (.long v), .second, .val (.long mm), .second, .val (.int sel), .val (.long (v &&& (9223372036854775807 : Int64))), .second, .val (.int (sel &&& (3 : Int32))), .val (.long n), .second, .unset, .unset, .unset] [(.int (own_dg n (1000000 : Int64))), (.int (12 : Int32)), (.ref b82), (.ref b82)]))
          obtain ⟨cl108, Ar108, q108, S108, Nn108, H108, G108⟩ := V106
          have hin108 : ¬ ((12 : Int32) < 0 ∨ cl108.slots.size ≤ ((12 : Int32)).toNatClampNeg) := inb_of S108 ⟨by decide, by decide⟩
          obtain ⟨T108, h108, X108, e108, W108, st108⟩ := stC X107 hx hZ e107 Ar108 (j := (12 : Int32)) hin108 (g := (mkF m 328 #[.val (.long v), .second, .val (.long mm), .second, .val (.int sel), .val (.long (v &&& (9223372036854775807 : Int64))), .second, .val (.int (sel &&& (3 : Int32))), .val (.long n), .second, .unset, .unset, .unset] [(.int (own_dg n (1000000 : Int64))), (.int (12 : Int32)), (.ref b82), (.ref b82)])) rfl rfl (hb hby at_328)
          have V108 := Arv.set Ar108 q108 S108 Nn108 H108 G108 (fits_nar_char _) W108 12 rfl (Nat.le_of_ble_eq_true rfl)
          have N108 := Fr.snoc X108 N106 n0_b82
          have Zs108 := Nat.le_trans Zs106 (Keep.of_wr W108).1
          have hk := Nat.le_trans hk (Keep.of_wr W108).1
          refine Done.step st108 ?_
          show Done _ p e below s _ _ (T108.setTop (mkF m 329 #[.val (.long v), .second, .val (.long mm), .second, .val (.int sel), .val (.long (v &&& (9223372036854775807 : Int64))), .second, .val (.int (sel &&& (3 : Int32))), .val (.long n), .second, .unset, .unset, .unset] [(.ref b82)]))
          refine Done.step (fun _ => XS.dup X108.here hx rfl (hb hby at_329) rfl rfl) ?_
          show Done _ p e below s _ _ (T108.setTop (mkF m 330 #[.val (.long v), .second, .val (.long mm), .second, .val (.int sel), .val (.long (v &&& (9223372036854775807 : Int64))), .second, .val (.int (sel &&& (3 : Int32))), .val (.long n), .second, .unset, .unset, .unset] [(.ref b82), (.ref b82)]))
          refine Done.step (fun _ => XT.bipushV X108.here hx rfl (13 : Int32) (hb hby at_330) (by decide)) ?_
          show Done _ p e below s _ _ (T108.setTop (mkF m 332 #[.val (.long v), .second, .val (.long mm), .second, .val (.int sel), .val (.long (v &&& (9223372036854775807 : Int64))), .second, .val (.int (sel &&& (3 : Int32))), .val (.long n), .second, .unset, .unset, .unset] [(.int (13 : Int32)), (.ref b82), (.ref b82)]))
          refine Done.step (fun _ => XT.lload X108.here hx rfl (hb hby at_332) rfl) ?_
          show Done _ p e below s _ _ (T108.setTop (mkF m 334 #[.val (.long v), .second, .val (.long mm), .second, .val (.int sel), .val (.long (v &&& (9223372036854775807 : Int64))), .second, .val (.int (sel &&& (3 : Int32))), .val (.long n), .second, .unset, .unset, .unset] [(.long n), (.int (13 : Int32)), (.ref b82), (.ref b82)]))
          refine Done.step (fun _ => Stand.ldc2J X108 hx hown (mvT hZ (wAt hw 102 rfl)) (g := (mkF m 334 #[.val (.long v), .second, .val (.long mm), .second, .val (.int sel), .val (.long (v &&& (9223372036854775807 : Int64))), .second, .val (.int (sel &&& (3 : Int32))), .val (.long n), .second, .unset, .unset, .unset] [(.long n), (.int (13 : Int32)), (.ref b82), (.ref b82)])) rfl (hb hby at_334)) ?_
          show Done _ p e below s _ _ (T108.setTop (mkF m 337 #[.val (.long v), .second, .val (.long mm), .second, .val (.int sel), .val (.long (v &&& (9223372036854775807 : Int64))), .second, .val (.int (sel &&& (3 : Int32))), .val (.long n), .second, .unset, .unset, .unset] [(.long (100000 : Int64)), (.long n), (.int (13 : Int32)), (.ref b82), (.ref b82)]))
          refine Done.callSP X108 hx hZ hown (wAt hw 3 rfl) (wAt hw 4 rfl) (wAt hw 5 rfl) (wAt hw 6 rfl) (by decide) (rmd l Z a0 hw [] n (100000 : Int64) h108 n0 Zs108 (by decide)) e108 (g := (mkF m 337 #[.val (.long v), .second, .val (.long mm), .second, .val (.int sel), .val (.long (v &&& (9223372036854775807 : Int64))), .second, .val (.int (sel &&& (3 : Int32))), .val (.long n), .second, .unset, .unset, .unset] [(.long (100000 : Int64)), (.long n), (.int (13 : Int32)), (.ref b82), (.ref b82)])) rfl (by rw [hml]; rfl) [(.long n), (.long (100000 : Int64))] [(.int (13 : Int32)), (.ref b82), (.ref b82)] 3 (lenOf pd_4 rfl) rfl rfl (by show 2 * 0 + _ ≤ _; exact Nat.le_of_eq rfl) (hb hby at_337) (by decide) (by decide) (by decide) (by decide) rfl rfl ?_
          intro T109 X109 e109
          show Done _ p e below s _ _ (T109.setTop (mkF m 340 #[.val (.long v), .second, .val (.long mm), .second, .val (.int sel), .val (.long (v &&& (9223372036854775807 : Int64))), .second, .val (.int (sel &&& (3 : Int32))), .val (.long n), .second, .unset, .unset, .unset] [(.int (own_dg n (100000 : Int64))), (.int (13 : Int32)), (.ref b82), (.ref b82)]))
          obtain ⟨cl110, Ar110, q110, S110, Nn110, H110, G110⟩ := V108
          have hin110 : ¬ ((13 : Int32) < 0 ∨ cl110.slots.size ≤ ((13 : Int32)).toNatClampNeg) := inb_of S110 ⟨by decide, by decide⟩
          obtain ⟨T110, h110, X110, e110, W110, st110⟩ := stC X109 hx hZ e109 Ar110 (j := (13 : Int32)) hin110 (g := (mkF m 340 #[.val (.long v), .second, .val (.long mm), .second, .val (.int sel), .val (.long (v &&& (9223372036854775807 : Int64))), .second, .val (.int (sel &&& (3 : Int32))), .val (.long n), .second, .unset, .unset, .unset] [(.int (own_dg n (100000 : Int64))), (.int (13 : Int32)), (.ref b82), (.ref b82)])) rfl rfl (hb hby at_340)
          have V110 := Arv.set Ar110 q110 S110 Nn110 H110 G110 (fits_nar_char _) W110 13 rfl (Nat.le_of_ble_eq_true rfl)
          have N110 := Fr.snoc X110 N108 n0_b82
          have Zs110 := Nat.le_trans Zs108 (Keep.of_wr W110).1
          have hk := Nat.le_trans hk (Keep.of_wr W110).1
          refine Done.step st110 ?_
          show Done _ p e below s _ _ (T110.setTop (mkF m 341 #[.val (.long v), .second, .val (.long mm), .second, .val (.int sel), .val (.long (v &&& (9223372036854775807 : Int64))), .second, .val (.int (sel &&& (3 : Int32))), .val (.long n), .second, .unset, .unset, .unset] [(.ref b82)]))
          refine Done.step (fun _ => XS.dup X110.here hx rfl (hb hby at_341) rfl rfl) ?_
          show Done _ p e below s _ _ (T110.setTop (mkF m 342 #[.val (.long v), .second, .val (.long mm), .second, .val (.int sel), .val (.long (v &&& (9223372036854775807 : Int64))), .second, .val (.int (sel &&& (3 : Int32))), .val (.long n), .second, .unset, .unset, .unset] [(.ref b82), (.ref b82)]))
          refine Done.step (fun _ => XT.bipushV X110.here hx rfl (14 : Int32) (hb hby at_342) (by decide)) ?_
          show Done _ p e below s _ _ (T110.setTop (mkF m 344 #[.val (.long v), .second, .val (.long mm), .second, .val (.int sel), .val (.long (v &&& (9223372036854775807 : Int64))), .second, .val (.int (sel &&& (3 : Int32))), .val (.long n), .second, .unset, .unset, .unset] [(.int (14 : Int32)), (.ref b82), (.ref b82)]))
          refine Done.step (fun _ => XT.lload X110.here hx rfl (hb hby at_344) rfl) ?_
          show Done _ p e below s _ _ (T110.setTop (mkF m 346 #[.val (.long v), .second, .val (.long mm), .second, .val (.int sel), .val (.long (v &&& (9223372036854775807 : Int64))), .second, .val (.int (sel &&& (3 : Int32))), .val (.long n), .second, .unset, .unset, .unset] [(.long n), (.int (14 : Int32)), (.ref b82), (.ref b82)]))
          refine Done.step (fun _ => Stand.ldc2J X110 hx hown (mvT hZ (wAt hw 103 rfl)) (g := (mkF m 346 #[.val (.long v), .second, .val (.long mm), .second, .val (.int sel), .val (.long (v &&& (9223372036854775807 : Int64))), .second, .val (.int (sel &&& (3 : Int32))), .val (.long n), .second, .unset, .unset, .unset] [(.long n), (.int (14 : Int32)), (.ref b82), (.ref b82)])) rfl (hb hby at_346)) ?_
          show Done _ p e below s _ _ (T110.setTop (mkF m 349 #[.val (.long v), .second, .val (.long mm), .second, .val (.int sel), .val (.long (v &&& (9223372036854775807 : Int64))), .second, .val (.int (sel &&& (3 : Int32))), .val (.long n), .second, .unset, .unset, .unset] [(.long (10000 : Int64)), (.long n), (.int (14 : Int32)), (.ref b82), (.ref b82)]))
          refine Done.callSP X110 hx hZ hown (wAt hw 3 rfl) (wAt hw 4 rfl) (wAt hw 5 rfl) (wAt hw 6 rfl) (by decide) (rmd l Z a0 hw [] n (10000 : Int64) h110 n0 Zs110 (by decide)) e110 (g := (mkF m 349 #[.val (.long v), .second, .val (.long mm), .second, .val (.int sel), .val (.long (v &&& (9223372036854775807 : Int64))), .second, .val (.int (sel &&& (3 : Int32))), .val (.long n), .second, .unset, .unset, .unset] [(.long (10000 : Int64)), (.long n), (.int (14 : Int32)), (.ref b82), (.ref b82)])) rfl (by rw [hml]; rfl) [(.long n), (.long (10000 : Int64))] [(.int (14 : Int32)), (.ref b82), (.ref b82)] 3 (lenOf pd_4 rfl) rfl rfl (by show 2 * 0 + _ ≤ _; exact Nat.le_of_eq rfl) (hb hby at_349) (by decide) (by decide) (by decide) (by decide) rfl rfl ?_
          intro T111 X111 e111
          show Done _ p e below s _ _ (T111.setTop (mkF m 352 #[.val (.long v), .second, .val (.long mm), .second, .val (.int sel), .val (.long (v &&& (9223372036854775807 : Int64))), .second, .val (.int (sel &&& (3 : Int32))), .val (.long n), .second, .unset, .unset, .unset] [(.int (own_dg n (10000 : Int64))), (.int (14 : Int32)), (.ref b82), (.ref b82)]))
          obtain ⟨cl112, Ar112, q112, S112, Nn112, H112, G112⟩ := V110
          have hin112 : ¬ ((14 : Int32) < 0 ∨ cl112.slots.size ≤ ((14 : Int32)).toNatClampNeg) := inb_of S112 ⟨by decide, by decide⟩
          obtain ⟨T112, h112, X112, e112, W112, st112⟩ := stC X111 hx hZ e111 Ar112 (j := (14 : Int32)) hin112 (g := (mkF m 352 #[.val (.long v), .second, .val (.long mm), .second, .val (.int sel), .val (.long (v &&& (9223372036854775807 : Int64))), .second, .val (.int (sel &&& (3 : Int32))), .val (.long n), .second, .unset, .unset, .unset] [(.int (own_dg n (10000 : Int64))), (.int (14 : Int32)), (.ref b82), (.ref b82)])) rfl rfl (hb hby at_352)
          have V112 := Arv.set Ar112 q112 S112 Nn112 H112 G112 (fits_nar_char _) W112 14 rfl (Nat.le_of_ble_eq_true rfl)
          have N112 := Fr.snoc X112 N110 n0_b82
          have Zs112 := Nat.le_trans Zs110 (Keep.of_wr W112).1
          have hk := Nat.le_trans hk (Keep.of_wr W112).1
          refine Done.step st112 ?_
          show Done _ p e below s _ _ (T112.setTop (mkF m 353 #[.val (.long v), .second, .val (.long mm), .second, .val (.int sel), .val (.long (v &&& (9223372036854775807 : Int64))), .second, .val (.int (sel &&& (3 : Int32))), .val (.long n), .second, .unset, .unset, .unset] [(.ref b82)]))
          refine Done.step (fun _ => XS.dup X112.here hx rfl (hb hby at_353) rfl rfl) ?_
          show Done _ p e below s _ _ (T112.setTop (mkF m 354 #[.val (.long v), .second, .val (.long mm), .second, .val (.int sel), .val (.long (v &&& (9223372036854775807 : Int64))), .second, .val (.int (sel &&& (3 : Int32))), .val (.long n), .second, .unset, .unset, .unset] [(.ref b82), (.ref b82)]))
          refine Done.step (fun _ => XT.bipushV X112.here hx rfl (15 : Int32) (hb hby at_354) (by decide)) ?_
          show Done _ p e below s _ _ (T112.setTop (mkF m 356 #[.val (.long v), .second, .val (.long mm), .second, .val (.int sel), .val (.long (v &&& (9223372036854775807 : Int64))), .second, .val (.int (sel &&& (3 : Int32))), .val (.long n), .second, .unset, .unset, .unset] [(.int (15 : Int32)), (.ref b82), (.ref b82)]))
          refine Done.step (fun _ => XT.lload X112.here hx rfl (hb hby at_356) rfl) ?_
          show Done _ p e below s _ _ (T112.setTop (mkF m 358 #[.val (.long v), .second, .val (.long mm), .second, .val (.int sel), .val (.long (v &&& (9223372036854775807 : Int64))), .second, .val (.int (sel &&& (3 : Int32))), .val (.long n), .second, .unset, .unset, .unset] [(.long n), (.int (15 : Int32)), (.ref b82), (.ref b82)]))
          refine Done.step (fun _ => Stand.ldc2J X112 hx hown (mvT hZ (wAt hw 104 rfl)) (g := (mkF m 358 #[.val (.long v), .second, .val (.long mm), .second, .val (.int sel), .val (.long (v &&& (9223372036854775807 : Int64))), .second, .val (.int (sel &&& (3 : Int32))), .val (.long n), .second, .unset, .unset, .unset] [(.long n), (.int (15 : Int32)), (.ref b82), (.ref b82)])) rfl (hb hby at_358)) ?_
          show Done _ p e below s _ _ (T112.setTop (mkF m 361 #[.val (.long v), .second, .val (.long mm), .second, .val (.int sel), .val (.long (v &&& (9223372036854775807 : Int64))), .second, .val (.int (sel &&& (3 : Int32))), .val (.long n), .second, .unset, .unset, .unset] [(.long (1000 : Int64)), (.long n), (.int (15 : Int32)), (.ref b82), (.ref b82)]))
          refine Done.callSP X112 hx hZ hown (wAt hw 3 rfl) (wAt hw 4 rfl) (wAt hw 5 rfl) (wAt hw 6 rfl) (by decide) (rmd l Z a0 hw [] n (1000 : Int64) h112 n0 Zs112 (by decide)) e112 (g := (mkF m 361 #[.val (.long v), .second, .val (.long mm), .second, .val (.int sel), .val (.long (v &&& (9223372036854775807 : Int64))), .second, .val (.int (sel &&& (3 : Int32))), .val (.long n), .second, .unset, .unset, .unset] [(.long (1000 : Int64)), (.long n), (.int (15 : Int32)), (.ref b82), (.ref b82)])) rfl (by rw [hml]; rfl) [(.long n), (.long (1000 : Int64))] [(.int (15 : Int32)), (.ref b82), (.ref b82)] 3 (lenOf pd_4 rfl) rfl rfl (by show 2 * 0 + _ ≤ _; exact Nat.le_of_eq rfl) (hb hby at_361) (by decide) (by decide) (by decide) (by decide) rfl rfl ?_
          intro T113 X113 e113
          show Done _ p e below s _ _ (T113.setTop (mkF m 364 #[.val (.long v), .second, .val (.long mm), .second, .val (.int sel), .val (.long (v &&& (9223372036854775807 : Int64))), .second, .val (.int (sel &&& (3 : Int32))), .val (.long n), .second, .unset, .unset, .unset] [(.int (own_dg n (1000 : Int64))), (.int (15 : Int32)), (.ref b82), (.ref b82)]))
          obtain ⟨cl114, Ar114, q114, S114, Nn114, H114, G114⟩ := V112
          have hin114 : ¬ ((15 : Int32) < 0 ∨ cl114.slots.size ≤ ((15 : Int32)).toNatClampNeg) := inb_of S114 ⟨by decide, by decide⟩
          obtain ⟨T114, h114, X114, e114, W114, st114⟩ := stC X113 hx hZ e113 Ar114 (j := (15 : Int32)) hin114 (g := (mkF m 364 #[.val (.long v), .second, .val (.long mm), .second, .val (.int sel), .val (.long (v &&& (9223372036854775807 : Int64))), .second, .val (.int (sel &&& (3 : Int32))), .val (.long n), .second, .unset, .unset, .unset] [(.int (own_dg n (1000 : Int64))), (.int (15 : Int32)), (.ref b82), (.ref b82)])) rfl rfl (hb hby at_364)
          have V114 := Arv.set Ar114 q114 S114 Nn114 H114 G114 (fits_nar_char _) W114 15 rfl (Nat.le_of_ble_eq_true rfl)
          have N114 := Fr.snoc X114 N112 n0_b82
          have Zs114 := Nat.le_trans Zs112 (Keep.of_wr W114).1
          have hk := Nat.le_trans hk (Keep.of_wr W114).1
          refine Done.step st114 ?_
          show Done _ p e below s _ _ (T114.setTop (mkF m 365 #[.val (.long v), .second, .val (.long mm), .second, .val (.int sel), .val (.long (v &&& (9223372036854775807 : Int64))), .second, .val (.int (sel &&& (3 : Int32))), .val (.long n), .second, .unset, .unset, .unset] [(.ref b82)]))
          refine Done.step (fun _ => XS.dup X114.here hx rfl (hb hby at_365) rfl rfl) ?_
          show Done _ p e below s _ _ (T114.setTop (mkF m 366 #[.val (.long v), .second, .val (.long mm), .second, .val (.int sel), .val (.long (v &&& (9223372036854775807 : Int64))), .second, .val (.int (sel &&& (3 : Int32))), .val (.long n), .second, .unset, .unset, .unset] [(.ref b82), (.ref b82)]))
          refine Done.step (fun _ => XT.bipushV X114.here hx rfl (16 : Int32) (hb hby at_366) (by decide)) ?_
          show Done _ p e below s _ _ (T114.setTop (mkF m 368 #[.val (.long v), .second, .val (.long mm), .second, .val (.int sel), .val (.long (v &&& (9223372036854775807 : Int64))), .second, .val (.int (sel &&& (3 : Int32))), .val (.long n), .second, .unset, .unset, .unset] [(.int (16 : Int32)), (.ref b82), (.ref b82)]))
          refine Done.step (fun _ => XT.lload X114.here hx rfl (hb hby at_368) rfl) ?_
          show Done _ p e below s _ _ (T114.setTop (mkF m 370 #[.val (.long v), .second, .val (.long mm), .second, .val (.int sel), .val (.long (v &&& (9223372036854775807 : Int64))), .second, .val (.int (sel &&& (3 : Int32))), .val (.long n), .second, .unset, .unset, .unset] [(.long n), (.int (16 : Int32)), (.ref b82), (.ref b82)]))
          refine Done.step (fun _ => Stand.ldc2J X114 hx hown (mvT hZ (wAt hw 105 rfl)) (g := (mkF m 370 #[.val (.long v), .second, .val (.long mm), .second, .val (.int sel), .val (.long (v &&& (9223372036854775807 : Int64))), .second, .val (.int (sel &&& (3 : Int32))), .val (.long n), .second, .unset, .unset, .unset] [(.long n), (.int (16 : Int32)), (.ref b82), (.ref b82)])) rfl (hb hby at_370)) ?_
          show Done _ p e below s _ _ (T114.setTop (mkF m 373 #[.val (.long v), .second, .val (.long mm), .second, .val (.int sel), .val (.long (v &&& (9223372036854775807 : Int64))), .second, .val (.int (sel &&& (3 : Int32))), .val (.long n), .second, .unset, .unset, .unset] [(.long (100 : Int64)), (.long n), (.int (16 : Int32)), (.ref b82), (.ref b82)]))
          refine Done.callSP X114 hx hZ hown (wAt hw 3 rfl) (wAt hw 4 rfl) (wAt hw 5 rfl) (wAt hw 6 rfl) (by decide) (rmd l Z a0 hw [] n (100 : Int64) h114 n0 Zs114 (by decide)) e114 (g := (mkF m 373 #[.val (.long v), .second, .val (.long mm), .second, .val (.int sel), .val (.long (v &&& (9223372036854775807 : Int64))), .second, .val (.int (sel &&& (3 : Int32))), .val (.long n), .second, .unset, .unset, .unset] [(.long (100 : Int64)), (.long n), (.int (16 : Int32)), (.ref b82), (.ref b82)])) rfl (by rw [hml]; rfl) [(.long n), (.long (100 : Int64))] [(.int (16 : Int32)), (.ref b82), (.ref b82)] 3 (lenOf pd_4 rfl) rfl rfl (by show 2 * 0 + _ ≤ _; exact Nat.le_of_eq rfl) (hb hby at_373) (by decide) (by decide) (by decide) (by decide) rfl rfl ?_
          intro T115 X115 e115
          show Done _ p e below s _ _ (T115.setTop (mkF m 376 #[.val (.long v), .second, .val (.long mm), .second, .val (.int sel), .val (.long (v &&& (9223372036854775807 : Int64))), .second, .val (.int (sel &&& (3 : Int32))), .val (.long n), .second, .unset, .unset, .unset] [(.int (own_dg n (100 : Int64))), (.int (16 : Int32)), (.ref b82), (.ref b82)]))
          obtain ⟨cl116, Ar116, q116, S116, Nn116, H116, G116⟩ := V114
          have hin116 : ¬ ((16 : Int32) < 0 ∨ cl116.slots.size ≤ ((16 : Int32)).toNatClampNeg) := inb_of S116 ⟨by decide, by decide⟩
          obtain ⟨T116, h116, X116, e116, W116, st116⟩ := stC X115 hx hZ e115 Ar116 (j := (16 : Int32)) hin116 (g := (mkF m 376 #[.val (.long v), .second, .val (.long mm), .second, .val (.int sel), .val (.long (v &&& (9223372036854775807 : Int64))), .second, .val (.int (sel &&& (3 : Int32))), .val (.long n), .second, .unset, .unset, .unset] [(.int (own_dg n (100 : Int64))), (.int (16 : Int32)), (.ref b82), (.ref b82)])) rfl rfl (hb hby at_376)
          have V116 := Arv.set Ar116 q116 S116 Nn116 H116 G116 (fits_nar_char _) W116 16 rfl (Nat.le_of_ble_eq_true rfl)
          have N116 := Fr.snoc X116 N114 n0_b82
          have Zs116 := Nat.le_trans Zs114 (Keep.of_wr W116).1
          have hk := Nat.le_trans hk (Keep.of_wr W116).1
          refine Done.step st116 ?_
          show Done _ p e below s _ _ (T116.setTop (mkF m 377 #[.val (.long v), .second, .val (.long mm), .second, .val (.int sel), .val (.long (v &&& (9223372036854775807 : Int64))), .second, .val (.int (sel &&& (3 : Int32))), .val (.long n), .second, .unset, .unset, .unset] [(.ref b82)]))
          refine Done.step (fun _ => XS.dup X116.here hx rfl (hb hby at_377) rfl rfl) ?_
          show Done _ p e below s _ _ (T116.setTop (mkF m 378 #[.val (.long v), .second, .val (.long mm), .second, .val (.int sel), .val (.long (v &&& (9223372036854775807 : Int64))), .second, .val (.int (sel &&& (3 : Int32))), .val (.long n), .second, .unset, .unset, .unset] [(.ref b82), (.ref b82)]))
          refine Done.step (fun _ => XT.bipushV X116.here hx rfl (17 : Int32) (hb hby at_378) (by decide)) ?_
          show Done _ p e below s _ _ (T116.setTop (mkF m 380 #[.val (.long v), .second, .val (.long mm), .second, .val (.int sel), .val (.long (v &&& (9223372036854775807 : Int64))), .second, .val (.int (sel &&& (3 : Int32))), .val (.long n), .second, .unset, .unset, .unset] [(.int (17 : Int32)), (.ref b82), (.ref b82)]))
          refine Done.step (fun _ => XT.lload X116.here hx rfl (hb hby at_380) rfl) ?_
          show Done _ p e below s _ _ (T116.setTop (mkF m 382 #[.val (.long v), .second, .val (.long mm), .second, .val (.int sel), .val (.long (v &&& (9223372036854775807 : Int64))), .second, .val (.int (sel &&& (3 : Int32))), .val (.long n), .second, .unset, .unset, .unset] [(.long n), (.int (17 : Int32)), (.ref b82), (.ref b82)]))
          refine Done.step (fun _ => Stand.ldc2J X116 hx hown (mvT hZ (wAt hw 1 rfl)) (g := (mkF m 382 #[.val (.long v), .second, .val (.long mm), .second, .val (.int sel), .val (.long (v &&& (9223372036854775807 : Int64))), .second, .val (.int (sel &&& (3 : Int32))), .val (.long n), .second, .unset, .unset, .unset] [(.long n), (.int (17 : Int32)), (.ref b82), (.ref b82)])) rfl (hb hby at_382)) ?_
          show Done _ p e below s _ _ (T116.setTop (mkF m 385 #[.val (.long v), .second, .val (.long mm), .second, .val (.int sel), .val (.long (v &&& (9223372036854775807 : Int64))), .second, .val (.int (sel &&& (3 : Int32))), .val (.long n), .second, .unset, .unset, .unset] [(.long (10 : Int64)), (.long n), (.int (17 : Int32)), (.ref b82), (.ref b82)]))
          refine Done.callSP X116 hx hZ hown (wAt hw 3 rfl) (wAt hw 4 rfl) (wAt hw 5 rfl) (wAt hw 6 rfl) (by decide) (rmd l Z a0 hw [] n (10 : Int64) h116 n0 Zs116 (by decide)) e116 (g := (mkF m 385 #[.val (.long v), .second, .val (.long mm), .second, .val (.int sel), .val (.long (v &&& (9223372036854775807 : Int64))), .second, .val (.int (sel &&& (3 : Int32))), .val (.long n), .second, .unset, .unset, .unset] [(.long (10 : Int64)), (.long n), (.int (17 : Int32)), (.ref b82), (.ref b82)])) rfl (by rw [hml]; rfl) [(.long n), (.long (10 : Int64))] [(.int (17 : Int32)), (.ref b82), (.ref b82)] 3 (lenOf pd_4 rfl) rfl rfl (by show 2 * 0 + _ ≤ _; exact Nat.le_of_eq rfl) (hb hby at_385) (by decide) (by decide) (by decide) (by decide) rfl rfl ?_
          intro T117 X117 e117
          show Done _ p e below s _ _ (T117.setTop (mkF m 388 #[.val (.long v), .second, .val (.long mm), .second, .val (.int sel), .val (.long (v &&& (9223372036854775807 : Int64))), .second, .val (.int (sel &&& (3 : Int32))), .val (.long n), .second, .unset, .unset, .unset] [(.int (own_dg n (10 : Int64))), (.int (17 : Int32)), (.ref b82), (.ref b82)]))
          obtain ⟨cl118, Ar118, q118, S118, Nn118, H118, G118⟩ := V116
          have hin118 : ¬ ((17 : Int32) < 0 ∨ cl118.slots.size ≤ ((17 : Int32)).toNatClampNeg) := inb_of S118 ⟨by decide, by decide⟩
          obtain ⟨T118, h118, X118, e118, W118, st118⟩ := stC X117 hx hZ e117 Ar118 (j := (17 : Int32)) hin118 (g := (mkF m 388 #[.val (.long v), .second, .val (.long mm), .second, .val (.int sel), .val (.long (v &&& (9223372036854775807 : Int64))), .second, .val (.int (sel &&& (3 : Int32))), .val (.long n), .second, .unset, .unset, .unset] [(.int (own_dg n (10 : Int64))), (.int (17 : Int32)), (.ref b82), (.ref b82)])) rfl rfl (hb hby at_388)
          have V118 := Arv.set Ar118 q118 S118 Nn118 H118 G118 (fits_nar_char _) W118 17 rfl (Nat.le_of_ble_eq_true rfl)
          have N118 := Fr.snoc X118 N116 n0_b82
          have Zs118 := Nat.le_trans Zs116 (Keep.of_wr W118).1
          have hk := Nat.le_trans hk (Keep.of_wr W118).1
          refine Done.step st118 ?_
          show Done _ p e below s _ _ (T118.setTop (mkF m 389 #[.val (.long v), .second, .val (.long mm), .second, .val (.int sel), .val (.long (v &&& (9223372036854775807 : Int64))), .second, .val (.int (sel &&& (3 : Int32))), .val (.long n), .second, .unset, .unset, .unset] [(.ref b82)]))
          refine Done.step (fun _ => XS.dup X118.here hx rfl (hb hby at_389) rfl rfl) ?_
          show Done _ p e below s _ _ (T118.setTop (mkF m 390 #[.val (.long v), .second, .val (.long mm), .second, .val (.int sel), .val (.long (v &&& (9223372036854775807 : Int64))), .second, .val (.int (sel &&& (3 : Int32))), .val (.long n), .second, .unset, .unset, .unset] [(.ref b82), (.ref b82)]))
          refine Done.step (fun _ => XT.bipushV X118.here hx rfl (18 : Int32) (hb hby at_390) (by decide)) ?_
          show Done _ p e below s _ _ (T118.setTop (mkF m 392 #[.val (.long v), .second, .val (.long mm), .second, .val (.int sel), .val (.long (v &&& (9223372036854775807 : Int64))), .second, .val (.int (sel &&& (3 : Int32))), .val (.long n), .second, .unset, .unset, .unset] [(.int (18 : Int32)), (.ref b82), (.ref b82)]))
          refine Done.step (fun _ => XT.lload X118.here hx rfl (hb hby at_392) rfl) ?_
          show Done _ p e below s _ _ (T118.setTop (mkF m 394 #[.val (.long v), .second, .val (.long mm), .second, .val (.int sel), .val (.long (v &&& (9223372036854775807 : Int64))), .second, .val (.int (sel &&& (3 : Int32))), .val (.long n), .second, .unset, .unset, .unset] [(.long n), (.int (18 : Int32)), (.ref b82), (.ref b82)]))
          refine Done.step (fun _ => XT.lconstV X118.here hx rfl (1 : Int64) (hb hby at_394) (by decide)) ?_
          show Done _ p e below s _ _ (T118.setTop (mkF m 395 #[.val (.long v), .second, .val (.long mm), .second, .val (.int sel), .val (.long (v &&& (9223372036854775807 : Int64))), .second, .val (.int (sel &&& (3 : Int32))), .val (.long n), .second, .unset, .unset, .unset] [(.long (1 : Int64)), (.long n), (.int (18 : Int32)), (.ref b82), (.ref b82)]))
          refine Done.callSP X118 hx hZ hown (wAt hw 3 rfl) (wAt hw 4 rfl) (wAt hw 5 rfl) (wAt hw 6 rfl) (by decide) (rmd l Z a0 hw [] n (1 : Int64) h118 n0 Zs118 (by decide)) e118 (g := (mkF m 395 #[.val (.long v), .second, .val (.long mm), .second, .val (.int sel), .val (.long (v &&& (9223372036854775807 : Int64))), .second, .val (.int (sel &&& (3 : Int32))), .val (.long n), .second, .unset, .unset, .unset] [(.long (1 : Int64)), (.long n), (.int (18 : Int32)), (.ref b82), (.ref b82)])) rfl (by rw [hml]; rfl) [(.long n), (.long (1 : Int64))] [(.int (18 : Int32)), (.ref b82), (.ref b82)] 3 (lenOf pd_4 rfl) rfl rfl (by show 2 * 0 + _ ≤ _; exact Nat.le_of_eq rfl) (hb hby at_395) (by decide) (by decide) (by decide) (by decide) rfl rfl ?_
          intro T119 X119 e119
          show Done _ p e below s _ _ (T119.setTop (mkF m 398 #[.val (.long v), .second, .val (.long mm), .second, .val (.int sel), .val (.long (v &&& (9223372036854775807 : Int64))), .second, .val (.int (sel &&& (3 : Int32))), .val (.long n), .second, .unset, .unset, .unset] [(.int (own_dg n (1 : Int64))), (.int (18 : Int32)), (.ref b82), (.ref b82)]))
          obtain ⟨cl120, Ar120, q120, S120, Nn120, H120, G120⟩ := V118
          have hin120 : ¬ ((18 : Int32) < 0 ∨ cl120.slots.size ≤ ((18 : Int32)).toNatClampNeg) := inb_of S120 ⟨by decide, by decide⟩
          obtain ⟨T120, h120, X120, e120, W120, st120⟩ := stC X119 hx hZ e119 Ar120 (j := (18 : Int32)) hin120 (g := (mkF m 398 #[.val (.long v), .second, .val (.long mm), .second, .val (.int sel), .val (.long (v &&& (9223372036854775807 : Int64))), .second, .val (.int (sel &&& (3 : Int32))), .val (.long n), .second, .unset, .unset, .unset] [(.int (own_dg n (1 : Int64))), (.int (18 : Int32)), (.ref b82), (.ref b82)])) rfl rfl (hb hby at_398)
          have V120 := Arv.set Ar120 q120 S120 Nn120 H120 G120 (fits_nar_char _) W120 18 rfl (Nat.le_of_ble_eq_true rfl)
          have N120 := Fr.snoc X120 N118 n0_b82
          have Zs120 := Nat.le_trans Zs118 (Keep.of_wr W120).1
          have hk := Nat.le_trans hk (Keep.of_wr W120).1
          refine Done.step st120 ?_
          show Done _ p e below s _ _ (T120.setTop (mkF m 399 #[.val (.long v), .second, .val (.long mm), .second, .val (.int sel), .val (.long (v &&& (9223372036854775807 : Int64))), .second, .val (.int (sel &&& (3 : Int32))), .val (.long n), .second, .unset, .unset, .unset] [(.ref b82)]))
          refine Done.step (fun _ => XS.astore X120.here hx rfl (hb hby at_399) rfl rfl (l' := #[.val (.long v), .second, .val (.long mm), .second, .val (.int sel), .val (.long (v &&& (9223372036854775807 : Int64))), .second, .val (.int (sel &&& (3 : Int32))), .val (.long n), .second, .unset, .val (.ref b82), .unset]) rfl) ?_
          show Done _ p e below s _ _ (T120.setTop (mkF m 401 #[.val (.long v), .second, .val (.long mm), .second, .val (.int sel), .val (.long (v &&& (9223372036854775807 : Int64))), .second, .val (.int (sel &&& (3 : Int32))), .val (.long n), .second, .unset, .val (.ref b82), .unset] []))
          obtain ⟨T121, h121, X121, e121, E121, A121, D121, -, st121⟩ := newO X120 hx hZ hown (wAt hw 7 rfl) (wAt hw 8 rfl) (wAt hw 9 rfl) e120 (g := (mkF m 401 #[.val (.long v), .second, .val (.long mm), .second, .val (.int sel), .val (.long (v &&& (9223372036854775807 : Int64))), .second, .val (.int (sel &&& (3 : Int32))), .val (.long n), .second, .unset, .val (.ref b82), .unset] [])) rfl (hb hby at_401) (by decide) (by decide)
          obtain ⟨b121, g121⟩ : ∃ z, z = h120.size := ⟨_, rfl⟩
          rw [← g121] at A121 D121 st121
          have ne_b82_b121 : b82 ≠ b121 := by rw [g121]; exact Nat.ne_of_lt V120.lt
          have n0_b121 : n0 ≤ b121 := by rw [g121]; exact Zs120
          have Zs121 := Nat.le_trans Zs120 E121.1
          have hk := Nat.le_trans hk E121.1
          have F_coder_b121 : Fld Z h121 b121 "java/lang/String" "coder" "B" (.int (0 : Int32)) := D121 (Or.inr (wAt hw 33 rfl)) (ty := .byte) (by decide)
          have F_value_b121 : Fld Z h121 b121 "java/lang/String" "value" "[B" .null := D121 (Or.inr (wAt hw 35 rfl)) (ty := (.array .byte)) (by decide)
          refine Done.step st121 ?_
          show Done _ p e below s _ _ (T121.setTop (mkF m 404 #[.val (.long v), .second, .val (.long mm), .second, .val (.int sel), .val (.long (v &&& (9223372036854775807 : Int64))), .second, .val (.int (sel &&& (3 : Int32))), .val (.long n), .second, .unset, .val (.ref b82), .unset] [(.ref b121)]))
          refine Done.step (fun _ => XS.dup X121.here hx rfl (hb hby at_404) rfl rfl) ?_
          show Done _ p e below s _ _ (T121.setTop (mkF m 405 #[.val (.long v), .second, .val (.long mm), .second, .val (.int sel), .val (.long (v &&& (9223372036854775807 : Int64))), .second, .val (.int (sel &&& (3 : Int32))), .val (.long n), .second, .unset, .val (.ref b82), .unset] [(.ref b121), (.ref b121)]))
          refine Done.step (fun _ => XS.aload X121.here hx rfl (hb hby at_405) rfl rfl) ?_
          show Done _ p e below s _ _ (T121.setTop (mkF m 407 #[.val (.long v), .second, .val (.long mm), .second, .val (.int sel), .val (.long (v &&& (9223372036854775807 : Int64))), .second, .val (.int (sel &&& (3 : Int32))), .val (.long n), .second, .unset, .val (.ref b82), .unset] [(.ref b82), (.ref b121), (.ref b121)]))
          have f123 := (V120.ext E121)
          have Vs122 : Arv Z h121 b82 k82 .char (19 : Int32) (([nar .char (own_dg n (1000000000000000000 : Int64)), nar .char (own_dg n (100000000000000000 : Int64)), nar .char (own_dg n (10000000000000000 : Int64)), nar .char (own_dg n (1000000000000000 : Int64)), nar .char (own_dg n (100000000000000 : Int64)), nar .char (own_dg n (10000000000000 : Int64)), nar .char (own_dg n (1000000000000 : Int64)), nar .char (own_dg n (100000000000 : Int64)), nar .char (own_dg n (10000000000 : Int64)), nar .char (own_dg n (1000000000 : Int64)), nar .char (own_dg n (100000000 : Int64)), nar .char (own_dg n (10000000 : Int64)), nar .char (own_dg n (1000000 : Int64)), nar .char (own_dg n (100000 : Int64)), nar .char (own_dg n (10000 : Int64)), nar .char (own_dg n (1000 : Int64)), nar .char (own_dg n (100 : Int64)), nar .char (own_dg n (10 : Int64)), nar .char (own_dg n (1 : Int64))] : List Int32).map Value.int) (.int (0 : Int32)) := f123
          rw [show nar .char (own_dg n (1000000000000000000 : Int64)) = own_dg n (1000000000000000000 : Int64) from own_narI _, show nar .char (own_dg n (100000000000000000 : Int64)) = own_dg n (100000000000000000 : Int64) from own_narI _, show nar .char (own_dg n (10000000000000000 : Int64)) = own_dg n (10000000000000000 : Int64) from own_narI _, show nar .char (own_dg n (1000000000000000 : Int64)) = own_dg n (1000000000000000 : Int64) from own_narI _, show nar .char (own_dg n (100000000000000 : Int64)) = own_dg n (100000000000000 : Int64) from own_narI _, show nar .char (own_dg n (10000000000000 : Int64)) = own_dg n (10000000000000 : Int64) from own_narI _, show nar .char (own_dg n (1000000000000 : Int64)) = own_dg n (1000000000000 : Int64) from own_narI _, show nar .char (own_dg n (100000000000 : Int64)) = own_dg n (100000000000 : Int64) from own_narI _, show nar .char (own_dg n (10000000000 : Int64)) = own_dg n (10000000000 : Int64) from own_narI _, show nar .char (own_dg n (1000000000 : Int64)) = own_dg n (1000000000 : Int64) from own_narI _, show nar .char (own_dg n (100000000 : Int64)) = own_dg n (100000000 : Int64) from own_narI _, show nar .char (own_dg n (10000000 : Int64)) = own_dg n (10000000 : Int64) from own_narI _, show nar .char (own_dg n (1000000 : Int64)) = own_dg n (1000000 : Int64) from own_narI _, show nar .char (own_dg n (100000 : Int64)) = own_dg n (100000 : Int64) from own_narI _, show nar .char (own_dg n (10000 : Int64)) = own_dg n (10000 : Int64) from own_narI _, show nar .char (own_dg n (1000 : Int64)) = own_dg n (1000 : Int64) from own_narI _, show nar .char (own_dg n (100 : Int64)) = own_dg n (100 : Int64) from own_narI _, show nar .char (own_dg n (10 : Int64)) = own_dg n (10 : Int64) from own_narI _, show nar .char (own_dg n (1 : Int64)) = own_dg n (1 : Int64) from own_narI _] at Vs122
          have hp124 : ∀ c ∈ ([own_dg n (1000000000000000000 : Int64), own_dg n (100000000000000000 : Int64), own_dg n (10000000000000000 : Int64), own_dg n (1000000000000000 : Int64), own_dg n (100000000000000 : Int64), own_dg n (10000000000000 : Int64), own_dg n (1000000000000 : Int64), own_dg n (100000000000 : Int64), own_dg n (10000000000 : Int64), own_dg n (1000000000 : Int64), own_dg n (100000000 : Int64), own_dg n (10000000 : Int64), own_dg n (1000000 : Int64), own_dg n (100000 : Int64), own_dg n (10000 : Int64), own_dg n (1000 : Int64), own_dg n (100 : Int64), own_dg n (10 : Int64), own_dg n (1 : Int64)] : List Int32), ¬ c < 0 ∧ ¬ (255 : Int32) < c := (own_cs19 hn0 hn1).2.2
          have hbd124 := own_up _ hp124
          have f125 := (((((((((((((((((((((O0.ext E82).wr W84 n0_b82).wr W86 n0_b82).wr W88 n0_b82).wr W90 n0_b82).wr W92 n0_b82).wr W94 n0_b82).wr W96 n0_b82).wr W98 n0_b82).wr W100 n0_b82).wr W102 n0_b82).wr W104 n0_b82).wr W106 n0_b82).wr W108 n0_b82).wr W110 n0_b82).wr W112 n0_b82).wr W114 n0_b82).wr W116 n0_b82).wr W118 n0_b82).wr W120 n0_b82).ext E121)
          refine Done.callIB (nc := 1) (ns := 19) X121 hx hZ rfl hown (wAt hw 10 rfl) (wAt hw 11 rfl) (wAt hw 12 rfl) (by decide) (StrChars.Road.backV (W := 1) hZ (own_hws hw) (kI := 4) (wAt hw 8 rfl) (cs := ([own_dg n (1000000000000000000 : Int64), own_dg n (100000000000000000 : Int64), own_dg n (10000000000000000 : Int64), own_dg n (1000000000000000 : Int64), own_dg n (100000000000000 : Int64), own_dg n (10000000000000 : Int64), own_dg n (1000000000000 : Int64), own_dg n (100000000000 : Int64), own_dg n (10000000000 : Int64), own_dg n (1000000000 : Int64), own_dg n (100000000 : Int64), own_dg n (10000000 : Int64), own_dg n (1000000 : Int64), own_dg n (100000 : Int64), own_dg n (10000 : Int64), own_dg n (1000 : Int64), own_dg n (100 : Int64), own_dg n (10 : Int64), own_dg n (1 : Int64)] : List Int32)) (bs := ((([own_dg n (1000000000000000000 : Int64), own_dg n (100000000000000000 : Int64), own_dg n (10000000000000000 : Int64), own_dg n (1000000000000000 : Int64), own_dg n (100000000000000 : Int64), own_dg n (10000000000000 : Int64), own_dg n (1000000000000 : Int64), own_dg n (100000000000 : Int64), own_dg n (10000000000 : Int64), own_dg n (1000000000 : Int64), own_dg n (100000000 : Int64), own_dg n (10000000 : Int64), own_dg n (1000000 : Int64), own_dg n (100000 : Int64), own_dg n (10000 : Int64), own_dg n (1000 : Int64), own_dg n (100 : Int64), own_dg n (10 : Int64), own_dg n (1 : Int64)] : List Int32)).map (fun c => c.toInt8.toInt32))) (n := 19) n0_b121 Zs121 A121 F_value_b121 F_coder_b121 Vs122 (SC.ext f125.2) hz rfl rfl (by decide) (by decide) hp124 rfl (by decide) (by decide)) e121 (g := (mkF m 407 #[.val (.long v), .second, .val (.long mm), .second, .val (.int sel), .val (.long (v &&& (9223372036854775807 : Int64))), .second, .val (.int (sel &&& (3 : Int32))), .val (.long n), .second, .unset, .val (.ref b82), .unset] [(.ref b82), (.ref b121), (.ref b121)])) rfl (by rw [hml]; rfl) b121 [(.ref b82)] [(.ref b121)] (lenOf pd_5 rfl) rfl rfl (by show 2 * 0 + _ ≤ _; exact Nat.le_of_eq rfl) (hb hby at_407) (by decide) (by decide) ?_
          intro T124 v124 L124 X124 q124
          obtain ⟨rfl, Nq124, K124q, Eq124, Cq124, t124, kb124, n0_t124, szt124, net124, Vq124, Aq124⟩ := q124
          have ne_b82_t124 : b82 ≠ t124 := Nat.ne_of_lt (Nat.lt_of_lt_of_le f123.lt szt124)
          have ne_b121_t124 : b121 ≠ t124 := Ne.symm net124
          have N124 := Fr.app N120 Nq124
          have Zs124 := Nat.le_trans Zs121 K124q.1
          have hk := Nat.le_trans hk K124q.1
          have hcd124 : StrChars.Road.CodA ([own_dg n (1000000000000000000 : Int64), own_dg n (100000000000000000 : Int64), own_dg n (10000000000000000 : Int64), own_dg n (1000000000000000 : Int64), own_dg n (100000000000000 : Int64), own_dg n (10000000000000 : Int64), own_dg n (1000000000000 : Int64), own_dg n (100000000000 : Int64), own_dg n (10000000000 : Int64), own_dg n (1000000000 : Int64), own_dg n (100000000 : Int64), own_dg n (10000000 : Int64), own_dg n (1000000 : Int64), own_dg n (100000 : Int64), own_dg n (10000 : Int64), own_dg n (1000 : Int64), own_dg n (100 : Int64), own_dg n (10 : Int64), own_dg n (1 : Int64)] : List Int32) 0 (19 : Int32) ((((([own_dg n (1000000000000000000 : Int64), own_dg n (100000000000000000 : Int64), own_dg n (10000000000000000 : Int64), own_dg n (1000000000000000 : Int64), own_dg n (100000000000000 : Int64), own_dg n (10000000000000 : Int64), own_dg n (1000000000000 : Int64), own_dg n (100000000000 : Int64), own_dg n (10000000000 : Int64), own_dg n (1000000000 : Int64), own_dg n (100000000 : Int64), own_dg n (10000000 : Int64), own_dg n (1000000 : Int64), own_dg n (100000 : Int64), own_dg n (10000 : Int64), own_dg n (1000 : Int64), own_dg n (100 : Int64), own_dg n (10 : Int64), own_dg n (1 : Int64)] : List Int32)).map (fun c => c.toInt8.toInt32))).map Value.int) := StrChars.Road.codOf (n := 19) rfl (fun c hc => (hp124 c hc).2)
          show Done _ p e below s _ _ (T124.setTop (mkF m 410 #[.val (.long v), .second, .val (.long mm), .second, .val (.int sel), .val (.long (v &&& (9223372036854775807 : Int64))), .second, .val (.int (sel &&& (3 : Int32))), .val (.long n), .second, .unset, .val (.ref b82), .unset] [(.ref b121)]))
          refine Done.step (fun _ => XS.astore X124.here hx rfl (hb hby at_410) rfl rfl (l' := #[.val (.long v), .second, .val (.long mm), .second, .val (.int sel), .val (.long (v &&& (9223372036854775807 : Int64))), .second, .val (.int (sel &&& (3 : Int32))), .val (.long n), .second, .val (.ref b121), .val (.ref b82), .unset]) rfl) ?_
          show Done _ p e below s _ _ (T124.setTop (mkF m 412 #[.val (.long v), .second, .val (.long mm), .second, .val (.int sel), .val (.long (v &&& (9223372036854775807 : Int64))), .second, .val (.int (sel &&& (3 : Int32))), .val (.long n), .second, .val (.ref b121), .val (.ref b82), .unset] []))
          refine Done.step (fun _ => XS.iload X124.here hx rfl (hb hby at_412) rfl) ?_
          show Done _ p e below s _ _ (T124.setTop (mkF m 414 #[.val (.long v), .second, .val (.long mm), .second, .val (.int sel), .val (.long (v &&& (9223372036854775807 : Int64))), .second, .val (.int (sel &&& (3 : Int32))), .val (.long n), .second, .val (.ref b121), .val (.ref b82), .unset] [(.int sel)]))
          refine Done.step (fun _ => XT.iconstV X124.here hx rfl (2 : Int32) (hb hby at_414) (by decide)) ?_
          show Done _ p e below s _ _ (T124.setTop (mkF m 415 #[.val (.long v), .second, .val (.long mm), .second, .val (.int sel), .val (.long (v &&& (9223372036854775807 : Int64))), .second, .val (.int (sel &&& (3 : Int32))), .val (.long n), .second, .val (.ref b121), .val (.ref b82), .unset] [(.int (2 : Int32)), (.int sel)]))
          refine Done.step (fun _ => XT.ishr X124.here hx rfl (hb hby at_415) rfl) ?_
          show Done _ p e below s _ _ (T124.setTop (mkF m 416 #[.val (.long v), .second, .val (.long mm), .second, .val (.int sel), .val (.long (v &&& (9223372036854775807 : Int64))), .second, .val (.int (sel &&& (3 : Int32))), .val (.long n), .second, .val (.ref b121), .val (.ref b82), .unset] [(.int (sel >>> ((2 : Int32) &&& 31)))]))
          refine Done.step (fun _ => XT.iconstV X124.here hx rfl (1 : Int32) (hb hby at_416) (by decide)) ?_
          show Done _ p e below s _ _ (T124.setTop (mkF m 417 #[.val (.long v), .second, .val (.long mm), .second, .val (.int sel), .val (.long (v &&& (9223372036854775807 : Int64))), .second, .val (.int (sel &&& (3 : Int32))), .val (.long n), .second, .val (.ref b121), .val (.ref b82), .unset] [(.int (1 : Int32)), (.int (sel >>> ((2 : Int32) &&& 31)))]))
          refine Done.step (fun _ => XS.iand X124.here hx rfl (hb hby at_417) rfl) ?_
          show Done _ p e below s _ _ (T124.setTop (mkF m 418 #[.val (.long v), .second, .val (.long mm), .second, .val (.int sel), .val (.long (v &&& (9223372036854775807 : Int64))), .second, .val (.int (sel &&& (3 : Int32))), .val (.long n), .second, .val (.ref b121), .val (.ref b82), .unset] [(.int ((sel >>> ((2 : Int32) &&& 31)) &&& (1 : Int32)))]))
          by_cases hc126 : ((sel >>> ((2 : Int32) &&& 31)) &&& (1 : Int32)) = (0 : Int32)
          · refine Done.step (fun _ => XS.ifYes X124.here hx rfl (pc0 := 418) (pc' := 426) rfl (hb hby at_418) rfl (XT.i0_eq_t hc126) (by decide) (by decide)) ?_
            show Done _ p e below s _ _ (T124.setTop (mkF m 426 #[.val (.long v), .second, .val (.long mm), .second, .val (.int sel), .val (.long (v &&& (9223372036854775807 : Int64))), .second, .val (.int (sel &&& (3 : Int32))), .val (.long n), .second, .val (.ref b121), .val (.ref b82), .unset] []))
            refine Done.step (fun _ => XT.lload X124.here hx rfl (hb hby at_426) rfl) ?_
            show Done _ p e below s _ _ (T124.setTop (mkF m 428 #[.val (.long v), .second, .val (.long mm), .second, .val (.int sel), .val (.long (v &&& (9223372036854775807 : Int64))), .second, .val (.int (sel &&& (3 : Int32))), .val (.long n), .second, .val (.ref b121), .val (.ref b82), .unset] [(.long n)]))
            refine Done.step (fun _ => XT.lloadN X124.here hx rfl (hb hby at_428) rfl) ?_
            show Done _ p e below s _ _ (T124.setTop (mkF m 429 #[.val (.long v), .second, .val (.long mm), .second, .val (.int sel), .val (.long (v &&& (9223372036854775807 : Int64))), .second, .val (.int (sel &&& (3 : Int32))), .val (.long n), .second, .val (.ref b121), .val (.ref b82), .unset] [(.long mm), (.long n)]))
            refine Done.step (fun _ => Stand.ldc2J X124 hx hown (mvT hZ (wAt hw 0 rfl)) (g := (mkF m 429 #[.val (.long v), .second, .val (.long mm), .second, .val (.int sel), .val (.long (v &&& (9223372036854775807 : Int64))), .second, .val (.int (sel &&& (3 : Int32))), .val (.long n), .second, .val (.ref b121), .val (.ref b82), .unset] [(.long mm), (.long n)])) rfl (hb hby at_429)) ?_
            show Done _ p e below s _ _ (T124.setTop (mkF m 432 #[.val (.long v), .second, .val (.long mm), .second, .val (.int sel), .val (.long (v &&& (9223372036854775807 : Int64))), .second, .val (.int (sel &&& (3 : Int32))), .val (.long n), .second, .val (.ref b121), .val (.ref b82), .unset] [(.long (9223372036854775807 : Int64)), (.long mm), (.long n)]))
            refine Done.step (fun _ => XT.land X124.here hx rfl (hb hby at_432) rfl) ?_
            show Done _ p e below s _ _ (T124.setTop (mkF m 433 #[.val (.long v), .second, .val (.long mm), .second, .val (.int sel), .val (.long (v &&& (9223372036854775807 : Int64))), .second, .val (.int (sel &&& (3 : Int32))), .val (.long n), .second, .val (.ref b121), .val (.ref b82), .unset] [(.long (mm &&& (9223372036854775807 : Int64))), (.long n)]))
            refine Done.callSP X124 hx hZ hown (wAt hw 36 rfl) (wAt hw 37 rfl) (wAt hw 38 rfl) (wAt hw 39 rfl) (by decide) (rmMx l Z a0 hw [] n (mm &&& (9223372036854775807 : Int64)) T124.heap n0 Zs124) rfl (g := (mkF m 433 #[.val (.long v), .second, .val (.long mm), .second, .val (.int sel), .val (.long (v &&& (9223372036854775807 : Int64))), .second, .val (.int (sel &&& (3 : Int32))), .val (.long n), .second, .val (.ref b121), .val (.ref b82), .unset] [(.long (mm &&& (9223372036854775807 : Int64))), (.long n)])) rfl (by rw [hml]; rfl) [(.long n), (.long (mm &&& (9223372036854775807 : Int64)))] [] 0 (lenOf pd_3 rfl) rfl rfl (by show 2 * 0 + _ ≤ _; exact Nat.le_of_eq rfl) (hb hby at_433) (by decide) (by decide) (by decide) (by decide) rfl rfl ?_
            intro T127 X127 e127
            show Done _ p e below s _ _ (T127.setTop (mkF m 436 #[.val (.long v), .second, .val (.long mm), .second, .val (.int sel), .val (.long (v &&& (9223372036854775807 : Int64))), .second, .val (.int (sel &&& (3 : Int32))), .val (.long n), .second, .val (.ref b121), .val (.ref b82), .unset] [(.long (own_max n (mm &&& (9223372036854775807 : Int64))))]))
            refine Done.step (fun _ => XT.lstore X127.here hx rfl (hb hby at_436) rfl (l' := #[.val (.long v), .second, .val (.long mm), .second, .val (.int sel), .val (.long (v &&& (9223372036854775807 : Int64))), .second, .val (.int (sel &&& (3 : Int32))), .val (.long n), .second, .val (.ref b121), .val (.long (own_max n (mm &&& (9223372036854775807 : Int64)))), .second]) rfl) ?_
            show Done _ p e below s _ _ (T127.setTop (mkF m 438 #[.val (.long v), .second, .val (.long mm), .second, .val (.int sel), .val (.long (v &&& (9223372036854775807 : Int64))), .second, .val (.int (sel &&& (3 : Int32))), .val (.long n), .second, .val (.ref b121), .val (.long (own_max n (mm &&& (9223372036854775807 : Int64)))), .second] []))
            obtain ⟨a128, T128, h128, k128, X128, e128, E128, hS, hk, hZ, hown, st128⟩ := ldcS X127 hx hZ hown (wAt hw 40 rfl) own_wS e127 hS hk (g := (mkF m 438 #[.val (.long v), .second, .val (.long mm), .second, .val (.int sel), .val (.long (v &&& (9223372036854775807 : Int64))), .second, .val (.int (sel &&& (3 : Int32))), .val (.long n), .second, .val (.ref b121), .val (.long (own_max n (mm &&& (9223372036854775807 : Int64)))), .second] [])) rfl (hb hby at_438) (n := 4) (by decide) (by decide) (by decide) (by decide)
            have Zs128 := Nat.le_trans Zs124 E128.1
            refine Done.step st128 ?_
            show Done _ p e below s _ _ (T128.setTop (mkF m 440 #[.val (.long v), .second, .val (.long mm), .second, .val (.int sel), .val (.long (v &&& (9223372036854775807 : Int64))), .second, .val (.int (sel &&& (3 : Int32))), .val (.long n), .second, .val (.ref b121), .val (.long (own_max n (mm &&& (9223372036854775807 : Int64)))), .second] [(.ref a128)]))
            refine Done.step (fun _ => XS.aload X128.here hx rfl (hb hby at_440) rfl rfl) ?_
            show Done _ p e below s _ _ (T128.setTop (mkF m 442 #[.val (.long v), .second, .val (.long mm), .second, .val (.int sel), .val (.long (v &&& (9223372036854775807 : Int64))), .second, .val (.int (sel &&& (3 : Int32))), .val (.long n), .second, .val (.ref b121), .val (.long (own_max n (mm &&& (9223372036854775807 : Int64)))), .second] [(.ref b121), (.ref a128)]))
            refine Done.step (fun _ => XT.lload X128.here hx rfl (hb hby at_442) rfl) ?_
            show Done _ p e below s _ _ (T128.setTop (mkF m 444 #[.val (.long v), .second, .val (.long mm), .second, .val (.int sel), .val (.long (v &&& (9223372036854775807 : Int64))), .second, .val (.int (sel &&& (3 : Int32))), .val (.long n), .second, .val (.ref b121), .val (.long (own_max n (mm &&& (9223372036854775807 : Int64)))), .second] [(.long (own_max n (mm &&& (9223372036854775807 : Int64)))), (.ref b121), (.ref a128)]))
            have f129 := (Eq124.ext E128)
            have f130 := (Vq124.ext E128)
            have f131 := (Cq124.ext E128)
            have f132 := (Aq124.ext E128)
            have f133 := ((f125.keep K124q (allS n0_b121 all0)).ext E128)
            have hpv : Int64.ofInt (own_pv ([own_dg n (1000000000000000000 : Int64), own_dg n (100000000000000000 : Int64), own_dg n (10000000000000000 : Int64), own_dg n (1000000000000000 : Int64), own_dg n (100000000000000 : Int64), own_dg n (10000000000000 : Int64), own_dg n (1000000000000 : Int64), own_dg n (100000000000 : Int64), own_dg n (10000000000 : Int64), own_dg n (1000000000 : Int64), own_dg n (100000000 : Int64), own_dg n (10000000 : Int64), own_dg n (1000000 : Int64), own_dg n (100000 : Int64), own_dg n (10000 : Int64), own_dg n (1000 : Int64), own_dg n (100 : Int64), own_dg n (10 : Int64), own_dg n (1 : Int64)] : List Int32) (([own_dg n (1000000000000000000 : Int64), own_dg n (100000000000000000 : Int64), own_dg n (10000000000000000 : Int64), own_dg n (1000000000000000 : Int64), own_dg n (100000000000000 : Int64), own_dg n (10000000000000 : Int64), own_dg n (1000000000000 : Int64), own_dg n (100000000000 : Int64), own_dg n (10000000000 : Int64), own_dg n (1000000000 : Int64), own_dg n (100000000 : Int64), own_dg n (10000000 : Int64), own_dg n (1000000 : Int64), own_dg n (100000 : Int64), own_dg n (10000 : Int64), own_dg n (1000 : Int64), own_dg n (100 : Int64), own_dg n (10 : Int64), own_dg n (1 : Int64)] : List Int32)).length) = n := by
              rw [show own_pv ([own_dg n (1000000000000000000 : Int64), own_dg n (100000000000000000 : Int64), own_dg n (10000000000000000 : Int64), own_dg n (1000000000000000 : Int64), own_dg n (100000000000000 : Int64), own_dg n (10000000000000 : Int64), own_dg n (1000000000000 : Int64), own_dg n (100000000000 : Int64), own_dg n (10000000000 : Int64), own_dg n (1000000000 : Int64), own_dg n (100000000 : Int64), own_dg n (10000000 : Int64), own_dg n (1000000 : Int64), own_dg n (100000 : Int64), own_dg n (10000 : Int64), own_dg n (1000 : Int64), own_dg n (100 : Int64), own_dg n (10 : Int64), own_dg n (1 : Int64)] : List Int32) (([own_dg n (1000000000000000000 : Int64), own_dg n (100000000000000000 : Int64), own_dg n (10000000000000000 : Int64), own_dg n (1000000000000000 : Int64), own_dg n (100000000000000 : Int64), own_dg n (10000000000000 : Int64), own_dg n (1000000000000 : Int64), own_dg n (100000000000 : Int64), own_dg n (10000000000 : Int64), own_dg n (1000000000 : Int64), own_dg n (100000000 : Int64), own_dg n (10000000 : Int64), own_dg n (1000000 : Int64), own_dg n (100000 : Int64), own_dg n (10000 : Int64), own_dg n (1000 : Int64), own_dg n (100 : Int64), own_dg n (10 : Int64), own_dg n (1 : Int64)] : List Int32)).length = _ from (own_cs19 hn0 hn1).2.1]
              exact Int64.ofInt_toInt n
            refine Done.callSP X128 hx hZ hown (wAt hw 43 rfl) (wAt hw 44 rfl) (wAt hw 45 rfl) (wAt hw 46 rfl) (by decide) (rmP l Z a0 hw [] a128 b121 t124 kb124 ([own_dg n (1000000000000000000 : Int64), own_dg n (100000000000000000 : Int64), own_dg n (10000000000000000 : Int64), own_dg n (1000000000000000 : Int64), own_dg n (100000000000000 : Int64), own_dg n (10000000000000 : Int64), own_dg n (1000000000000 : Int64), own_dg n (100000000000 : Int64), own_dg n (10000000000 : Int64), own_dg n (1000000000 : Int64), own_dg n (100000000 : Int64), own_dg n (10000000 : Int64), own_dg n (1000000 : Int64), own_dg n (100000 : Int64), own_dg n (10000 : Int64), own_dg n (1000 : Int64), own_dg n (100 : Int64), own_dg n (10 : Int64), own_dg n (1 : Int64)] : List Int32) (19 : Int32) ((((([own_dg n (1000000000000000000 : Int64), own_dg n (100000000000000000 : Int64), own_dg n (10000000000000000 : Int64), own_dg n (1000000000000000 : Int64), own_dg n (100000000000000 : Int64), own_dg n (10000000000000 : Int64), own_dg n (1000000000000 : Int64), own_dg n (100000000000 : Int64), own_dg n (10000000000 : Int64), own_dg n (1000000000 : Int64), own_dg n (100000000 : Int64), own_dg n (10000000 : Int64), own_dg n (1000000 : Int64), own_dg n (100000 : Int64), own_dg n (10000 : Int64), own_dg n (1000 : Int64), own_dg n (100 : Int64), own_dg n (10 : Int64), own_dg n (1 : Int64)] : List Int32)).map (fun c => c.toInt8.toInt32))).map Value.int) (own_max n (mm &&& (9223372036854775807 : Int64))) z fm h128 n0 Zs128 f129 f130 f131 f132 hcd124 hbd124 (Nat.le_of_ble_eq_true rfl) f133 SC hz SF rF (own_cs19 hn0 hn1).1 (Nat.succ_pos _) (Nat.succ_ne_zero _) (by rw [show own_pv ([own_dg n (1000000000000000000 : Int64), own_dg n (100000000000000000 : Int64), own_dg n (10000000000000000 : Int64), own_dg n (1000000000000000 : Int64), own_dg n (100000000000000 : Int64), own_dg n (10000000000000 : Int64), own_dg n (1000000000000 : Int64), own_dg n (100000000000 : Int64), own_dg n (10000000000 : Int64), own_dg n (1000000000 : Int64), own_dg n (100000000 : Int64), own_dg n (10000000 : Int64), own_dg n (1000000 : Int64), own_dg n (100000 : Int64), own_dg n (10000 : Int64), own_dg n (1000 : Int64), own_dg n (100 : Int64), own_dg n (10 : Int64), own_dg n (1 : Int64)] : List Int32) (([own_dg n (1000000000000000000 : Int64), own_dg n (100000000000000000 : Int64), own_dg n (10000000000000000 : Int64), own_dg n (1000000000000000 : Int64), own_dg n (100000000000000 : Int64), own_dg n (10000000000000 : Int64), own_dg n (1000000000000 : Int64), own_dg n (100000000000 : Int64), own_dg n (10000000000 : Int64), own_dg n (1000000000 : Int64), own_dg n (100000000 : Int64), own_dg n (10000000 : Int64), own_dg n (1000000 : Int64), own_dg n (100000 : Int64), own_dg n (10000 : Int64), own_dg n (1000 : Int64), own_dg n (100 : Int64), own_dg n (10 : Int64), own_dg n (1 : Int64)] : List Int32)).length = _ from (own_cs19 hn0 hn1).2.1]; exact own_maxge _ _)) e128 (g := (mkF m 444 #[.val (.long v), .second, .val (.long mm), .second, .val (.int sel), .val (.long (v &&& (9223372036854775807 : Int64))), .second, .val (.int (sel &&& (3 : Int32))), .val (.long n), .second, .val (.ref b121), .val (.long (own_max n (mm &&& (9223372036854775807 : Int64)))), .second] [(.long (own_max n (mm &&& (9223372036854775807 : Int64)))), (.ref b121), (.ref a128)])) rfl (by rw [hml]; rfl) [(.ref a128), (.ref b121), (.long (own_max n (mm &&& (9223372036854775807 : Int64))))] [] 0 (lenOf pd_6 rfl) rfl rfl (by show 2 * 0 + _ ≤ _; exact Nat.le_of_eq rfl) (hb hby at_444) (by decide) (by decide) (by decide) (by decide) rfl rfl ?_
            intro T134 X134 e134
            show Done _ p e below s _ _ (T134.setTop (mkF m 447 #[.val (.long v), .second, .val (.long mm), .second, .val (.int sel), .val (.long (v &&& (9223372036854775807 : Int64))), .second, .val (.int (sel &&& (3 : Int32))), .val (.long n), .second, .val (.ref b121), .val (.long (own_max n (mm &&& (9223372036854775807 : Int64)))), .second] [(.long (Int64.ofInt (own_pv ([own_dg n (1000000000000000000 : Int64), own_dg n (100000000000000000 : Int64), own_dg n (10000000000000000 : Int64), own_dg n (1000000000000000 : Int64), own_dg n (100000000000000 : Int64), own_dg n (10000000000000 : Int64), own_dg n (1000000000000 : Int64), own_dg n (100000000000 : Int64), own_dg n (10000000000 : Int64), own_dg n (1000000000 : Int64), own_dg n (100000000 : Int64), own_dg n (10000000 : Int64), own_dg n (1000000 : Int64), own_dg n (100000 : Int64), own_dg n (10000 : Int64), own_dg n (1000 : Int64), own_dg n (100 : Int64), own_dg n (10 : Int64), own_dg n (1 : Int64)] : List Int32) (([own_dg n (1000000000000000000 : Int64), own_dg n (100000000000000000 : Int64), own_dg n (10000000000000000 : Int64), own_dg n (1000000000000000 : Int64), own_dg n (100000000000000 : Int64), own_dg n (10000000000000 : Int64), own_dg n (1000000000000 : Int64), own_dg n (100000000000 : Int64), own_dg n (10000000000 : Int64), own_dg n (1000000000 : Int64), own_dg n (100000000 : Int64), own_dg n (10000000 : Int64), own_dg n (1000000 : Int64), own_dg n (100000 : Int64), own_dg n (10000 : Int64), own_dg n (1000 : Int64), own_dg n (100 : Int64), own_dg n (10 : Int64), own_dg n (1 : Int64)] : List Int32)).length)))]))
            rw [hpv]
            show Done _ p e below s _ _ (T134.setTop (mkF m 447 #[.val (.long v), .second, .val (.long mm), .second, .val (.int sel), .val (.long (v &&& (9223372036854775807 : Int64))), .second, .val (.int (sel &&& (3 : Int32))), .val (.long n), .second, .val (.ref b121), .val (.long (own_max n (mm &&& (9223372036854775807 : Int64)))), .second] [(.long n)]))
            refine Done.step (fun _ => XT.lload X134.here hx rfl (hb hby at_447) rfl) ?_
            show Done _ p e below s _ _ (T134.setTop (mkF m 449 #[.val (.long v), .second, .val (.long mm), .second, .val (.int sel), .val (.long (v &&& (9223372036854775807 : Int64))), .second, .val (.int (sel &&& (3 : Int32))), .val (.long n), .second, .val (.ref b121), .val (.long (own_max n (mm &&& (9223372036854775807 : Int64)))), .second] [(.long n), (.long n)]))
            refine Done.step (fun _ => XT.lcmp X134.here hx rfl (hb hby at_449) rfl) ?_
            show Done _ p e below s _ _ (T134.setTop (mkF m 450 #[.val (.long v), .second, .val (.long mm), .second, .val (.int sel), .val (.long (v &&& (9223372036854775807 : Int64))), .second, .val (.int (sel &&& (3 : Int32))), .val (.long n), .second, .val (.ref b121), .val (.long (own_max n (mm &&& (9223372036854775807 : Int64)))), .second] [(.int (XT.cmpL n n))]))
            refine Done.step (fun _ => XS.ifNo X134.here hx rfl (hb hby at_450) rfl (XT.ll_ne_f rfl)) ?_
            show Done _ p e below s _ _ (T134.setTop (mkF m 453 #[.val (.long v), .second, .val (.long mm), .second, .val (.int sel), .val (.long (v &&& (9223372036854775807 : Int64))), .second, .val (.int (sel &&& (3 : Int32))), .val (.long n), .second, .val (.ref b121), .val (.long (own_max n (mm &&& (9223372036854775807 : Int64)))), .second] []))
            refine Done.step (fun _ => XT.iconstV X134.here hx rfl (1 : Int32) (hb hby at_453) (by decide)) ?_
            show Done _ p e below s _ _ (T134.setTop (mkF m 454 #[.val (.long v), .second, .val (.long mm), .second, .val (.int sel), .val (.long (v &&& (9223372036854775807 : Int64))), .second, .val (.int (sel &&& (3 : Int32))), .val (.long n), .second, .val (.ref b121), .val (.long (own_max n (mm &&& (9223372036854775807 : Int64)))), .second] [(.int (1 : Int32))]))
            refine Done.step (fun _ => XS.goto X134.here hx rfl (pc0 := 454) (pc' := 458) rfl (hb hby at_454) (by decide) (by decide)) ?_
            show Done _ p e below s _ _ (T134.setTop (mkF m 458 #[.val (.long v), .second, .val (.long mm), .second, .val (.int sel), .val (.long (v &&& (9223372036854775807 : Int64))), .second, .val (.int (sel &&& (3 : Int32))), .val (.long n), .second, .val (.ref b121), .val (.long (own_max n (mm &&& (9223372036854775807 : Int64)))), .second] [(.int (1 : Int32))]))
            exact Done.retN (leavesW X134 hS (by first | exact hk | (rw [e134]; exact hk)) hlk (by decide) (by decide)) X134 hx (t := .boolean) hret (by simp) (hb hby at_458) ⟨rfl, N124⟩
          · refine Done.step (fun _ => XS.ifNo X124.here hx rfl (hb hby at_418) rfl (XT.i0_eq_f hc126)) ?_
            show Done _ p e below s _ _ (T124.setTop (mkF m 421 #[.val (.long v), .second, .val (.long mm), .second, .val (.int sel), .val (.long (v &&& (9223372036854775807 : Int64))), .second, .val (.int (sel &&& (3 : Int32))), .val (.long n), .second, .val (.ref b121), .val (.ref b82), .unset] []))
            refine Done.step (fun _ => XT.lload X124.here hx rfl (hb hby at_421) rfl) ?_
            show Done _ p e below s _ _ (T124.setTop (mkF m 423 #[.val (.long v), .second, .val (.long mm), .second, .val (.int sel), .val (.long (v &&& (9223372036854775807 : Int64))), .second, .val (.int (sel &&& (3 : Int32))), .val (.long n), .second, .val (.ref b121), .val (.ref b82), .unset] [(.long n)]))
            refine Done.step (fun _ => XS.goto X124.here hx rfl (pc0 := 423) (pc' := 436) rfl (hb hby at_423) (by decide) (by decide)) ?_
            show Done _ p e below s _ _ (T124.setTop (mkF m 436 #[.val (.long v), .second, .val (.long mm), .second, .val (.int sel), .val (.long (v &&& (9223372036854775807 : Int64))), .second, .val (.int (sel &&& (3 : Int32))), .val (.long n), .second, .val (.ref b121), .val (.ref b82), .unset] [(.long n)]))
            refine Done.step (fun _ => XT.lstore X124.here hx rfl (hb hby at_436) rfl (l' := #[.val (.long v), .second, .val (.long mm), .second, .val (.int sel), .val (.long (v &&& (9223372036854775807 : Int64))), .second, .val (.int (sel &&& (3 : Int32))), .val (.long n), .second, .val (.ref b121), .val (.long n), .second]) rfl) ?_
            show Done _ p e below s _ _ (T124.setTop (mkF m 438 #[.val (.long v), .second, .val (.long mm), .second, .val (.int sel), .val (.long (v &&& (9223372036854775807 : Int64))), .second, .val (.int (sel &&& (3 : Int32))), .val (.long n), .second, .val (.ref b121), .val (.long n), .second] []))
            obtain ⟨a135, T135, h135, k135, X135, e135, E135, hS, hk, hZ, hown, st135⟩ := ldcS X124 hx hZ hown (wAt hw 40 rfl) own_wS rfl hS hk (g := (mkF m 438 #[.val (.long v), .second, .val (.long mm), .second, .val (.int sel), .val (.long (v &&& (9223372036854775807 : Int64))), .second, .val (.int (sel &&& (3 : Int32))), .val (.long n), .second, .val (.ref b121), .val (.long n), .second] [])) rfl (hb hby at_438) (n := 4) (by decide) (by decide) (by decide) (by decide)
            have Zs135 := Nat.le_trans Zs124 E135.1
            refine Done.step st135 ?_
            show Done _ p e below s _ _ (T135.setTop (mkF m 440 #[.val (.long v), .second, .val (.long mm), .second, .val (.int sel), .val (.long (v &&& (9223372036854775807 : Int64))), .second, .val (.int (sel &&& (3 : Int32))), .val (.long n), .second, .val (.ref b121), .val (.long n), .second] [(.ref a135)]))
            refine Done.step (fun _ => XS.aload X135.here hx rfl (hb hby at_440) rfl rfl) ?_
            show Done _ p e below s _ _ (T135.setTop (mkF m 442 #[.val (.long v), .second, .val (.long mm), .second, .val (.int sel), .val (.long (v &&& (9223372036854775807 : Int64))), .second, .val (.int (sel &&& (3 : Int32))), .val (.long n), .second, .val (.ref b121), .val (.long n), .second] [(.ref b121), (.ref a135)]))
            refine Done.step (fun _ => XT.lload X135.here hx rfl (hb hby at_442) rfl) ?_
            show Done _ p e below s _ _ (T135.setTop (mkF m 444 #[.val (.long v), .second, .val (.long mm), .second, .val (.int sel), .val (.long (v &&& (9223372036854775807 : Int64))), .second, .val (.int (sel &&& (3 : Int32))), .val (.long n), .second, .val (.ref b121), .val (.long n), .second] [(.long n), (.ref b121), (.ref a135)]))
            have f136 := (Eq124.ext E135)
            have f137 := (Vq124.ext E135)
            have f138 := (Cq124.ext E135)
            have f139 := (Aq124.ext E135)
            have f140 := ((f125.keep K124q (allS n0_b121 all0)).ext E135)
            have hpv : Int64.ofInt (own_pv ([own_dg n (1000000000000000000 : Int64), own_dg n (100000000000000000 : Int64), own_dg n (10000000000000000 : Int64), own_dg n (1000000000000000 : Int64), own_dg n (100000000000000 : Int64), own_dg n (10000000000000 : Int64), own_dg n (1000000000000 : Int64), own_dg n (100000000000 : Int64), own_dg n (10000000000 : Int64), own_dg n (1000000000 : Int64), own_dg n (100000000 : Int64), own_dg n (10000000 : Int64), own_dg n (1000000 : Int64), own_dg n (100000 : Int64), own_dg n (10000 : Int64), own_dg n (1000 : Int64), own_dg n (100 : Int64), own_dg n (10 : Int64), own_dg n (1 : Int64)] : List Int32) (([own_dg n (1000000000000000000 : Int64), own_dg n (100000000000000000 : Int64), own_dg n (10000000000000000 : Int64), own_dg n (1000000000000000 : Int64), own_dg n (100000000000000 : Int64), own_dg n (10000000000000 : Int64), own_dg n (1000000000000 : Int64), own_dg n (100000000000 : Int64), own_dg n (10000000000 : Int64), own_dg n (1000000000 : Int64), own_dg n (100000000 : Int64), own_dg n (10000000 : Int64), own_dg n (1000000 : Int64), own_dg n (100000 : Int64), own_dg n (10000 : Int64), own_dg n (1000 : Int64), own_dg n (100 : Int64), own_dg n (10 : Int64), own_dg n (1 : Int64)] : List Int32)).length) = n := by
              rw [show own_pv ([own_dg n (1000000000000000000 : Int64), own_dg n (100000000000000000 : Int64), own_dg n (10000000000000000 : Int64), own_dg n (1000000000000000 : Int64), own_dg n (100000000000000 : Int64), own_dg n (10000000000000 : Int64), own_dg n (1000000000000 : Int64), own_dg n (100000000000 : Int64), own_dg n (10000000000 : Int64), own_dg n (1000000000 : Int64), own_dg n (100000000 : Int64), own_dg n (10000000 : Int64), own_dg n (1000000 : Int64), own_dg n (100000 : Int64), own_dg n (10000 : Int64), own_dg n (1000 : Int64), own_dg n (100 : Int64), own_dg n (10 : Int64), own_dg n (1 : Int64)] : List Int32) (([own_dg n (1000000000000000000 : Int64), own_dg n (100000000000000000 : Int64), own_dg n (10000000000000000 : Int64), own_dg n (1000000000000000 : Int64), own_dg n (100000000000000 : Int64), own_dg n (10000000000000 : Int64), own_dg n (1000000000000 : Int64), own_dg n (100000000000 : Int64), own_dg n (10000000000 : Int64), own_dg n (1000000000 : Int64), own_dg n (100000000 : Int64), own_dg n (10000000 : Int64), own_dg n (1000000 : Int64), own_dg n (100000 : Int64), own_dg n (10000 : Int64), own_dg n (1000 : Int64), own_dg n (100 : Int64), own_dg n (10 : Int64), own_dg n (1 : Int64)] : List Int32)).length = _ from (own_cs19 hn0 hn1).2.1]
              exact Int64.ofInt_toInt n
            refine Done.callSP X135 hx hZ hown (wAt hw 43 rfl) (wAt hw 44 rfl) (wAt hw 45 rfl) (wAt hw 46 rfl) (by decide) (rmP l Z a0 hw [] a135 b121 t124 kb124 ([own_dg n (1000000000000000000 : Int64), own_dg n (100000000000000000 : Int64), own_dg n (10000000000000000 : Int64), own_dg n (1000000000000000 : Int64), own_dg n (100000000000000 : Int64), own_dg n (10000000000000 : Int64), own_dg n (1000000000000 : Int64), own_dg n (100000000000 : Int64), own_dg n (10000000000 : Int64), own_dg n (1000000000 : Int64), own_dg n (100000000 : Int64), own_dg n (10000000 : Int64), own_dg n (1000000 : Int64), own_dg n (100000 : Int64), own_dg n (10000 : Int64), own_dg n (1000 : Int64), own_dg n (100 : Int64), own_dg n (10 : Int64), own_dg n (1 : Int64)] : List Int32) (19 : Int32) ((((([own_dg n (1000000000000000000 : Int64), own_dg n (100000000000000000 : Int64), own_dg n (10000000000000000 : Int64), own_dg n (1000000000000000 : Int64), own_dg n (100000000000000 : Int64), own_dg n (10000000000000 : Int64), own_dg n (1000000000000 : Int64), own_dg n (100000000000 : Int64), own_dg n (10000000000 : Int64), own_dg n (1000000000 : Int64), own_dg n (100000000 : Int64), own_dg n (10000000 : Int64), own_dg n (1000000 : Int64), own_dg n (100000 : Int64), own_dg n (10000 : Int64), own_dg n (1000 : Int64), own_dg n (100 : Int64), own_dg n (10 : Int64), own_dg n (1 : Int64)] : List Int32)).map (fun c => c.toInt8.toInt32))).map Value.int) n z fm h135 n0 Zs135 f136 f137 f138 f139 hcd124 hbd124 (Nat.le_of_ble_eq_true rfl) f140 SC hz SF rF (own_cs19 hn0 hn1).1 (Nat.succ_pos _) (Nat.succ_ne_zero _) (by rw [show own_pv ([own_dg n (1000000000000000000 : Int64), own_dg n (100000000000000000 : Int64), own_dg n (10000000000000000 : Int64), own_dg n (1000000000000000 : Int64), own_dg n (100000000000000 : Int64), own_dg n (10000000000000 : Int64), own_dg n (1000000000000 : Int64), own_dg n (100000000000 : Int64), own_dg n (10000000000 : Int64), own_dg n (1000000000 : Int64), own_dg n (100000000 : Int64), own_dg n (10000000 : Int64), own_dg n (1000000 : Int64), own_dg n (100000 : Int64), own_dg n (10000 : Int64), own_dg n (1000 : Int64), own_dg n (100 : Int64), own_dg n (10 : Int64), own_dg n (1 : Int64)] : List Int32) (([own_dg n (1000000000000000000 : Int64), own_dg n (100000000000000000 : Int64), own_dg n (10000000000000000 : Int64), own_dg n (1000000000000000 : Int64), own_dg n (100000000000000 : Int64), own_dg n (10000000000000 : Int64), own_dg n (1000000000000 : Int64), own_dg n (100000000000 : Int64), own_dg n (10000000000 : Int64), own_dg n (1000000000 : Int64), own_dg n (100000000 : Int64), own_dg n (10000000 : Int64), own_dg n (1000000 : Int64), own_dg n (100000 : Int64), own_dg n (10000 : Int64), own_dg n (1000 : Int64), own_dg n (100 : Int64), own_dg n (10 : Int64), own_dg n (1 : Int64)] : List Int32)).length = _ from (own_cs19 hn0 hn1).2.1]; exact Int.le_refl _)) e135 (g := (mkF m 444 #[.val (.long v), .second, .val (.long mm), .second, .val (.int sel), .val (.long (v &&& (9223372036854775807 : Int64))), .second, .val (.int (sel &&& (3 : Int32))), .val (.long n), .second, .val (.ref b121), .val (.long n), .second] [(.long n), (.ref b121), (.ref a135)])) rfl (by rw [hml]; rfl) [(.ref a135), (.ref b121), (.long n)] [] 0 (lenOf pd_6 rfl) rfl rfl (by show 2 * 0 + _ ≤ _; exact Nat.le_of_eq rfl) (hb hby at_444) (by decide) (by decide) (by decide) (by decide) rfl rfl ?_
            intro T141 X141 e141
            show Done _ p e below s _ _ (T141.setTop (mkF m 447 #[.val (.long v), .second, .val (.long mm), .second, .val (.int sel), .val (.long (v &&& (9223372036854775807 : Int64))), .second, .val (.int (sel &&& (3 : Int32))), .val (.long n), .second, .val (.ref b121), .val (.long n), .second] [(.long (Int64.ofInt (own_pv ([own_dg n (1000000000000000000 : Int64), own_dg n (100000000000000000 : Int64), own_dg n (10000000000000000 : Int64), own_dg n (1000000000000000 : Int64), own_dg n (100000000000000 : Int64), own_dg n (10000000000000 : Int64), own_dg n (1000000000000 : Int64), own_dg n (100000000000 : Int64), own_dg n (10000000000 : Int64), own_dg n (1000000000 : Int64), own_dg n (100000000 : Int64), own_dg n (10000000 : Int64), own_dg n (1000000 : Int64), own_dg n (100000 : Int64), own_dg n (10000 : Int64), own_dg n (1000 : Int64), own_dg n (100 : Int64), own_dg n (10 : Int64), own_dg n (1 : Int64)] : List Int32) (([own_dg n (1000000000000000000 : Int64), own_dg n (100000000000000000 : Int64), own_dg n (10000000000000000 : Int64), own_dg n (1000000000000000 : Int64), own_dg n (100000000000000 : Int64), own_dg n (10000000000000 : Int64), own_dg n (1000000000000 : Int64), own_dg n (100000000000 : Int64), own_dg n (10000000000 : Int64), own_dg n (1000000000 : Int64), own_dg n (100000000 : Int64), own_dg n (10000000 : Int64), own_dg n (1000000 : Int64), own_dg n (100000 : Int64), own_dg n (10000 : Int64), own_dg n (1000 : Int64), own_dg n (100 : Int64), own_dg n (10 : Int64), own_dg n (1 : Int64)] : List Int32)).length)))]))
            rw [hpv]
            show Done _ p e below s _ _ (T141.setTop (mkF m 447 #[.val (.long v), .second, .val (.long mm), .second, .val (.int sel), .val (.long (v &&& (9223372036854775807 : Int64))), .second, .val (.int (sel &&& (3 : Int32))), .val (.long n), .second, .val (.ref b121), .val (.long n), .second] [(.long n)]))
            refine Done.step (fun _ => XT.lload X141.here hx rfl (hb hby at_447) rfl) ?_
            show Done _ p e below s _ _ (T141.setTop (mkF m 449 #[.val (.long v), .second, .val (.long mm), .second, .val (.int sel), .val (.long (v &&& (9223372036854775807 : Int64))), .second, .val (.int (sel &&& (3 : Int32))), .val (.long n), .second, .val (.ref b121), .val (.long n), .second] [(.long n), (.long n)]))
            refine Done.step (fun _ => XT.lcmp X141.here hx rfl (hb hby at_449) rfl) ?_
            show Done _ p e below s _ _ (T141.setTop (mkF m 450 #[.val (.long v), .second, .val (.long mm), .second, .val (.int sel), .val (.long (v &&& (9223372036854775807 : Int64))), .second, .val (.int (sel &&& (3 : Int32))), .val (.long n), .second, .val (.ref b121), .val (.long n), .second] [(.int (XT.cmpL n n))]))
            refine Done.step (fun _ => XS.ifNo X141.here hx rfl (hb hby at_450) rfl (XT.ll_ne_f rfl)) ?_
            show Done _ p e below s _ _ (T141.setTop (mkF m 453 #[.val (.long v), .second, .val (.long mm), .second, .val (.int sel), .val (.long (v &&& (9223372036854775807 : Int64))), .second, .val (.int (sel &&& (3 : Int32))), .val (.long n), .second, .val (.ref b121), .val (.long n), .second] []))
            refine Done.step (fun _ => XT.iconstV X141.here hx rfl (1 : Int32) (hb hby at_453) (by decide)) ?_
            show Done _ p e below s _ _ (T141.setTop (mkF m 454 #[.val (.long v), .second, .val (.long mm), .second, .val (.int sel), .val (.long (v &&& (9223372036854775807 : Int64))), .second, .val (.int (sel &&& (3 : Int32))), .val (.long n), .second, .val (.ref b121), .val (.long n), .second] [(.int (1 : Int32))]))
            refine Done.step (fun _ => XS.goto X141.here hx rfl (pc0 := 454) (pc' := 458) rfl (hb hby at_454) (by decide) (by decide)) ?_
            show Done _ p e below s _ _ (T141.setTop (mkF m 458 #[.val (.long v), .second, .val (.long mm), .second, .val (.int sel), .val (.long (v &&& (9223372036854775807 : Int64))), .second, .val (.int (sel &&& (3 : Int32))), .val (.long n), .second, .val (.ref b121), .val (.long n), .second] [(.int (1 : Int32))]))
            exact Done.retN (leavesW X141 hS (by first | exact hk | (rw [e141]; exact hk)) hlk (by decide) (by decide)) X141 hx (t := .boolean) hret (by simp) (hb hby at_458) ⟨rfl, N124⟩
        exact KN175 (v &&& (9223372036854775807 : Int64)) (own_pos v) (by have := (v &&& (9223372036854775807 : Int64)).toInt_lt; omega)
set_option maxRecDepth 65536 in
set_option maxHeartbeats 40000000 in
theorem comes_1 {Post : Tables → Env → Array Value → State → Outcome → State → Prop} (hpost : ∀ tb e args s v u, (limb_1_1.after args s (.returned v) u = true ∧ limb_1_2.after args s (.returned v) u = true ∧ True) → ReturnedEndW s (.returned v) u (Jvm.fieldLocs frame_1_writes args s ++ Jvm.arrayLocs frame_1_arrays args s ++ Jvm.staticLocs frame_1_statics s) 16 1216 → Post tb e args s (.returned v) u) :
    ArmFor flags0 classFile x code maxLocals ret World_1 tables_1 room_1 Calls_1 rest_1 Pre_1 Post := by
  intro l hfl _ _ p e ha hc hk s m args below hf hA hF happ hP
  obtain ⟨hcalls, hrest, hpre⟩ := hP
  obtain ⟨-, -, -, hnamed, -, -, -, hat⟩ := (Spec.applies_iff hf).mp happ
  obtain ⟨hg, hn⟩ := and_e (Cond.before_iff.mp (show (Jvm.Cond.and given_1 narrow_1).before args s = true from hpre))
  obtain ⟨w0, w1, w2, rfl⟩ : ∃ w0 w1 w2 : Value, args = #[w0, w1, w2] := by
    have hs : args.size = 3 := by simpa [Cond.value] using (and_e hg).1
    obtain ⟨L⟩ := args
    match L, hs with
    | [w0, w1, w2], _ => exact ⟨w0, w1, w2, rfl⟩
  have hw := fun d (hd : d ∈ tables_1) => atoms_spec (ws := Jvm.Cond.code x code maxLocals ret :: tables_1) hat d (List.mem_cons_of_mem _ hd)
  have hfit : Fit s := fun {y c} hc i hi => by
    obtain ⟨ha, rfl⟩ := Array.getElem?_eq_some_iff.mp hc
    have q := List.all_eq_true.mp ((Array.all_eq_true_iff_forall_mem.mp hF) _ (Array.getElem_mem ha)) i (List.mem_range.mpr hi)
    simpa [Array.getElem?_eq_getElem hi] using q
  obtain ⟨hsets, hown0⟩ := atoms_of _ (rest_1_c_eq ▸ (show rest_1_c.before _ s = true from hrest))
  have hr0 := Cond.before_iff.mp hown0
  obtain ⟨_, hg0⟩ := and_e hg
  obtain ⟨ga0, hg1⟩ := and_e hg0
  obtain ⟨i0, ei0⟩ := isL_v ga0
  obtain rfl : w0 = (.long i0) := Option.some.inj ei0
  obtain ⟨ga1, hg2⟩ := and_e hg1
  obtain ⟨i1, ei1⟩ := isL_v ga1
  obtain rfl : w1 = (.long i1) := Option.some.inj ei1
  obtain ⟨i2, ei2⟩ := is_v hg2
  obtain rfl : w2 = (.int i2) := Option.some.inj ei2
  obtain ⟨z, ez⟩ := is_v (Cond.before_iff.mp (hsets _ (List.mem_of_getElem? (i := 1) rfl)))
  have SC := Sta.start ez (Or.inl (hsets _ (List.mem_of_getElem? (i := 0) rfl)))
  have hz : ¬ z = 0 := fun q => gotF (eq_v ez) (not_v (Cond.before_iff.mp (hsets _ (List.mem_of_getElem? (i := 2) rfl)))) q
  obtain ⟨fm, ef, rF⟩ := isR_v (Cond.before_iff.mp (hsets _ (List.mem_of_getElem? (i := 8) rfl)))
  have SF := Sta.start ef (Or.inl (hsets _ (List.mem_of_getElem? (i := 7) rfl)))
  obtain ⟨n, o, h1, h2, h3, _, L, rfl, ⟨rfl, N⟩, hq⟩ := rm0 l s _ hw tables_1 i0 i1 i2 z fm s.heap s.heap.size (Nat.le_refl _) (Old.start s) SC hz SF rF p e ha hc hk s m _ below hf ((Spec.applies_iff_loose hf).mp happ).1 ⟨rfl, State.Warmed39.refl s, rfl, trivial⟩ trivial
  refine ⟨n, _, h1, h2, h3, hpost _ _ _ _ _ _ ⟨Cond.after_iff.mpr rfl, Cond.after_iff.mpr (eq_i res_at (Term.int_eval (1)) rfl), trivial⟩ ⟨hq.1, hq.2.1, hq.2.2.1, (hq.2.2.2.sift fun y hy => Or.inr (N y hy)).mono (by decide) (by decide)⟩⟩
theorem main_1_1 : Claimed_1_1 := comes_1 fun _ _ _ _ _ _ h hF => ⟨h.1, hF⟩
theorem main_1_2 : Claimed_1_2 := comes_1 fun _ _ _ _ _ _ h hF => ⟨h.2.1, hF⟩
end Jvm.Pilot.@@N@@
namespace Jvm.Pilot.@@N@@
open Jvm Jvm.ClassFile Sem Op Lib Jvm.Free Jvm.Stand Jvm.Pilot.@@N@@.Jvm.D
/-! MADE BY PROGRAM (witnessworld.py) out of the Statement's table words and the real class files: 21 classes; the members and pool entries that the words name. The judged class is class 1, her method 2. -/
namespace start1
open Jvm.ClassFile
def u (s : String) : CpInfo := .utf8 (stringToUtf16 s)
/-- a pool by its gaps: so many unusable entries, then the entry; so many at the end -/
def gap : Nat → List CpInfo → List CpInfo
  | 0, r => r
  | n + 1, r => .unusable :: gap n r
def poolList (es : List (Nat × CpInfo)) (last : Nat) : List CpInfo := es.foldr (fun e r => gap e.1 (e.2 :: r)) (gap last [])
def pool (es : List (Nat × CpInfo)) (last : Nat) : Array CpInfo := ⟨poolList es last⟩
def fileOf (pool : Array CpInfo) (this : Nat) (attrs : Array Attribute := #[]) (ms : Array MethodInfo := #[]) (fl : Nat := 33) (sup : Nat := 0) (ifs : Array Nat := #[]) (fds : Array FieldInfo := #[]) : ClassFile where
  minorVersion := 0
  majorVersion := 65
  constantPool := pool
  accessFlags := fl
  thisClass := this
  superClass := sup
  interfaces := ifs
  fields := fds
  methods := ms
  attributes := attrs
def plain (name : String) (sup : Option ClassId) : Class where
  name := name
  kind := .ordinary
  loader := none
  accessFlags := 33
  super := sup
  interfaces := #[]
  cf := none
  fields := #[]
  methods := #[]
  instanceTypes := #[]
  staticTypes := #[]
  resolved := #[]
  callSites := []
  init := .initialized
  statics := none
  mirror := none

def pool0 : Array CpInfo := pool [(5, u "<init>"), (0, u "()V"), (1, .class_ 10), (1, u "java/lang/Object")] 113

def k0c0 : Code := { maxStack := 0, maxLocals := 1, code := object_method_1_code, exceptionTable := #[], attributes := #[] }
def k0m0 : Method := { name := "<init>", desc := "()V", sig := { parameters := [], returnType := none }, accessFlags := 1, code := some k0c0 }
/-- java/lang/Object -/
def k0 : Class := { plain "java/lang/Object" none with
  accessFlags := 33
  interfaces := #[]
  cf := some (fileOf pool0 8 #[] #[{ accessFlags := 1, nameIndex := 5, descriptorIndex := 6, attributes := #[] }] 33 0 #[] #[])
  fields := #[]
  methods := #[k0m0]
  instanceTypes := #[]
  staticTypes := #[]
  resolved := Array.replicate 124 none
  statics := none }

def pool1 : Array CpInfo := pool [(2, .class_ 4), (1, u "java/lang/Object"), (0, u "<init>"), (0, u "()V"), (0, .long 10), (3, .long 9223372036854775807), (1, .methodref 14 15), (0, .class_ 16), (0, .nameAndType 17 18), (0, u "com/example/requeue/requeue/srmp/DecimalParsePinLaw"), (0, u "d"), (0, u "(JJ)C"), (0, .class_ 20), (0, u "java/lang/String"), (0, .methodref 19 22), (0, .nameAndType 5 23), (0, u "([C)V"), (0, .long 100), (1, .long 1000), (1, .long 1000000000000000000), (1, .long 100000000000000000), (1, .long 10000000000000000), (1, .long 1000000000000000), (1, .long 100000000000000), (1, .long 10000000000000), (1, .long 1000000000000), (1, .long 100000000000), (1, .long 10000000000), (1, .long 1000000000), (1, .long 100000000), (1, .long 10000000), (1, .long 1000000), (1, .long 100000), (1, .long 10000), (1, .methodref 59 60), (0, .class_ 61), (0, .nameAndType 62 63), (0, u "java/lang/Math"), (0, u "max"), (0, u "(JJ)J"), (0, .string 65), (0, u "n"), (0, .methodref 67 68), (0, .class_ 69), (0, .nameAndType 70 71), (0, u "com/example/requeue/requeue/srmp/Decimal"), (0, u "parse"), (0, u "(Ljava/lang/String;Ljava/lang/String;J)J"), (2, u "law"), (0, u "(JJI)Z")] 6

def k1m0 : Method := { name := "<init>", desc := "()V", sig := { parameters := [], returnType := none }, accessFlags := 2, code := none }
def k1c1 : Code := { maxStack := 5, maxLocals := 4, code := method_2_code, exceptionTable := #[], attributes := #[] }
def k1m1 : Method := { name := "d", desc := "(JJ)C", sig := { parameters := [.long, .long], returnType := some .char }, accessFlags := 10, code := some k1c1 }
def k1c2 : Code := { maxStack := 7, maxLocals := 13, code := code, exceptionTable := #[], attributes := #[] }
def k1m2 : Method := { name := "law", desc := "(JJI)Z", sig := { parameters := [.long, .long, .int], returnType := some .boolean }, accessFlags := 9, code := some k1c2 }
/-- com/example/requeue/requeue/srmp/DecimalParsePinLaw -/
def k1 : Class := { plain "com/example/requeue/requeue/srmp/DecimalParsePinLaw" (some 0) with
  accessFlags := 49
  interfaces := #[]
  cf := some (fileOf pool1 14 #[] #[{ accessFlags := 2, nameIndex := 5, descriptorIndex := 6, attributes := #[] }, { accessFlags := 10, nameIndex := 17, descriptorIndex := 18, attributes := #[] }, { accessFlags := 9, nameIndex := 74, descriptorIndex := 75, attributes := #[] }] 49 2 #[] #[])
  fields := #[]
  methods := #[k1m0, k1m1, k1m2]
  instanceTypes := #[]
  staticTypes := #[]
  resolved := Array.replicate 82 none
  statics := none }

def pool2 : Array CpInfo := pool [(1, .class_ 2), (0, u "java/io/Serializable"), (0, .class_ 4), (0, u "java/lang/Object")] 2

/-- java/io/Serializable -/
def k2 : Class := { plain "java/io/Serializable" (some 0) with
  accessFlags := 1537
  interfaces := #[]
  cf := some (fileOf pool2 1 #[] #[] 1537 3 #[] #[])
  fields := #[]
  methods := #[]
  instanceTypes := #[]
  staticTypes := #[]
  resolved := Array.replicate 7 none
  statics := none }

def pool3 : Array CpInfo := pool [(1, .class_ 2), (0, u "java/lang/Comparable"), (0, .class_ 4), (0, u "java/lang/Object")] 7

/-- java/lang/Comparable -/
def k3 : Class := { plain "java/lang/Comparable" (some 0) with
  accessFlags := 1537
  interfaces := #[]
  cf := some (fileOf pool3 1 #[] #[] 1537 3 #[] #[])
  fields := #[]
  methods := #[]
  instanceTypes := #[]
  staticTypes := #[]
  resolved := Array.replicate 12 none
  statics := none }

def pool4 : Array CpInfo := pool [(2, .class_ 4), (1, u "java/lang/CharSequence"), (42, .class_ 48), (0, u "java/lang/CharSequence$1CodePointIterator"), (10, .class_ 60), (0, u "java/lang/CharSequence$1CharIterator"), (5, .class_ 67), (0, u "java/lang/Object")] 63

/-- java/lang/CharSequence -/
def k4 : Class := { plain "java/lang/CharSequence" (some 0) with
  accessFlags := 1537
  interfaces := #[]
  cf := some (fileOf pool4 2 #[.nestMembers #[47, 59]] #[] 1537 66 #[] #[])
  fields := #[]
  methods := #[]
  instanceTypes := #[]
  staticTypes := #[]
  resolved := Array.replicate 131 none
  statics := none }

def pool5 : Array CpInfo := pool [(1, .class_ 2), (0, u "java/lang/constant/Constable"), (0, .class_ 4), (0, u "java/lang/Object")] 6

/-- java/lang/constant/Constable -/
def k5 : Class := { plain "java/lang/constant/Constable" (some 0) with
  accessFlags := 1537
  interfaces := #[]
  cf := some (fileOf pool5 1 #[] #[] 1537 3 #[] #[])
  fields := #[]
  methods := #[]
  instanceTypes := #[]
  staticTypes := #[]
  resolved := Array.replicate 11 none
  statics := none }

def pool6 : Array CpInfo := pool [(1, .class_ 2), (0, u "java/lang/constant/ConstantDesc"), (0, .class_ 4), (0, u "java/lang/Object")] 32

/-- java/lang/constant/ConstantDesc -/
def k6 : Class := { plain "java/lang/constant/ConstantDesc" (some 0) with
  accessFlags := 1537
  interfaces := #[]
  cf := some (fileOf pool6 1 #[] #[] 1537 3 #[] #[])
  fields := #[]
  methods := #[]
  instanceTypes := #[]
  staticTypes := #[]
  resolved := Array.replicate 37 none
  statics := none }

def pool7 : Array CpInfo := pool [(1, .methodref 2 3), (0, .class_ 4), (0, .nameAndType 5 6), (0, u "java/lang/Object"), (0, u "<init>"), (0, u "()V"), (2, .fieldref 10 11), (0, .class_ 12), (0, .nameAndType 13 14), (0, u "java/lang/String"), (0, u "value"), (0, u "[B"), (0, .fieldref 10 16), (0, .nameAndType 17 18), (0, u "coder"), (0, u "B"), (2, u "hash"), (0, u "I"), (2, u "hashIsZero"), (0, u "Z"), (0, .methodref 10 28), (0, .nameAndType 5 29), (0, u "([CIILjava/lang/Void;)V"), (8, .fieldref 10 39), (0, .nameAndType 40 26), (0, u "COMPACT_STRINGS"), (1, .class_ 44), (1, u "java/lang/StringUTF16"), (0, u "compress"), (1, .methodref 42 48), (0, .nameAndType 49 50), (0, u "coderFromArrayLen"), (0, u "([BI)B"), (56, .class_ 109), (1, u "java/lang/StringLatin1"), (32, u "()Z"), (34, .methodref 42 178), (0, .nameAndType 45 179), (0, u "([CII)[B"), (154, u "()I"), (0, .methodref 10 336), (0, .nameAndType 17 337), (0, u "()B"), (25, u "([BI)C"), (27, u "(II)V"), (35, u "(I)C"), (64, .methodref 10 493), (0, .nameAndType 494 142), (0, u "isLatin1"), (0, .methodref 107 496), (0, .nameAndType 497 363), (0, u "charAt"), (3, u "checkIndex"), (5, u "length"), (67, .class_ 576), (0, u "java/lang/CharSequence"), (22, u "CASE_INSENSITIVE_ORDER"), (0, u "Ljava/util/Comparator;"), (91, u "isEmpty"), (317, u "([C)V"), (42, .fieldref 1054 1055), (0, .class_ 1056), (0, .nameAndType 1057 1058), (0, u "jdk/internal/util/Preconditions"), (0, u "SIOOBE_FORMATTER"), (0, u "Ljava/util/function/BiFunction;"), (0, .methodref 1054 1060), (0, .nameAndType 501 1061), (0, u "(IILjava/util/function/BiFunction;)I"), (39, u "serialPersistentFields"), (0, u "[Ljava/io/ObjectStreamField;"), (0, .class_ 1104), (0, u "java/lang/String$CaseInsensitiveComparator"), (1, .class_ 1107), (0, u "java/io/Serializable"), (0, .class_ 1109), (0, u "java/lang/Comparable"), (0, .class_ 1111), (0, u "java/lang/constant/Constable"), (0, .class_ 1113), (0, u "java/lang/constant/ConstantDesc"), (2, u "serialVersionUID"), (0, u "J"), (3, u "REPL"), (0, u "C"), (2, u "LATIN1"), (1, u "UTF16")] 323

def k7m0 : Method := { name := "<init>", desc := "()V", sig := { parameters := [], returnType := none }, accessFlags := 1, code := none }
def k7c1 : Code := { maxStack := 5, maxLocals := 2, code := jdk_42_method_3_code, exceptionTable := #[], attributes := #[] }
def k7m1 : Method := { name := "<init>", desc := "([C)V", sig := { parameters := [(.array .char)], returnType := none }, accessFlags := 1, code := some k7c1 }
def k7c2 : Code := { maxStack := 2, maxLocals := 1, code := jdk_42_method_54_code, exceptionTable := #[], attributes := #[] }
def k7m2 : Method := { name := "length", desc := "()I", sig := { parameters := [], returnType := some .int }, accessFlags := 1, code := some k7c2 }
def k7c3 : Code := { maxStack := 1, maxLocals := 1, code := jdk_42_method_55_code, exceptionTable := #[], attributes := #[] }
def k7m3 : Method := { name := "isEmpty", desc := "()Z", sig := { parameters := [], returnType := some .boolean }, accessFlags := 1, code := some k7c3 }
def k7c4 : Code := { maxStack := 2, maxLocals := 2, code := jdk_42_method_56_code, exceptionTable := #[], attributes := #[] }
def k7m4 : Method := { name := "charAt", desc := "(I)C", sig := { parameters := [.int], returnType := some .char }, accessFlags := 1, code := some k7c4 }
def k7c5 : Code := { maxStack := 4, maxLocals := 6, code := jdk_42_method_149_code, exceptionTable := #[], attributes := #[] }
def k7m5 : Method := { name := "<init>", desc := "([CIILjava/lang/Void;)V", sig := { parameters := [(.array .char), .int, .int, (.object "java/lang/Void")], returnType := none }, accessFlags := 2, code := some k7c5 }
def k7c6 : Code := { maxStack := 1, maxLocals := 1, code := jdk_42_method_152_code, exceptionTable := #[], attributes := #[] }
def k7m6 : Method := { name := "coder", desc := "()B", sig := { parameters := [], returnType := some .byte }, accessFlags := 0, code := some k7c6 }
def k7c7 : Code := { maxStack := 1, maxLocals := 1, code := jdk_42_method_154_code, exceptionTable := #[], attributes := #[] }
def k7m7 : Method := { name := "isLatin1", desc := "()Z", sig := { parameters := [], returnType := some .boolean }, accessFlags := 0, code := some k7c7 }
def k7c8 : Code := { maxStack := 3, maxLocals := 2, code := jdk_42_method_155_code, exceptionTable := #[], attributes := #[] }
def k7m8 : Method := { name := "checkIndex", desc := "(II)V", sig := { parameters := [.int, .int], returnType := none }, accessFlags := 8, code := some k7c8 }
/-- java/lang/String -/
def k7 : Class := { plain "java/lang/String" (some 0) with
  accessFlags := 49
  interfaces := #[2, 3, 4, 5, 6]
  cf := some (fileOf pool7 10 #[.nestMembers #[1103]] #[{ accessFlags := 1, nameIndex := 5, descriptorIndex := 6, attributes := #[] }, { accessFlags := 1, nameIndex := 5, descriptorIndex := 1010, attributes := #[] }, { accessFlags := 1, nameIndex := 507, descriptorIndex := 334, attributes := #[] }, { accessFlags := 1, nameIndex := 692, descriptorIndex := 142, attributes := #[] }, { accessFlags := 1, nameIndex := 497, descriptorIndex := 427, attributes := #[] }, { accessFlags := 2, nameIndex := 5, descriptorIndex := 29, attributes := #[] }, { accessFlags := 0, nameIndex := 17, descriptorIndex := 337, attributes := #[] }, { accessFlags := 0, nameIndex := 494, descriptorIndex := 142, attributes := #[] }, { accessFlags := 8, nameIndex := 501, descriptorIndex := 391, attributes := #[] }] 49 2 #[1106, 1108, 575, 1110, 1112] #[{ accessFlags := 18, nameIndex := 13, descriptorIndex := 14, attributes := #[] }, { accessFlags := 18, nameIndex := 17, descriptorIndex := 18, attributes := #[] }, { accessFlags := 2, nameIndex := 21, descriptorIndex := 22, attributes := #[] }, { accessFlags := 2, nameIndex := 25, descriptorIndex := 26, attributes := #[] }, { accessFlags := 26, nameIndex := 1116, descriptorIndex := 1117, attributes := #[] }, { accessFlags := 24, nameIndex := 40, descriptorIndex := 26, attributes := #[] }, { accessFlags := 26, nameIndex := 1101, descriptorIndex := 1102, attributes := #[] }, { accessFlags := 26, nameIndex := 1121, descriptorIndex := 1122, attributes := #[] }, { accessFlags := 25, nameIndex := 599, descriptorIndex := 600, attributes := #[] }, { accessFlags := 24, nameIndex := 1125, descriptorIndex := 18, attributes := #[] }, { accessFlags := 24, nameIndex := 1127, descriptorIndex := 18, attributes := #[] }])
  fields := #[{ name := "value", type := (.array .byte), accessFlags := 18, slot := 0, constantValue := 0 }, { name := "coder", type := .byte, accessFlags := 18, slot := 1, constantValue := 0 }, { name := "hash", type := .int, accessFlags := 2, slot := 2, constantValue := 0 }, { name := "hashIsZero", type := .boolean, accessFlags := 2, slot := 3, constantValue := 0 }, { name := "serialVersionUID", type := .long, accessFlags := 26, slot := 0, constantValue := 0 }, { name := "COMPACT_STRINGS", type := .boolean, accessFlags := 24, slot := 1, constantValue := 0 }, { name := "serialPersistentFields", type := (.array (.object "java/io/ObjectStreamField")), accessFlags := 26, slot := 2, constantValue := 0 }, { name := "REPL", type := .char, accessFlags := 26, slot := 3, constantValue := 0 }, { name := "CASE_INSENSITIVE_ORDER", type := (.object "java/util/Comparator"), accessFlags := 25, slot := 4, constantValue := 0 }, { name := "LATIN1", type := .byte, accessFlags := 24, slot := 5, constantValue := 0 }, { name := "UTF16", type := .byte, accessFlags := 24, slot := 6, constantValue := 0 }]
  methods := #[k7m0, k7m1, k7m2, k7m3, k7m4, k7m5, k7m6, k7m7, k7m8]
  instanceTypes := #[(.array .byte), .byte, .int, .boolean]
  staticTypes := #[.long, .boolean, (.array (.object "java/io/ObjectStreamField")), .char, (.object "java/util/Comparator"), .byte, .byte]
  resolved := Array.replicate 1451 none
  statics := some 0 }

def pool8 : Array CpInfo := pool [(6, .class_ 8), (1, u "java/lang/Object"), (0, u "<init>"), (0, u "()V"), (1, .class_ 14), (1, u "java/lang/StringUTF16"), (31, u "$assertionsDisabled"), (0, u "Z"), (13, u "HI_BYTE_SHIFT"), (0, u "I"), (2, u "LO_BYTE_SHIFT"), (49, .methodref 12 116), (0, .nameAndType 117 118), (0, u "compress"), (0, u "([CI[BII)I"), (3, u "([CII)[B"), (138, u "coderFromArrayLen"), (0, u "([BI)B"), (106, .class_ 371), (1, u "java/lang/StringUTF16$LinesSpliterator"), (58, u "MAX_LENGTH"), (196, .class_ 628), (0, u "java/lang/StringUTF16$CodePointsSpliterator"), (0, .class_ 630), (0, u "java/lang/StringUTF16$CharsSpliterator")] 4

def k8m0 : Method := { name := "<init>", desc := "()V", sig := { parameters := [], returnType := none }, accessFlags := 0, code := none }
def k8c1 : Code := { maxStack := 2, maxLocals := 2, code := jdk_52_method_15_code, exceptionTable := #[], attributes := #[] }
def k8m1 : Method := { name := "coderFromArrayLen", desc := "([BI)B", sig := { parameters := [(.array .byte), .int], returnType := some .byte }, accessFlags := 8, code := some k8c1 }
def k8c2 : Code := { maxStack := 5, maxLocals := 6, code := jdk_52_method_16_code, exceptionTable := #[], attributes := #[] }
def k8m2 : Method := { name := "compress", desc := "([CII)[B", sig := { parameters := [(.array .char), .int, .int], returnType := some (.array .byte) }, accessFlags := 9, code := some k8c2 }
def k8c3 : Code := { maxStack := 3, maxLocals := 7, code := jdk_52_method_21_code, exceptionTable := #[], attributes := #[] }
def k8m3 : Method := { name := "compress", desc := "([CI[BII)I", sig := { parameters := [(.array .char), .int, (.array .byte), .int, .int], returnType := some .int }, accessFlags := 9, code := some k8c3 }
/-- java/lang/StringUTF16 -/
def k8 : Class := { plain "java/lang/StringUTF16" (some 0) with
  accessFlags := 48
  interfaces := #[]
  cf := some (fileOf pool8 12 #[.nestMembers #[627, 629, 369]] #[{ accessFlags := 0, nameIndex := 9, descriptorIndex := 10, attributes := #[] }, { accessFlags := 8, nameIndex := 261, descriptorIndex := 262, attributes := #[] }, { accessFlags := 9, nameIndex := 117, descriptorIndex := 122, attributes := #[] }, { accessFlags := 9, nameIndex := 117, descriptorIndex := 118, attributes := #[] }] 48 6 #[] #[{ accessFlags := 26, nameIndex := 61, descriptorIndex := 62, attributes := #[] }, { accessFlags := 26, nameIndex := 65, descriptorIndex := 62, attributes := #[] }, { accessFlags := 24, nameIndex := 430, descriptorIndex := 62, attributes := #[] }, { accessFlags := 4120, nameIndex := 46, descriptorIndex := 47, attributes := #[] }])
  fields := #[{ name := "HI_BYTE_SHIFT", type := .int, accessFlags := 26, slot := 0, constantValue := 0 }, { name := "LO_BYTE_SHIFT", type := .int, accessFlags := 26, slot := 1, constantValue := 0 }, { name := "MAX_LENGTH", type := .int, accessFlags := 24, slot := 2, constantValue := 0 }, { name := "$assertionsDisabled", type := .boolean, accessFlags := 4120, slot := 3, constantValue := 0 }]
  methods := #[k8m0, k8m1, k8m2, k8m3]
  instanceTypes := #[]
  staticTypes := #[.int, .int, .int, .boolean]
  resolved := Array.replicate 635 none
  statics := none }

def pool9 : Array CpInfo := pool [(1, .class_ 2), (0, u "java/lang/Math"), (1, .class_ 6), (1, u "java/lang/Object"), (0, u "<init>"), (0, u "()V"), (89, .class_ 100), (1, u "java/lang/Math$RandomNumberGeneratorHolder"), (20, u "(JJ)J"), (50, u "negativeZeroFloatBits"), (0, u "J"), (2, u "negativeZeroDoubleBits"), (21, u "max"), (2, u "min"), (43, u "$assertionsDisabled"), (0, u "Z"), (91, u "twoToTheDoubleScaleDown"), (0, u "D"), (4, u "twoToTheDoubleScaleUp"), (9, u "E"), (3, u "PI"), (2, u "TAU"), (2, u "DEGREES_TO_RADIANS"), (0, u "RADIANS_TO_DEGREES")] 94

def k9m0 : Method := { name := "<init>", desc := "()V", sig := { parameters := [], returnType := none }, accessFlags := 2, code := none }
def k9c1 : Code := { maxStack := 4, maxLocals := 4, code := jdk_29_method_66_code, exceptionTable := #[], attributes := #[] }
def k9m1 : Method := { name := "max", desc := "(JJ)J", sig := { parameters := [.long, .long], returnType := some .long }, accessFlags := 9, code := some k9c1 }
def k9c2 : Code := { maxStack := 4, maxLocals := 4, code := jdk_29_method_70_code, exceptionTable := #[], attributes := #[] }
def k9m2 : Method := { name := "min", desc := "(JJ)J", sig := { parameters := [.long, .long], returnType := some .long }, accessFlags := 9, code := some k9c2 }
/-- java/lang/Math -/
def k9 : Class := { plain "java/lang/Math" (some 0) with
  accessFlags := 49
  interfaces := #[]
  cf := some (fileOf pool9 1 #[.nestMembers #[98]] #[{ accessFlags := 2, nameIndex := 7, descriptorIndex := 8, attributes := #[] }, { accessFlags := 9, nameIndex := 198, descriptorIndex := 121, attributes := #[] }, { accessFlags := 9, nameIndex := 201, descriptorIndex := 121, attributes := #[] }] 49 4 #[] #[{ accessFlags := 25, nameIndex := 354, descriptorIndex := 339, attributes := #[] }, { accessFlags := 25, nameIndex := 358, descriptorIndex := 339, attributes := #[] }, { accessFlags := 25, nameIndex := 361, descriptorIndex := 339, attributes := #[] }, { accessFlags := 26, nameIndex := 364, descriptorIndex := 339, attributes := #[] }, { accessFlags := 26, nameIndex := 365, descriptorIndex := 339, attributes := #[] }, { accessFlags := 26, nameIndex := 172, descriptorIndex := 173, attributes := #[] }, { accessFlags := 26, nameIndex := 176, descriptorIndex := 173, attributes := #[] }, { accessFlags := 8, nameIndex := 344, descriptorIndex := 339, attributes := #[] }, { accessFlags := 8, nameIndex := 338, descriptorIndex := 339, attributes := #[] }, { accessFlags := 4120, nameIndex := 245, descriptorIndex := 246, attributes := #[] }])
  fields := #[{ name := "E", type := .double, accessFlags := 25, slot := 0, constantValue := 0 }, { name := "PI", type := .double, accessFlags := 25, slot := 1, constantValue := 0 }, { name := "TAU", type := .double, accessFlags := 25, slot := 2, constantValue := 0 }, { name := "DEGREES_TO_RADIANS", type := .double, accessFlags := 26, slot := 3, constantValue := 0 }, { name := "RADIANS_TO_DEGREES", type := .double, accessFlags := 26, slot := 4, constantValue := 0 }, { name := "negativeZeroFloatBits", type := .long, accessFlags := 26, slot := 5, constantValue := 0 }, { name := "negativeZeroDoubleBits", type := .long, accessFlags := 26, slot := 6, constantValue := 0 }, { name := "twoToTheDoubleScaleUp", type := .double, accessFlags := 8, slot := 7, constantValue := 0 }, { name := "twoToTheDoubleScaleDown", type := .double, accessFlags := 8, slot := 8, constantValue := 0 }, { name := "$assertionsDisabled", type := .boolean, accessFlags := 4120, slot := 9, constantValue := 0 }]
  methods := #[k9m0, k9m1, k9m2]
  instanceTypes := #[]
  staticTypes := #[.double, .double, .double, .double, .double, .long, .long, .double, .double, .boolean]
  resolved := Array.replicate 460 none
  statics := none }

def pool10 : Array CpInfo := pool [(2, .class_ 4), (1, u "java/lang/Object"), (0, u "<init>"), (0, u "()V"), (0, .methodref 8 9), (0, .class_ 10), (0, .nameAndType 11 12), (0, u "java/lang/String"), (0, u "isEmpty"), (0, u "()Z"), (0, .methodref 8 14), (0, .nameAndType 15 16), (0, u "length"), (0, u "()I"), (0, .methodref 8 18), (0, .nameAndType 19 20), (0, u "charAt"), (0, u "(I)C"), (0, .long 9), (1, .methodref 24 25), (0, .class_ 26), (0, .nameAndType 27 28), (0, u "java/lang/Math"), (0, u "min"), (0, u "(JJ)J"), (0, .long 10), (10, .class_ 41), (0, u "com/example/requeue/requeue/srmp/Decimal"), (2, u "parse"), (0, u "(Ljava/lang/String;Ljava/lang/String;J)J")] 19

def k10m0 : Method := { name := "<init>", desc := "()V", sig := { parameters := [], returnType := none }, accessFlags := 2, code := none }
def k10c1 : Code := { maxStack := 6, maxLocals := 9, code := prog_40_method_2_code, exceptionTable := #[], attributes := #[] }
def k10m1 : Method := { name := "parse", desc := "(Ljava/lang/String;Ljava/lang/String;J)J", sig := { parameters := [(.object "java/lang/String"), (.object "java/lang/String"), .long], returnType := some .long }, accessFlags := 8, code := some k10c1 }
/-- com/example/requeue/requeue/srmp/Decimal -/
def k10 : Class := { plain "com/example/requeue/requeue/srmp/Decimal" (some 0) with
  accessFlags := 48
  interfaces := #[]
  cf := some (fileOf pool10 40 #[] #[{ accessFlags := 2, nameIndex := 5, descriptorIndex := 6, attributes := #[] }, { accessFlags := 8, nameIndex := 44, descriptorIndex := 45, attributes := #[] }] 48 2 #[] #[])
  fields := #[]
  methods := #[k10m0, k10m1]
  instanceTypes := #[]
  staticTypes := #[]
  resolved := Array.replicate 65 none
  statics := none }

def pool11 : Array CpInfo := pool [(1, .class_ 2), (0, u "java/lang/String"), (1, .class_ 6), (1, u "java/lang/Object"), (0, u "<init>"), (0, u "()V"), (0, .methodref 1 10), (0, .nameAndType 11 12), (0, u "checkIndex"), (0, u "(II)V"), (1, .class_ 16), (1, u "java/lang/StringLatin1"), (36, u "([BI)C"), (67, u "$assertionsDisabled"), (0, u "Z"), (98, .class_ 223), (1, u "java/lang/StringLatin1$LinesSpliterator"), (28, u "charAt"), (137, .class_ 391), (0, u "java/lang/StringLatin1$CharsSpliterator")] 3

def k11m0 : Method := { name := "<init>", desc := "()V", sig := { parameters := [], returnType := none }, accessFlags := 0, code := none }
def k11c1 : Code := { maxStack := 2, maxLocals := 2, code := jdk_43_method_2_code, exceptionTable := #[], attributes := #[] }
def k11m1 : Method := { name := "charAt", desc := "([BI)C", sig := { parameters := [(.array .byte), .int], returnType := some .char }, accessFlags := 9, code := some k11c1 }
/-- java/lang/StringLatin1 -/
def k11 : Class := { plain "java/lang/StringLatin1" (some 0) with
  accessFlags := 48
  interfaces := #[]
  cf := some (fileOf pool11 14 #[.nestMembers #[390, 221]] #[{ accessFlags := 0, nameIndex := 7, descriptorIndex := 8, attributes := #[] }, { accessFlags := 9, nameIndex := 252, descriptorIndex := 53, attributes := #[] }] 48 4 #[] #[{ accessFlags := 4120, nameIndex := 121, descriptorIndex := 122, attributes := #[] }])
  fields := #[{ name := "$assertionsDisabled", type := .boolean, accessFlags := 4120, slot := 0, constantValue := 0 }]
  methods := #[k11m0, k11m1]
  instanceTypes := #[]
  staticTypes := #[.boolean]
  resolved := Array.replicate 395 none
  statics := none }

def pool12 : Array CpInfo := pool [(2, .class_ 4), (1, u "java/lang/Object"), (0, u "<init>"), (0, u "()V"), (17, .class_ 26), (1, u "jdk/internal/util/Preconditions"), (6, u "checkIndex"), (21, .class_ 56), (0, u "jdk/internal/util/Preconditions$4"), (57, .class_ 115), (0, u "jdk/internal/util/Preconditions$1"), (7, u "SIOOBE_FORMATTER"), (0, u "Ljava/util/function/BiFunction;"), (0, .class_ 126), (0, u "jdk/internal/util/Preconditions$2"), (3, u "AIOOBE_FORMATTER"), (0, .class_ 132), (0, u "jdk/internal/util/Preconditions$3"), (3, u "IOOBE_FORMATTER"), (41, u "(IILjava/util/function/BiFunction;)I")] 15

def k12m0 : Method := { name := "<init>", desc := "()V", sig := { parameters := [], returnType := none }, accessFlags := 1, code := none }
def k12c1 : Code := { maxStack := 3, maxLocals := 3, code := jdk_41_method_11_code, exceptionTable := #[], attributes := #[] }
def k12m1 : Method := { name := "checkIndex", desc := "(IILjava/util/function/BiFunction;)I", sig := { parameters := [.int, .int, (.object "java/util/function/BiFunction")], returnType := some .int }, accessFlags := 9, code := some k12c1 }
/-- jdk/internal/util/Preconditions -/
def k12 : Class := { plain "jdk/internal/util/Preconditions" (some 0) with
  accessFlags := 33
  interfaces := #[]
  cf := some (fileOf pool12 24 #[.nestMembers #[55, 131, 125, 114]] #[{ accessFlags := 1, nameIndex := 5, descriptorIndex := 6, attributes := #[] }, { accessFlags := 9, nameIndex := 33, descriptorIndex := 178, attributes := #[] }] 33 2 #[] #[{ accessFlags := 25, nameIndex := 123, descriptorIndex := 124, attributes := #[] }, { accessFlags := 25, nameIndex := 130, descriptorIndex := 124, attributes := #[] }, { accessFlags := 25, nameIndex := 136, descriptorIndex := 124, attributes := #[] }])
  fields := #[{ name := "SIOOBE_FORMATTER", type := (.object "java/util/function/BiFunction"), accessFlags := 25, slot := 0, constantValue := 0 }, { name := "AIOOBE_FORMATTER", type := (.object "java/util/function/BiFunction"), accessFlags := 25, slot := 1, constantValue := 0 }, { name := "IOOBE_FORMATTER", type := (.object "java/util/function/BiFunction"), accessFlags := 25, slot := 2, constantValue := 0 }]
  methods := #[k12m0, k12m1]
  instanceTypes := #[]
  staticTypes := #[(.object "java/util/function/BiFunction"), (.object "java/util/function/BiFunction"), (.object "java/util/function/BiFunction")]
  resolved := Array.replicate 194 none
  statics := some 1 }

def pool13 : Array CpInfo := pool [(9, u "<init>"), (6, .class_ 18), (1, u "java/lang/Object"), (0, u "()V"), (1, .class_ 23), (1, u "jdk/internal/util/ArraysSupport"), (0, u "LOG2_ARRAY_LONG_INDEX_SCALE"), (0, u "I"), (2, u "U"), (0, u "Ljdk/internal/misc/Unsafe;"), (8, u "BIG_ENDIAN"), (0, u "Z"), (8, u "LOG2_BYTE_BIT_SIZE"), (4, u "LOG2_ARRAY_INT_INDEX_SCALE"), (54, u "JLA"), (0, u "Ljdk/internal/access/JavaLangAccess;"), (11, u "LOG2_ARRAY_BOOLEAN_INDEX_SCALE"), (9, u "LOG2_ARRAY_BYTE_INDEX_SCALE"), (5, u "LOG2_ARRAY_CHAR_INDEX_SCALE"), (5, u "LOG2_ARRAY_SHORT_INDEX_SCALE"), (18, u "LOG2_ARRAY_FLOAT_INDEX_SCALE"), (24, u "LOG2_ARRAY_DOUBLE_INDEX_SCALE"), (89, u "T_BOOLEAN"), (2, u "T_CHAR"), (1, u "T_FLOAT"), (1, u "T_DOUBLE"), (1, u "T_BYTE"), (1, u "T_SHORT"), (1, u "T_INT"), (1, u "T_LONG"), (1, u "SOFT_MAX_ARRAY_LENGTH")] 83

def k13m0 : Method := { name := "<init>", desc := "()V", sig := { parameters := [], returnType := none }, accessFlags := 2, code := none }
/-- jdk/internal/util/ArraysSupport -/
def k13 : Class := { plain "jdk/internal/util/ArraysSupport" (some 0) with
  accessFlags := 33
  interfaces := #[]
  cf := some (fileOf pool13 21 #[] #[{ accessFlags := 2, nameIndex := 9, descriptorIndex := 19, attributes := #[] }] 33 16 #[] #[{ accessFlags := 24, nameIndex := 28, descriptorIndex := 29, attributes := #[] }, { accessFlags := 26, nameIndex := 38, descriptorIndex := 39, attributes := #[] }, { accessFlags := 25, nameIndex := 121, descriptorIndex := 25, attributes := #[] }, { accessFlags := 25, nameIndex := 131, descriptorIndex := 25, attributes := #[] }, { accessFlags := 25, nameIndex := 137, descriptorIndex := 25, attributes := #[] }, { accessFlags := 25, nameIndex := 143, descriptorIndex := 25, attributes := #[] }, { accessFlags := 25, nameIndex := 53, descriptorIndex := 25, attributes := #[] }, { accessFlags := 25, nameIndex := 24, descriptorIndex := 25, attributes := #[] }, { accessFlags := 25, nameIndex := 162, descriptorIndex := 25, attributes := #[] }, { accessFlags := 25, nameIndex := 187, descriptorIndex := 25, attributes := #[] }, { accessFlags := 26, nameIndex := 48, descriptorIndex := 25, attributes := #[] }, { accessFlags := 25, nameIndex := 277, descriptorIndex := 25, attributes := #[] }, { accessFlags := 25, nameIndex := 280, descriptorIndex := 25, attributes := #[] }, { accessFlags := 25, nameIndex := 282, descriptorIndex := 25, attributes := #[] }, { accessFlags := 25, nameIndex := 284, descriptorIndex := 25, attributes := #[] }, { accessFlags := 25, nameIndex := 286, descriptorIndex := 25, attributes := #[] }, { accessFlags := 25, nameIndex := 288, descriptorIndex := 25, attributes := #[] }, { accessFlags := 25, nameIndex := 290, descriptorIndex := 25, attributes := #[] }, { accessFlags := 25, nameIndex := 292, descriptorIndex := 25, attributes := #[] }, { accessFlags := 26, nameIndex := 108, descriptorIndex := 109, attributes := #[] }, { accessFlags := 25, nameIndex := 294, descriptorIndex := 25, attributes := #[] }])
  fields := #[{ name := "U", type := (.object "jdk/internal/misc/Unsafe"), accessFlags := 24, slot := 0, constantValue := 0 }, { name := "BIG_ENDIAN", type := .boolean, accessFlags := 26, slot := 1, constantValue := 0 }, { name := "LOG2_ARRAY_BOOLEAN_INDEX_SCALE", type := .int, accessFlags := 25, slot := 2, constantValue := 0 }, { name := "LOG2_ARRAY_BYTE_INDEX_SCALE", type := .int, accessFlags := 25, slot := 3, constantValue := 0 }, { name := "LOG2_ARRAY_CHAR_INDEX_SCALE", type := .int, accessFlags := 25, slot := 4, constantValue := 0 }, { name := "LOG2_ARRAY_SHORT_INDEX_SCALE", type := .int, accessFlags := 25, slot := 5, constantValue := 0 }, { name := "LOG2_ARRAY_INT_INDEX_SCALE", type := .int, accessFlags := 25, slot := 6, constantValue := 0 }, { name := "LOG2_ARRAY_LONG_INDEX_SCALE", type := .int, accessFlags := 25, slot := 7, constantValue := 0 }, { name := "LOG2_ARRAY_FLOAT_INDEX_SCALE", type := .int, accessFlags := 25, slot := 8, constantValue := 0 }, { name := "LOG2_ARRAY_DOUBLE_INDEX_SCALE", type := .int, accessFlags := 25, slot := 9, constantValue := 0 }, { name := "LOG2_BYTE_BIT_SIZE", type := .int, accessFlags := 26, slot := 10, constantValue := 0 }, { name := "T_BOOLEAN", type := .int, accessFlags := 25, slot := 11, constantValue := 0 }, { name := "T_CHAR", type := .int, accessFlags := 25, slot := 12, constantValue := 0 }, { name := "T_FLOAT", type := .int, accessFlags := 25, slot := 13, constantValue := 0 }, { name := "T_DOUBLE", type := .int, accessFlags := 25, slot := 14, constantValue := 0 }, { name := "T_BYTE", type := .int, accessFlags := 25, slot := 15, constantValue := 0 }, { name := "T_SHORT", type := .int, accessFlags := 25, slot := 16, constantValue := 0 }, { name := "T_INT", type := .int, accessFlags := 25, slot := 17, constantValue := 0 }, { name := "T_LONG", type := .int, accessFlags := 25, slot := 18, constantValue := 0 }, { name := "JLA", type := (.object "jdk/internal/access/JavaLangAccess"), accessFlags := 26, slot := 19, constantValue := 0 }, { name := "SOFT_MAX_ARRAY_LENGTH", type := .int, accessFlags := 25, slot := 20, constantValue := 0 }]
  methods := #[k13m0]
  instanceTypes := #[]
  staticTypes := #[(.object "jdk/internal/misc/Unsafe"), .boolean, .int, .int, .int, .int, .int, .int, .int, .int, .int, .int, .int, .int, .int, .int, .int, .int, .int, (.object "jdk/internal/access/JavaLangAccess"), .int]
  resolved := Array.replicate 378 none
  statics := none }

def pool14 : Array CpInfo := pool [(1, u "java/lang/Cloneable"), (0, .class_ 1), (0, u "java/lang/Object"), (0, .class_ 3)] 3

/-- java/lang/Cloneable -/
def k14 : Class := { plain "java/lang/Cloneable" (some 0) with
  accessFlags := 1537
  interfaces := #[]
  cf := some (fileOf pool14 2 #[] #[] 1537 4 #[] #[])
  fields := #[]
  methods := #[]
  instanceTypes := #[]
  staticTypes := #[]
  resolved := Array.replicate 8 none
  statics := none }

/-- the primitive byte -/
def k15 : Class := { plain "byte" none with kind := .primitive 'B', accessFlags := 0x411 }
/-- [B -/
def k16 : Class := { plain "[B" (some 0) with kind := .array 15 .byte, interfaces := #[14, 2], accessFlags := 1041 }

/-- the primitive char -/
def k17 : Class := { plain "char" none with kind := .primitive 'C', accessFlags := 0x411 }
/-- [C -/
def k18 : Class := { plain "[C" (some 0) with kind := .array 17 .char, interfaces := #[14, 2], accessFlags := 1041 }

/-- the primitive int -/
def k19 : Class := { plain "int" none with kind := .primitive 'I', accessFlags := 0x411 }
/-- [I -/
def k20 : Class := { plain "[I" (some 0) with kind := .array 19 .int, interfaces := #[14, 2], accessFlags := 1041 }

def heap : Heap := #[{ cls := 7, slots := #[.long 0, .int 1, .null, .int 0, .null, .int 0, .int 0], vm := .statics 7 },
  { cls := 12, slots := #[.null, .null, .null], vm := .statics 12 }]
def classes : Array Class := #[k0, k1, k2, k3, k4, k5, k6, k7, k8, k9, k10, k11, k12, k13, k14, k15, k16, k17, k18, k19, k20]
def interned : List (Array UInt16 × Addr) := []
def slotsUsed : Nat := 10
def theMethod : MethodId := ⟨1, 2⟩
def args0 : Array Value := #[.long 5, .long 6, .int 7]
def aboutOver (below : List Frame) : State where
  vm := { classes := classes, interned := interned.toArray }
  heap := heap
  slotsUsed := slotsUsed
  threads := #[{ frames := .invoking theMethod args0 :: below }]
def below0 : List Frame := [.native { method := ⟨0, 0⟩, args := #[] }]
def about1 : State := aboutOver below0
def p0 : Program := .bare "" "" ""
def e0 : Env := launch0.env 0 0 0
theorem w_frames : about1.frames = Frame.invoking theMethod args0 :: below0 := rfl
set_option maxRecDepth 65536 in
theorem w_args : argsFit about1.vm theMethod args0 = true := by decide +kernel
set_option maxRecDepth 65536 in
theorem w_heap : heapFits about1 = true := by decide +kernel
set_option maxRecDepth 65536 in
theorem w_runnable : about1.curStatus? = some .runnable := by decide +kernel
set_option maxRecDepth 65536 in
theorem w_alone : about1.alone = true := by decide +kernel
set_option maxRecDepth 65536 in
theorem w_named : about1.methodNamed? x = some theMethod := by decide +kernel
set_option maxRecDepth 65536 in
theorem w_hears : about1.hears theMethod below0 = true := by decide +kernel
set_option maxRecDepth 65536 in
theorem w_ripe : about1.ripe theMethod args0 below0 = true := by decide +kernel
theorem w_running : about1.status = .running := rfl
set_option maxRecDepth 65536 in
theorem w_room : about1.hasRoom e0.platform room_1 = true :=
  launch0.hasRoom_least _ room_1 (by decide +kernel) (by decide +kernel) (by decide +kernel) (by decide +kernel) (by decide +kernel) (by decide +kernel)
theorem allAtoms_all (ts : List Jvm.Cond) (a : Array Jvm.Value) (st : Jvm.State) : (allAtoms ts).before a st = ts.all (fun c => c.before a st) := by
  induction ts with
  | nil => rfl
  | cons c t ih =>
    show (Jvm.Cond.and c (allAtoms t)).before a st = _
    rw [Jvm.Cond.before_and, ih, List.all_cons]
def words1 : List Jvm.Cond := Jvm.Cond.code x code maxLocals ret :: tables_1
/-- a 'code' word, met by the world's own term for the bytes: nothing is compared byte by byte -/
theorem code_word {y : MethodName} {bytes : ByteArray} {mx : Nat} {rt : Option FieldType} {a : Array Value} {s : State} {m : MethodId} {meth : Method} {c : Code} (h1 : s.methodNamed? y = some m) (h2 : s.vm.method? m = some meth) (h3 : meth.code = some c) (h4 : c.code = bytes)
    (h5 : (c.maxLocals == mx && c.exceptionTable.isEmpty && decide (c.maxStack ≤ mostOperands) && decide (meth.sig.returnType = rt) && !meth.locks && decide (parseMethodDescriptor y.desc = some meth.sig)) = true) : (Jvm.Cond.code y bytes mx rt).before a s = true := by
  simp only [Bool.and_eq_true, beq_iff_eq, Bool.not_eq_true', decide_eq_true_eq] at h5
  obtain ⟨⟨⟨⟨⟨g1, g2⟩, g3⟩, g4⟩, g5⟩, g6⟩ := h5
  simp [Cond.before, Cond.holds, Cond.value, h1, h2, h3, h4, g1, g2, g3, g4, g5, g6]
def isCode : Jvm.Cond → Bool
  | .code _ _ _ _ => true
  | _ => false
theorem all_split {L : List Jvm.Cond} {P : Jvm.Cond → Bool} (h1 : L.all (fun c => isCode c || P c) = true) (h2 : ∀ c ∈ L.filter isCode, P c = true) : L.all P = true := by
  refine List.all_eq_true.mpr fun c hc => ?_
  have h := List.all_eq_true.mp h1 c hc
  rcases Bool.eq_false_or_eq_true (isCode c) with hi | hi
  · exact h2 c (List.mem_filter.mpr ⟨hc, hi⟩)
  · simpa [hi] using h
set_option maxRecDepth 65536 in
theorem w_c0 : (Jvm.Cond.code x code maxLocals ret).before args0 about1 = true := code_word (m := ⟨1, 2⟩) (meth := k1m2) (c := k1c2) (by decide +kernel) rfl rfl rfl (by decide +kernel)
set_option maxRecDepth 65536 in
theorem w_c1 : (Jvm.Cond.code ({ cls := "com/example/requeue/requeue/srmp/DecimalParsePinLaw", name := "d", desc := "(JJ)C" } : Jvm.MethodName) method_2_code (4 : Nat) (Option.some Jvm.ClassFile.FieldType.char)).before args0 about1 = true := code_word (m := ⟨1, 1⟩) (meth := k1m1) (c := k1c1) (by decide +kernel) rfl rfl rfl (by decide +kernel)
set_option maxRecDepth 65536 in
theorem w_c2 : (Jvm.Cond.code ({ cls := "java/lang/String", name := "<init>", desc := "([C)V" } : Jvm.MethodName) jdk_42_method_3_code (2 : Nat) (Option.none : Option Jvm.ClassFile.FieldType)).before args0 about1 = true := code_word (m := ⟨7, 1⟩) (meth := k7m1) (c := k7c1) (by decide +kernel) rfl rfl rfl (by decide +kernel)
set_option maxRecDepth 65536 in
theorem w_c3 : (Jvm.Cond.code ({ cls := "java/lang/String", name := "<init>", desc := "([CIILjava/lang/Void;)V" } : Jvm.MethodName) jdk_42_method_149_code (6 : Nat) (Option.none : Option Jvm.ClassFile.FieldType)).before args0 about1 = true := code_word (m := ⟨7, 5⟩) (meth := k7m5) (c := k7c5) (by decide +kernel) rfl rfl rfl (by decide +kernel)
set_option maxRecDepth 65536 in
theorem w_c4 : (Jvm.Cond.code ({ cls := "java/lang/Object", name := "<init>", desc := "()V" } : Jvm.MethodName) object_method_1_code (1 : Nat) (Option.none : Option Jvm.ClassFile.FieldType)).before args0 about1 = true := code_word (m := ⟨0, 0⟩) (meth := k0m0) (c := k0c0) (by decide +kernel) rfl rfl rfl (by decide +kernel)
set_option maxRecDepth 65536 in
theorem w_c5 : (Jvm.Cond.code ({ cls := "java/lang/StringUTF16", name := "compress", desc := "([CII)[B" } : Jvm.MethodName) jdk_52_method_16_code (6 : Nat) (Option.some (Jvm.ClassFile.FieldType.array Jvm.ClassFile.FieldType.byte))).before args0 about1 = true := code_word (m := ⟨8, 2⟩) (meth := k8m2) (c := k8c2) (by decide +kernel) rfl rfl rfl (by decide +kernel)
set_option maxRecDepth 65536 in
theorem w_c6 : (Jvm.Cond.code ({ cls := "java/lang/StringUTF16", name := "compress", desc := "([CI[BII)I" } : Jvm.MethodName) jdk_52_method_21_code (7 : Nat) (Option.some Jvm.ClassFile.FieldType.int)).before args0 about1 = true := code_word (m := ⟨8, 3⟩) (meth := k8m3) (c := k8c3) (by decide +kernel) rfl rfl rfl (by decide +kernel)
set_option maxRecDepth 65536 in
theorem w_c7 : (Jvm.Cond.code ({ cls := "java/lang/StringUTF16", name := "coderFromArrayLen", desc := "([BI)B" } : Jvm.MethodName) jdk_52_method_15_code (2 : Nat) (Option.some Jvm.ClassFile.FieldType.byte)).before args0 about1 = true := code_word (m := ⟨8, 1⟩) (meth := k8m1) (c := k8c1) (by decide +kernel) rfl rfl rfl (by decide +kernel)
set_option maxRecDepth 65536 in
theorem w_c8 : (Jvm.Cond.code ({ cls := "java/lang/Math", name := "max", desc := "(JJ)J" } : Jvm.MethodName) jdk_29_method_66_code (4 : Nat) (Option.some Jvm.ClassFile.FieldType.long)).before args0 about1 = true := code_word (m := ⟨9, 1⟩) (meth := k9m1) (c := k9c1) (by decide +kernel) rfl rfl rfl (by decide +kernel)
set_option maxRecDepth 65536 in
theorem w_c9 : (Jvm.Cond.code ({ cls := "com/example/requeue/requeue/srmp/Decimal", name := "parse", desc := "(Ljava/lang/String;Ljava/lang/String;J)J" } : Jvm.MethodName) prog_40_method_2_code (9 : Nat) (Option.some Jvm.ClassFile.FieldType.long)).before args0 about1 = true := code_word (m := ⟨10, 1⟩) (meth := k10m1) (c := k10c1) (by decide +kernel) rfl rfl rfl (by decide +kernel)
set_option maxRecDepth 65536 in
theorem w_c10 : (Jvm.Cond.code ({ cls := "java/lang/String", name := "isEmpty", desc := "()Z" } : Jvm.MethodName) jdk_42_method_55_code (1 : Nat) (Option.some Jvm.ClassFile.FieldType.boolean)).before args0 about1 = true := code_word (m := ⟨7, 3⟩) (meth := k7m3) (c := k7c3) (by decide +kernel) rfl rfl rfl (by decide +kernel)
set_option maxRecDepth 65536 in
theorem w_c11 : (Jvm.Cond.code ({ cls := "java/lang/String", name := "length", desc := "()I" } : Jvm.MethodName) jdk_42_method_54_code (1 : Nat) (Option.some Jvm.ClassFile.FieldType.int)).before args0 about1 = true := code_word (m := ⟨7, 2⟩) (meth := k7m2) (c := k7c2) (by decide +kernel) rfl rfl rfl (by decide +kernel)
set_option maxRecDepth 65536 in
theorem w_c12 : (Jvm.Cond.code ({ cls := "java/lang/String", name := "coder", desc := "()B" } : Jvm.MethodName) jdk_42_method_152_code (1 : Nat) (Option.some Jvm.ClassFile.FieldType.byte)).before args0 about1 = true := code_word (m := ⟨7, 6⟩) (meth := k7m6) (c := k7c6) (by decide +kernel) rfl rfl rfl (by decide +kernel)
set_option maxRecDepth 65536 in
theorem w_c13 : (Jvm.Cond.code ({ cls := "java/lang/String", name := "charAt", desc := "(I)C" } : Jvm.MethodName) jdk_42_method_56_code (2 : Nat) (Option.some Jvm.ClassFile.FieldType.char)).before args0 about1 = true := code_word (m := ⟨7, 4⟩) (meth := k7m4) (c := k7c4) (by decide +kernel) rfl rfl rfl (by decide +kernel)
set_option maxRecDepth 65536 in
theorem w_c14 : (Jvm.Cond.code ({ cls := "java/lang/String", name := "isLatin1", desc := "()Z" } : Jvm.MethodName) jdk_42_method_154_code (1 : Nat) (Option.some Jvm.ClassFile.FieldType.boolean)).before args0 about1 = true := code_word (m := ⟨7, 7⟩) (meth := k7m7) (c := k7c7) (by decide +kernel) rfl rfl rfl (by decide +kernel)
set_option maxRecDepth 65536 in
theorem w_c15 : (Jvm.Cond.code ({ cls := "java/lang/StringLatin1", name := "charAt", desc := "([BI)C" } : Jvm.MethodName) jdk_43_method_2_code (2 : Nat) (Option.some Jvm.ClassFile.FieldType.char)).before args0 about1 = true := code_word (m := ⟨11, 1⟩) (meth := k11m1) (c := k11c1) (by decide +kernel) rfl rfl rfl (by decide +kernel)
set_option maxRecDepth 65536 in
theorem w_c16 : (Jvm.Cond.code ({ cls := "java/lang/String", name := "checkIndex", desc := "(II)V" } : Jvm.MethodName) jdk_42_method_155_code (2 : Nat) (Option.none : Option Jvm.ClassFile.FieldType)).before args0 about1 = true := code_word (m := ⟨7, 8⟩) (meth := k7m8) (c := k7c8) (by decide +kernel) rfl rfl rfl (by decide +kernel)
set_option maxRecDepth 65536 in
theorem w_c17 : (Jvm.Cond.code ({ cls := "jdk/internal/util/Preconditions", name := "checkIndex", desc := "(IILjava/util/function/BiFunction;)I" } : Jvm.MethodName) jdk_41_method_11_code (3 : Nat) (Option.some Jvm.ClassFile.FieldType.int)).before args0 about1 = true := code_word (m := ⟨12, 1⟩) (meth := k12m1) (c := k12c1) (by decide +kernel) rfl rfl rfl (by decide +kernel)
set_option maxRecDepth 65536 in
theorem w_c18 : (Jvm.Cond.code ({ cls := "java/lang/Math", name := "min", desc := "(JJ)J" } : Jvm.MethodName) jdk_29_method_70_code (4 : Nat) (Option.some Jvm.ClassFile.FieldType.long)).before args0 about1 = true := code_word (m := ⟨9, 2⟩) (meth := k9m2) (c := k9c2) (by decide +kernel) rfl rfl rfl (by decide +kernel)
def codes1 : List Jvm.Cond := [Jvm.Cond.code x code maxLocals ret, Jvm.Cond.code ({ cls := "com/example/requeue/requeue/srmp/DecimalParsePinLaw", name := "d", desc := "(JJ)C" } : Jvm.MethodName) method_2_code (4 : Nat) (Option.some Jvm.ClassFile.FieldType.char), Jvm.Cond.code ({ cls := "java/lang/String", name := "<init>", desc := "([C)V" } : Jvm.MethodName) jdk_42_method_3_code (2 : Nat) (Option.none : Option Jvm.ClassFile.FieldType), Jvm.Cond.code ({ cls := "java/lang/String", name := "<init>", desc := "([CIILjava/lang/Void;)V" } : Jvm.MethodName) jdk_42_method_149_code (6 : Nat) (Option.none : Option Jvm.ClassFile.FieldType), Jvm.Cond.code ({ cls := "java/lang/Object", name := "<init>", desc := "()V" } : Jvm.MethodName) object_method_1_code (1 : Nat) (Option.none : Option Jvm.ClassFile.FieldType), Jvm.Cond.code ({ cls := "java/lang/StringUTF16", name := "compress", desc := "([CII)[B" } : Jvm.MethodName) jdk_52_method_16_code (6 : Nat) (Option.some (Jvm.ClassFile.FieldType.array Jvm.ClassFile.FieldType.byte)), Jvm.Cond.code ({ cls := "java/lang/StringUTF16", name := "compress", desc := "([CI[BII)I" } : Jvm.MethodName) jdk_52_method_21_code (7 : Nat) (Option.some Jvm.ClassFile.FieldType.int), Jvm.Cond.code ({ cls := "java/lang/StringUTF16", name := "coderFromArrayLen", desc := "([BI)B" } : Jvm.MethodName) jdk_52_method_15_code (2 : Nat) (Option.some Jvm.ClassFile.FieldType.byte), Jvm.Cond.code ({ cls := "java/lang/Math", name := "max", desc := "(JJ)J" } : Jvm.MethodName) jdk_29_method_66_code (4 : Nat) (Option.some Jvm.ClassFile.FieldType.long), Jvm.Cond.code ({ cls := "com/example/requeue/requeue/srmp/Decimal", name := "parse", desc := "(Ljava/lang/String;Ljava/lang/String;J)J" } : Jvm.MethodName) prog_40_method_2_code (9 : Nat) (Option.some Jvm.ClassFile.FieldType.long), Jvm.Cond.code ({ cls := "java/lang/String", name := "isEmpty", desc := "()Z" } : Jvm.MethodName) jdk_42_method_55_code (1 : Nat) (Option.some Jvm.ClassFile.FieldType.boolean), Jvm.Cond.code ({ cls := "java/lang/String", name := "length", desc := "()I" } : Jvm.MethodName) jdk_42_method_54_code (1 : Nat) (Option.some Jvm.ClassFile.FieldType.int), Jvm.Cond.code ({ cls := "java/lang/String", name := "coder", desc := "()B" } : Jvm.MethodName) jdk_42_method_152_code (1 : Nat) (Option.some Jvm.ClassFile.FieldType.byte), Jvm.Cond.code ({ cls := "java/lang/String", name := "charAt", desc := "(I)C" } : Jvm.MethodName) jdk_42_method_56_code (2 : Nat) (Option.some Jvm.ClassFile.FieldType.char), Jvm.Cond.code ({ cls := "java/lang/String", name := "isLatin1", desc := "()Z" } : Jvm.MethodName) jdk_42_method_154_code (1 : Nat) (Option.some Jvm.ClassFile.FieldType.boolean), Jvm.Cond.code ({ cls := "java/lang/StringLatin1", name := "charAt", desc := "([BI)C" } : Jvm.MethodName) jdk_43_method_2_code (2 : Nat) (Option.some Jvm.ClassFile.FieldType.char), Jvm.Cond.code ({ cls := "java/lang/String", name := "checkIndex", desc := "(II)V" } : Jvm.MethodName) jdk_42_method_155_code (2 : Nat) (Option.none : Option Jvm.ClassFile.FieldType), Jvm.Cond.code ({ cls := "jdk/internal/util/Preconditions", name := "checkIndex", desc := "(IILjava/util/function/BiFunction;)I" } : Jvm.MethodName) jdk_41_method_11_code (3 : Nat) (Option.some Jvm.ClassFile.FieldType.int), Jvm.Cond.code ({ cls := "java/lang/Math", name := "min", desc := "(JJ)J" } : Jvm.MethodName) jdk_29_method_70_code (4 : Nat) (Option.some Jvm.ClassFile.FieldType.long)]
set_option maxRecDepth 65536 in
theorem codes_eq : words1.filter isCode = codes1 := rfl
theorem w_codes : ∀ c ∈ words1.filter isCode, c.before args0 about1 = true := by
  rw [codes_eq]
  intro c hc
  simp only [codes1, List.mem_cons, List.not_mem_nil, or_false] at hc
  rcases hc with rfl | rfl | rfl | rfl | rfl | rfl | rfl | rfl | rfl | rfl | rfl | rfl | rfl | rfl | rfl | rfl | rfl | rfl | rfl
  · exact w_c0
  · exact w_c1
  · exact w_c2
  · exact w_c3
  · exact w_c4
  · exact w_c5
  · exact w_c6
  · exact w_c7
  · exact w_c8
  · exact w_c9
  · exact w_c10
  · exact w_c11
  · exact w_c12
  · exact w_c13
  · exact w_c14
  · exact w_c15
  · exact w_c16
  · exact w_c17
  · exact w_c18
set_option maxRecDepth 65536 in
theorem w_t1 : (words1.take 24).all (fun c => isCode c || c.before args0 about1) = true := by decide +kernel
set_option maxRecDepth 65536 in
theorem w_t2 : ((words1.drop 24).take 24).all (fun c => isCode c || c.before args0 about1) = true := by decide +kernel
set_option maxRecDepth 65536 in
theorem w_t3 : (((words1.drop 24).drop 24).take 24).all (fun c => isCode c || c.before args0 about1) = true := by decide +kernel
set_option maxRecDepth 65536 in
theorem w_t4 : ((((words1.drop 24).drop 24).drop 24).take 24).all (fun c => isCode c || c.before args0 about1) = true := by decide +kernel
set_option maxRecDepth 65536 in
theorem w_t5 : ((((words1.drop 24).drop 24).drop 24).drop 24).all (fun c => isCode c || c.before args0 about1) = true := by decide +kernel
theorem w_tables : (allAtoms (Jvm.Cond.code x code maxLocals ret :: tables_1)).before args0 about1 = true := by
  rw [allAtoms_all]
  show words1.all (fun c => c.before args0 about1) = true
  refine all_split ?_ w_codes
  rw [← List.take_append_drop 24 words1, List.all_append, w_t1, ← List.take_append_drop 24 (words1.drop 24), List.all_append, w_t2, ← List.take_append_drop 24 ((words1.drop 24).drop 24), List.all_append, w_t3, ← List.take_append_drop 24 (((words1.drop 24).drop 24).drop 24), List.all_append, w_t4, w_t5]
  rfl
set_option maxRecDepth 65536 in
theorem w_rest : rest_1_c.before args0 about1 = true := by decide +kernel
set_option maxRecDepth 65536 in
theorem w_case : (Jvm.Cond.and given_1 narrow_1).before args0 about1 = true := by decide +kernel
theorem w_applies : (headSpec (Jvm.Cond.code x code maxLocals ret :: tables_1) room_1).applies x e0.platform about1 = true :=
  (Spec.applies_iff w_frames).mpr ⟨w_running, w_runnable, w_alone, w_named, w_hears, w_ripe, w_room, w_tables⟩
theorem atStart : AtStart classFile x code maxLocals ret World_1 tables_1 room_1 Calls_1 rest_1 Pre_1 launch0 p0 e0 about1 theMethod args0 below0 :=
  ⟨lists_1, trivial, launch0.admits_env _ _ _, launch0.least_env, fairChoices_fair.cas, fairChoices_fair.clock, w_frames, w_args, w_heap, w_applies, trivial, w_rest, w_case⟩
end start1
theorem witness_1 : WitnessClaimed_1 := ⟨start1.p0, start1.e0, start1.about1, start1.theMethod, start1.args0, start1.below0, start1.atStart⟩
end Jvm.Pilot.@@N@@
